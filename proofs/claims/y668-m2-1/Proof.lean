import JvmDerived
import JvmDerived.Pilot.@@N@@Statement
import JvmDerived.Pilot.@@N@@Code
set_option linter.unusedVariables false
set_option linter.unusedSimpArgs false
set_option maxRecDepth 65536
set_option maxHeartbeats 40000000
namespace Jvm.Pilot.@@N@@
open Jvm Jvm.ClassFile Sem Op Lib Jvm.Free Jvm.Stand Jvm.LawKit Jvm.RoadKit Bundle Jvm.Pilot.@@N@@.Jvm.D
abbrev vI (x : Int32) : Value := .int x
abbrev vL (x : Int64) : Value := .long x
abbrev vR (x : Addr) : Value := .ref x
abbrev sI (x : Int32) : Slot := .val (.int x)
abbrev sL (x : Int64) : Slot := .val (.long x)
abbrev sR (x : Addr) : Slot := .val (.ref x)
abbrev sU : Slot := .unset
abbrev sS : Slot := .second
abbrev sN : Slot := .val .null
abbrev St (p : Program) (e : Env) (below : List Frame) (T : State) (g : JFrame) (t : State) : Prop := Steps p.tables e below (T.setTop g) t
abbrev Ct (l : Launch) (Z : State) (y : MethodName) (bytes : ByteArray) (maxL : Nat) (ret : Option FieldType) (rm : Room) (as' : Array Value) (h : Heap) (Q : Option Value → Heap → List Loc → Prop) : Prop :=
  MetFree l y (head1 [Jvm.Cond.code y bytes maxL ret] rm) (fun a U => a = as' ∧ Z.Warmed39 U.vm ∧ U.heap = h) (fun _ _ _ _ _ => True) (fun _ U o U' => ∃ v L, o = .returned v ∧ Q v U'.heap L ∧ FrameEnd U o U' L rm.cells rm.slots)
abbrev End (p : Program) (e : Env) (s : State) (below : List Frame) (rm : Room) (Q : Option Value → Heap → List Loc → Prop) (S : State) : Prop :=
  ∃ s₂ o, Steps p.tables e below S s₂ ∧ s₂.status = .running ∧ Ended s₂ below o ∧ ∃ v L, o = .returned v ∧ Q v s₂.heap L ∧ FrameEnd s o s₂ L rm.cells rm.slots
theorem own_bd {l : Launch} {Z : State} {y : MethodName} {bytes : ByteArray} {maxL : Nat} {ret : Option FieldType} {rm : Room} {as' : Array Value} {h0 : Heap} {Q : Option Value → Heap → List Loc → Prop} {L0 : Array Slot} (hp : plainFor y = true) (ef : ∀ m, entryFrame m as' maxL = mkF m 0 L0 [])
    (H : ∀ (p : Program) (e : Env) (s : State) (m : MethodId) (below : List Frame) (meth : Method) (c : Code) (s₁ : State), meth.sig.returnType = ret → meth.locks = false → Z.Warmed39 s.vm → p.tables.exec = Jvm.exec → c.code = bytes → c.maxLocals = maxL → s.vm.findClass y.cls = some m.cls → meth.name = y.name → Stand p l e rm s m as' below meth c s₁ [] 0 0 → s₁.heap = h0 → End p e s below rm Q (s₁.setTop (mkF m 0 L0 []))) : Ct l Z y bytes maxL ret rm as' h0 Q := by
  refine MetFree.of_bodySF hp hisR ?_
  intro p e s m args below meth c s₁ Bd hml hP hK
  obtain ⟨rfl, hZ, hh⟩ := hP
  obtain ⟨s₂, o, h1, r⟩ := H p e s m below meth c s₁ Bd.returns Bd.notSynchronized hZ Bd.exec Bd.bytes hml (findClass_of_methodNamed Bd.named) (name_of_methodNamed Bd.named Bd.method).1 (Stand.of_body Bd) (by rw [← hh, Bd.state]; rfl)
  exact ⟨s₂, o, castTop (ef m) h1, r⟩
theorem own_end {p : Program} {l : Launch} {e : Env} {R : Room} {s : State} {m : MethodId} {args : Array Value} {below : List Frame} {meth : Method} {c : Code} {T : State} {L : List Loc} {cells slots : Nat} (X : Stand p l e R s m args below meth c T L cells slots) (hlk : meth.locks = false) {v : Option Value} (hv : meth.sig.returnType = none → v = none) (hfit : cells ≤ R.cells ∧ slots ≤ R.slots) {Q : Option Value → Heap → List Loc → Prop} (hq : Q v T.heap L) {S : State}
    (hs : ∀ fs, (∀ (f : JFrame) (acts : List Action), f.method = m → f.locked = none → f.entered = [] → (doReturn e (T.setTop f) acts v).1 = T.setFrames fs) → Steps p.tables e below S (T.setFrames fs)) : End p e s below R Q S := by
  obtain ⟨fs, hr, hrun, hended, hW, hsame⟩ := X.leave hv
  exact ⟨_, _, hs fs hr, hrun, hended, _, _, rfl, hq, ⟨_, rfl⟩, hW, hsame.mono hfit.1 hfit.2⟩
section OwnSteps
variable {tb : Tables} [Ours tb] {e : Env} {below : List Frame} {T target : State} {m : MethodId} {c : Code} {g : JFrame} {rest : List Value}
theorem Own.iadd (h : At T m c below) (hx : tb.exec = Jvm.exec) (hg : g.method = m) {x : Int32} {y : Int32} {z : Int32} (hd : decode c.code g.pc = .ok (.iadd, 1)) (hs : g.stack = .int y :: .int x :: rest) (hz : (x + y) = z)
    (hr : Steps tb e below (T.setTop { g with pc := g.pc + 1, stack := .int z :: rest }) target) : Steps tb e below (T.setTop g) target := XS.iadd h hx hg hd hs (by rw [show (x + y) = z from hz]; exact hr)
theorem Own.iand (h : At T m c below) (hx : tb.exec = Jvm.exec) (hg : g.method = m) {x : Int32} {y : Int32} {z : Int32} (hd : decode c.code g.pc = .ok (.iand, 1)) (hs : g.stack = .int y :: .int x :: rest) (hz : (x &&& y) = z)
    (hr : Steps tb e below (T.setTop { g with pc := g.pc + 1, stack := .int z :: rest }) target) : Steps tb e below (T.setTop g) target := XS.iand h hx hg hd hs (by rw [show (x &&& y) = z from hz]; exact hr)
end OwnSteps
section OwnCalls
variable {p : Program} {l : Launch} {e : Env} {R : Room} {s : State} {m : MethodId} {args : Array Value} {below : List Frame} {meth : Method} {c : Code} {T : State} {locs : List Loc} {cells slots : Nat} {Z : State} {a0 : Array Value} {h : Heap}
theorem own_callS (X : Stand p l e R s m args below meth c T locs cells slots) (hx : p.tables.exec = Jvm.exec) (hZ : Z.Warmed39 s.vm) {own : String} {index W maxL : Nat} {y : MethodName} {bytes : ByteArray} {ret : Option FieldType} {rm : Room} {as' : Array Value} {Q : Option Value → Heap → List Loc → Prop}
    (hown : s.vm.findClass own = some m.cls) (w1 : (Jvm.Cond.methodLink own index y).before a0 Z = true) (w2 : (Jvm.Cond.static y).before a0 Z = true) (w3 : (Jvm.Cond.initialized y.cls).before a0 Z = true) (w4 : (Jvm.Cond.code y bytes maxL ret).before a0 Z = true) (hy : y.cls ≠ "java/lang/invoke/MethodHandle" ∧ y.cls ≠ "java/lang/invoke/VarHandle")
    (hM : MetFree l y (head1 [Jvm.Cond.code y bytes maxL ret] rm) (fun a U => a = as' ∧ Z.Warmed39 U.vm ∧ U.heap = h) (fun _ _ _ _ _ => True) (fun _ U o U' => ∃ v L, o = .returned v ∧ Q v U'.heap L ∧ FrameEnd U o U' L rm.cells rm.slots)) (eT : T.heap = h)
    {g : JFrame} (hg : g.method = m) {ml : Nat} (hml : c.maxLocals = ml) (hsz : g.locals.size = ml) {rest : List Value} (hlen : ∀ sig, parseMethodDescriptor y.desc = some sig → (as'.toList).length = sig.parameters.length) (hstack : g.stack = (as'.toList).reverse ++ rest) (has : (as'.toList).toArray = as') (hW : 2 * g.monitorRoom + (rest.map fun v => v.category).sum = W)
    (hdg : decode c.code g.pc = .ok (.invokestatic index, 3)) (hfit : (rm.frames + 1 ≤ R.frames ∧ W + (maxL + 11) + rm.locals ≤ R.locals) ∧ cells + rm.cells ≤ R.cells ∧ slots + rm.slots ≤ R.slots) :
    ∃ (v : Option Value) (T' : State) (L : List Loc), Q v T'.heap L ∧ Stand p l e R s m args below meth c T' (locs ++ L) (cells + rm.cells) (slots + rm.slots) ∧ ∀ target, Steps p.tables e below (T'.setTop { g with pc := g.pc + 3, stack := v.toList ++ rest }) target → Steps p.tables e below (T.setTop g) target := by
  obtain ⟨v, _, ⟨T', L', c', s'⟩, -, X', ⟨L, hq, e1, e2, e3⟩, st⟩ := Jvm.LawKit.callS X hx hown (mvT hZ w1) (mvT hZ w2) (mvT hZ w3) (mvT hZ w4) hy (backOf (W := W) hM hZ w4 w3 hfit.1.1 hfit.1.2) hg (hsz.trans hml.symm) hlen hstack (Nat.le_of_eq hW) hdg (fun _ _ => ⟨has, eT, hfit.2.1, hfit.2.2⟩)
  subst e1 e2 e3
  exact ⟨v, T', L, hq, X', st⟩
theorem own_special (X : Stand p l e R s m args below meth c T locs cells slots) (hx : p.tables.exec = Jvm.exec) (hZ : Z.Warmed39 s.vm) {own : String} {index W maxL : Nat} {y : MethodName} {bytes : ByteArray} {rm : Room} {as' : Array Value} {Q : Option Value → Heap → List Loc → Prop} (hy1 : y.name = "<init>")
    (hown : s.vm.findClass own = some m.cls) (w1 : (Jvm.Cond.methodLink own index y).before a0 Z = true) (w2 : (Jvm.Cond.instanceMethod y).before a0 Z = true) (w3 : (Jvm.Cond.initialized y.cls).before a0 Z = true) (w4 : (Jvm.Cond.code y bytes maxL none).before a0 Z = true) (hy : y.cls ≠ "java/lang/invoke/MethodHandle" ∧ y.cls ≠ "java/lang/invoke/VarHandle")
    (hM : MetFree l y (head1 [Jvm.Cond.code y bytes maxL none] rm) (fun a U => a = as' ∧ Z.Warmed39 U.vm ∧ U.heap = h) (fun _ _ _ _ _ => True) (fun _ U o U' => ∃ v L, o = .returned v ∧ Q v U'.heap L ∧ FrameEnd U o U' L rm.cells rm.slots)) (eT : T.heap = h)
    {g : JFrame} (hg : g.method = m) {ml : Nat} (hml : c.maxLocals = ml) (hsz : g.locals.size = ml) {a : Addr} {rest : List Value} (hlen : ∀ sig, parseMethodDescriptor y.desc = some sig → (as'.toList.tail).length = sig.parameters.length) (hstack : g.stack = (as'.toList.tail).reverse ++ .ref a :: rest) (has : (.ref a :: as'.toList.tail).toArray = as') (hW : 2 * g.monitorRoom + (rest.map fun v => v.category).sum = W)
    (hdg : decode c.code g.pc = .ok (.invokespecial index, 3)) (hfit : (rm.frames + 1 ≤ R.frames ∧ W + (maxL + 11) + rm.locals ≤ R.locals) ∧ cells + rm.cells ≤ R.cells ∧ slots + rm.slots ≤ R.slots) :
    ∃ (v : Option Value) (T' : State) (L : List Loc), Q v T'.heap L ∧ Stand p l e R s m args below meth c T' (locs ++ L) (cells + rm.cells) (slots + rm.slots) ∧ ∀ target, Steps p.tables e below (T'.setTop { g with pc := g.pc + 3, stack := v.toList ++ rest }) target → Steps p.tables e below (T.setTop g) target := by
  obtain ⟨v, _, ⟨T', L', c', s'⟩, -, X', ⟨L, hq, e1, e2, e3⟩, st⟩ := X.specialBack hx hy1 hown (mvT hZ w1) (mvT hZ w2) (mvT hZ w4) hy (backOf (W := W) hM hZ w4 w3 hfit.1.1 hfit.1.2) hg (hsz.trans hml.symm) (Steps.refl _) hlen hstack (Nat.le_of_eq hW) hdg (fun _ _ => ⟨has, eT, hfit.2.1, hfit.2.2⟩)
  subst e1 e2 e3
  exact ⟨v, T', L, hq, X', fun _ k => st.trans k⟩
theorem own_virtual (X : Stand p l e R s m args below meth c T locs cells slots) (hx : p.tables.exec = Jvm.exec) (hZ : Z.Warmed39 s.vm) {own C : String} {index W maxL : Nat} {y z : MethodName} {bytes : ByteArray} {ret : Option FieldType} {rm : Room} {as' : Array Value} {Q : Option Value → Heap → List Loc → Prop}
    (hown : s.vm.findClass own = some m.cls) (w1 : (Jvm.Cond.methodLink own index y).before a0 Z = true) (w2 : (Jvm.Cond.declares y).before a0 Z = true) (nf : NotFace s y) (w5 : (Jvm.Cond.selects C y z).before a0 Z = true) (w6 : (Jvm.Cond.instanceMethod z).before a0 Z = true) (w3 : (Jvm.Cond.initialized z.cls).before a0 Z = true) (w4 : (Jvm.Cond.code z bytes maxL ret).before a0 Z = true) (hy : y.cls ≠ "java/lang/invoke/MethodHandle" ∧ y.cls ≠ "java/lang/invoke/VarHandle")
    (hM : MetFree l z (head1 [Jvm.Cond.code z bytes maxL ret] rm) (fun a U => a = as' ∧ Z.Warmed39 U.vm ∧ U.heap = h) (fun _ _ _ _ _ => True) (fun _ U o U' => ∃ v L, o = .returned v ∧ Q v U'.heap L ∧ FrameEnd U o U' L rm.cells rm.slots)) (eT : T.heap = h) {b : Addr} (E : Exa Z h b C)
    {g : JFrame} (hg : g.method = m) {ml : Nat} (hml : c.maxLocals = ml) (hsz : g.locals.size = ml) {rest : List Value} (hlen : ∀ sig, parseMethodDescriptor y.desc = some sig → (as'.toList.tail).length = sig.parameters.length) (hstack : g.stack = (as'.toList.tail).reverse ++ .ref b :: rest) (has : (.ref b :: as'.toList.tail).toArray = as') (hW : 2 * g.monitorRoom + (rest.map fun v => v.category).sum = W)
    (hdg : decode c.code g.pc = .ok (.invokevirtual index, 3)) (hfit : (rm.frames + 1 ≤ R.frames ∧ W + (maxL + 11) + rm.locals ≤ R.locals) ∧ cells + rm.cells ≤ R.cells ∧ slots + rm.slots ≤ R.slots) :
    ∃ (v : Option Value) (T' : State) (L : List Loc), Q v T'.heap L ∧ Stand p l e R s m args below meth c T' (locs ++ L) (cells + rm.cells) (slots + rm.slots) ∧ ∀ target, Steps p.tables e below (T'.setTop { g with pc := g.pc + 3, stack := v.toList ++ rest }) target → Steps p.tables e below (T.setTop g) target := by
  obtain ⟨cB, kB, qa, qb, qc⟩ := isOf hZ eT E
  obtain ⟨v, _, ⟨T', L', c', s'⟩, -, X', ⟨L, hq, e1, e2, e3⟩, st⟩ := X.virtualBack hx hown (mvT hZ w1) (mvT hZ w2) nf (mvT hZ w5) (mvT hZ w6) hy (backOf (W := W) hM hZ w4 w3 hfit.1.1 hfit.1.2) qa qc hg (hsz.trans hml.symm) (Steps.refl _) hlen hstack (Nat.le_of_eq hW) hdg (fun _ _ => ⟨has, eT, hfit.2.1, hfit.2.2⟩)
  subst e1 e2 e3
  exact ⟨v, T', L, hq, X', fun _ k => st.trans k⟩
theorem own_iface (X : Stand p l e R s m args below meth c T locs cells slots) (hx : p.tables.exec = Jvm.exec) (hZ : Z.Warmed39 s.vm) {own C : String} {index count W maxL : Nat} {y z : MethodName} {bytes : ByteArray} {ret : Option FieldType} {rm : Room} {as' : Array Value} {Q : Option Value → Heap → List Loc → Prop}
    (hown : s.vm.findClass own = some m.cls) (w1 : (Jvm.Cond.methodLink own index y).before a0 Z = true) (w2 : (Jvm.Cond.declares y).before a0 Z = true) (w7 : (Jvm.Cond.interfaceMethod y.cls y.cls y.name y.desc).before args s = true) (w5 : (Jvm.Cond.selects C y z).before a0 Z = true) (w6 : (Jvm.Cond.instanceMethod z).before a0 Z = true) (w8 : (Jvm.Cond.publicMethod z).before args s = true) (w9 : (Jvm.Cond.unhidden C y.name y.desc).before args s = true) (w10 : (Jvm.Cond.castable C y.cls).before a0 Z = true) (w3 : (Jvm.Cond.initialized z.cls).before a0 Z = true) (w4 : (Jvm.Cond.code z bytes maxL ret).before a0 Z = true) (hy : y.cls ≠ "java/lang/invoke/MethodHandle" ∧ y.cls ≠ "java/lang/invoke/VarHandle")
    (hM : MetFree l z (head1 [Jvm.Cond.code z bytes maxL ret] rm) (fun a U => a = as' ∧ Z.Warmed39 U.vm ∧ U.heap = h) (fun _ _ _ _ _ => True) (fun _ U o U' => ∃ v L, o = .returned v ∧ Q v U'.heap L ∧ FrameEnd U o U' L rm.cells rm.slots)) (eT : T.heap = h) {b : Addr} (E : Exa Z h b C)
    {g : JFrame} (hg : g.method = m) {ml : Nat} (hml : c.maxLocals = ml) (hsz : g.locals.size = ml) {rest : List Value} (hlen : ∀ sig, parseMethodDescriptor y.desc = some sig → (as'.toList.tail).length = sig.parameters.length) (hstack : g.stack = (as'.toList.tail).reverse ++ .ref b :: rest) (has : (.ref b :: as'.toList.tail).toArray = as') (hW : 2 * g.monitorRoom + (rest.map fun v => v.category).sum = W)
    (hdg : decode c.code g.pc = .ok (.invokeinterface index count, 5)) (hfit : (rm.frames + 1 ≤ R.frames ∧ W + (maxL + 11) + rm.locals ≤ R.locals) ∧ cells + rm.cells ≤ R.cells ∧ slots + rm.slots ≤ R.slots) :
    ∃ (v : Option Value) (T' : State) (L : List Loc), Q v T'.heap L ∧ Stand p l e R s m args below meth c T' (locs ++ L) (cells + rm.cells) (slots + rm.slots) ∧ ∀ target, Steps p.tables e below (T'.setTop { g with pc := g.pc + 5, stack := v.toList ++ rest }) target → Steps p.tables e below (T.setTop g) target := by
  obtain ⟨cB, kB, qa, qb, qc⟩ := isOf hZ eT E
  obtain ⟨v, _, ⟨T', L', c', s'⟩, -, X', ⟨L, hq, e1, e2, e3⟩, st⟩ := X.interfaceBack hx hown (mvT hZ w1) (mvT hZ w2) w7 (mvT hZ w5) (mvT hZ w6) w8 w9 (mvT hZ w10) hy (backOf (W := W) hM hZ w4 w3 hfit.1.1 hfit.1.2) qa qb qc hg (hsz.trans hml.symm) (Steps.refl _) hlen hstack (Nat.le_of_eq hW) hdg (fun _ _ => ⟨has, eT, hfit.2.1, hfit.2.2⟩)
  subst e1 e2 e3
  exact ⟨v, T', L, hq, X', fun _ k => st.trans k⟩
theorem own_private (X : Stand p l e R s m args below meth c T locs cells slots) (hx : p.tables.exec = Jvm.exec) (hZ : Z.Warmed39 s.vm) {own K : String} {index W maxL : Nat} {y : MethodName} {bytes : ByteArray} {ret : Option FieldType} {rm : Room} {as' : Array Value} {Q : Option Value → Heap → List Loc → Prop}
    (hown : s.vm.findClass own = some m.cls) (w1 : (Jvm.Cond.methodLink own index y).before a0 Z = true) (w2 : (Jvm.Cond.instanceMethod y).before a0 Z = true) (hsel : (Jvm.Cond.selects y.cls y y).before args s = true) (w6 : (Jvm.Cond.privateMethod y).before a0 Z = true) (w3 : (Jvm.Cond.initialized y.cls).before a0 Z = true) (w4 : (Jvm.Cond.code y bytes maxL ret).before a0 Z = true) (hy : y.cls ≠ "java/lang/invoke/MethodHandle" ∧ y.cls ≠ "java/lang/invoke/VarHandle")
    (hM : MetFree l y (head1 [Jvm.Cond.code y bytes maxL ret] rm) (fun a U => a = as' ∧ Z.Warmed39 U.vm ∧ U.heap = h) (fun _ _ _ _ _ => True) (fun _ U o U' => ∃ v L, o = .returned v ∧ Q v U'.heap L ∧ FrameEnd U o U' L rm.cells rm.slots)) (eT : T.heap = h) {b : Addr} (E : Exa Z h b K)
    {g : JFrame} (hg : g.method = m) {ml : Nat} (hml : c.maxLocals = ml) (hsz : g.locals.size = ml) {rest : List Value} (hlen : ∀ sig, parseMethodDescriptor y.desc = some sig → (as'.toList.tail).length = sig.parameters.length) (hstack : g.stack = (as'.toList.tail).reverse ++ .ref b :: rest) (has : (.ref b :: as'.toList.tail).toArray = as') (hW : 2 * g.monitorRoom + (rest.map fun v => v.category).sum = W)
    (hdg : decode c.code g.pc = .ok (.invokevirtual index, 3)) (hfit : (rm.frames + 1 ≤ R.frames ∧ W + (maxL + 11) + rm.locals ≤ R.locals) ∧ cells + rm.cells ≤ R.cells ∧ slots + rm.slots ≤ R.slots) :
    ∃ (v : Option Value) (T' : State) (L : List Loc), Q v T'.heap L ∧ Stand p l e R s m args below meth c T' (locs ++ L) (cells + rm.cells) (slots + rm.slots) ∧ ∀ target, Steps p.tables e below (T'.setTop { g with pc := g.pc + 3, stack := v.toList ++ rest }) target → Steps p.tables e below (T.setTop g) target := by
  obtain ⟨cq, q, q'⟩ := E.cell
  obtain ⟨v, _, ⟨T', L', c', s'⟩, -, X', ⟨L, hq, e1, e2, e3⟩, st⟩ := X.privateBack hx hown (mvT hZ w1) (mvT hZ w2) hsel (Cond.privateMethod_at (mvP hZ w6 (args := #[]))) (mvT hZ w4) hy (backOf (W := W) hM hZ w4 w3 hfit.1.1 hfit.1.2) hg (hsz.trans hml.symm) (Steps.refl _) (by rw [eT]; exact q) q' hlen hstack (Nat.le_of_eq hW) hdg (fun _ _ => ⟨has, eT, hfit.2.1, hfit.2.2⟩)
  subst e1 e2 e3
  exact ⟨v, T', L, hq, X', fun _ k => st.trans k⟩
end OwnCalls
section OwnHeap
variable {p : Program} {l : Launch} {e : Env} {R : Room} {s : State} {m : MethodId} {args : Array Value} {below : List Frame} {meth : Method} {c : Code} {T : State} {locs : List Loc} {cells slots : Nat} {Z : State} {a0 : Array Value} {h h0 : Heap} {n0 : Nat} {ws : List Addr}
theorem own_newO (X : Stand p l e R s m args below meth c T locs cells slots) (hx : p.tables.exec = Jvm.exec) (hZ : Z.Warmed39 s.vm) {own C : String} {index n : Nat} (hown : s.vm.findClass own = some m.cls) (w : (Jvm.Cond.classLink own index C).before a0 Z = true) (wi : (Jvm.Cond.instantiable C n).before a0 Z = true) (wz : (Jvm.Cond.initialized C).before a0 Z = true) (eT : T.heap = h) (O : Old Z n0 h) (K : Keep h0 h ws)
    {g : JFrame} (hg : g.method = m) (hd : decode c.code g.pc = .ok (.new index, 3)) (hc : cells + 1 ≤ R.cells) (hl : slots + n ≤ R.slots) :
    ∃ (T' : State) (h' : Heap) (b : Addr), Stand p l e R s m args below meth c T' locs (cells + 1) (slots + n) ∧ T'.heap = h' ∧ Ext h h' ∧ Exa Z h' b C ∧ (∀ {O nm d : String} {ty : FieldType}, Laid Z a0 C O nm d → parseFieldDescriptor d = some ty → Fld Z h' b O nm d (defaultValue ty)) ∧ h.size ≤ b ∧ Old Z n0 h' ∧ Keep h0 h' ws ∧
      ∀ target, Steps p.tables e below (T'.setTop { g with pc := g.pc + 3, stack := .ref b :: g.stack }) target → Steps p.tables e below (T.setTop g) target := by
  obtain ⟨T', h', X', e', E', A', D', -, st⟩ := newO X hx hZ hown w wi wz eT hg hd hc hl
  exact ⟨T', h', h.size, X', e', E', A', D', Nat.le_refl _, O.ext E', K.ext E', st⟩
theorem own_put (X : Stand p l e R s m args below meth c T locs cells slots) (hx : p.tables.exec = Jvm.exec) (hZ : Z.Warmed39 s.vm) {own R0 Ow n d host C : String} {index kk : Nat} {ty : FieldType} (hown : s.vm.findClass own = some m.cls) (w : (Jvm.Cond.fieldLink own index R0 n d).before a0 Z = true ∨ (Jvm.Cond.fieldLinkNest own index R0 n d host).before a0 Z = true) (via : Via Z R0 Ow n d)
    (eT : T.heap = h) (O : Old Z n0 h) (K : Keep h0 h ws) (N : Fr n0 locs) {a : Addr} (qn : n0 ≤ a) (qk : a ∈ ws ∨ h0.size ≤ a) {v old : Value} (F : Fld Z h a Ow n d old) (E : Exa Z h a C) (L : (Jvm.Cond.lays C Ow n d).before a0 Z = true ∨ ((Jvm.Cond.laysFinal C Ow n d).before a0 Z = true ∧ own = Ow ∧ meth.name = "<init>")) (wi : (Jvm.Cond.instantiable C kk).before a0 Z = true)
    (hty : parseFieldDescriptor d = some ty) (hn : narrow ty v = v) (hf : fits ty v = true) {g : JFrame} (hg : g.method = m) {rest : List Value} (hs : g.stack = v :: .ref a :: rest) (hd : decode c.code g.pc = .ok (.putfield index, 3)) :
    ∃ (T' : State) (h' : Heap) (L' : List Loc), Stand p l e R s m args below meth c T' L' cells slots ∧ T'.heap = h' ∧ Wr h h' a (Jvm.RoadKit.slotOf Z Ow n d) v ∧ Fld Z h' a Ow n d v ∧ Old Z n0 h' ∧ Keep h0 h' ws ∧ Fr n0 L' ∧ ∀ target, Steps p.tables e below (T'.setTop { g with pc := g.pc + 3, stack := rest }) target → Steps p.tables e below (T.setTop g) target := by
  obtain ⟨T', h', X', e', W', st⟩ := putF X hx hZ hown w via eT F E L wi hty hn hf hg hs hd
  exact ⟨T', h', _, X', e', W', F.same W', O.wr W' qn, K.wr W' qk, Fr.snoc X' N qn, st⟩
theorem own_stR (X : Stand p l e R s m args below meth c T locs cells slots) (hx : p.tables.exec = Jvm.exec) (hZ : Z.Warmed39 s.vm) (eT : T.heap = h) {a : Addr} {k : ClassId} {ty : FieldType} {n : Int32} {vs vs' : List Value} {dv : Value} (V : Arv Z h a k ty n vs dv) (O : Old Z n0 h) (K : Keep h0 h ws) (N : Fr n0 locs) (qn : n0 ≤ a) (qk : a ∈ ws ∨ h0.size ≤ a) {j : Int32} (i : Nat) (hj : ((¬ j < 0 ∧ j < n) ∧ j.toNatClampNeg = i)) (hi : i < vs.length) {v : Value} (hvs : vs.set i v = vs') (hty : ty.isReference = true) (hfv : fits ty v = true)
    (sto : v = .null ∨ ∃ (y : Addr) (C : String), v = .ref y ∧ Ovr Z k C ∧ Ins Z h y C true) {g : JFrame} (hg : g.method = m) {rest : List Value} (hs : g.stack = v :: .int j :: .ref a :: rest) (hd : decode c.code g.pc = .ok (.aastore, 1)) :
    ∃ (T' : State) (h' : Heap) (L' : List Loc), Stand p l e R s m args below meth c T' L' cells slots ∧ T'.heap = h' ∧ Wr h h' a j.toNatClampNeg v ∧ Arv Z h' a k ty n vs' dv ∧ Old Z n0 h' ∧ Keep h0 h' ws ∧ Fr n0 L' ∧ ∀ target, Steps p.tables e below (T'.setTop { g with pc := g.pc + 1, stack := rest }) target → Steps p.tables e below (T.setTop g) target := by
  subst hvs
  obtain ⟨cl, Ar, q, Sz, Ng, Hs, Gt⟩ := V
  obtain ⟨T', h', X', e', W', st⟩ := stR X hx hZ eT Ar (j := j) (inb_of Sz hj.1) hty (sto.elim Or.inl fun ⟨y, C, e1, e2, e3⟩ => e1 ▸ Sto.ofV Ar q e2 e3) hg hs hd
  exact ⟨T', h', _, X', e', W', Arv.set Ar q Sz Ng Hs Gt hfv W' i hj.2 hi, O.wr W' qn, K.wr W' qk, Fr.snoc X' N qn, st⟩
theorem own_alen (X : Stand p l e R s m args below meth c T locs cells slots) (hx : p.tables.exec = Jvm.exec) (hZ : Z.Warmed39 s.vm) (eT : T.heap = h) {a : Addr} {k : ClassId} {ty : FieldType} {n : Int32} {vs : List Value} {dv : Value} (V : Arv Z h a k ty n vs dv)
    {g : JFrame} (hg : g.method = m) {rest : List Value} (hs : g.stack = .ref a :: rest) (hd : decode c.code g.pc = .ok (.arraylength, 1)) {target : State} (hr : Steps p.tables e below (T.setTop { g with pc := g.pc + 1, stack := .int n :: rest }) target) : Steps p.tables e below (T.setTop g) target := by
  obtain ⟨cl, Ar, q, Sz, Ng, Hs, Gt⟩ := V
  exact X.arraylength hx (by rw [eT]; exact Ar.1) (State.isArrayOf_alike hZ.alike Ar.2.1) hg hs hd _ (by rw [len_of Sz Ng]; exact hr)
end OwnHeap
section OwnWide
variable {p : Program} {l : Launch} {e : Env} {R : Room} {s : State} {m : MethodId} {args : Array Value} {below : List Frame} {meth : Method} {c : Code} {T : State} {locs : List Loc} {cells slots : Nat} {Z : State} {a0 : Array Value} {h : Heap} {vm0 : Vm} {EL : List (String × Nat)} {sx : List Addr}
end OwnWide
section OwnSites
variable {p : Program} {l : Launch} {e : Env} {R : Room} {s : State} {m : MethodId} {args : Array Value} {below : List Frame} {meth : Method} {c : Code} {T : State} {locs : List Loc} {cells slots : Nat} {Z : State} {a0 : Array Value} {h : Heap} {own C : String} {index W maxL : Nat} {y : MethodName} {bytes : ByteArray} {ret : Option FieldType} {ps : List FieldType} {r : Option FieldType} {rm : Room} {as' : Array Value} {Q : Option Value → Heap → List Loc → Prop}
abbrev WS (Z : State) (a0 : Array Value) (own : String) (index : Nat) (y : MethodName) (bytes : ByteArray) (maxL : Nat) (ret : Option FieldType) (ps : List FieldType) (r : Option FieldType) : Prop := (Jvm.Cond.methodLink own index y).before a0 Z = true ∧ (Jvm.Cond.static y).before a0 Z = true ∧ (Jvm.Cond.initialized y.cls).before a0 Z = true ∧ (Jvm.Cond.code y bytes maxL ret).before a0 Z = true ∧ (y.cls ≠ "java/lang/invoke/MethodHandle" ∧ y.cls ≠ "java/lang/invoke/VarHandle") ∧ parseMethodDescriptor y.desc = some ⟨ps, r⟩
abbrev WI (Z : State) (a0 : Array Value) (own : String) (index : Nat) (y : MethodName) (bytes : ByteArray) (maxL : Nat) (ps : List FieldType) : Prop := (Jvm.Cond.methodLink own index y).before a0 Z = true ∧ (Jvm.Cond.instanceMethod y).before a0 Z = true ∧ (Jvm.Cond.initialized y.cls).before a0 Z = true ∧ (Jvm.Cond.code y bytes maxL none).before a0 Z = true ∧ (y.cls ≠ "java/lang/invoke/MethodHandle" ∧ y.cls ≠ "java/lang/invoke/VarHandle") ∧ parseMethodDescriptor y.desc = some ⟨ps, none⟩ ∧ y.name = "<init>"
abbrev WV (Z : State) (a0 : Array Value) (own : String) (index : Nat) (C : String) (y : MethodName) (bytes : ByteArray) (maxL : Nat) (ret : Option FieldType) (ps : List FieldType) (r : Option FieldType) : Prop := (Jvm.Cond.methodLink own index y).before a0 Z = true ∧ (Jvm.Cond.declares y).before a0 Z = true ∧ (Jvm.Cond.selects C y y).before a0 Z = true ∧ (Jvm.Cond.instanceMethod y).before a0 Z = true ∧ (Jvm.Cond.initialized y.cls).before a0 Z = true ∧ (Jvm.Cond.code y bytes maxL ret).before a0 Z = true ∧ (y.cls ≠ "java/lang/invoke/MethodHandle" ∧ y.cls ≠ "java/lang/invoke/VarHandle") ∧ parseMethodDescriptor y.desc = some ⟨ps, r⟩
theorem cS (X : Stand p l e R s m args below meth c T locs cells slots) (hx : p.tables.exec = Jvm.exec) (hZ : Z.Warmed39 s.vm) (hown : s.vm.findClass own = some m.cls) (w : WS Z a0 own index y bytes maxL ret ps r) (hM : Ct l Z y bytes maxL ret rm as' h Q) (eT : T.heap = h) {g : JFrame} (hg : g.method = m) {ml : Nat} (hml : c.maxLocals = ml) (hsz : g.locals.size = ml) {rest : List Value} (hlen : (as'.toList).length = ps.length) (hstack : g.stack = (as'.toList).reverse ++ rest) (has : (as'.toList).toArray = as') (hW : 2 * g.monitorRoom + (rest.map fun v => v.category).sum = W) (hdg : decode c.code g.pc = .ok (.invokestatic index, 3)) (hfit : (rm.frames + 1 ≤ R.frames ∧ W + (maxL + 11) + rm.locals ≤ R.locals) ∧ cells + rm.cells ≤ R.cells ∧ slots + rm.slots ≤ R.slots) :
    ∃ (v : Option Value) (T' : State) (L : List Loc), Q v T'.heap L ∧ Stand p l e R s m args below meth c T' (locs ++ L) (cells + rm.cells) (slots + rm.slots) ∧ ∀ target, Steps p.tables e below (T'.setTop { g with pc := g.pc + 3, stack := v.toList ++ rest }) target → Steps p.tables e below (T.setTop g) target :=
  own_callS X hx hZ hown w.1 w.2.1 w.2.2.1 w.2.2.2.1 w.2.2.2.2.1 hM eT hg hml hsz (lenOf w.2.2.2.2.2 hlen) hstack has hW hdg hfit
theorem cI (X : Stand p l e R s m args below meth c T locs cells slots) (hx : p.tables.exec = Jvm.exec) (hZ : Z.Warmed39 s.vm) (hown : s.vm.findClass own = some m.cls) (w : WI Z a0 own index y bytes maxL ps) (hM : Ct l Z y bytes maxL none rm as' h Q) (eT : T.heap = h) {b : Addr} {g : JFrame} (hg : g.method = m) {ml : Nat} (hml : c.maxLocals = ml) (hsz : g.locals.size = ml) {rest : List Value} (hlen : (as'.toList.tail).length = ps.length) (hstack : g.stack = (as'.toList.tail).reverse ++ .ref b :: rest) (has : (.ref b :: as'.toList.tail).toArray = as') (hW : 2 * g.monitorRoom + (rest.map fun v => v.category).sum = W) (hdg : decode c.code g.pc = .ok (.invokespecial index, 3)) (hfit : (rm.frames + 1 ≤ R.frames ∧ W + (maxL + 11) + rm.locals ≤ R.locals) ∧ cells + rm.cells ≤ R.cells ∧ slots + rm.slots ≤ R.slots) :
    ∃ (v : Option Value) (T' : State) (L : List Loc), Q v T'.heap L ∧ Stand p l e R s m args below meth c T' (locs ++ L) (cells + rm.cells) (slots + rm.slots) ∧ ∀ target, Steps p.tables e below (T'.setTop { g with pc := g.pc + 3, stack := v.toList ++ rest }) target → Steps p.tables e below (T.setTop g) target :=
  own_special X hx hZ w.2.2.2.2.2.2 hown w.1 w.2.1 w.2.2.1 w.2.2.2.1 w.2.2.2.2.1 hM eT hg hml hsz (lenOf w.2.2.2.2.2.1 hlen) hstack has hW hdg hfit
theorem cV (X : Stand p l e R s m args below meth c T locs cells slots) (hx : p.tables.exec = Jvm.exec) (hZ : Z.Warmed39 s.vm) (hown : s.vm.findClass own = some m.cls) (w : WV Z a0 own index C y bytes maxL ret ps r) (hM : Ct l Z y bytes maxL ret rm as' h Q) (eT : T.heap = h) {b : Addr} (E : Exa Z h b C) {g : JFrame} (hg : g.method = m) {ml : Nat} (hml : c.maxLocals = ml) (hsz : g.locals.size = ml) {rest : List Value} (hlen : (as'.toList.tail).length = ps.length) (hstack : g.stack = (as'.toList.tail).reverse ++ .ref b :: rest) (has : (.ref b :: as'.toList.tail).toArray = as') (hW : 2 * g.monitorRoom + (rest.map fun v => v.category).sum = W) (hdg : decode c.code g.pc = .ok (.invokevirtual index, 3)) (hfit : (rm.frames + 1 ≤ R.frames ∧ W + (maxL + 11) + rm.locals ≤ R.locals) ∧ cells + rm.cells ≤ R.cells ∧ slots + rm.slots ≤ R.slots) :
    ∃ (v : Option Value) (T' : State) (L : List Loc), Q v T'.heap L ∧ Stand p l e R s m args below meth c T' (locs ++ L) (cells + rm.cells) (slots + rm.slots) ∧ ∀ target, Steps p.tables e below (T'.setTop { g with pc := g.pc + 3, stack := v.toList ++ rest }) target → Steps p.tables e below (T.setTop g) target :=
  own_virtual X hx hZ hown w.1 w.2.1 (notFace_of_selects (args := #[]) (mvT hZ w.2.2.1)) w.2.2.1 w.2.2.2.1 w.2.2.2.2.1 w.2.2.2.2.2.1 w.2.2.2.2.2.2.1 hM eT E hg hml hsz (lenOf w.2.2.2.2.2.2.2 hlen) hstack has hW hdg hfit
end OwnSites
theorem own_irr (x : Int32) : ¬ (x < x) := Int32.lt_irrefl
theorem own_old_le {Z : State} {n0 : Nat} {h : Heap} (O : Old Z n0 h) : n0 ≤ h.size := O.1 ▸ O.2.1
theorem own_len {Z : State} {args : Array Value} {t : Term} {a : Addr} {cl : Cell} {ty : FieldType} {z : Int32} (ev : t.eval args Z none [] Z = some (.ref a)) (A : Arr Z Z.heap a cl ty) (h : (Jvm.Cond.eq (Term.length t) (Term.int z)).value args Z none Z [] = some true) : cl.slots.size < 2 ^ 31 ∧ cl.slots.size.toInt32 = z := by
  obtain ⟨x, y, e1, e2, k1, -⟩ := cmp_v (Or.inl h)
  cases (Term.int_eval z).symm.trans e2
  have harr := A.fin (Vm.Alike.refl _)
  have h31 := SBG.length_lt ev harr e1
  refine ⟨h31, ?_⟩
  rw [len_f ev harr h31] at e1
  cases Option.some.inj e1
  exact gotT (P := cl.slots.size.toInt32 = z) (by simp [Cond.value, len_f ev harr h31, Term.int_eval]) h
theorem own_rng (x : Int32) : -2147483648 ≤ x.toInt ∧ x.toInt ≤ 2147483647 := by have := rng32 x; omega
theorem own_mask (x m : Int32) {n : Int} (h : m.toInt = n ∧ 0 ≤ n) : 0 ≤ (x &&& m).toInt ∧ (x &&& m).toInt ≤ n := by have := c_and x m (by omega); omega
theorem own_hv {meth : Method} {t : FieldType} {v : Option Value} (hret : meth.sig.returnType = some t) : meth.sig.returnType = none → v = none := fun h => by rw [hret] at h; cases h
theorem own_stoV {Z : State} {h : Heap} {a y : Addr} {k : ClassId} {ty : FieldType} {n : Int32} {vs : List Value} {dv : Value} {C : String} (V : Arv Z h a k ty n vs dv) (O : Ovr Z k C) (I : Ins Z h y C true) : Sto Z h a (.ref y) := by obtain ⟨cl, Ar, q, -⟩ := V; exact Sto.ofV Ar q O I
section OwnDbl
variable {tb : Tables} [Ours tb] {e : Env} {below : List Frame} {T target : State} {m : MethodId} {c : Code} {g : JFrame}
end OwnDbl
section OwnMir
variable {p : Program} {l : Launch} {e : Env} {R : Room} {s Z : State} {m : MethodId} {args a0 : Array Value} {below : List Frame} {meth : Method} {c : Code} {T : State} {locs : List Loc} {cells slots : Nat} {h h0 : Heap} {n0 : Nat} {ws : List Addr}
theorem own_gcw : nativeFrameWords "java/lang/Object" "getClass" 1 = 3 := by decide +kernel
theorem own_gcls (X : Stand p l e R s m args below meth c T locs cells slots) (hx : p.tables.exec = Jvm.exec) (hZ : Z.Warmed39 s.vm) {own C : String} {index : Nat} (hown : s.vm.findClass own = some m.cls)
    (w1 : (Jvm.Cond.methodLink own index Jvm.Stand.gcN).before a0 Z = true) (w2 : (Jvm.Cond.declares Jvm.Stand.gcN).before a0 Z = true) (w3 : (Jvm.Cond.selects C Jvm.Stand.gcN Jvm.Stand.gcN).before a0 Z = true) (w4 : (Jvm.Cond.instanceMethod Jvm.Stand.gcN).before a0 Z = true) (w5 : (Jvm.Cond.native Jvm.Stand.gcN).before a0 Z = true) (eT : T.heap = h) {a : Addr} (E : Exa Z h a C) {mr : Addr} (M : Mir Z C mr)
    {g : JFrame} (hg : g.method = m) (hsize : g.locals.size = c.maxLocals) {rest : List Value} (hs : g.stack = .ref a :: rest) (hd : decode c.code g.pc = .ok (.invokevirtual index, 3)) (hf : 1 ≤ R.frames) {W : Nat} (hW : 2 * g.monitorRoom + (rest.map fun v => v.category).sum ≤ W) (hl : W + 14 ≤ R.locals) :
    ∃ T', Stand p l e R s m args below meth c T' locs cells slots ∧ T'.heap = h ∧ ∀ target, Steps p.tables e below (T'.setTop { g with pc := g.pc + 3, stack := .ref mr :: rest }) target → Steps p.tables e below (T.setTop g) target := by
  have gw := own_gcw
  obtain ⟨cB, kB, i1, -, i3⟩ := isOf hZ eT E
  obtain ⟨cc, kc, m1, m2, m3, -⟩ := M
  rw [hZ.alike.findClass, m1] at i1
  cases i1
  obtain ⟨k', q, ek⟩ := hZ.alike.2.2 _ _ m2
  obtain ⟨vm', X', st⟩ := X.getClassOf hx hown (mvT hZ w1) (mvT hZ w2) (notFace_of_selects (args := #[]) (mvT hZ w3)) (mvT hZ w3) (mvT hZ w4) (mvT hZ w5) (by rw [hZ.alike.findClass]; exact m1) i3 q (by rw [ek]; exact m3) hg hsize hs hd hf (by omega)
  exact ⟨_, X', eT, st⟩
theorem own_ifm {I n d : String} (hI : (I ≠ "java/lang/invoke/MethodHandle" ∧ I ≠ "java/lang/invoke/VarHandle") ∧ I ≠ "java/lang/Object") (hal : Z.vm.Alike s.vm) (w : (Jvm.Cond.interfaceMethod I "java/lang/Object" n d).before a0 Z = true) : (Jvm.Cond.interfaceMethod I "java/lang/Object" n d).before args s = true := by
  obtain ⟨cI, kI, r, f1, f2, f3, f4, f5⟩ := Cond.interfaceMethod_spec w
  obtain ⟨ko, o1, o2⟩ := Vm.findClass_spec (findClass_of_methodNamed f5)
  obtain ⟨k1, g1, g2⟩ := Vm.findClass_spec f1
  obtain rfl : k1 = kI := Option.some.inj (g1.symm.trans f2)
  have poly : ∀ y, signaturePolymorphic k1 y = false := fun y => by simp [signaturePolymorphic, g2, hI.1.1, hI.1.2]
  have nope : k1.findMethod n d = none := by
    rcases hq : k1.findMethod n d with _ | i
    · rfl
    · have nm : Z.methodNamed? ⟨I, n, d⟩ = some ⟨cI, i⟩ := by simp [State.methodNamed?, f1, f2, hq]
      have e := Option.some.inj ((State.methodFound?_of_named nm hI.1).symm.trans f4)
      rw [← e] at o1
      have e2 := Option.some.inj (o1.symm.trans f2)
      exact absurd (g2.symm.trans (e2 ▸ o2)) hI.2
  obtain ⟨k2, b1, b2⟩ := hal.2.2 _ _ f2
  obtain ⟨k3, b3, -⟩ := hal.2.2 _ _ o1
  have c1 : s.vm.findClass I = some cI := by rw [hal.findClass]; exact f1
  have c2 : k2.isInterface = true := by rw [b2]; exact f3
  have c3 : s.methodFound? I n d = some r := State.methodFound?_faceFind c1 b1 c2 (by rw [b2]; exact poly) (by rw [b2]; exact nope) (by rw [hal.faceFind]; exact State.faceFind_of_found f1 f2 f3 poly nope f4) b3
  have c4 : s.methodNamed? ⟨"java/lang/Object", n, d⟩ = some r := (State.methodNamed?_setVm hal _).trans f5
  simp [Cond.before, Cond.holds, Cond.value, c1, c3, c4, b1, c2]
theorem own_gclsI (X : Stand p l e R s m args below meth c T locs cells slots) (hx : p.tables.exec = Jvm.exec) (hZ : Z.Warmed39 s.vm) {own C I : String} {index count : Nat} (hown : s.vm.findClass own = some m.cls)
    (w1 : (Jvm.Cond.methodLink own index ⟨I, "getClass", "()Ljava/lang/Class;"⟩).before a0 Z = true) (w2 : (Jvm.Cond.declares Jvm.Stand.gcN).before a0 Z = true) (w3 : (Jvm.Cond.interfaceMethod I "java/lang/Object" "getClass" "()Ljava/lang/Class;").before a0 Z = true) (w4 : (Jvm.Cond.selects C ⟨I, "getClass", "()Ljava/lang/Class;"⟩ Jvm.Stand.gcN).before a0 Z = true)
    (w5 : (Jvm.Cond.instanceMethod Jvm.Stand.gcN).before a0 Z = true) (w6 : (Jvm.Cond.publicMethod Jvm.Stand.gcN).before a0 Z = true) (w7 : (Jvm.Cond.unhidden C "getClass" "()Ljava/lang/Class;").before args s = true) (w8 : (Jvm.Cond.castable C I).before a0 Z = true) (w9 : (Jvm.Cond.native Jvm.Stand.gcN).before a0 Z = true)
    (hI : (I ≠ "java/lang/invoke/MethodHandle" ∧ I ≠ "java/lang/invoke/VarHandle") ∧ I ≠ "java/lang/Object") (eT : T.heap = h) {a : Addr} (E : Exa Z h a C) {mr : Addr} (M : Mir Z C mr)
    {g : JFrame} (hg : g.method = m) (hsize : g.locals.size = c.maxLocals) {rest : List Value} (hs : g.stack = .ref a :: rest) (hd : decode c.code g.pc = .ok (.invokeinterface index count, 5)) (hf : 1 ≤ R.frames) {W : Nat} (hW : 2 * g.monitorRoom + (rest.map fun v => v.category).sum ≤ W) (hl : W + 14 ≤ R.locals) :
    ∃ T', Stand p l e R s m args below meth c T' locs cells slots ∧ T'.heap = h ∧ ∀ target, Steps p.tables e below (T'.setTop { g with pc := g.pc + 5, stack := .ref mr :: rest }) target → Steps p.tables e below (T.setTop g) target := by
  have gw := own_gcw
  obtain ⟨cB, kB, i1, -, i3⟩ := isOf hZ eT E
  obtain ⟨cc, kc, m1, m2, m3, -⟩ := M
  rw [hZ.alike.findClass, m1] at i1
  cases i1
  obtain ⟨k', q, ek⟩ := hZ.alike.2.2 _ _ m2
  obtain ⟨vm', X', st⟩ := X.getClassOfI hx hown (mvT hZ w1) (mvT hZ w2) (own_ifm hI hZ.alike w3) (mvT hZ w4) (mvT hZ w5) (mvT hZ w6) w7 (mvT hZ w8) (mvT hZ w9) hI.1 hI.2 rfl rfl (by rw [hZ.alike.findClass]; exact m1) q i3 (by rw [ek]; exact m3) hg hsize hs hd hf (by omega)
  exact ⟨_, X', eT, st⟩
theorem own_ldcM (X : Stand p l e R s m args below meth c T locs cells slots) (hx : p.tables.exec = Jvm.exec) (hZ : Z.Warmed39 s.vm) {own C : String} {index : Nat} (hown : s.vm.findClass own = some m.cls) (w : (Jvm.Cond.classLink own index C).before a0 Z = true) {mr : Addr} (M : Mir Z C mr) (eT : T.heap = h)
    {g : JFrame} (hg : g.method = m) (hd : decode c.code g.pc = .ok (.ldc index, 2)) : ∃ T', Stand p l e R s m args below meth c T' locs cells slots ∧ T'.heap = h ∧ ∀ target, Steps p.tables e below (T'.setTop { g with pc := g.pc + 2, stack := .ref mr :: g.stack }) target → Steps p.tables e below (T.setTop g) target := by
  obtain ⟨cc, kc, m1, m2, m3, -⟩ := M
  obtain ⟨k', q, ek⟩ := hZ.alike.2.2 _ _ m2
  have hm : s.vm.findClass C = some cc := by rw [hZ.alike.findClass]; exact m1
  have hk : k'.mirror = some mr := by rw [ek]; exact m3
  obtain ⟨vm', X', st⟩ := X.ldcMirror hx hown (mvT hZ w) (a := mr) (by simp [Term.eval, hm, q, hk]) hg hd
  exact ⟨_, X', eT, st⟩
theorem own_newRE (X : Stand p l e R s m args below meth c T locs cells slots) (hx : p.tables.exec = Jvm.exec) (hZ : Z.Warmed39 s.vm) {own C AC : String} {index cap : Nat} {vs : List Value} (hvs : List.replicate cap .null = vs) (hown : s.vm.findClass own = some m.cls) (w1 : (Jvm.Cond.classLink own index C).before a0 Z = true) (w2 : (Jvm.Cond.arrayOver (.object C)).before a0 Z = true) (hAC : "[" ++ (FieldType.object C).toString = AC) (eT : T.heap = h) (O : Old Z n0 h) (K : Keep h0 h ws) {g : JFrame} (hg : g.method = m) (hd : decode c.code g.pc = .ok (.anewarray index, 3)) {n : Int32} {rest : List Value} (hs : g.stack = .int n :: rest)
    (hn : ¬ n < 0) (hcap : n.toNatClampNeg ≤ cap) (hb : cap * 8 ≤ 536870912) (hc : cells + 1 ≤ R.cells) (hl : slots + cap ≤ R.slots) :
    ∃ (T' : State) (h' : Heap) (k : ClassId) (b : Addr), Stand p l e R s m args below meth c T' locs (cells + 1) (slots + cap) ∧ T'.heap = h' ∧ Ext h h' ∧ Arv Z h' b k (.object C) n vs .null ∧ Ovr Z k C ∧ Exa Z h' b AC ∧ h.size ≤ b ∧ Old Z n0 h' ∧ Keep h0 h' ws ∧
      ∀ target, Steps p.tables e below (T'.setTop { g with pc := g.pc + 3, stack := .ref b :: rest }) target → Steps p.tables e below (T.setTop g) target := by
  subst hvs eT
  obtain ⟨vm₁, cA, kA, comp, -, q1, q2, q3, q4, X', st⟩ := X.anewarrayRefK hx hown (mv hZ w1) (Cond.arrayOver_alike hZ.alike w2) hg hd hs hn (by omega) hc (by omega)
  have f1 : Z.vm.findClass AC = some cA := by rw [← hAC, ← hZ.alike.findClass]; exact q1
  have f4 : Z.vm.findClass C = some comp := by rw [← hZ.alike.findClass]; exact q4
  obtain ⟨kZ, z1, -⟩ := Vm.findClass_spec f1
  obtain ⟨k', z2, z3⟩ := hZ.alike.2.2 _ _ z1
  cases q2.symm.trans z2
  have zk : kZ.kind = .array comp (.object C) := by rw [← q3, z3]
  have hE : Ext T.heap (T.heap.push { cls := cA, slots := Array.replicate n.toNatClampNeg .null, vm := .none }) := ext_of fun a q => (Array.getElem?_push_lt q).trans (Array.getElem?_eq_getElem q).symm
  have hat : (T.heap.push { cls := cA, slots := Array.replicate n.toNatClampNeg .null, vm := .none })[T.heap.size]? = some { cls := cA, slots := Array.replicate n.toNatClampNeg .null, vm := .none } := by simp
  have hA : Arr Z (T.heap.push { cls := cA, slots := Array.replicate n.toNatClampNeg .null, vm := .none }) T.heap.size (newA cA (.object C) n) (.object C) := ⟨hat.trans rfl, ⟨by simp [newA], kZ, z1, comp, zk⟩, by simp [newA]⟩
  exact ⟨_, _, cA, T.heap.size, X'.more (Nat.le_refl _) (by omega), rfl, hE, (Arv.new hA hn).pad (pad_rep [] _ cap), ⟨kZ, comp, z1, zk, f4⟩, ⟨_, kZ, hat, f1, z1, rfl, fun q => by rw [zk] at q; cases q⟩, Nat.le_refl _, O.ext hE, K.ext hE, st⟩
end OwnMir
section OwnObV
variable {Z : State} {h h' : Heap} {v v' : Value} {a : Addr} {sl : Nat} {ws : List Addr}
end OwnObV
section OwnUpd
end OwnUpd
section OwnSelP
variable {Z : State} {a0 : Array Value}
end OwnSelP
section OwnShort
variable {p : Program} {l : Launch} {e : Env} {R : Room} {s : State} {m : MethodId} {args : Array Value} {below : List Frame} {meth : Method} {c : Code} {T : State} {locs : List Loc} {cells slots : Nat} {g : JFrame} {code : ByteArray} {target : State}
theorem wal (X : Stand p l e R s m args below meth c T locs cells slots) (hx : p.tables.exec = Jvm.exec) (hby : c.code = code) (hg : g.method = m) {k : Fin 4} {v : Value} (hd : decode code g.pc = .ok (.aload_n k, 1)) (hl : g.locals[k.val]? = some (.val v)) (hv : v.isRef = true) (hr : Steps p.tables e below (T.setTop { g with pc := g.pc + 1, stack := v :: g.stack }) target) : Steps p.tables e below (T.setTop g) target := XS.aloadN X.here hx hg (hb hby hd) hl hv hr
theorem waL (X : Stand p l e R s m args below meth c T locs cells slots) (hx : p.tables.exec = Jvm.exec) (hby : c.code = code) (hg : g.method = m) {k : Nat} {v : Value} (hd : decode code g.pc = .ok (.aload k, 2)) (hl : g.locals[k]? = some (.val v)) (hv : v.isRef = true) (hr : Steps p.tables e below (T.setTop { g with pc := g.pc + 2, stack := v :: g.stack }) target) : Steps p.tables e below (T.setTop g) target := XS.aload X.here hx hg (hb hby hd) hl hv hr
theorem wil (X : Stand p l e R s m args below meth c T locs cells slots) (hx : p.tables.exec = Jvm.exec) (hby : c.code = code) (hg : g.method = m) {k : Fin 4} {v : Int32} (hd : decode code g.pc = .ok (.iload_n k, 1)) (hl : g.locals[k.val]? = some (.val (.int v))) (hr : Steps p.tables e below (T.setTop { g with pc := g.pc + 1, stack := .int v :: g.stack }) target) : Steps p.tables e below (T.setTop g) target := XS.iloadN X.here hx hg (hb hby hd) hl hr
theorem wiL (X : Stand p l e R s m args below meth c T locs cells slots) (hx : p.tables.exec = Jvm.exec) (hby : c.code = code) (hg : g.method = m) {k : Nat} {v : Int32} (hd : decode code g.pc = .ok (.iload k, 2)) (hl : g.locals[k]? = some (.val (.int v))) (hr : Steps p.tables e below (T.setTop { g with pc := g.pc + 2, stack := .int v :: g.stack }) target) : Steps p.tables e below (T.setTop g) target := XS.iload X.here hx hg (hb hby hd) hl hr
theorem wic (X : Stand p l e R s m args below meth c T locs cells slots) (hx : p.tables.exec = Jvm.exec) (hby : c.code = code) (hg : g.method = m) {i : Int} (hd : decode code g.pc = .ok (.iconst i, 1)) (hr : Steps p.tables e below (T.setTop { g with pc := g.pc + 1, stack := .int (Int32.ofInt i) :: g.stack }) target) : Steps p.tables e below (T.setTop g) target := XS.iconst X.here hx hg (hb hby hd) hr
theorem wbp (X : Stand p l e R s m args below meth c T locs cells slots) (hx : p.tables.exec = Jvm.exec) (hby : c.code = code) (hg : g.method = m) {i : Int} (hd : decode code g.pc = .ok (.bipush i, 2)) (hr : Steps p.tables e below (T.setTop { g with pc := g.pc + 2, stack := .int (Int8.ofInt i).toInt32 :: g.stack }) target) : Steps p.tables e below (T.setTop g) target := XS.bipush X.here hx hg (hb hby hd) hr
theorem wdu (X : Stand p l e R s m args below meth c T locs cells slots) (hx : p.tables.exec = Jvm.exec) (hby : c.code = code) (hg : g.method = m) {x : Value} {rest : List Value} (hd : decode code g.pc = .ok (.dup, 1)) (hs : g.stack = x :: rest) (hc : x.category = 1) (hr : Steps p.tables e below (T.setTop { g with pc := g.pc + 1, stack := x :: x :: rest }) target) : Steps p.tables e below (T.setTop g) target := XS.dup X.here hx hg (hb hby hd) hs hc hr
theorem was (X : Stand p l e R s m args below meth c T locs cells slots) (hx : p.tables.exec = Jvm.exec) (hby : c.code = code) (hg : g.method = m) {k : Fin 4} {x : Value} {rest : List Value} {l' : Array Slot} (hd : decode code g.pc = .ok (.astore_n k, 1)) (hs : g.stack = x :: rest) (hv : x.isRef = true) (hl : storeLocals g.locals k.val x = some l') (hr : Steps p.tables e below (T.setTop { g with pc := g.pc + 1, stack := rest, locals := l' }) target) : Steps p.tables e below (T.setTop g) target := XS.astoreN X.here hx hg (hb hby hd) hs hv hl hr
theorem waS (X : Stand p l e R s m args below meth c T locs cells slots) (hx : p.tables.exec = Jvm.exec) (hby : c.code = code) (hg : g.method = m) {k : Nat} {x : Value} {rest : List Value} {l' : Array Slot} (hd : decode code g.pc = .ok (.astore k, 2)) (hs : g.stack = x :: rest) (hv : x.isRef = true) (hl : storeLocals g.locals k x = some l') (hr : Steps p.tables e below (T.setTop { g with pc := g.pc + 2, stack := rest, locals := l' }) target) : Steps p.tables e below (T.setTop g) target := XS.astore X.here hx hg (hb hby hd) hs hv hl hr
theorem wis (X : Stand p l e R s m args below meth c T locs cells slots) (hx : p.tables.exec = Jvm.exec) (hby : c.code = code) (hg : g.method = m) {k : Fin 4} {x : Int32} {rest : List Value} {l' : Array Slot} (hd : decode code g.pc = .ok (.istore_n k, 1)) (hs : g.stack = .int x :: rest) (hl : storeLocals g.locals k.val (.int x) = some l') (hr : Steps p.tables e below (T.setTop { g with pc := g.pc + 1, stack := rest, locals := l' }) target) : Steps p.tables e below (T.setTop g) target := XS.istoreN X.here hx hg (hb hby hd) hs hl hr
theorem wgt (X : Stand p l e R s m args below meth c T locs cells slots) (hx : p.tables.exec = Jvm.exec) (hby : c.code = code) (hg : g.method = m) {o : Int} {pc0 pc' : Nat} (hpc : g.pc = pc0) (hd : decode code g.pc = .ok (.goto o, 3)) (ho : 0 ≤ (pc0 : Int) + o) (hp : ((pc0 : Int) + o).toNat = pc') (hr : Steps p.tables e below (T.setTop { g with pc := pc' }) target) : Steps p.tables e below (T.setTop g) target := XS.goto X.here hx hg hpc (hb hby hd) ho hp hr
theorem wfy (X : Stand p l e R s m args below meth c T locs cells slots) (hx : p.tables.exec = Jvm.exec) (hby : c.code = code) (hg : g.method = m) {cd : ClassFile.Cond} {x : Int32} {rest : List Value} {o : Int} {pc0 pc' : Nat} (hpc : g.pc = pc0) (hd : decode code g.pc = .ok (.ifCond cd o, 3)) (hs : g.stack = .int x :: rest) (hc : ifCond.holds cd x = true) (ho : 0 ≤ (pc0 : Int) + o) (hp : ((pc0 : Int) + o).toNat = pc') (hr : Steps p.tables e below (T.setTop { g with pc := pc', stack := rest }) target) : Steps p.tables e below (T.setTop g) target := XS.ifYes X.here hx hg hpc (hb hby hd) hs hc ho hp hr
theorem wfn (X : Stand p l e R s m args below meth c T locs cells slots) (hx : p.tables.exec = Jvm.exec) (hby : c.code = code) (hg : g.method = m) {cd : ClassFile.Cond} {o : Int} {x : Int32} {rest : List Value} (hd : decode code g.pc = .ok (.ifCond cd o, 3)) (hs : g.stack = .int x :: rest) (hc : ifCond.holds cd x = false) (hr : Steps p.tables e below (T.setTop { g with pc := g.pc + 3, stack := rest }) target) : Steps p.tables e below (T.setTop g) target := XS.ifNo X.here hx hg (hb hby hd) hs hc hr
theorem wcy (X : Stand p l e R s m args below meth c T locs cells slots) (hx : p.tables.exec = Jvm.exec) (hby : c.code = code) (hg : g.method = m) {cd : ClassFile.Cond} {x y : Int32} {rest : List Value} {o : Int} {pc0 pc' : Nat} (hpc : g.pc = pc0) (hd : decode code g.pc = .ok (.if_icmp cd o, 3)) (hs : g.stack = .int y :: .int x :: rest) (hc : if_icmp.holds cd x y = true) (ho : 0 ≤ (pc0 : Int) + o) (hp : ((pc0 : Int) + o).toNat = pc') (hr : Steps p.tables e below (T.setTop { g with pc := pc', stack := rest }) target) : Steps p.tables e below (T.setTop g) target := XS.icmpYes X.here hx hg hpc (hb hby hd) hs hc ho hp hr
theorem wcn (X : Stand p l e R s m args below meth c T locs cells slots) (hx : p.tables.exec = Jvm.exec) (hby : c.code = code) (hg : g.method = m) {cd : ClassFile.Cond} {o : Int} {x y : Int32} {rest : List Value} (hd : decode code g.pc = .ok (.if_icmp cd o, 3)) (hs : g.stack = .int y :: .int x :: rest) (hc : if_icmp.holds cd x y = false) (hr : Steps p.tables e below (T.setTop { g with pc := g.pc + 3, stack := rest }) target) : Steps p.tables e below (T.setTop g) target := XS.icmpNo X.here hx hg (hb hby hd) hs hc hr
theorem wan (X : Stand p l e R s m args below meth c T locs cells slots) (hx : p.tables.exec = Jvm.exec) (hby : c.code = code) (hg : g.method = m) (hd : decode code g.pc = .ok (.aconst_null, 1)) (hr : Steps p.tables e below (T.setTop { g with pc := g.pc + 1, stack := .null :: g.stack }) target) : Steps p.tables e below (T.setTop g) target := XS.aconstNull X.here hx hg (hb hby hd) hr
theorem wny (X : Stand p l e R s m args below meth c T locs cells slots) (hx : p.tables.exec = Jvm.exec) (hby : c.code = code) (hg : g.method = m) {rest : List Value} {o : Int} {pc0 pc' : Nat} (hpc : g.pc = pc0) (hd : decode code g.pc = .ok (.ifnull o, 3)) (hs : g.stack = .null :: rest) (ho : 0 ≤ (pc0 : Int) + o) (hp : ((pc0 : Int) + o).toNat = pc') (hr : Steps p.tables e below (T.setTop { g with pc := pc', stack := rest }) target) : Steps p.tables e below (T.setTop g) target := XS.ifnullYes X.here hx hg hpc (hb hby hd) hs ho hp hr
end OwnShort
abbrev z0 : String := "com/example/key3/key3/cql/Parameters"
abbrev z1 : String := "java/util/ArrayList"
abbrev z2 : String := "com/example/key3/key3/cql/Request"
abbrev z3 : String := "[Ljava/lang/Object;"
abbrev z4 : String := "java/lang/Object"
abbrev z5 : String := "java/util/List"
abbrev z6 : String := "Ljava/util/List;"
abbrev z7 : String := "java/nio/ByteBuffer"
abbrev z8 : String := "com/example/key3/key3/cql/ClientState"
abbrev z9 : String := "java/util/AbstractList"
abbrev z10 : String := "java/util/Collections$UnmodifiableRandomAccessList"
abbrev z11 : String := "java/util/Collections$UnmodifiableCollection"
abbrev z12 : String := "java/util/Collections$UnmodifiableList"
abbrev z13 : String := "Ljava/nio/ByteBuffer;"
abbrev z14 : String := "com/example/key3/key3/cql/RequestOfPinLaw"
abbrev z15 : String := "elementData"
abbrev z16 : String := "pagingState"
abbrev z17 : String := "Lcom/example/key3/key3/cql/ClientState;"
abbrev z18 : String := "(Ljava/util/List;Ljava/util/List;ILjava/nio/ByteBuffer;)V"
abbrev z19 : String := "()Ljava/nio/ByteBuffer;"
abbrev z20 : String := "Ljava/util/Collection;"
abbrev z21 : String := "()[Ljava/lang/Object;"
abbrev z22 : String := "(Ljava/lang/Object;[Ljava/lang/Object;I)V"
abbrev z23 : String := "java/util/Arrays"
abbrev z24 : String := "()Lcom/example/key3/key3/cql/ClientState;"
abbrev z25 : String := "()Ljava/lang/Class;"
abbrev z26 : String := "java/util/Collection"
abbrev z27 : String := "(Ljava/util/Collection;)V"
abbrev z28 : String := "java/util/Collections"
abbrev z29 : String := "(Ljava/lang/Object;)Z"
abbrev z30 : String := "(Ljava/util/List;)V"
abbrev z31 : String := "java/lang/Math"
abbrev z32 : String := "java/lang/Record"
abbrev z33 : String := "()Ljava/util/List;"
def SF (Z : State) (w0 : Addr) (w1 : Addr) (kw1 : ClassId) (w2 : Addr) (kw2 : ClassId) (mr1 : Addr) (mr2 : Addr) (mr3 : Addr) (mr4 : Addr) : Prop := Sta Z Z.heap z0 "UNSET" z13 (.ref w0) ∧ Exa Z Z.heap w0 "java/nio/HeapByteBufferR" ∧ Sta Z Z.heap z1 "DEFAULTCAPACITY_EMPTY_ELEMENTDATA" z3 (.ref w1) ∧ Arv Z Z.heap w1 kw1 (.object z4) (0 : Int32) [] .null ∧ Exa Z Z.heap w1 z3 ∧ Sta Z Z.heap z1 "EMPTY_ELEMENTDATA" z3 (.ref w2) ∧ Arv Z Z.heap w2 kw2 (.object z4) (0 : Int32) [] .null ∧ Exa Z Z.heap w2 z3 ∧ Mir Z z3 mr1 ∧ Mir Z z1 mr2 ∧ Mir Z z12 mr3 ∧ Mir Z z10 mr4
theorem m0 : (Jvm.Cond.classLink z14 (7 : Nat) z8) ∈ tables_1 := List.mem_of_getElem? (i := 0) rfl
theorem m1 : (Jvm.Cond.instantiable z8 (1 : Nat)) ∈ tables_1 := List.mem_of_getElem? (i := 1) rfl
theorem m2 : (Jvm.Cond.initialized z8) ∈ tables_1 := List.mem_of_getElem? (i := 2) rfl
theorem m3 : (Jvm.Cond.methodLink z14 (9 : Nat) (⟨z8, "<init>", "()V"⟩ : MethodName)) ∈ tables_1 := List.mem_of_getElem? (i := 3) rfl
theorem d1_0 : decode prog_40_method_1_code 0 = .ok (.aload_n 0, 1) := by decide +kernel
theorem d1_1 : decode prog_40_method_1_code 1 = .ok (.invokespecial 1, 3) := by decide +kernel
theorem m6 : (Jvm.Cond.methodLink z8 (1 : Nat) (⟨z4, "<init>", "()V"⟩ : MethodName)) ∈ tables_1 := List.mem_of_getElem? (i := 6) rfl
theorem m8 : (Jvm.Cond.code (⟨z4, "<init>", "()V"⟩ : MethodName) object_method_1_code (1 : Nat) (Option.none : Option Jvm.ClassFile.FieldType)) ∈ tables_1 := List.mem_of_getElem? (i := 8) rfl
theorem m7 : (Jvm.Cond.instanceMethod (⟨z4, "<init>", "()V"⟩ : MethodName)) ∈ tables_1 := List.mem_of_getElem? (i := 7) rfl
theorem d1_4 : decode prog_40_method_1_code 4 = .ok (.return_, 1) := by decide +kernel
theorem ef10 (m : MethodId) (x0 : Addr) : entryFrame m #[(.ref x0)] 1 = mkF m 0 #[.val (.ref x0)] [] := by first | (simp [entryFrame, mkF, argsToLocals, Value.category]; done) | rfl
theorem pn11 : plainName z8 = true := by first | (simp [plainName, overriddenIn]; done) | decide +kernel
theorem m5 : (Jvm.Cond.code (⟨z8, "<init>", "()V"⟩ : MethodName) prog_40_method_1_code (1 : Nat) (Option.none : Option Jvm.ClassFile.FieldType)) ∈ tables_1 := List.mem_of_getElem? (i := 5) rfl
theorem pd13 : parseMethodDescriptor "()V" = some ⟨[], none⟩ := by decide +kernel
theorem m4 : (Jvm.Cond.instanceMethod (⟨z8, "<init>", "()V"⟩ : MethodName)) ∈ tables_1 := List.mem_of_getElem? (i := 4) rfl
theorem m9 : (Jvm.Cond.classLink z14 (10 : Nat) z1) ∈ tables_1 := List.mem_of_getElem? (i := 9) rfl
theorem m10 : (Jvm.Cond.instantiable z1 (3 : Nat)) ∈ tables_1 := List.mem_of_getElem? (i := 10) rfl
theorem m11 : (Jvm.Cond.initialized z1) ∈ tables_1 := List.mem_of_getElem? (i := 11) rfl
theorem m29 : (Jvm.Cond.lays z1 z9 "modCount" "I") ∈ tables_1 := List.mem_of_getElem? (i := 29) rfl
theorem m32 : (Jvm.Cond.lays z1 z1 z15 z3) ∈ tables_1 := List.mem_of_getElem? (i := 32) rfl
theorem m41 : (Jvm.Cond.lays z1 z1 "size" "I") ∈ tables_1 := List.mem_of_getElem? (i := 41) rfl
theorem m12 : (Jvm.Cond.methodLink z14 (12 : Nat) (⟨z1, "<init>", "()V"⟩ : MethodName)) ∈ tables_1 := List.mem_of_getElem? (i := 12) rfl
theorem d3_0 : decode jdk_38_method_2_code 0 = .ok (.aload_n 0, 1) := by decide +kernel
theorem d3_1 : decode jdk_38_method_2_code 1 = .ok (.invokespecial 1, 3) := by decide +kernel
theorem m15 : (Jvm.Cond.methodLink z1 (1 : Nat) (⟨z9, "<init>", "()V"⟩ : MethodName)) ∈ tables_1 := List.mem_of_getElem? (i := 15) rfl
theorem d4_0 : decode jdk_39_method_1_code 0 = .ok (.aload_n 0, 1) := by decide +kernel
theorem d4_1 : decode jdk_39_method_1_code 1 = .ok (.invokespecial 1, 3) := by decide +kernel
theorem m21 : (Jvm.Cond.methodLink z9 (1 : Nat) (⟨"java/util/AbstractCollection", "<init>", "()V"⟩ : MethodName)) ∈ tables_1 := List.mem_of_getElem? (i := 21) rfl
theorem d5_0 : decode jdk_22_method_1_code 0 = .ok (.aload_n 0, 1) := by decide +kernel
theorem d5_1 : decode jdk_22_method_1_code 1 = .ok (.invokespecial 1, 3) := by decide +kernel
theorem m27 : (Jvm.Cond.methodLink "java/util/AbstractCollection" (1 : Nat) (⟨z4, "<init>", "()V"⟩ : MethodName)) ∈ tables_1 := List.mem_of_getElem? (i := 27) rfl
theorem d5_4 : decode jdk_22_method_1_code 4 = .ok (.return_, 1) := by decide +kernel
theorem pn32 : plainName "java/util/AbstractCollection" = true := by first | (simp [plainName, overriddenIn]; done) | decide +kernel
theorem m26 : (Jvm.Cond.code (⟨"java/util/AbstractCollection", "<init>", "()V"⟩ : MethodName) jdk_22_method_1_code (1 : Nat) (Option.none : Option Jvm.ClassFile.FieldType)) ∈ tables_1 := List.mem_of_getElem? (i := 26) rfl
theorem m25 : (Jvm.Cond.initialized "java/util/AbstractCollection") ∈ tables_1 := List.mem_of_getElem? (i := 25) rfl
theorem m22 : (Jvm.Cond.instanceMethod (⟨"java/util/AbstractCollection", "<init>", "()V"⟩ : MethodName)) ∈ tables_1 := List.mem_of_getElem? (i := 22) rfl
theorem d4_4 : decode jdk_39_method_1_code 4 = .ok (.aload_n 0, 1) := by decide +kernel
theorem d4_5 : decode jdk_39_method_1_code 5 = .ok (.iconst 0, 1) := by decide +kernel
theorem d4_6 : decode jdk_39_method_1_code 6 = .ok (.putfield 7, 3) := by decide +kernel
theorem m28 : (Jvm.Cond.fieldLink z9 (7 : Nat) z9 "modCount" "I") ∈ tables_1 := List.mem_of_getElem? (i := 28) rfl
theorem d4_9 : decode jdk_39_method_1_code 9 = .ok (.return_, 1) := by decide +kernel
theorem pn41 : plainName z9 = true := by first | (simp [plainName, overriddenIn]; done) | decide +kernel
theorem m20 : (Jvm.Cond.code (⟨z9, "<init>", "()V"⟩ : MethodName) jdk_39_method_1_code (1 : Nat) (Option.none : Option Jvm.ClassFile.FieldType)) ∈ tables_1 := List.mem_of_getElem? (i := 20) rfl
theorem m19 : (Jvm.Cond.initialized z9) ∈ tables_1 := List.mem_of_getElem? (i := 19) rfl
theorem m16 : (Jvm.Cond.instanceMethod (⟨z9, "<init>", "()V"⟩ : MethodName)) ∈ tables_1 := List.mem_of_getElem? (i := 16) rfl
theorem d3_4 : decode jdk_38_method_2_code 4 = .ok (.aload_n 0, 1) := by decide +kernel
theorem d3_5 : decode jdk_38_method_2_code 5 = .ok (.getstatic 39, 3) := by decide +kernel
theorem m30 : (Jvm.Cond.fieldLink z1 (39 : Nat) z1 "DEFAULTCAPACITY_EMPTY_ELEMENTDATA" z3) ∈ tables_1 := List.mem_of_getElem? (i := 30) rfl
theorem d3_8 : decode jdk_38_method_2_code 8 = .ok (.putfield 9, 3) := by decide +kernel
theorem m31 : (Jvm.Cond.fieldLink z1 (9 : Nat) z1 z15 z3) ∈ tables_1 := List.mem_of_getElem? (i := 31) rfl
theorem d3_11 : decode jdk_38_method_2_code 11 = .ok (.return_, 1) := by decide +kernel
theorem pn51 : plainName z1 = true := by first | (simp [plainName, overriddenIn]; done) | decide +kernel
theorem m14 : (Jvm.Cond.code (⟨z1, "<init>", "()V"⟩ : MethodName) jdk_38_method_2_code (1 : Nat) (Option.none : Option Jvm.ClassFile.FieldType)) ∈ tables_1 := List.mem_of_getElem? (i := 14) rfl
theorem m13 : (Jvm.Cond.instanceMethod (⟨z1, "<init>", "()V"⟩ : MethodName)) ∈ tables_1 := List.mem_of_getElem? (i := 13) rfl
theorem en_54 (t : Int32) (q : (0 ≤ t.toInt ∧ t.toInt ≤ 1)) : t = (0 : Int32) ∨ t = (1 : Int32) := by
  have q' : t.toInt = 0 ∨ t.toInt = 1 := by omega
  rcases q' with r | r
  · exact Or.inl (Int32.toInt_inj.mp (r.trans (by decide)))
  · exact Or.inr ((Int32.toInt_inj.mp (r.trans (by decide))))
theorem m63 : (Jvm.Cond.classLink z14 (18 : Nat) z0) ∈ tables_1 := List.mem_of_getElem? (i := 63) rfl
theorem m64 : (Jvm.Cond.instantiable z0 (4 : Nat)) ∈ tables_1 := List.mem_of_getElem? (i := 64) rfl
theorem m65 : (Jvm.Cond.initialized z0) ∈ tables_1 := List.mem_of_getElem? (i := 65) rfl
theorem m152 : (Jvm.Cond.laysFinal z0 z0 "values" z6) ∈ tables_1 := List.mem_of_getElem? (i := 152) rfl
theorem m154 : (Jvm.Cond.laysFinal z0 z0 "names" z6) ∈ tables_1 := List.mem_of_getElem? (i := 154) rfl
theorem m156 : (Jvm.Cond.laysFinal z0 z0 "pageSize" "I") ∈ tables_1 := List.mem_of_getElem? (i := 156) rfl
theorem m158 : (Jvm.Cond.laysFinal z0 z0 z16 z13) ∈ tables_1 := List.mem_of_getElem? (i := 158) rfl
theorem m66 : (Jvm.Cond.methodLink z14 (23 : Nat) (⟨z0, "<init>", z18⟩ : MethodName)) ∈ tables_1 := List.mem_of_getElem? (i := 66) rfl
theorem d11_0 : decode prog_44_method_1_code 0 = .ok (.aload_n 0, 1) := by decide +kernel
theorem d11_1 : decode prog_44_method_1_code 1 = .ok (.invokespecial 1, 3) := by decide +kernel
theorem m69 : (Jvm.Cond.methodLink z0 (1 : Nat) (⟨z32, "<init>", "()V"⟩ : MethodName)) ∈ tables_1 := List.mem_of_getElem? (i := 69) rfl
theorem d12_0 : decode jdk_30_method_1_code 0 = .ok (.aload_n 0, 1) := by decide +kernel
theorem d12_1 : decode jdk_30_method_1_code 1 = .ok (.invokespecial 1, 3) := by decide +kernel
theorem m74 : (Jvm.Cond.methodLink z32 (1 : Nat) (⟨z4, "<init>", "()V"⟩ : MethodName)) ∈ tables_1 := List.mem_of_getElem? (i := 74) rfl
theorem d12_4 : decode jdk_30_method_1_code 4 = .ok (.return_, 1) := by decide +kernel
theorem pn70 : plainName z32 = true := by first | (simp [plainName, overriddenIn]; done) | decide +kernel
theorem m73 : (Jvm.Cond.code (⟨z32, "<init>", "()V"⟩ : MethodName) jdk_30_method_1_code (1 : Nat) (Option.none : Option Jvm.ClassFile.FieldType)) ∈ tables_1 := List.mem_of_getElem? (i := 73) rfl
theorem m72 : (Jvm.Cond.initialized z32) ∈ tables_1 := List.mem_of_getElem? (i := 72) rfl
theorem m70 : (Jvm.Cond.instanceMethod (⟨z32, "<init>", "()V"⟩ : MethodName)) ∈ tables_1 := List.mem_of_getElem? (i := 70) rfl
theorem d11_4 : decode prog_44_method_1_code 4 = .ok (.new 7, 3) := by decide +kernel
theorem m75 : (Jvm.Cond.classLink z0 (7 : Nat) z1) ∈ tables_1 := List.mem_of_getElem? (i := 75) rfl
theorem d11_7 : decode prog_44_method_1_code 7 = .ok (.dup, 1) := by decide +kernel
theorem d11_8 : decode prog_44_method_1_code 8 = .ok (.aload_n 1, 1) := by decide +kernel
theorem d11_9 : decode prog_44_method_1_code 9 = .ok (.invokespecial 9, 3) := by decide +kernel
theorem m76 : (Jvm.Cond.methodLink z0 (9 : Nat) (⟨z1, "<init>", z27⟩ : MethodName)) ∈ tables_1 := List.mem_of_getElem? (i := 76) rfl
theorem d13_0 : decode jdk_38_method_3_code 0 = .ok (.aload_n 0, 1) := by decide +kernel
theorem d13_1 : decode jdk_38_method_3_code 1 = .ok (.invokespecial 1, 3) := by decide +kernel
theorem d13_4 : decode jdk_38_method_3_code 4 = .ok (.aload_n 1, 1) := by decide +kernel
theorem d13_5 : decode jdk_38_method_3_code 5 = .ok (.invokeinterface 42 1, 5) := by decide +kernel
theorem m79 : (Jvm.Cond.methodLink z1 (42 : Nat) (⟨z26, "toArray", z21⟩ : MethodName)) ∈ tables_1 := List.mem_of_getElem? (i := 79) rfl
theorem m82 : (Jvm.Cond.selects z1 (⟨z26, "toArray", z21⟩ : MethodName) (⟨z1, "toArray", z21⟩ : MethodName)) ∈ tables_1 := List.mem_of_getElem? (i := 82) rfl
theorem d14_0 : decode jdk_38_method_16_code 0 = .ok (.aload_n 0, 1) := by decide +kernel
theorem d14_1 : decode jdk_38_method_16_code 1 = .ok (.getfield 9, 3) := by decide +kernel
theorem d14_4 : decode jdk_38_method_16_code 4 = .ok (.aload_n 0, 1) := by decide +kernel
theorem d14_5 : decode jdk_38_method_16_code 5 = .ok (.getfield 48, 3) := by decide +kernel
theorem m40 : (Jvm.Cond.fieldLink z1 (48 : Nat) z1 "size" "I") ∈ tables_1 := List.mem_of_getElem? (i := 40) rfl
theorem d14_8 : decode jdk_38_method_16_code 8 = .ok (.invokestatic 66, 3) := by decide +kernel
theorem m88 : (Jvm.Cond.methodLink z1 (66 : Nat) (⟨z23, "copyOf", "([Ljava/lang/Object;I)[Ljava/lang/Object;"⟩ : MethodName)) ∈ tables_1 := List.mem_of_getElem? (i := 88) rfl
theorem d15_0 : decode jdk_65_method_119_code 0 = .ok (.aload_n 0, 1) := by decide +kernel
theorem d15_1 : decode jdk_65_method_119_code 1 = .ok (.iload_n 1, 1) := by decide +kernel
theorem d15_2 : decode jdk_65_method_119_code 2 = .ok (.aload_n 0, 1) := by decide +kernel
theorem d15_3 : decode jdk_65_method_119_code 3 = .ok (.invokevirtual 86, 3) := by decide +kernel
theorem m92 : (Jvm.Cond.methodLink z23 (86 : Nat) (⟨z4, "getClass", z25⟩ : MethodName)) ∈ tables_1 := List.mem_of_getElem? (i := 92) rfl
theorem m93 : (Jvm.Cond.declares (⟨z4, "getClass", z25⟩ : MethodName)) ∈ tables_1 := List.mem_of_getElem? (i := 93) rfl
theorem m95 : (Jvm.Cond.selects z3 (⟨z4, "getClass", z25⟩ : MethodName) (⟨z4, "getClass", z25⟩ : MethodName)) ∈ tables_1 := List.mem_of_getElem? (i := 95) rfl
theorem m94 : (Jvm.Cond.instanceMethod (⟨z4, "getClass", z25⟩ : MethodName)) ∈ tables_1 := List.mem_of_getElem? (i := 94) rfl
theorem m96 : (Jvm.Cond.native (⟨z4, "getClass", z25⟩ : MethodName)) ∈ tables_1 := List.mem_of_getElem? (i := 96) rfl
theorem d15_6 : decode jdk_65_method_119_code 6 = .ok (.invokestatic 300, 3) := by decide +kernel
theorem m98 : (Jvm.Cond.methodLink z23 (300 : Nat) (⟨z23, "copyOf", "([Ljava/lang/Object;ILjava/lang/Class;)[Ljava/lang/Object;"⟩ : MethodName)) ∈ tables_1 := List.mem_of_getElem? (i := 98) rfl
theorem d16_0 : decode jdk_65_method_120_code 0 = .ok (.aload_n 2, 1) := by decide +kernel
theorem d16_1 : decode jdk_65_method_120_code 1 = .ok (.ldc 110, 2) := by decide +kernel
theorem m101 : (Jvm.Cond.classLink z23 (110 : Nat) z3) ∈ tables_1 := List.mem_of_getElem? (i := 101) rfl
theorem d16_3 : decode jdk_65_method_120_code 3 = .ok (.if_acmp .ne 10, 3) := by decide +kernel
theorem d16_6 : decode jdk_65_method_120_code 6 = .ok (.iload_n 1, 1) := by decide +kernel
theorem d16_7 : decode jdk_65_method_120_code 7 = .ok (.anewarray 2, 3) := by decide +kernel
theorem m102 : (Jvm.Cond.classLink z23 (2 : Nat) z4) ∈ tables_1 := List.mem_of_getElem? (i := 102) rfl
theorem m62 : (Jvm.Cond.arrayOver (FieldType.object z4)) ∈ tables_1 := List.mem_of_getElem? (i := 62) rfl
theorem d16_10 : decode jdk_65_method_120_code 10 = .ok (.goto 14, 3) := by decide +kernel
theorem d16_24 : decode jdk_65_method_120_code 24 = .ok (.astore_n 3, 1) := by decide +kernel
theorem d16_25 : decode jdk_65_method_120_code 25 = .ok (.aload_n 0, 1) := by decide +kernel
theorem d16_26 : decode jdk_65_method_120_code 26 = .ok (.iconst 0, 1) := by decide +kernel
theorem d16_27 : decode jdk_65_method_120_code 27 = .ok (.aload_n 3, 1) := by decide +kernel
theorem d16_28 : decode jdk_65_method_120_code 28 = .ok (.iconst 0, 1) := by decide +kernel
theorem d16_29 : decode jdk_65_method_120_code 29 = .ok (.aload_n 0, 1) := by decide +kernel
theorem d16_30 : decode jdk_65_method_120_code 30 = .ok (.arraylength, 1) := by decide +kernel
theorem d16_31 : decode jdk_65_method_120_code 31 = .ok (.iload_n 1, 1) := by decide +kernel
theorem d16_32 : decode jdk_65_method_120_code 32 = .ok (.invokestatic 304, 3) := by decide +kernel
theorem m103 : (Jvm.Cond.methodLink z23 (304 : Nat) (⟨z31, "min", "(II)I"⟩ : MethodName)) ∈ tables_1 := List.mem_of_getElem? (i := 103) rfl
theorem d17_0 : decode jdk_29_method_69_code 0 = .ok (.iload_n 0, 1) := by decide +kernel
theorem d17_1 : decode jdk_29_method_69_code 1 = .ok (.iload_n 1, 1) := by decide +kernel
theorem d17_2 : decode jdk_29_method_69_code 2 = .ok (.if_icmp .gt 7, 3) := by decide +kernel
theorem d17_5 : decode jdk_29_method_69_code 5 = .ok (.iload_n 0, 1) := by decide +kernel
theorem d17_6 : decode jdk_29_method_69_code 6 = .ok (.goto 4, 3) := by decide +kernel
theorem d17_10 : decode jdk_29_method_69_code 10 = .ok (.ireturn, 1) := by decide +kernel
theorem ef129 (m : MethodId) (x0 : Int32) (x1 : Int32) : entryFrame m #[(.int x0), (.int x1)] 2 = mkF m 0 #[.val (.int x0), .val (.int x1)] [] := by first | (simp [entryFrame, mkF, argsToLocals, Value.category]; done) | rfl
theorem m105 : (Jvm.Cond.code (⟨z31, "min", "(II)I"⟩ : MethodName) jdk_29_method_69_code (2 : Nat) (Option.some FieldType.int)) ∈ tables_1 := List.mem_of_getElem? (i := 105) rfl
theorem m59 : (Jvm.Cond.initialized z31) ∈ tables_1 := List.mem_of_getElem? (i := 59) rfl
theorem pd132 : parseMethodDescriptor "(II)I" = some ⟨[.int, .int], some .int⟩ := by decide +kernel
theorem m104 : (Jvm.Cond.static (⟨z31, "min", "(II)I"⟩ : MethodName)) ∈ tables_1 := List.mem_of_getElem? (i := 104) rfl
theorem d16_35 : decode jdk_65_method_120_code 35 = .ok (.invokestatic 150, 3) := by decide +kernel
theorem m106 : (Jvm.Cond.methodLink z23 (150 : Nat) (⟨"java/lang/System", "arraycopy", "(Ljava/lang/Object;ILjava/lang/Object;II)V"⟩ : MethodName)) ∈ tables_1 := List.mem_of_getElem? (i := 106) rfl
theorem m109 : (Jvm.Cond.native (⟨"java/lang/System", "arraycopy", "(Ljava/lang/Object;ILjava/lang/Object;II)V"⟩ : MethodName)) ∈ tables_1 := List.mem_of_getElem? (i := 109) rfl
theorem m107 : (Jvm.Cond.static (⟨"java/lang/System", "arraycopy", "(Ljava/lang/Object;ILjava/lang/Object;II)V"⟩ : MethodName)) ∈ tables_1 := List.mem_of_getElem? (i := 107) rfl
theorem m108 : (Jvm.Cond.initialized "java/lang/System") ∈ tables_1 := List.mem_of_getElem? (i := 108) rfl
theorem d16_38 : decode jdk_65_method_120_code 38 = .ok (.aload_n 3, 1) := by decide +kernel
theorem d16_39 : decode jdk_65_method_120_code 39 = .ok (.areturn, 1) := by decide +kernel
theorem ef141 (m : MethodId) (x0 : Addr) (x1 : Int32) (x2 : Addr) : entryFrame m #[(.ref x0), (.int x1), (.ref x2)] 4 = mkF m 0 #[.val (.ref x0), .val (.int x1), .val (.ref x2), .unset] [] := by first | (simp [entryFrame, mkF, argsToLocals, Value.category]; done) | rfl
theorem pn142 : plainName z23 = true := by first | (simp [plainName, overriddenIn]; done) | decide +kernel
theorem m100 : (Jvm.Cond.code (⟨z23, "copyOf", "([Ljava/lang/Object;ILjava/lang/Class;)[Ljava/lang/Object;"⟩ : MethodName) jdk_65_method_120_code (4 : Nat) (Option.some (FieldType.array (FieldType.object z4)))) ∈ tables_1 := List.mem_of_getElem? (i := 100) rfl
theorem m90 : (Jvm.Cond.initialized z23) ∈ tables_1 := List.mem_of_getElem? (i := 90) rfl
theorem pd145 : parseMethodDescriptor "([Ljava/lang/Object;ILjava/lang/Class;)[Ljava/lang/Object;" = some ⟨[(.array (.object z4)), .int, (.object "java/lang/Class")], some (.array (.object z4))⟩ := by decide +kernel
theorem m99 : (Jvm.Cond.static (⟨z23, "copyOf", "([Ljava/lang/Object;ILjava/lang/Class;)[Ljava/lang/Object;"⟩ : MethodName)) ∈ tables_1 := List.mem_of_getElem? (i := 99) rfl
theorem d15_9 : decode jdk_65_method_119_code 9 = .ok (.areturn, 1) := by decide +kernel
theorem ef148 (m : MethodId) (x0 : Addr) (x1 : Int32) : entryFrame m #[(.ref x0), (.int x1)] 2 = mkF m 0 #[.val (.ref x0), .val (.int x1)] [] := by first | (simp [entryFrame, mkF, argsToLocals, Value.category]; done) | rfl
theorem m91 : (Jvm.Cond.code (⟨z23, "copyOf", "([Ljava/lang/Object;I)[Ljava/lang/Object;"⟩ : MethodName) jdk_65_method_119_code (2 : Nat) (Option.some (FieldType.array (FieldType.object z4)))) ∈ tables_1 := List.mem_of_getElem? (i := 91) rfl
theorem pd150 : parseMethodDescriptor "([Ljava/lang/Object;I)[Ljava/lang/Object;" = some ⟨[(.array (.object z4)), .int], some (.array (.object z4))⟩ := by decide +kernel
theorem m89 : (Jvm.Cond.static (⟨z23, "copyOf", "([Ljava/lang/Object;I)[Ljava/lang/Object;"⟩ : MethodName)) ∈ tables_1 := List.mem_of_getElem? (i := 89) rfl
theorem d14_11 : decode jdk_38_method_16_code 11 = .ok (.areturn, 1) := by decide +kernel
theorem m87 : (Jvm.Cond.code (⟨z1, "toArray", z21⟩ : MethodName) jdk_38_method_16_code (1 : Nat) (Option.some (FieldType.array (FieldType.object z4)))) ∈ tables_1 := List.mem_of_getElem? (i := 87) rfl
theorem pd154 : parseMethodDescriptor z21 = some ⟨[], some (.array (.object z4))⟩ := by decide +kernel
theorem m80 : (Jvm.Cond.declares (⟨z26, "toArray", z21⟩ : MethodName)) ∈ tables_1 := List.mem_of_getElem? (i := 80) rfl
theorem m81 : (Jvm.Cond.interfaceMethod z26 z26 "toArray" z21) ∈ tables_1 := List.mem_of_getElem? (i := 81) rfl
theorem m83 : (Jvm.Cond.instanceMethod (⟨z1, "toArray", z21⟩ : MethodName)) ∈ tables_1 := List.mem_of_getElem? (i := 83) rfl
theorem m84 : (Jvm.Cond.publicMethod (⟨z1, "toArray", z21⟩ : MethodName)) ∈ tables_1 := List.mem_of_getElem? (i := 84) rfl
theorem m85 : (Jvm.Cond.unhidden z1 "toArray" z21) ∈ tables_1 := List.mem_of_getElem? (i := 85) rfl
theorem m86 : (Jvm.Cond.castable z1 z26) ∈ tables_1 := List.mem_of_getElem? (i := 86) rfl
theorem d13_10 : decode jdk_38_method_3_code 10 = .ok (.astore_n 2, 1) := by decide +kernel
theorem d13_11 : decode jdk_38_method_3_code 11 = .ok (.aload_n 0, 1) := by decide +kernel
theorem d13_12 : decode jdk_38_method_3_code 12 = .ok (.aload_n 2, 1) := by decide +kernel
theorem d13_13 : decode jdk_38_method_3_code 13 = .ok (.arraylength, 1) := by decide +kernel
theorem d13_14 : decode jdk_38_method_3_code 14 = .ok (.dup_x1, 1) := by decide +kernel
theorem d13_15 : decode jdk_38_method_3_code 15 = .ok (.putfield 48, 3) := by decide +kernel
theorem d13_18 : decode jdk_38_method_3_code 18 = .ok (.ifCond .eq 39, 3) := by decide +kernel
theorem d13_57 : decode jdk_38_method_3_code 57 = .ok (.aload_n 0, 1) := by decide +kernel
theorem d13_58 : decode jdk_38_method_3_code 58 = .ok (.getstatic 15, 3) := by decide +kernel
theorem m110 : (Jvm.Cond.fieldLink z1 (15 : Nat) z1 "EMPTY_ELEMENTDATA" z3) ∈ tables_1 := List.mem_of_getElem? (i := 110) rfl
theorem d13_61 : decode jdk_38_method_3_code 61 = .ok (.putfield 9, 3) := by decide +kernel
theorem d13_64 : decode jdk_38_method_3_code 64 = .ok (.return_, 1) := by decide +kernel
theorem ef173 (m : MethodId) (x0 : Addr) (x1 : Addr) : entryFrame m #[(.ref x0), (.ref x1)] 3 = mkF m 0 #[.val (.ref x0), .val (.ref x1), .unset] [] := by first | (simp [entryFrame, mkF, argsToLocals, Value.category]; done) | rfl
theorem m78 : (Jvm.Cond.code (⟨z1, "<init>", z27⟩ : MethodName) jdk_38_method_3_code (3 : Nat) (Option.none : Option Jvm.ClassFile.FieldType)) ∈ tables_1 := List.mem_of_getElem? (i := 78) rfl
theorem pd175 : parseMethodDescriptor z27 = some ⟨[(.object z26)], none⟩ := by decide +kernel
theorem m77 : (Jvm.Cond.instanceMethod (⟨z1, "<init>", z27⟩ : MethodName)) ∈ tables_1 := List.mem_of_getElem? (i := 77) rfl
theorem d11_12 : decode prog_44_method_1_code 12 = .ok (.invokestatic 12, 3) := by decide +kernel
theorem m111 : (Jvm.Cond.methodLink z0 (12 : Nat) (⟨z28, "unmodifiableList", "(Ljava/util/List;)Ljava/util/List;"⟩ : MethodName)) ∈ tables_1 := List.mem_of_getElem? (i := 111) rfl
theorem d18_0 : decode jdk_79_method_35_code 0 = .ok (.aload_n 0, 1) := by decide +kernel
theorem d18_1 : decode jdk_79_method_35_code 1 = .ok (.invokeinterface 211 1, 5) := by decide +kernel
theorem m115 : (Jvm.Cond.methodLink z28 (211 : Nat) (⟨z5, "getClass", z25⟩ : MethodName)) ∈ tables_1 := List.mem_of_getElem? (i := 115) rfl
theorem m116 : (Jvm.Cond.interfaceMethod z5 z4 "getClass" z25) ∈ tables_1 := List.mem_of_getElem? (i := 116) rfl
theorem m117 : (Jvm.Cond.selects z1 (⟨z5, "getClass", z25⟩ : MethodName) (⟨z4, "getClass", z25⟩ : MethodName)) ∈ tables_1 := List.mem_of_getElem? (i := 117) rfl
theorem m118 : (Jvm.Cond.publicMethod (⟨z4, "getClass", z25⟩ : MethodName)) ∈ tables_1 := List.mem_of_getElem? (i := 118) rfl
theorem m119 : (Jvm.Cond.unhidden z1 "getClass" z25) ∈ tables_1 := List.mem_of_getElem? (i := 119) rfl
theorem m120 : (Jvm.Cond.castable z1 z5) ∈ tables_1 := List.mem_of_getElem? (i := 120) rfl
theorem d18_6 : decode jdk_79_method_35_code 6 = .ok (.ldc 212, 2) := by decide +kernel
theorem m122 : (Jvm.Cond.classLink z28 (212 : Nat) z12) ∈ tables_1 := List.mem_of_getElem? (i := 122) rfl
theorem d18_8 : decode jdk_79_method_35_code 8 = .ok (.if_acmp .eq 14, 3) := by decide +kernel
theorem d18_11 : decode jdk_79_method_35_code 11 = .ok (.aload_n 0, 1) := by decide +kernel
theorem d18_12 : decode jdk_79_method_35_code 12 = .ok (.invokeinterface 214 1, 5) := by decide +kernel
theorem m124 : (Jvm.Cond.methodLink z28 (214 : Nat) (⟨z5, "getClass", z25⟩ : MethodName)) ∈ tables_1 := List.mem_of_getElem? (i := 124) rfl
theorem d18_17 : decode jdk_79_method_35_code 17 = .ok (.ldc 215, 2) := by decide +kernel
theorem m125 : (Jvm.Cond.classLink z28 (215 : Nat) z10) ∈ tables_1 := List.mem_of_getElem? (i := 125) rfl
theorem d18_19 : decode jdk_79_method_35_code 19 = .ok (.if_acmp .ne 5, 3) := by decide +kernel
theorem d18_24 : decode jdk_79_method_35_code 24 = .ok (.aload_n 0, 1) := by decide +kernel
theorem d18_25 : decode jdk_79_method_35_code 25 = .ok (.instanceof 13, 3) := by decide +kernel
theorem m127 : (Jvm.Cond.classLink z28 (13 : Nat) "java/util/RandomAccess") ∈ tables_1 := List.mem_of_getElem? (i := 127) rfl
theorem m128 : (Jvm.Cond.castable z1 "java/util/RandomAccess") ∈ tables_1 := List.mem_of_getElem? (i := 128) rfl
theorem d18_28 : decode jdk_79_method_35_code 28 = .ok (.ifCond .eq 14, 3) := by decide +kernel
theorem d18_31 : decode jdk_79_method_35_code 31 = .ok (.new 215, 3) := by decide +kernel
theorem m129 : (Jvm.Cond.instantiable z10 (2 : Nat)) ∈ tables_1 := List.mem_of_getElem? (i := 129) rfl
theorem m130 : (Jvm.Cond.initialized z10) ∈ tables_1 := List.mem_of_getElem? (i := 130) rfl
theorem m148 : (Jvm.Cond.laysFinal z10 z11 "c" z20) ∈ tables_1 := List.mem_of_getElem? (i := 148) rfl
theorem m150 : (Jvm.Cond.laysFinal z10 z12 "list" z6) ∈ tables_1 := List.mem_of_getElem? (i := 150) rfl
theorem d18_34 : decode jdk_79_method_35_code 34 = .ok (.dup, 1) := by decide +kernel
theorem d18_35 : decode jdk_79_method_35_code 35 = .ok (.aload_n 0, 1) := by decide +kernel
theorem d18_36 : decode jdk_79_method_35_code 36 = .ok (.invokespecial 217, 3) := by decide +kernel
theorem m131 : (Jvm.Cond.methodLink z28 (217 : Nat) (⟨z10, "<init>", z30⟩ : MethodName)) ∈ tables_1 := List.mem_of_getElem? (i := 131) rfl
theorem d19_0 : decode jdk_121_method_1_code 0 = .ok (.aload_n 0, 1) := by decide +kernel
theorem d19_1 : decode jdk_121_method_1_code 1 = .ok (.aload_n 1, 1) := by decide +kernel
theorem d19_2 : decode jdk_121_method_1_code 2 = .ok (.invokespecial 1, 3) := by decide +kernel
theorem m134 : (Jvm.Cond.methodLink z10 (1 : Nat) (⟨z12, "<init>", z30⟩ : MethodName)) ∈ tables_1 := List.mem_of_getElem? (i := 134) rfl
theorem d20_0 : decode jdk_120_method_1_code 0 = .ok (.aload_n 0, 1) := by decide +kernel
theorem d20_1 : decode jdk_120_method_1_code 1 = .ok (.aload_n 1, 1) := by decide +kernel
theorem d20_2 : decode jdk_120_method_1_code 2 = .ok (.invokespecial 1, 3) := by decide +kernel
theorem m140 : (Jvm.Cond.methodLink z12 (1 : Nat) (⟨z11, "<init>", z27⟩ : MethodName)) ∈ tables_1 := List.mem_of_getElem? (i := 140) rfl
theorem d21_0 : decode jdk_119_method_1_code 0 = .ok (.aload_n 0, 1) := by decide +kernel
theorem d21_1 : decode jdk_119_method_1_code 1 = .ok (.invokespecial 1, 3) := by decide +kernel
theorem m146 : (Jvm.Cond.methodLink z11 (1 : Nat) (⟨z4, "<init>", "()V"⟩ : MethodName)) ∈ tables_1 := List.mem_of_getElem? (i := 146) rfl
theorem d21_4 : decode jdk_119_method_1_code 4 = .ok (.aload_n 1, 1) := by decide +kernel
theorem d21_5 : decode jdk_119_method_1_code 5 = .ok (.ifnonnull 11, 3) := by decide +kernel
theorem d21_16 : decode jdk_119_method_1_code 16 = .ok (.aload_n 0, 1) := by decide +kernel
theorem d21_17 : decode jdk_119_method_1_code 17 = .ok (.aload_n 1, 1) := by decide +kernel
theorem d21_18 : decode jdk_119_method_1_code 18 = .ok (.putfield 10, 3) := by decide +kernel
theorem m147 : (Jvm.Cond.fieldLink z11 (10 : Nat) z11 "c" z20) ∈ tables_1 := List.mem_of_getElem? (i := 147) rfl
theorem d21_21 : decode jdk_119_method_1_code 21 = .ok (.return_, 1) := by decide +kernel
theorem ef228 (m : MethodId) (x0 : Addr) (x1 : Addr) : entryFrame m #[(.ref x0), (.ref x1)] 2 = mkF m 0 #[.val (.ref x0), .val (.ref x1)] [] := by first | (simp [entryFrame, mkF, argsToLocals, Value.category]; done) | rfl
theorem pn229 : plainName z11 = true := by first | (simp [plainName, overriddenIn]; done) | decide +kernel
theorem m145 : (Jvm.Cond.code (⟨z11, "<init>", z27⟩ : MethodName) jdk_119_method_1_code (2 : Nat) (Option.none : Option Jvm.ClassFile.FieldType)) ∈ tables_1 := List.mem_of_getElem? (i := 145) rfl
theorem m144 : (Jvm.Cond.initialized z11) ∈ tables_1 := List.mem_of_getElem? (i := 144) rfl
theorem m141 : (Jvm.Cond.instanceMethod (⟨z11, "<init>", z27⟩ : MethodName)) ∈ tables_1 := List.mem_of_getElem? (i := 141) rfl
theorem d20_5 : decode jdk_120_method_1_code 5 = .ok (.aload_n 0, 1) := by decide +kernel
theorem d20_6 : decode jdk_120_method_1_code 6 = .ok (.aload_n 1, 1) := by decide +kernel
theorem d20_7 : decode jdk_120_method_1_code 7 = .ok (.putfield 7, 3) := by decide +kernel
theorem m149 : (Jvm.Cond.fieldLink z12 (7 : Nat) z12 "list" z6) ∈ tables_1 := List.mem_of_getElem? (i := 149) rfl
theorem d20_10 : decode jdk_120_method_1_code 10 = .ok (.return_, 1) := by decide +kernel
theorem pn238 : plainName z12 = true := by first | (simp [plainName, overriddenIn]; done) | decide +kernel
theorem m139 : (Jvm.Cond.code (⟨z12, "<init>", z30⟩ : MethodName) jdk_120_method_1_code (2 : Nat) (Option.none : Option Jvm.ClassFile.FieldType)) ∈ tables_1 := List.mem_of_getElem? (i := 139) rfl
theorem m138 : (Jvm.Cond.initialized z12) ∈ tables_1 := List.mem_of_getElem? (i := 138) rfl
theorem pd241 : parseMethodDescriptor z30 = some ⟨[(.object z5)], none⟩ := by decide +kernel
theorem m135 : (Jvm.Cond.instanceMethod (⟨z12, "<init>", z30⟩ : MethodName)) ∈ tables_1 := List.mem_of_getElem? (i := 135) rfl
theorem d19_5 : decode jdk_121_method_1_code 5 = .ok (.return_, 1) := by decide +kernel
theorem pn244 : plainName z10 = true := by first | (simp [plainName, overriddenIn]; done) | decide +kernel
theorem m133 : (Jvm.Cond.code (⟨z10, "<init>", z30⟩ : MethodName) jdk_121_method_1_code (2 : Nat) (Option.none : Option Jvm.ClassFile.FieldType)) ∈ tables_1 := List.mem_of_getElem? (i := 133) rfl
theorem m132 : (Jvm.Cond.instanceMethod (⟨z10, "<init>", z30⟩ : MethodName)) ∈ tables_1 := List.mem_of_getElem? (i := 132) rfl
theorem d18_39 : decode jdk_79_method_35_code 39 = .ok (.goto 11, 3) := by decide +kernel
theorem d18_50 : decode jdk_79_method_35_code 50 = .ok (.areturn, 1) := by decide +kernel
theorem pn249 : plainName z28 = true := by first | (simp [plainName, overriddenIn]; done) | decide +kernel
theorem m114 : (Jvm.Cond.code (⟨z28, "unmodifiableList", "(Ljava/util/List;)Ljava/util/List;"⟩ : MethodName) jdk_79_method_35_code (1 : Nat) (Option.some (FieldType.object z5))) ∈ tables_1 := List.mem_of_getElem? (i := 114) rfl
theorem m113 : (Jvm.Cond.initialized z28) ∈ tables_1 := List.mem_of_getElem? (i := 113) rfl
theorem pd252 : parseMethodDescriptor "(Ljava/util/List;)Ljava/util/List;" = some ⟨[(.object z5)], some (.object z5)⟩ := by decide +kernel
theorem m112 : (Jvm.Cond.static (⟨z28, "unmodifiableList", "(Ljava/util/List;)Ljava/util/List;"⟩ : MethodName)) ∈ tables_1 := List.mem_of_getElem? (i := 112) rfl
theorem d11_15 : decode prog_44_method_1_code 15 = .ok (.astore_n 1, 1) := by decide +kernel
theorem d11_16 : decode prog_44_method_1_code 16 = .ok (.aload_n 2, 1) := by decide +kernel
theorem d11_17 : decode prog_44_method_1_code 17 = .ok (.ifnonnull 7, 3) := by decide +kernel
theorem d11_20 : decode prog_44_method_1_code 20 = .ok (.aconst_null, 1) := by decide +kernel
theorem d11_21 : decode prog_44_method_1_code 21 = .ok (.goto 7, 3) := by decide +kernel
theorem d11_28 : decode prog_44_method_1_code 28 = .ok (.astore_n 2, 1) := by decide +kernel
theorem d11_29 : decode prog_44_method_1_code 29 = .ok (.aload_n 2, 1) := by decide +kernel
theorem d11_30 : decode prog_44_method_1_code 30 = .ok (.ifnull 43, 3) := by decide +kernel
theorem d11_73 : decode prog_44_method_1_code 73 = .ok (.aload_n 0, 1) := by decide +kernel
theorem d11_74 : decode prog_44_method_1_code 74 = .ok (.aload_n 1, 1) := by decide +kernel
theorem d11_75 : decode prog_44_method_1_code 75 = .ok (.putfield 37, 3) := by decide +kernel
theorem m151 : (Jvm.Cond.fieldLink z0 (37 : Nat) z0 "values" z6) ∈ tables_1 := List.mem_of_getElem? (i := 151) rfl
theorem d11_78 : decode prog_44_method_1_code 78 = .ok (.aload_n 0, 1) := by decide +kernel
theorem d11_79 : decode prog_44_method_1_code 79 = .ok (.aload_n 2, 1) := by decide +kernel
theorem d11_80 : decode prog_44_method_1_code 80 = .ok (.putfield 43, 3) := by decide +kernel
theorem m153 : (Jvm.Cond.fieldLink z0 (43 : Nat) z0 "names" z6) ∈ tables_1 := List.mem_of_getElem? (i := 153) rfl
theorem d11_83 : decode prog_44_method_1_code 83 = .ok (.aload_n 0, 1) := by decide +kernel
theorem d11_84 : decode prog_44_method_1_code 84 = .ok (.iload_n 3, 1) := by decide +kernel
theorem d11_85 : decode prog_44_method_1_code 85 = .ok (.putfield 46, 3) := by decide +kernel
theorem m155 : (Jvm.Cond.fieldLink z0 (46 : Nat) z0 "pageSize" "I") ∈ tables_1 := List.mem_of_getElem? (i := 155) rfl
theorem d11_88 : decode prog_44_method_1_code 88 = .ok (.aload_n 0, 1) := by decide +kernel
theorem d11_89 : decode prog_44_method_1_code 89 = .ok (.aload 4, 2) := by decide +kernel
theorem d11_91 : decode prog_44_method_1_code 91 = .ok (.putfield 50, 3) := by decide +kernel
theorem m157 : (Jvm.Cond.fieldLink z0 (50 : Nat) z0 z16 z13) ∈ tables_1 := List.mem_of_getElem? (i := 157) rfl
theorem d11_94 : decode prog_44_method_1_code 94 = .ok (.return_, 1) := by decide +kernel
theorem ef279 (m : MethodId) (x0 : Addr) (x1 : Addr) (x3 : Int32) : entryFrame m #[(.ref x0), (.ref x1), .null, (.int x3), .null] 5 = mkF m 0 #[.val (.ref x0), .val (.ref x1), sN, .val (.int x3), sN] [] := by first | (simp [entryFrame, mkF, argsToLocals, Value.category]; done) | rfl
theorem pn280 : plainName z0 = true := by first | (simp [plainName, overriddenIn]; done) | decide +kernel
theorem m68 : (Jvm.Cond.code (⟨z0, "<init>", z18⟩ : MethodName) prog_44_method_1_code (5 : Nat) (Option.none : Option Jvm.ClassFile.FieldType)) ∈ tables_1 := List.mem_of_getElem? (i := 68) rfl
theorem pd282 : parseMethodDescriptor z18 = some ⟨[(.object z5), (.object z5), .int, (.object z7)], none⟩ := by decide +kernel
theorem m67 : (Jvm.Cond.instanceMethod (⟨z0, "<init>", z18⟩ : MethodName)) ∈ tables_1 := List.mem_of_getElem? (i := 67) rfl
theorem m159 : (Jvm.Cond.methodLink z14 (26 : Nat) (⟨z2, "of", "(Lcom/example/key3/key3/cql/ClientState;Ljava/util/List;JLcom/example/key3/key3/cql/Parameters;)Lcom/example/key3/key3/cql/Request;"⟩ : MethodName)) ∈ tables_1 := List.mem_of_getElem? (i := 159) rfl
theorem d22_0 : decode prog_49_method_2_code 0 = .ok (.new 8, 3) := by decide +kernel
theorem m163 : (Jvm.Cond.classLink z2 (8 : Nat) z2) ∈ tables_1 := List.mem_of_getElem? (i := 163) rfl
theorem m164 : (Jvm.Cond.instantiable z2 (5 : Nat)) ∈ tables_1 := List.mem_of_getElem? (i := 164) rfl
theorem m161 : (Jvm.Cond.initialized z2) ∈ tables_1 := List.mem_of_getElem? (i := 161) rfl
theorem m180 : (Jvm.Cond.laysFinal z2 z2 "state" z17) ∈ tables_1 := List.mem_of_getElem? (i := 180) rfl
theorem m182 : (Jvm.Cond.laysFinal z2 z2 "values" z6) ∈ tables_1 := List.mem_of_getElem? (i := 182) rfl
theorem m184 : (Jvm.Cond.laysFinal z2 z2 "now" "J") ∈ tables_1 := List.mem_of_getElem? (i := 184) rfl
theorem m186 : (Jvm.Cond.laysFinal z2 z2 "pageSize" "I") ∈ tables_1 := List.mem_of_getElem? (i := 186) rfl
theorem m188 : (Jvm.Cond.laysFinal z2 z2 z16 z13) ∈ tables_1 := List.mem_of_getElem? (i := 188) rfl
theorem d22_3 : decode prog_49_method_2_code 3 = .ok (.dup, 1) := by decide +kernel
theorem d22_4 : decode prog_49_method_2_code 4 = .ok (.aload_n 0, 1) := by decide +kernel
theorem d22_5 : decode prog_49_method_2_code 5 = .ok (.aload_n 1, 1) := by decide +kernel
theorem d22_6 : decode prog_49_method_2_code 6 = .ok (.lload_n 2, 1) := by decide +kernel
theorem d22_7 : decode prog_49_method_2_code 7 = .ok (.aload 4, 2) := by decide +kernel
theorem d22_9 : decode prog_49_method_2_code 9 = .ok (.invokevirtual 29, 3) := by decide +kernel
theorem m165 : (Jvm.Cond.methodLink z2 (29 : Nat) (⟨z0, "pageSize", "()I"⟩ : MethodName)) ∈ tables_1 := List.mem_of_getElem? (i := 165) rfl
theorem m168 : (Jvm.Cond.selects z0 (⟨z0, "pageSize", "()I"⟩ : MethodName) (⟨z0, "pageSize", "()I"⟩ : MethodName)) ∈ tables_1 := List.mem_of_getElem? (i := 168) rfl
theorem d23_0 : decode prog_44_method_10_code 0 = .ok (.aload_n 0, 1) := by decide +kernel
theorem d23_1 : decode prog_44_method_10_code 1 = .ok (.getfield 46, 3) := by decide +kernel
theorem d23_4 : decode prog_44_method_10_code 4 = .ok (.ireturn, 1) := by decide +kernel
theorem m169 : (Jvm.Cond.code (⟨z0, "pageSize", "()I"⟩ : MethodName) prog_44_method_10_code (1 : Nat) (Option.some FieldType.int)) ∈ tables_1 := List.mem_of_getElem? (i := 169) rfl
theorem pd306 : parseMethodDescriptor "()I" = some ⟨[], some .int⟩ := by decide +kernel
theorem m166 : (Jvm.Cond.declares (⟨z0, "pageSize", "()I"⟩ : MethodName)) ∈ tables_1 := List.mem_of_getElem? (i := 166) rfl
theorem m167 : (Jvm.Cond.instanceMethod (⟨z0, "pageSize", "()I"⟩ : MethodName)) ∈ tables_1 := List.mem_of_getElem? (i := 167) rfl
theorem d22_12 : decode prog_49_method_2_code 12 = .ok (.aload 4, 2) := by decide +kernel
theorem d22_14 : decode prog_49_method_2_code 14 = .ok (.invokevirtual 34, 3) := by decide +kernel
theorem m170 : (Jvm.Cond.methodLink z2 (34 : Nat) (⟨z0, z16, z19⟩ : MethodName)) ∈ tables_1 := List.mem_of_getElem? (i := 170) rfl
theorem m173 : (Jvm.Cond.selects z0 (⟨z0, z16, z19⟩ : MethodName) (⟨z0, z16, z19⟩ : MethodName)) ∈ tables_1 := List.mem_of_getElem? (i := 173) rfl
theorem d24_0 : decode prog_44_method_11_code 0 = .ok (.aload_n 0, 1) := by decide +kernel
theorem d24_1 : decode prog_44_method_11_code 1 = .ok (.getfield 50, 3) := by decide +kernel
theorem d24_4 : decode prog_44_method_11_code 4 = .ok (.areturn, 1) := by decide +kernel
theorem m174 : (Jvm.Cond.code (⟨z0, z16, z19⟩ : MethodName) prog_44_method_11_code (1 : Nat) (Option.some (FieldType.object z7))) ∈ tables_1 := List.mem_of_getElem? (i := 174) rfl
theorem pd317 : parseMethodDescriptor z19 = some ⟨[], some (.object z7)⟩ := by decide +kernel
theorem m171 : (Jvm.Cond.declares (⟨z0, z16, z19⟩ : MethodName)) ∈ tables_1 := List.mem_of_getElem? (i := 171) rfl
theorem m172 : (Jvm.Cond.instanceMethod (⟨z0, z16, z19⟩ : MethodName)) ∈ tables_1 := List.mem_of_getElem? (i := 172) rfl
theorem d22_17 : decode prog_49_method_2_code 17 = .ok (.invokespecial 37, 3) := by decide +kernel
theorem m175 : (Jvm.Cond.methodLink z2 (37 : Nat) (⟨z2, "<init>", "(Lcom/example/key3/key3/cql/ClientState;Ljava/util/List;JILjava/nio/ByteBuffer;)V"⟩ : MethodName)) ∈ tables_1 := List.mem_of_getElem? (i := 175) rfl
theorem d25_0 : decode prog_49_method_1_code 0 = .ok (.aload_n 0, 1) := by decide +kernel
theorem d25_1 : decode prog_49_method_1_code 1 = .ok (.invokespecial 1, 3) := by decide +kernel
theorem m178 : (Jvm.Cond.methodLink z2 (1 : Nat) (⟨z32, "<init>", "()V"⟩ : MethodName)) ∈ tables_1 := List.mem_of_getElem? (i := 178) rfl
theorem d25_4 : decode prog_49_method_1_code 4 = .ok (.aload_n 0, 1) := by decide +kernel
theorem d25_5 : decode prog_49_method_1_code 5 = .ok (.aload_n 1, 1) := by decide +kernel
theorem d25_6 : decode prog_49_method_1_code 6 = .ok (.putfield 7, 3) := by decide +kernel
theorem m179 : (Jvm.Cond.fieldLink z2 (7 : Nat) z2 "state" z17) ∈ tables_1 := List.mem_of_getElem? (i := 179) rfl
theorem d25_9 : decode prog_49_method_1_code 9 = .ok (.aload_n 0, 1) := by decide +kernel
theorem d25_10 : decode prog_49_method_1_code 10 = .ok (.aload_n 2, 1) := by decide +kernel
theorem d25_11 : decode prog_49_method_1_code 11 = .ok (.putfield 13, 3) := by decide +kernel
theorem m181 : (Jvm.Cond.fieldLink z2 (13 : Nat) z2 "values" z6) ∈ tables_1 := List.mem_of_getElem? (i := 181) rfl
theorem d25_14 : decode prog_49_method_1_code 14 = .ok (.aload_n 0, 1) := by decide +kernel
theorem d25_15 : decode prog_49_method_1_code 15 = .ok (.lload_n 3, 1) := by decide +kernel
theorem d25_16 : decode prog_49_method_1_code 16 = .ok (.putfield 17, 3) := by decide +kernel
theorem m183 : (Jvm.Cond.fieldLink z2 (17 : Nat) z2 "now" "J") ∈ tables_1 := List.mem_of_getElem? (i := 183) rfl
theorem d25_19 : decode prog_49_method_1_code 19 = .ok (.aload_n 0, 1) := by decide +kernel
theorem d25_20 : decode prog_49_method_1_code 20 = .ok (.iload 5, 2) := by decide +kernel
theorem d25_22 : decode prog_49_method_1_code 22 = .ok (.putfield 21, 3) := by decide +kernel
theorem m185 : (Jvm.Cond.fieldLink z2 (21 : Nat) z2 "pageSize" "I") ∈ tables_1 := List.mem_of_getElem? (i := 185) rfl
theorem d25_25 : decode prog_49_method_1_code 25 = .ok (.aload_n 0, 1) := by decide +kernel
theorem d25_26 : decode prog_49_method_1_code 26 = .ok (.aload 6, 2) := by decide +kernel
theorem d25_28 : decode prog_49_method_1_code 28 = .ok (.putfield 25, 3) := by decide +kernel
theorem m187 : (Jvm.Cond.fieldLink z2 (25 : Nat) z2 z16 z13) ∈ tables_1 := List.mem_of_getElem? (i := 187) rfl
theorem d25_31 : decode prog_49_method_1_code 31 = .ok (.return_, 1) := by decide +kernel
theorem ef346 (m : MethodId) (x0 : Addr) (x1 : Addr) (x2 : Addr) (x3 : Int64) (x4 : Int32) : entryFrame m #[(.ref x0), (.ref x1), (.ref x2), (.long x3), (.int x4), .null] 7 = mkF m 0 #[.val (.ref x0), .val (.ref x1), .val (.ref x2), .val (.long x3), .second, .val (.int x4), sN] [] := by first | (simp [entryFrame, mkF, argsToLocals, Value.category]; done) | rfl
theorem pn347 : plainName z2 = true := by first | (simp [plainName, overriddenIn]; done) | decide +kernel
theorem m177 : (Jvm.Cond.code (⟨z2, "<init>", "(Lcom/example/key3/key3/cql/ClientState;Ljava/util/List;JILjava/nio/ByteBuffer;)V"⟩ : MethodName) prog_49_method_1_code (7 : Nat) (Option.none : Option Jvm.ClassFile.FieldType)) ∈ tables_1 := List.mem_of_getElem? (i := 177) rfl
theorem pd349 : parseMethodDescriptor "(Lcom/example/key3/key3/cql/ClientState;Ljava/util/List;JILjava/nio/ByteBuffer;)V" = some ⟨[(.object z8), (.object z5), .long, .int, (.object z7)], none⟩ := by decide +kernel
theorem m176 : (Jvm.Cond.instanceMethod (⟨z2, "<init>", "(Lcom/example/key3/key3/cql/ClientState;Ljava/util/List;JILjava/nio/ByteBuffer;)V"⟩ : MethodName)) ∈ tables_1 := List.mem_of_getElem? (i := 176) rfl
theorem d22_20 : decode prog_49_method_2_code 20 = .ok (.areturn, 1) := by decide +kernel
theorem ef352 (m : MethodId) (x0 : Addr) (x1 : Addr) (x2 : Int64) (x3 : Addr) : entryFrame m #[(.ref x0), (.ref x1), (.long x2), (.ref x3)] 5 = mkF m 0 #[.val (.ref x0), .val (.ref x1), .val (.long x2), .second, .val (.ref x3)] [] := by first | (simp [entryFrame, mkF, argsToLocals, Value.category]; done) | rfl
theorem m162 : (Jvm.Cond.code (⟨z2, "of", "(Lcom/example/key3/key3/cql/ClientState;Ljava/util/List;JLcom/example/key3/key3/cql/Parameters;)Lcom/example/key3/key3/cql/Request;"⟩ : MethodName) prog_49_method_2_code (5 : Nat) (Option.some (FieldType.object z2))) ∈ tables_1 := List.mem_of_getElem? (i := 162) rfl
theorem pd354 : parseMethodDescriptor "(Lcom/example/key3/key3/cql/ClientState;Ljava/util/List;JLcom/example/key3/key3/cql/Parameters;)Lcom/example/key3/key3/cql/Request;" = some ⟨[(.object z8), (.object z5), .long, (.object z0)], some (.object z2)⟩ := by decide +kernel
theorem m160 : (Jvm.Cond.static (⟨z2, "of", "(Lcom/example/key3/key3/cql/ClientState;Ljava/util/List;JLcom/example/key3/key3/cql/Parameters;)Lcom/example/key3/key3/cql/Request;"⟩ : MethodName)) ∈ tables_1 := List.mem_of_getElem? (i := 160) rfl
theorem m189 : (Jvm.Cond.methodLink z14 (32 : Nat) (⟨z2, "state", z24⟩ : MethodName)) ∈ tables_1 := List.mem_of_getElem? (i := 189) rfl
theorem m192 : (Jvm.Cond.selects z2 (⟨z2, "state", z24⟩ : MethodName) (⟨z2, "state", z24⟩ : MethodName)) ∈ tables_1 := List.mem_of_getElem? (i := 192) rfl
theorem d26_0 : decode prog_49_method_6_code 0 = .ok (.aload_n 0, 1) := by decide +kernel
theorem d26_1 : decode prog_49_method_6_code 1 = .ok (.getfield 7, 3) := by decide +kernel
theorem d26_4 : decode prog_49_method_6_code 4 = .ok (.areturn, 1) := by decide +kernel
theorem m193 : (Jvm.Cond.code (⟨z2, "state", z24⟩ : MethodName) prog_49_method_6_code (1 : Nat) (Option.some (FieldType.object z8))) ∈ tables_1 := List.mem_of_getElem? (i := 193) rfl
theorem pd362 : parseMethodDescriptor z24 = some ⟨[], some (.object z8)⟩ := by decide +kernel
theorem m190 : (Jvm.Cond.declares (⟨z2, "state", z24⟩ : MethodName)) ∈ tables_1 := List.mem_of_getElem? (i := 190) rfl
theorem m191 : (Jvm.Cond.instanceMethod (⟨z2, "state", z24⟩ : MethodName)) ∈ tables_1 := List.mem_of_getElem? (i := 191) rfl
theorem m194 : (Jvm.Cond.methodLink z14 (36 : Nat) (⟨z2, "values", z33⟩ : MethodName)) ∈ tables_1 := List.mem_of_getElem? (i := 194) rfl
theorem m197 : (Jvm.Cond.selects z2 (⟨z2, "values", z33⟩ : MethodName) (⟨z2, "values", z33⟩ : MethodName)) ∈ tables_1 := List.mem_of_getElem? (i := 197) rfl
theorem d27_0 : decode prog_49_method_7_code 0 = .ok (.aload_n 0, 1) := by decide +kernel
theorem d27_1 : decode prog_49_method_7_code 1 = .ok (.getfield 13, 3) := by decide +kernel
theorem d27_4 : decode prog_49_method_7_code 4 = .ok (.areturn, 1) := by decide +kernel
theorem m198 : (Jvm.Cond.code (⟨z2, "values", z33⟩ : MethodName) prog_49_method_7_code (1 : Nat) (Option.some (FieldType.object z5))) ∈ tables_1 := List.mem_of_getElem? (i := 198) rfl
theorem pd371 : parseMethodDescriptor z33 = some ⟨[], some (.object z5)⟩ := by decide +kernel
theorem m195 : (Jvm.Cond.declares (⟨z2, "values", z33⟩ : MethodName)) ∈ tables_1 := List.mem_of_getElem? (i := 195) rfl
theorem m196 : (Jvm.Cond.instanceMethod (⟨z2, "values", z33⟩ : MethodName)) ∈ tables_1 := List.mem_of_getElem? (i := 196) rfl
theorem m199 : (Jvm.Cond.methodLink z14 (40 : Nat) (⟨z2, "now", "()J"⟩ : MethodName)) ∈ tables_1 := List.mem_of_getElem? (i := 199) rfl
theorem m202 : (Jvm.Cond.selects z2 (⟨z2, "now", "()J"⟩ : MethodName) (⟨z2, "now", "()J"⟩ : MethodName)) ∈ tables_1 := List.mem_of_getElem? (i := 202) rfl
theorem d28_0 : decode prog_49_method_8_code 0 = .ok (.aload_n 0, 1) := by decide +kernel
theorem d28_1 : decode prog_49_method_8_code 1 = .ok (.getfield 17, 3) := by decide +kernel
theorem d28_4 : decode prog_49_method_8_code 4 = .ok (.lreturn, 1) := by decide +kernel
theorem m203 : (Jvm.Cond.code (⟨z2, "now", "()J"⟩ : MethodName) prog_49_method_8_code (1 : Nat) (Option.some FieldType.long)) ∈ tables_1 := List.mem_of_getElem? (i := 203) rfl
theorem pd380 : parseMethodDescriptor "()J" = some ⟨[], some .long⟩ := by decide +kernel
theorem m200 : (Jvm.Cond.declares (⟨z2, "now", "()J"⟩ : MethodName)) ∈ tables_1 := List.mem_of_getElem? (i := 200) rfl
theorem m201 : (Jvm.Cond.instanceMethod (⟨z2, "now", "()J"⟩ : MethodName)) ∈ tables_1 := List.mem_of_getElem? (i := 201) rfl
theorem m204 : (Jvm.Cond.methodLink z14 (44 : Nat) (⟨z2, "pageSize", "()I"⟩ : MethodName)) ∈ tables_1 := List.mem_of_getElem? (i := 204) rfl
theorem m207 : (Jvm.Cond.selects z2 (⟨z2, "pageSize", "()I"⟩ : MethodName) (⟨z2, "pageSize", "()I"⟩ : MethodName)) ∈ tables_1 := List.mem_of_getElem? (i := 207) rfl
theorem d29_0 : decode prog_49_method_9_code 0 = .ok (.aload_n 0, 1) := by decide +kernel
theorem d29_1 : decode prog_49_method_9_code 1 = .ok (.getfield 21, 3) := by decide +kernel
theorem d29_4 : decode prog_49_method_9_code 4 = .ok (.ireturn, 1) := by decide +kernel
theorem m208 : (Jvm.Cond.code (⟨z2, "pageSize", "()I"⟩ : MethodName) prog_49_method_9_code (1 : Nat) (Option.some FieldType.int)) ∈ tables_1 := List.mem_of_getElem? (i := 208) rfl
theorem m205 : (Jvm.Cond.declares (⟨z2, "pageSize", "()I"⟩ : MethodName)) ∈ tables_1 := List.mem_of_getElem? (i := 205) rfl
theorem m206 : (Jvm.Cond.instanceMethod (⟨z2, "pageSize", "()I"⟩ : MethodName)) ∈ tables_1 := List.mem_of_getElem? (i := 206) rfl
theorem m209 : (Jvm.Cond.methodLink z14 (48 : Nat) (⟨z2, z16, z19⟩ : MethodName)) ∈ tables_1 := List.mem_of_getElem? (i := 209) rfl
theorem m212 : (Jvm.Cond.selects z2 (⟨z2, z16, z19⟩ : MethodName) (⟨z2, z16, z19⟩ : MethodName)) ∈ tables_1 := List.mem_of_getElem? (i := 212) rfl
theorem d30_0 : decode prog_49_method_10_code 0 = .ok (.aload_n 0, 1) := by decide +kernel
theorem d30_1 : decode prog_49_method_10_code 1 = .ok (.getfield 25, 3) := by decide +kernel
theorem d30_4 : decode prog_49_method_10_code 4 = .ok (.areturn, 1) := by decide +kernel
theorem m213 : (Jvm.Cond.code (⟨z2, z16, z19⟩ : MethodName) prog_49_method_10_code (1 : Nat) (Option.some (FieldType.object z7))) ∈ tables_1 := List.mem_of_getElem? (i := 213) rfl
theorem m210 : (Jvm.Cond.declares (⟨z2, z16, z19⟩ : MethodName)) ∈ tables_1 := List.mem_of_getElem? (i := 210) rfl
theorem m211 : (Jvm.Cond.instanceMethod (⟨z2, z16, z19⟩ : MethodName)) ∈ tables_1 := List.mem_of_getElem? (i := 211) rfl
theorem m214 : (Jvm.Cond.fieldLink z14 (17 : Nat) z0 "UNSET" z13) ∈ tables_1 := List.mem_of_getElem? (i := 214) rfl
theorem ef400 (m : MethodId) (x0 : Addr) (x1 : Addr) (x3 : Int32) (x4 : Addr) : entryFrame m #[(.ref x0), (.ref x1), .null, (.int x3), (.ref x4)] 5 = mkF m 0 #[.val (.ref x0), .val (.ref x1), sN, .val (.int x3), .val (.ref x4)] [] := by first | (simp [entryFrame, mkF, argsToLocals, Value.category]; done) | rfl
theorem ef401 (m : MethodId) (x0 : Addr) (x1 : Addr) (x2 : Addr) (x3 : Int64) (x4 : Int32) (x5 : Addr) : entryFrame m #[(.ref x0), (.ref x1), (.ref x2), (.long x3), (.int x4), (.ref x5)] 7 = mkF m 0 #[.val (.ref x0), .val (.ref x1), .val (.ref x2), .val (.long x3), .second, .val (.int x4), .val (.ref x5)] [] := by first | (simp [entryFrame, mkF, argsToLocals, Value.category]; done) | rfl
theorem m33 : (Jvm.Cond.methodLink z14 (13 : Nat) (⟨z1, "add", z29⟩ : MethodName)) ∈ tables_1 := List.mem_of_getElem? (i := 33) rfl
theorem m36 : (Jvm.Cond.selects z1 (⟨z1, "add", z29⟩ : MethodName) (⟨z1, "add", z29⟩ : MethodName)) ∈ tables_1 := List.mem_of_getElem? (i := 36) rfl
theorem d6_0 : decode jdk_38_method_25_code 0 = .ok (.aload_n 0, 1) := by decide +kernel
theorem d6_1 : decode jdk_38_method_25_code 1 = .ok (.dup, 1) := by decide +kernel
theorem d6_2 : decode jdk_38_method_25_code 2 = .ok (.getfield 63, 3) := by decide +kernel
theorem m38 : (Jvm.Cond.fieldLink z1 (63 : Nat) z1 "modCount" "I") ∈ tables_1 := List.mem_of_getElem? (i := 38) rfl
theorem m39 : (Jvm.Cond.sameField z1 z9 "modCount" "I") ∈ tables_1 := List.mem_of_getElem? (i := 39) rfl
theorem d6_5 : decode jdk_38_method_25_code 5 = .ok (.iconst 1, 1) := by decide +kernel
theorem d6_6 : decode jdk_38_method_25_code 6 = .ok (.iadd, 1) := by decide +kernel
theorem d6_7 : decode jdk_38_method_25_code 7 = .ok (.putfield 63, 3) := by decide +kernel
theorem d6_10 : decode jdk_38_method_25_code 10 = .ok (.aload_n 0, 1) := by decide +kernel
theorem d6_11 : decode jdk_38_method_25_code 11 = .ok (.aload_n 1, 1) := by decide +kernel
theorem d6_12 : decode jdk_38_method_25_code 12 = .ok (.aload_n 0, 1) := by decide +kernel
theorem d6_13 : decode jdk_38_method_25_code 13 = .ok (.getfield 9, 3) := by decide +kernel
theorem d6_16 : decode jdk_38_method_25_code 16 = .ok (.aload_n 0, 1) := by decide +kernel
theorem d6_17 : decode jdk_38_method_25_code 17 = .ok (.getfield 48, 3) := by decide +kernel
theorem d6_20 : decode jdk_38_method_25_code 20 = .ok (.invokevirtual 131, 3) := by decide +kernel
theorem m42 : (Jvm.Cond.methodLink z1 (131 : Nat) (⟨z1, "add", z22⟩ : MethodName)) ∈ tables_1 := List.mem_of_getElem? (i := 42) rfl
theorem m45 : (Jvm.Cond.selects z1 (⟨z1, "add", z22⟩ : MethodName) (⟨z1, "add", z22⟩ : MethodName)) ∈ tables_1 := List.mem_of_getElem? (i := 45) rfl
theorem d7_0 : decode jdk_38_method_24_code 0 = .ok (.iload_n 3, 1) := by decide +kernel
theorem d7_1 : decode jdk_38_method_24_code 1 = .ok (.aload_n 2, 1) := by decide +kernel
theorem d7_2 : decode jdk_38_method_24_code 2 = .ok (.arraylength, 1) := by decide +kernel
theorem d7_3 : decode jdk_38_method_24_code 3 = .ok (.if_icmp .ne 8, 3) := by decide +kernel
theorem d7_6 : decode jdk_38_method_24_code 6 = .ok (.aload_n 0, 1) := by decide +kernel
theorem d7_7 : decode jdk_38_method_24_code 7 = .ok (.invokevirtual 129, 3) := by decide +kernel
theorem m47 : (Jvm.Cond.methodLink z1 (129 : Nat) (⟨z1, "grow", z21⟩ : MethodName)) ∈ tables_1 := List.mem_of_getElem? (i := 47) rfl
theorem m50 : (Jvm.Cond.selects z1 (⟨z1, "grow", z21⟩ : MethodName) (⟨z1, "grow", z21⟩ : MethodName)) ∈ tables_1 := List.mem_of_getElem? (i := 50) rfl
theorem d8_0 : decode jdk_38_method_7_code 0 = .ok (.aload_n 0, 1) := by decide +kernel
theorem d8_1 : decode jdk_38_method_7_code 1 = .ok (.aload_n 0, 1) := by decide +kernel
theorem d8_2 : decode jdk_38_method_7_code 2 = .ok (.getfield 48, 3) := by decide +kernel
theorem d8_5 : decode jdk_38_method_7_code 5 = .ok (.iconst 1, 1) := by decide +kernel
theorem d8_6 : decode jdk_38_method_7_code 6 = .ok (.iadd, 1) := by decide +kernel
theorem d8_7 : decode jdk_38_method_7_code 7 = .ok (.invokevirtual 69, 3) := by decide +kernel
theorem m52 : (Jvm.Cond.methodLink z1 (69 : Nat) (⟨z1, "grow", "(I)[Ljava/lang/Object;"⟩ : MethodName)) ∈ tables_1 := List.mem_of_getElem? (i := 52) rfl
theorem m55 : (Jvm.Cond.selects z1 (⟨z1, "grow", "(I)[Ljava/lang/Object;"⟩ : MethodName) (⟨z1, "grow", "(I)[Ljava/lang/Object;"⟩ : MethodName)) ∈ tables_1 := List.mem_of_getElem? (i := 55) rfl
theorem d9_0 : decode jdk_38_method_6_code 0 = .ok (.aload_n 0, 1) := by decide +kernel
theorem d9_1 : decode jdk_38_method_6_code 1 = .ok (.getfield 9, 3) := by decide +kernel
theorem d9_4 : decode jdk_38_method_6_code 4 = .ok (.arraylength, 1) := by decide +kernel
theorem d9_5 : decode jdk_38_method_6_code 5 = .ok (.istore_n 2, 1) := by decide +kernel
theorem d9_6 : decode jdk_38_method_6_code 6 = .ok (.iload_n 2, 1) := by decide +kernel
theorem d9_7 : decode jdk_38_method_6_code 7 = .ok (.ifCond .gt 13, 3) := by decide +kernel
theorem d9_10 : decode jdk_38_method_6_code 10 = .ok (.aload_n 0, 1) := by decide +kernel
theorem d9_11 : decode jdk_38_method_6_code 11 = .ok (.getfield 9, 3) := by decide +kernel
theorem d9_14 : decode jdk_38_method_6_code 14 = .ok (.getstatic 39, 3) := by decide +kernel
theorem d9_17 : decode jdk_38_method_6_code 17 = .ok (.if_acmp .eq 28, 3) := by decide +kernel
theorem d9_45 : decode jdk_38_method_6_code 45 = .ok (.aload_n 0, 1) := by decide +kernel
theorem d9_46 : decode jdk_38_method_6_code 46 = .ok (.bipush 10, 2) := by decide +kernel
theorem d9_48 : decode jdk_38_method_6_code 48 = .ok (.iload_n 1, 1) := by decide +kernel
theorem d9_49 : decode jdk_38_method_6_code 49 = .ok (.invokestatic 79, 3) := by decide +kernel
theorem m57 : (Jvm.Cond.methodLink z1 (79 : Nat) (⟨z31, "max", "(II)I"⟩ : MethodName)) ∈ tables_1 := List.mem_of_getElem? (i := 57) rfl
theorem d10_0 : decode jdk_29_method_65_code 0 = .ok (.iload_n 0, 1) := by decide +kernel
theorem d10_1 : decode jdk_29_method_65_code 1 = .ok (.iload_n 1, 1) := by decide +kernel
theorem d10_2 : decode jdk_29_method_65_code 2 = .ok (.if_icmp .lt 7, 3) := by decide +kernel
theorem d10_5 : decode jdk_29_method_65_code 5 = .ok (.iload_n 0, 1) := by decide +kernel
theorem d10_6 : decode jdk_29_method_65_code 6 = .ok (.goto 4, 3) := by decide +kernel
theorem d10_10 : decode jdk_29_method_65_code 10 = .ok (.ireturn, 1) := by decide +kernel
theorem m60 : (Jvm.Cond.code (⟨z31, "max", "(II)I"⟩ : MethodName) jdk_29_method_65_code (2 : Nat) (Option.some FieldType.int)) ∈ tables_1 := List.mem_of_getElem? (i := 60) rfl
theorem m58 : (Jvm.Cond.static (⟨z31, "max", "(II)I"⟩ : MethodName)) ∈ tables_1 := List.mem_of_getElem? (i := 58) rfl
theorem d9_52 : decode jdk_38_method_6_code 52 = .ok (.anewarray 7, 3) := by decide +kernel
theorem m61 : (Jvm.Cond.classLink z1 (7 : Nat) z4) ∈ tables_1 := List.mem_of_getElem? (i := 61) rfl
theorem d9_55 : decode jdk_38_method_6_code 55 = .ok (.dup_x1, 1) := by decide +kernel
theorem d9_56 : decode jdk_38_method_6_code 56 = .ok (.putfield 9, 3) := by decide +kernel
theorem d9_59 : decode jdk_38_method_6_code 59 = .ok (.areturn, 1) := by decide +kernel
theorem ef465 (m : MethodId) (x0 : Addr) (x1 : Int32) : entryFrame m #[(.ref x0), (.int x1)] 4 = mkF m 0 #[.val (.ref x0), .val (.int x1), .unset, .unset] [] := by first | (simp [entryFrame, mkF, argsToLocals, Value.category]; done) | rfl
theorem m56 : (Jvm.Cond.code (⟨z1, "grow", "(I)[Ljava/lang/Object;"⟩ : MethodName) jdk_38_method_6_code (4 : Nat) (Option.some (FieldType.array (FieldType.object z4)))) ∈ tables_1 := List.mem_of_getElem? (i := 56) rfl
theorem pd467 : parseMethodDescriptor "(I)[Ljava/lang/Object;" = some ⟨[.int], some (.array (.object z4))⟩ := by decide +kernel
theorem m53 : (Jvm.Cond.instanceMethod (⟨z1, "grow", "(I)[Ljava/lang/Object;"⟩ : MethodName)) ∈ tables_1 := List.mem_of_getElem? (i := 53) rfl
theorem m54 : (Jvm.Cond.privateMethod (⟨z1, "grow", "(I)[Ljava/lang/Object;"⟩ : MethodName)) ∈ tables_1 := List.mem_of_getElem? (i := 54) rfl
theorem d8_10 : decode jdk_38_method_7_code 10 = .ok (.areturn, 1) := by decide +kernel
theorem m51 : (Jvm.Cond.code (⟨z1, "grow", z21⟩ : MethodName) jdk_38_method_7_code (1 : Nat) (Option.some (FieldType.array (FieldType.object z4)))) ∈ tables_1 := List.mem_of_getElem? (i := 51) rfl
theorem m48 : (Jvm.Cond.instanceMethod (⟨z1, "grow", z21⟩ : MethodName)) ∈ tables_1 := List.mem_of_getElem? (i := 48) rfl
theorem m49 : (Jvm.Cond.privateMethod (⟨z1, "grow", z21⟩ : MethodName)) ∈ tables_1 := List.mem_of_getElem? (i := 49) rfl
theorem d7_10 : decode jdk_38_method_24_code 10 = .ok (.astore_n 2, 1) := by decide +kernel
theorem d7_11 : decode jdk_38_method_24_code 11 = .ok (.aload_n 2, 1) := by decide +kernel
theorem d7_12 : decode jdk_38_method_24_code 12 = .ok (.iload_n 3, 1) := by decide +kernel
theorem d7_13 : decode jdk_38_method_24_code 13 = .ok (.aload_n 1, 1) := by decide +kernel
theorem d7_14 : decode jdk_38_method_24_code 14 = .ok (.aastore, 1) := by decide +kernel
theorem m216 : (Jvm.Cond.castable "java/nio/HeapByteBufferR" z4) ∈ tables_1 := List.mem_of_getElem? (i := 216) rfl
theorem d7_15 : decode jdk_38_method_24_code 15 = .ok (.aload_n 0, 1) := by decide +kernel
theorem d7_16 : decode jdk_38_method_24_code 16 = .ok (.iload_n 3, 1) := by decide +kernel
theorem d7_17 : decode jdk_38_method_24_code 17 = .ok (.iconst 1, 1) := by decide +kernel
theorem d7_18 : decode jdk_38_method_24_code 18 = .ok (.iadd, 1) := by decide +kernel
theorem d7_19 : decode jdk_38_method_24_code 19 = .ok (.putfield 48, 3) := by decide +kernel
theorem d7_22 : decode jdk_38_method_24_code 22 = .ok (.return_, 1) := by decide +kernel
theorem ef486 (m : MethodId) (x0 : Addr) (x1 : Addr) (x2 : Addr) (x3 : Int32) : entryFrame m #[(.ref x0), (.ref x1), (.ref x2), (.int x3)] 4 = mkF m 0 #[.val (.ref x0), .val (.ref x1), .val (.ref x2), .val (.int x3)] [] := by first | (simp [entryFrame, mkF, argsToLocals, Value.category]; done) | rfl
theorem m46 : (Jvm.Cond.code (⟨z1, "add", z22⟩ : MethodName) jdk_38_method_24_code (4 : Nat) (Option.none : Option Jvm.ClassFile.FieldType)) ∈ tables_1 := List.mem_of_getElem? (i := 46) rfl
theorem pd488 : parseMethodDescriptor z22 = some ⟨[(.object z4), (.array (.object z4)), .int], none⟩ := by decide +kernel
theorem m43 : (Jvm.Cond.instanceMethod (⟨z1, "add", z22⟩ : MethodName)) ∈ tables_1 := List.mem_of_getElem? (i := 43) rfl
theorem m44 : (Jvm.Cond.privateMethod (⟨z1, "add", z22⟩ : MethodName)) ∈ tables_1 := List.mem_of_getElem? (i := 44) rfl
theorem d6_23 : decode jdk_38_method_25_code 23 = .ok (.iconst 1, 1) := by decide +kernel
theorem d6_24 : decode jdk_38_method_25_code 24 = .ok (.ireturn, 1) := by decide +kernel
theorem m37 : (Jvm.Cond.code (⟨z1, "add", z29⟩ : MethodName) jdk_38_method_25_code (2 : Nat) (Option.some FieldType.boolean)) ∈ tables_1 := List.mem_of_getElem? (i := 37) rfl
theorem pd494 : parseMethodDescriptor z29 = some ⟨[(.object z4)], some .boolean⟩ := by decide +kernel
theorem m34 : (Jvm.Cond.declares (⟨z1, "add", z29⟩ : MethodName)) ∈ tables_1 := List.mem_of_getElem? (i := 34) rfl
theorem m35 : (Jvm.Cond.instanceMethod (⟨z1, "add", z29⟩ : MethodName)) ∈ tables_1 := List.mem_of_getElem? (i := 35) rfl
theorem d17_9 : decode jdk_29_method_69_code 9 = .ok (.iload_n 1, 1) := by decide +kernel
theorem d13_21 : decode jdk_38_method_3_code 21 = .ok (.aload_n 1, 1) := by decide +kernel
theorem d13_22 : decode jdk_38_method_3_code 22 = .ok (.invokeinterface 52 1, 5) := by decide +kernel
theorem m217 : (Jvm.Cond.methodLink z1 (52 : Nat) (⟨z26, "getClass", z25⟩ : MethodName)) ∈ tables_1 := List.mem_of_getElem? (i := 217) rfl
theorem m218 : (Jvm.Cond.interfaceMethod z26 z4 "getClass" z25) ∈ tables_1 := List.mem_of_getElem? (i := 218) rfl
theorem m219 : (Jvm.Cond.selects z1 (⟨z26, "getClass", z25⟩ : MethodName) (⟨z4, "getClass", z25⟩ : MethodName)) ∈ tables_1 := List.mem_of_getElem? (i := 219) rfl
theorem d13_27 : decode jdk_38_method_3_code 27 = .ok (.ldc 10, 2) := by decide +kernel
theorem m220 : (Jvm.Cond.classLink z1 (10 : Nat) z1) ∈ tables_1 := List.mem_of_getElem? (i := 220) rfl
theorem d13_29 : decode jdk_38_method_3_code 29 = .ok (.if_acmp .ne 11, 3) := by decide +kernel
theorem d13_32 : decode jdk_38_method_3_code 32 = .ok (.aload_n 0, 1) := by decide +kernel
theorem d13_33 : decode jdk_38_method_3_code 33 = .ok (.aload_n 2, 1) := by decide +kernel
theorem d13_34 : decode jdk_38_method_3_code 34 = .ok (.putfield 9, 3) := by decide +kernel
theorem d13_37 : decode jdk_38_method_3_code 37 = .ok (.goto 27, 3) := by decide +kernel
theorem ef510 (m : MethodId) (x0 : Addr) (x2 : Addr) (x3 : Int32) : entryFrame m #[(.ref x0), .null, (.ref x2), (.int x3)] 4 = mkF m 0 #[.val (.ref x0), sN, .val (.ref x2), .val (.int x3)] [] := by first | (simp [entryFrame, mkF, argsToLocals, Value.category]; done) | rfl
theorem ef511 (m : MethodId) (x0 : Addr) : entryFrame m #[(.ref x0), .null] 2 = mkF m 0 #[.val (.ref x0), sN] [] := by first | (simp [entryFrame, mkF, argsToLocals, Value.category]; done) | rfl
theorem pn512 : plainName z14 = true := by first | (simp [plainName, overriddenIn]; done) | decide +kernel
theorem ef513 (m : MethodId) (x0 : Int64) (x1 : Int32) (x2 : Int32) : entryFrame m #[(.long x0), (.int x1), (.int x2)] maxLocals = mkF m 0 #[.val (.long x0), .second, .val (.int x1), .val (.int x2), .unset, .unset, .unset, .unset, .unset, .unset] [] := by first | (simp [entryFrame, mkF, argsToLocals, Value.category, maxLocals]; done) | rfl
theorem m215 : (Jvm.Cond.laysStatic z0 "UNSET" z13) ∈ tables_1 := List.mem_of_getElem? (i := 215) rfl
theorem j2 : (Jvm.Cond.laysStatic z1 "DEFAULTCAPACITY_EMPTY_ELEMENTDATA" z3) ∈ jdkStatics_1 := List.mem_of_getElem? (i := 2) rfl
theorem j1 : (Jvm.Cond.initializedFor z1 "EMPTY_ELEMENTDATA" z3) ∈ jdkStatics_1 := List.mem_of_getElem? (i := 1) rfl
def Cx (Z : State) (a0 : Array Value) (w0 : Addr) (w1 : Addr) (kw1 : ClassId) (w2 : Addr) (kw2 : ClassId) (mr1 : Addr) (mr2 : Addr) (mr3 : Addr) (mr4 : Addr) : Prop := (∀ d ∈ tables_1, d.before a0 Z = true) ∧ (∀ d ∈ jdkStatics_1, d.before a0 Z = true) ∧ SF Z w0 w1 kw1 w2 kw2 mr1 mr2 mr3 mr4
variable {l : Launch} {Z : State} {a0 : Array Value} {h0 : Heap} {n0 : Nat} {w0 : Addr} {w1 : Addr} {kw1 : ClassId} {w2 : Addr} {kw2 : ClassId} {mr1 : Addr} {mr2 : Addr} {mr3 : Addr} {mr4 : Addr}
theorem cw0 (cx : Cx Z a0 w0 w1 kw1 w2 kw2 mr1 mr2 mr3 mr4) : WI Z a0 z14 9 ⟨z8, "<init>", "()V"⟩ prog_40_method_1_code 1 [] := ⟨(cx.1 _ m3), (cx.1 _ m4), (cx.1 _ m2), (cx.1 _ m5), by decide, pd13, rfl⟩
theorem cw1 (cx : Cx Z a0 w0 w1 kw1 w2 kw2 mr1 mr2 mr3 mr4) : WI Z a0 z9 1 ⟨"java/util/AbstractCollection", "<init>", "()V"⟩ jdk_22_method_1_code 1 [] := ⟨(cx.1 _ m21), (cx.1 _ m22), (cx.1 _ m25), (cx.1 _ m26), by decide, pd13, rfl⟩
theorem cw2 (cx : Cx Z a0 w0 w1 kw1 w2 kw2 mr1 mr2 mr3 mr4) : WI Z a0 z1 1 ⟨z9, "<init>", "()V"⟩ jdk_39_method_1_code 1 [] := ⟨(cx.1 _ m15), (cx.1 _ m16), (cx.1 _ m19), (cx.1 _ m20), by decide, pd13, rfl⟩
theorem cw3 (cx : Cx Z a0 w0 w1 kw1 w2 kw2 mr1 mr2 mr3 mr4) : WI Z a0 z14 12 ⟨z1, "<init>", "()V"⟩ jdk_38_method_2_code 1 [] := ⟨(cx.1 _ m12), (cx.1 _ m13), (cx.1 _ m11), (cx.1 _ m14), by decide, pd13, rfl⟩
theorem cw4 (cx : Cx Z a0 w0 w1 kw1 w2 kw2 mr1 mr2 mr3 mr4) : WI Z a0 z0 1 ⟨z32, "<init>", "()V"⟩ jdk_30_method_1_code 1 [] := ⟨(cx.1 _ m69), (cx.1 _ m70), (cx.1 _ m72), (cx.1 _ m73), by decide, pd13, rfl⟩
theorem cw5 (cx : Cx Z a0 w0 w1 kw1 w2 kw2 mr1 mr2 mr3 mr4) : WS Z a0 z23 304 ⟨z31, "min", "(II)I"⟩ jdk_29_method_69_code 2 (some .int) [.int, .int] (some .int) := ⟨(cx.1 _ m103), (cx.1 _ m104), (cx.1 _ m59), (cx.1 _ m105), by decide, pd132⟩
theorem cw6 (cx : Cx Z a0 w0 w1 kw1 w2 kw2 mr1 mr2 mr3 mr4) : WS Z a0 z23 300 ⟨z23, "copyOf", "([Ljava/lang/Object;ILjava/lang/Class;)[Ljava/lang/Object;"⟩ jdk_65_method_120_code 4 (some (.array (.object z4))) [(.array (.object z4)), .int, (.object "java/lang/Class")] (some (.array (.object z4))) := ⟨(cx.1 _ m98), (cx.1 _ m99), (cx.1 _ m90), (cx.1 _ m100), by decide, pd145⟩
theorem cw7 (cx : Cx Z a0 w0 w1 kw1 w2 kw2 mr1 mr2 mr3 mr4) : WS Z a0 z1 66 ⟨z23, "copyOf", "([Ljava/lang/Object;I)[Ljava/lang/Object;"⟩ jdk_65_method_119_code 2 (some (.array (.object z4))) [(.array (.object z4)), .int] (some (.array (.object z4))) := ⟨(cx.1 _ m88), (cx.1 _ m89), (cx.1 _ m90), (cx.1 _ m91), by decide, pd150⟩
theorem cw8 (cx : Cx Z a0 w0 w1 kw1 w2 kw2 mr1 mr2 mr3 mr4) : WI Z a0 z0 9 ⟨z1, "<init>", z27⟩ jdk_38_method_3_code 3 [(.object z26)] := ⟨(cx.1 _ m76), (cx.1 _ m77), (cx.1 _ m11), (cx.1 _ m78), by decide, pd175, rfl⟩
theorem cw9 (cx : Cx Z a0 w0 w1 kw1 w2 kw2 mr1 mr2 mr3 mr4) : WI Z a0 z12 1 ⟨z11, "<init>", z27⟩ jdk_119_method_1_code 2 [(.object z26)] := ⟨(cx.1 _ m140), (cx.1 _ m141), (cx.1 _ m144), (cx.1 _ m145), by decide, pd175, rfl⟩
theorem cw10 (cx : Cx Z a0 w0 w1 kw1 w2 kw2 mr1 mr2 mr3 mr4) : WI Z a0 z10 1 ⟨z12, "<init>", z30⟩ jdk_120_method_1_code 2 [(.object z5)] := ⟨(cx.1 _ m134), (cx.1 _ m135), (cx.1 _ m138), (cx.1 _ m139), by decide, pd241, rfl⟩
theorem cw11 (cx : Cx Z a0 w0 w1 kw1 w2 kw2 mr1 mr2 mr3 mr4) : WI Z a0 z28 217 ⟨z10, "<init>", z30⟩ jdk_121_method_1_code 2 [(.object z5)] := ⟨(cx.1 _ m131), (cx.1 _ m132), (cx.1 _ m130), (cx.1 _ m133), by decide, pd241, rfl⟩
theorem cw12 (cx : Cx Z a0 w0 w1 kw1 w2 kw2 mr1 mr2 mr3 mr4) : WS Z a0 z0 12 ⟨z28, "unmodifiableList", "(Ljava/util/List;)Ljava/util/List;"⟩ jdk_79_method_35_code 1 (some (.object z5)) [(.object z5)] (some (.object z5)) := ⟨(cx.1 _ m111), (cx.1 _ m112), (cx.1 _ m113), (cx.1 _ m114), by decide, pd252⟩
theorem cw13 (cx : Cx Z a0 w0 w1 kw1 w2 kw2 mr1 mr2 mr3 mr4) : WI Z a0 z14 23 ⟨z0, "<init>", z18⟩ prog_44_method_1_code 5 [(.object z5), (.object z5), .int, (.object z7)] := ⟨(cx.1 _ m66), (cx.1 _ m67), (cx.1 _ m65), (cx.1 _ m68), by decide, pd282, rfl⟩
theorem cw14 (cx : Cx Z a0 w0 w1 kw1 w2 kw2 mr1 mr2 mr3 mr4) : WV Z a0 z2 29 z0 ⟨z0, "pageSize", "()I"⟩ prog_44_method_10_code 1 (some .int) [] (some .int) := ⟨(cx.1 _ m165), (cx.1 _ m166), (cx.1 _ m168), (cx.1 _ m167), (cx.1 _ m65), (cx.1 _ m169), by decide, pd306⟩
theorem cw15 (cx : Cx Z a0 w0 w1 kw1 w2 kw2 mr1 mr2 mr3 mr4) : WV Z a0 z2 34 z0 ⟨z0, z16, z19⟩ prog_44_method_11_code 1 (some (.object z7)) [] (some (.object z7)) := ⟨(cx.1 _ m170), (cx.1 _ m171), (cx.1 _ m173), (cx.1 _ m172), (cx.1 _ m65), (cx.1 _ m174), by decide, pd317⟩
theorem cw16 (cx : Cx Z a0 w0 w1 kw1 w2 kw2 mr1 mr2 mr3 mr4) : WI Z a0 z2 1 ⟨z32, "<init>", "()V"⟩ jdk_30_method_1_code 1 [] := ⟨(cx.1 _ m178), (cx.1 _ m70), (cx.1 _ m72), (cx.1 _ m73), by decide, pd13, rfl⟩
theorem cw17 (cx : Cx Z a0 w0 w1 kw1 w2 kw2 mr1 mr2 mr3 mr4) : WI Z a0 z2 37 ⟨z2, "<init>", "(Lcom/example/key3/key3/cql/ClientState;Ljava/util/List;JILjava/nio/ByteBuffer;)V"⟩ prog_49_method_1_code 7 [(.object z8), (.object z5), .long, .int, (.object z7)] := ⟨(cx.1 _ m175), (cx.1 _ m176), (cx.1 _ m161), (cx.1 _ m177), by decide, pd349, rfl⟩
theorem cw18 (cx : Cx Z a0 w0 w1 kw1 w2 kw2 mr1 mr2 mr3 mr4) : WS Z a0 z14 26 ⟨z2, "of", "(Lcom/example/key3/key3/cql/ClientState;Ljava/util/List;JLcom/example/key3/key3/cql/Parameters;)Lcom/example/key3/key3/cql/Request;"⟩ prog_49_method_2_code 5 (some (.object z2)) [(.object z8), (.object z5), .long, (.object z0)] (some (.object z2)) := ⟨(cx.1 _ m159), (cx.1 _ m160), (cx.1 _ m161), (cx.1 _ m162), by decide, pd354⟩
theorem cw19 (cx : Cx Z a0 w0 w1 kw1 w2 kw2 mr1 mr2 mr3 mr4) : WV Z a0 z14 32 z2 ⟨z2, "state", z24⟩ prog_49_method_6_code 1 (some (.object z8)) [] (some (.object z8)) := ⟨(cx.1 _ m189), (cx.1 _ m190), (cx.1 _ m192), (cx.1 _ m191), (cx.1 _ m161), (cx.1 _ m193), by decide, pd362⟩
theorem cw20 (cx : Cx Z a0 w0 w1 kw1 w2 kw2 mr1 mr2 mr3 mr4) : WV Z a0 z14 36 z2 ⟨z2, "values", z33⟩ prog_49_method_7_code 1 (some (.object z5)) [] (some (.object z5)) := ⟨(cx.1 _ m194), (cx.1 _ m195), (cx.1 _ m197), (cx.1 _ m196), (cx.1 _ m161), (cx.1 _ m198), by decide, pd371⟩
theorem cw21 (cx : Cx Z a0 w0 w1 kw1 w2 kw2 mr1 mr2 mr3 mr4) : WV Z a0 z14 40 z2 ⟨z2, "now", "()J"⟩ prog_49_method_8_code 1 (some .long) [] (some .long) := ⟨(cx.1 _ m199), (cx.1 _ m200), (cx.1 _ m202), (cx.1 _ m201), (cx.1 _ m161), (cx.1 _ m203), by decide, pd380⟩
theorem cw22 (cx : Cx Z a0 w0 w1 kw1 w2 kw2 mr1 mr2 mr3 mr4) : WV Z a0 z14 44 z2 ⟨z2, "pageSize", "()I"⟩ prog_49_method_9_code 1 (some .int) [] (some .int) := ⟨(cx.1 _ m204), (cx.1 _ m205), (cx.1 _ m207), (cx.1 _ m206), (cx.1 _ m161), (cx.1 _ m208), by decide, pd306⟩
theorem cw23 (cx : Cx Z a0 w0 w1 kw1 w2 kw2 mr1 mr2 mr3 mr4) : WV Z a0 z14 48 z2 ⟨z2, z16, z19⟩ prog_49_method_10_code 1 (some (.object z7)) [] (some (.object z7)) := ⟨(cx.1 _ m209), (cx.1 _ m210), (cx.1 _ m212), (cx.1 _ m211), (cx.1 _ m161), (cx.1 _ m213), by decide, pd317⟩
theorem cw24 (cx : Cx Z a0 w0 w1 kw1 w2 kw2 mr1 mr2 mr3 mr4) : WS Z a0 z1 79 ⟨z31, "max", "(II)I"⟩ jdk_29_method_65_code 2 (some .int) [.int, .int] (some .int) := ⟨(cx.1 _ m57), (cx.1 _ m58), (cx.1 _ m59), (cx.1 _ m60), by decide, pd132⟩
theorem cw25 (cx : Cx Z a0 w0 w1 kw1 w2 kw2 mr1 mr2 mr3 mr4) : WV Z a0 z14 13 z1 ⟨z1, "add", z29⟩ jdk_38_method_25_code 2 (some .boolean) [(.object z4)] (some .boolean) := ⟨(cx.1 _ m33), (cx.1 _ m34), (cx.1 _ m36), (cx.1 _ m35), (cx.1 _ m11), (cx.1 _ m37), by decide, pd494⟩
def Qrm1 (Z : State) (h0 : Heap) (n0 : Nat) (v : Option Value) (h : Heap) (L : List Loc) : Prop := v = none ∧ Fr n0 L ∧ h = h0
theorem rm1 (cx : Cx Z a0 w0 w1 kw1 w2 kw2 mr1 mr2 mr3 mr4) (a1 : Addr) (O0 : Old Z n0 h0) : Ct l Z ⟨z8, "<init>", "()V"⟩ prog_40_method_1_code 1 none ⟨1, 0, 0, 12⟩ #[(vR a1)] h0 (Qrm1 Z h0 n0) := by
  obtain ⟨hw, hj, hS⟩ := id cx
  refine own_bd (plainFor_of_name pn11) (fun m => ef10 m a1) fun p e s m below meth c s₁ hret hlk hZ hx hby hml hown hnm X0 e0 => ?_
  have N0 := Fr.nil n0
  obtain ⟨T1, X1, e1, st1⟩ := initO X0 hx hZ hown (hw _ m6) (hw _ m7) (hw _ m8) e0 (g := (mkF m 1 #[sR a1] [(vR a1)])) rfl (by rw [hml]; rfl) rfl (hb hby d1_1) (by decide) (W := 0) (Nat.le_of_eq rfl) (by decide)
  refine own_end X1 hlk (v := none) (fun _ => rfl) (by decide) (by rw [e1]; exact ⟨rfl, N0, rfl⟩) fun fs hr => ?_
  show St p e below s₁ (mkF m 0 #[sR a1] []) _
  refine wal X0 hx hby rfl d1_0 rfl rfl ?_
  refine st1 _ ?_
  exact X1.returnOut hx hret (hb hby d1_4) hr
def Qrm2 (Z : State) (h0 : Heap) (n0 : Nat) (v : Option Value) (h : Heap) (L : List Loc) : Prop := v = none ∧ Fr n0 L ∧ h = h0
theorem rm2 (cx : Cx Z a0 w0 w1 kw1 w2 kw2 mr1 mr2 mr3 mr4) (a1 : Addr) (O0 : Old Z n0 h0) : Ct l Z ⟨"java/util/AbstractCollection", "<init>", "()V"⟩ jdk_22_method_1_code 1 none ⟨1, 0, 0, 12⟩ #[(vR a1)] h0 (Qrm2 Z h0 n0) := by
  obtain ⟨hw, hj, hS⟩ := id cx
  refine own_bd (plainFor_of_name pn32) (fun m => ef10 m a1) fun p e s m below meth c s₁ hret hlk hZ hx hby hml hown hnm X0 e0 => ?_
  have N0 := Fr.nil n0
  obtain ⟨T1, X1, e1, st1⟩ := initO X0 hx hZ hown (hw _ m27) (hw _ m7) (hw _ m8) e0 (g := (mkF m 1 #[sR a1] [(vR a1)])) rfl (by rw [hml]; rfl) rfl (hb hby d5_1) (by decide) (W := 0) (Nat.le_of_eq rfl) (by decide)
  refine own_end X1 hlk (v := none) (fun _ => rfl) (by decide) (by rw [e1]; exact ⟨rfl, N0, rfl⟩) fun fs hr => ?_
  show St p e below s₁ (mkF m 0 #[sR a1] []) _
  refine wal X0 hx hby rfl d5_0 rfl rfl ?_
  refine st1 _ ?_
  exact X1.returnOut hx hret (hb hby d5_4) hr
def Qrm3 (Z : State) (a1 : Addr) (h0 : Heap) (n0 : Nat) (v : Option Value) (h : Heap) (L : List Loc) : Prop := v = none ∧ Fr n0 L ∧ Keep h0 h [a1] ∧ Fld Z h a1 z9 "modCount" "I" (vI 0) ∧ Fld Z h a1 z1 z15 z3 .null ∧ Fld Z h a1 z1 "size" "I" (vI 0)
theorem rm3 (cx : Cx Z a0 w0 w1 kw1 w2 kw2 mr1 mr2 mr3 mr4) (a1 : Addr) (O0 : Old Z n0 h0) (PE1 : Exa Z h0 a1 z1) (PF2 : Fld Z h0 a1 z9 "modCount" "I" (vI 0)) (PF3 : Fld Z h0 a1 z1 z15 z3 .null) (PF4 : Fld Z h0 a1 z1 "size" "I" (vI 0)) (gn5 : n0 ≤ a1) : Ct l Z ⟨z9, "<init>", "()V"⟩ jdk_39_method_1_code 1 none ⟨2, 0, 0, 24⟩ #[(vR a1)] h0 (Qrm3 Z a1 h0 n0) := by
  obtain ⟨hw, hj, hS⟩ := id cx
  refine own_bd (plainFor_of_name pn41) (fun m => ef10 m a1) fun p e s m below meth c s₁ hret hlk hZ hx hby hml hown hnm X0 e0 => ?_
  have N0 := Fr.nil n0
  obtain ⟨_, T1, L1, ⟨rfl, N1q, e1⟩, X1, st1⟩ := cI X0 hx hZ (W := 0) hown (cw1 cx) (rm2 cx a1 O0) e0 (g := (mkF m 1 #[sR a1] [(vR a1)])) rfl hml rfl (rest := []) rfl rfl rfl rfl (hb hby d4_1) (by decide)
  obtain ⟨T2, h2, L'2, X2, e2, W2, Fw2, O2, K2, N2, st2⟩ := own_put X1 hx hZ hown (host := "") (Or.inl (hw _ m28)) Via.refl e1 O0 (Keep.refl h0 [a1]) (Fr.app N0 N1q) gn5 (Or.inl (List.mem_of_getElem? (i := 0) rfl)) PF2 PE1 (Or.inl (hw _ m29)) (hw _ m10) (ty := .int) (by decide) rfl rfl (g := (mkF m 6 #[sR a1] [(vI 0), (vR a1)])) rfl rfl (hb hby d4_6)
  have f3 : Fld Z h2 a1 z1 z15 z3 .null := (PF3.other W2 (Or.inr (slot_ne (Or.inl (hw _ m32)) (Or.inl (hw _ m29)) (by decide) (t := (.array (.object z4))) (t' := .int) (by decide) (by decide))))
  have f4 : Fld Z h2 a1 z1 "size" "I" (vI 0) := (PF4.other W2 (Or.inr (slot_ne (Or.inl (hw _ m41)) (Or.inl (hw _ m29)) (by decide) (t := .int) (t' := .int) (by decide) (by decide))))
  refine own_end X2 hlk (v := none) (fun _ => rfl) (by decide) (by rw [e2]; exact ⟨rfl, N2, K2, Fw2, f3, f4⟩) fun fs hr => ?_
  show St p e below s₁ (mkF m 0 #[sR a1] []) _
  refine wal X0 hx hby rfl d4_0 rfl rfl ?_
  refine st1 _ ?_
  refine wal X1 hx hby rfl d4_4 rfl rfl ?_
  refine wic X1 hx hby rfl d4_5 ?_
  refine st2 _ ?_
  exact X2.returnOut hx hret (hb hby d4_9) hr
def Qrm4 (Z : State) (w1 : Addr) (a1 : Addr) (h0 : Heap) (n0 : Nat) (v : Option Value) (h : Heap) (L : List Loc) : Prop := v = none ∧ Fr n0 L ∧ Keep h0 h [a1] ∧ Fld Z h a1 z9 "modCount" "I" (vI 0) ∧ Fld Z h a1 z1 z15 z3 (vR w1) ∧ Fld Z h a1 z1 "size" "I" (vI 0)
theorem rm4 (cx : Cx Z a0 w0 w1 kw1 w2 kw2 mr1 mr2 mr3 mr4) (a1 : Addr) (O0 : Old Z n0 h0) (PE1 : Exa Z h0 a1 z1) (PF2 : Fld Z h0 a1 z9 "modCount" "I" (vI 0)) (PF3 : Fld Z h0 a1 z1 z15 z3 .null) (PF4 : Fld Z h0 a1 z1 "size" "I" (vI 0)) (gn5 : n0 ≤ a1) : Ct l Z ⟨z1, "<init>", "()V"⟩ jdk_38_method_2_code 1 none ⟨3, 0, 0, 36⟩ #[(vR a1)] h0 (Qrm4 Z w1 a1 h0 n0) := by
  obtain ⟨hw, hj, hS⟩ := id cx
  refine own_bd (plainFor_of_name pn51) (fun m => ef10 m a1) fun p e s m below meth c s₁ hret hlk hZ hx hby hml hown hnm X0 e0 => ?_
  have N0 := Fr.nil n0
  obtain ⟨_, T1, L1, ⟨rfl, N1q, Kq1, q1_0, q1_1, q1_2⟩, X1, st1⟩ := cI X0 hx hZ (W := 0) hown (cw2 cx) (rm3 cx a1 O0 PE1 PF2 PF3 PF4 gn5) e0 (g := (mkF m 1 #[sR a1] [(vR a1)])) rfl hml rfl (rest := []) rfl rfl rfl rfl (hb hby d3_1) (by decide)
  have N1 := Fr.app N0 N1q
  have O1 : Old Z n0 T1.heap := O0.keep Kq1 (allS gn5 all0)
  have K1 : Keep h0 T1.heap [a1] := (Keep.refl h0 [a1]).trans Kq1 (allS (Or.inl (List.mem_of_getElem? (i := 0) rfl)) all0)
  obtain ⟨T2, X2, e2, st2⟩ := getS2 X1 hx hZ hown (host := "") (Or.inl (hw _ m30)) Via.refl (rfl : T1.heap = T1.heap) (hS.2.2.1.ext O1.2) (g := (mkF m 5 #[sR a1] [(vR a1)])) rfl (hb hby d3_5)
  have f3 : Exa Z T1.heap a1 z1 := (PE1.keep Kq1)
  obtain ⟨T4, h4, L'4, X4, e4, W4, Fw4, O4, K4, N4, st4⟩ := own_put X2 hx hZ hown (host := "") (Or.inl (hw _ m31)) Via.refl e2 O1 K1 N1 gn5 (Or.inl (List.mem_of_getElem? (i := 0) rfl)) q1_1 f3 (Or.inl (hw _ m32)) (hw _ m10) (ty := (.array (.object z4))) (by decide) rfl rfl (g := (mkF m 8 #[sR a1] [(vR w1), (vR a1)])) rfl rfl (hb hby d3_8)
  have f5 : Fld Z h4 a1 z9 "modCount" "I" (vI 0) := (q1_0.other W4 (Or.inr (slot_ne (Or.inl (hw _ m29)) (Or.inl (hw _ m32)) (by decide) (t := .int) (t' := (.array (.object z4))) (by decide) (by decide))))
  have f6 : Fld Z h4 a1 z1 "size" "I" (vI 0) := (q1_2.other W4 (Or.inr (slot_ne (Or.inl (hw _ m41)) (Or.inl (hw _ m32)) (by decide) (t := .int) (t' := (.array (.object z4))) (by decide) (by decide))))
  refine own_end X4 hlk (v := none) (fun _ => rfl) (by decide) (by rw [e4]; exact ⟨rfl, N4, K4, f5, Fw4, f6⟩) fun fs hr => ?_
  show St p e below s₁ (mkF m 0 #[sR a1] []) _
  refine wal X0 hx hby rfl d3_0 rfl rfl ?_
  refine st1 _ ?_
  refine wal X1 hx hby rfl d3_4 rfl rfl ?_
  refine st2 _ ?_
  refine st4 _ ?_
  exact X4.returnOut hx hret (hb hby d3_11) hr
def Qrm5 (Z : State) (h0 : Heap) (n0 : Nat) (v : Option Value) (h : Heap) (L : List Loc) : Prop := v = none ∧ Fr n0 L ∧ h = h0
theorem rm5 (cx : Cx Z a0 w0 w1 kw1 w2 kw2 mr1 mr2 mr3 mr4) (a1 : Addr) (O0 : Old Z n0 h0) : Ct l Z ⟨z32, "<init>", "()V"⟩ jdk_30_method_1_code 1 none ⟨1, 0, 0, 12⟩ #[(vR a1)] h0 (Qrm5 Z h0 n0) := by
  obtain ⟨hw, hj, hS⟩ := id cx
  refine own_bd (plainFor_of_name pn70) (fun m => ef10 m a1) fun p e s m below meth c s₁ hret hlk hZ hx hby hml hown hnm X0 e0 => ?_
  have N0 := Fr.nil n0
  obtain ⟨T1, X1, e1, st1⟩ := initO X0 hx hZ hown (hw _ m74) (hw _ m7) (hw _ m8) e0 (g := (mkF m 1 #[sR a1] [(vR a1)])) rfl (by rw [hml]; rfl) rfl (hb hby d12_1) (by decide) (W := 0) (Nat.le_of_eq rfl) (by decide)
  refine own_end X1 hlk (v := none) (fun _ => rfl) (by decide) (by rw [e1]; exact ⟨rfl, N0, rfl⟩) fun fs hr => ?_
  show St p e below s₁ (mkF m 0 #[sR a1] []) _
  refine wal X0 hx hby rfl d12_0 rfl rfl ?_
  refine st1 _ ?_
  exact X1.returnOut hx hret (hb hby d12_4) hr
def Qrm6 (Z : State) (p1 : Int32) (h0 : Heap) (n0 : Nat) (v : Option Value) (h : Heap) (L : List Loc) : Prop := v = some (vI p1) ∧ Fr n0 L ∧ h = h0
theorem rm6 (cx : Cx Z a0 w0 w1 kw1 w2 kw2 mr1 mr2 mr3 mr4) (p1 : Int32) (O0 : Old Z n0 h0) : Ct l Z ⟨z31, "min", "(II)I"⟩ jdk_29_method_69_code 2 (some .int) ⟨0, 0, 0, 0⟩ #[(vI p1), (vI p1)] h0 (Qrm6 Z p1 h0 n0) := by
  obtain ⟨hw, hj, hS⟩ := id cx
  refine own_bd (Jvm.Free.JP.mathPlain rfl (by decide +kernel)) (fun m => ef129 m p1 p1) fun p e s m below meth c s₁ hret hlk hZ hx hby hml hown hnm X0 e0 => ?_
  have N0 := Fr.nil n0
  refine own_end X0 hlk (v := some (vI p1)) (own_hv hret) (by decide) (by rw [e0]; exact ⟨rfl, N0, rfl⟩) fun fs hr => ?_
  show St p e below s₁ (mkF m 0 #[sI p1, sI p1] []) _
  refine wil X0 hx hby rfl d17_0 rfl ?_
  refine wil X0 hx hby rfl d17_1 rfl ?_
  refine wcn X0 hx hby rfl d17_2 rfl (flt (own_irr _)).2.2.1 ?_
  refine wil X0 hx hby rfl d17_5 rfl ?_
  refine wgt X0 hx hby rfl (pc0 := 6) (pc' := 10) rfl d17_6 (by decide) (by decide) ?_
  exact retOut X0 hx hret rfl (Or.inl ⟨rfl, Or.inl rfl, _, rfl⟩) (hb hby d17_10) hr
def Qrm7 (Z : State) (h0 : Heap) (n0 : Nat) (v : Option Value) (h : Heap) (L : List Loc) : Prop := ∃ x0 : Addr, ∃ xk0 : ClassId, v = some (vR x0) ∧ Fr n0 L ∧ Keep h0 h [] ∧ h0.size ≤ x0 ∧ Arv Z h x0 xk0 (.object z4) (0 : Int32) [] .null ∧ Ovr Z xk0 z4 ∧ Exa Z h x0 z3
theorem rm7 (cx : Cx Z a0 w0 w1 kw1 w2 kw2 mr1 mr2 mr3 mr4) (O0 : Old Z n0 h0) : Ct l Z ⟨z23, "copyOf", "([Ljava/lang/Object;ILjava/lang/Class;)[Ljava/lang/Object;"⟩ jdk_65_method_120_code 4 (some (.array (.object z4))) ⟨1, 1, 0, 18⟩ #[(vR w1), (vI 0), (vR mr1)] h0 (Qrm7 Z h0 n0) := by
  obtain ⟨hw, hj, hS⟩ := id cx
  refine own_bd (plainFor_of_name pn142) (fun m => ef141 m w1 0 mr1) fun p e s m below meth c s₁ hret hlk hZ hx hby hml hown hnm X0 e0 => ?_
  have N0 := Fr.nil n0
  obtain ⟨T1, X1, e1, st1⟩ := own_ldcM X0 hx hZ hown (hw _ m101) hS.2.2.2.2.2.2.2.2.1 e0 (g := (mkF m 1 #[sR w1, sI 0, sR mr1, sU] [(vR mr1)])) rfl (hb hby d16_1)
  obtain ⟨T2, h2, k2, b2, X2, e2, E2, V2, O'2, A2, g2, O2, K2, st2⟩ := own_newRE X1 hx hZ (AC := z3) (vs := []) (cap := 0) rfl hown (hw _ m102) (hw _ m62) rfl e1 O0 (Keep.refl h0 []) (g := (mkF m 7 #[sR w1, sI 0, sR mr1, sU] [(vI 0)])) rfl (hb hby d16_7) rfl (by decide) (by decide) (by decide) (by decide) (by decide)
  obtain ⟨_, T3, L3, ⟨rfl, N3q, e3⟩, X3, st3⟩ := cS X2 hx hZ (W := 4) hown (cw5 cx) (rm6 cx 0 O2) e2 (g := (mkF m 32 #[sR w1, sI 0, sR mr1, sR b2] [(vI 0), (vI 0), (vI 0), (vR b2), (vI 0), (vR w1)])) rfl hml rfl (rest := [(vI 0), (vR b2), (vI 0), (vR w1)]) rfl rfl rfl rfl (hb hby d16_32) (by decide)
  obtain ⟨T4, h4, L'4, X4, e4, N4, Kq4, V4, st4⟩ := cpA X3 hx hZ hown (hw _ m106) (hw _ m109) (hw _ m107) (hw _ m108) e3 (hS.2.2.2.1.ext O2.2) V2 (us := []) (Or.inr ⟨rfl, rfl, trivial⟩) (by decide) (by decide) (by decide) (by decide) (by decide) rfl (by decide) (Fr.app N0 N3q) (Nat.le_trans (own_old_le O0) g2) (g := (mkF m 35 #[sR w1, sI 0, sR mr1, sR b2] [(vI 0), (vI 0), (vR b2), (vI 0), (vR w1)])) rfl (by rw [hml]; rfl) rfl (hb hby d16_35) (by decide) (W := 0) (Nat.le_of_eq rfl) (by decide)
  have O4 : Old Z n0 h4 := O2.keep Kq4 (allS (Nat.le_trans (own_old_le O0) g2) all0)
  have K4 : Keep h0 h4 [] := K2.trans Kq4 (allS (Or.inr (Nat.le_trans (Keep.refl h0 []).1 g2)) all0)
  have V4' : Arv Z h4 b2 k2 (.object z4) (0 : Int32) [] .null := V4
  have f5 : Exa Z h4 b2 z3 := (A2.keep Kq4)
  refine own_end X4 hlk (v := some (vR b2)) (own_hv hret) (by decide) (by rw [e4]; exact ⟨b2, k2, rfl, N4, K4, (Nat.le_trans (Keep.refl h0 []).1 g2), V4', O'2, f5⟩) fun fs hr => ?_
  show St p e below s₁ (mkF m 0 #[sR w1, sI 0, sR mr1, sU] []) _
  refine wal X0 hx hby rfl d16_0 rfl rfl ?_
  refine st1 _ ?_
  refine Jvm.RoadKit.acmp (g := (mkF m 3 #[sR w1, sI 0, sR mr1, sU] [(vR mr1), (vR mr1)])) X1 hx rfl rfl rfl (pc0 := 3) (pc' := 6) (same := true) rfl (hb hby d16_3) rfl (decide_eq_true rfl) (by decide) (by decide) ?_
  refine wil X1 hx hby rfl d16_6 rfl ?_
  refine st2 _ ?_
  refine wgt X2 hx hby rfl (pc0 := 10) (pc' := 24) rfl d16_10 (by decide) (by decide) ?_
  refine was X2 hx hby rfl d16_24 rfl rfl (l' := #[sR w1, sI 0, sR mr1, sR b2]) rfl ?_
  refine wal X2 hx hby rfl d16_25 rfl rfl ?_
  refine wic X2 hx hby rfl d16_26 ?_
  refine wal X2 hx hby rfl d16_27 rfl rfl ?_
  refine wic X2 hx hby rfl d16_28 ?_
  refine wal X2 hx hby rfl d16_29 rfl rfl ?_
  refine own_alen X2 hx hZ e2 (hS.2.2.2.1.ext O2.2) (g := (mkF m 30 #[sR w1, sI 0, sR mr1, sR b2] [(vR w1), (vI 0), (vR b2), (vI 0), (vR w1)])) rfl rfl (hb hby d16_30) ?_
  refine wil X2 hx hby rfl d16_31 rfl ?_
  refine st3 _ ?_
  refine st4 _ ?_
  show St p e below T4 (mkF m 38 #[sR w1, sI 0, sR mr1, sR b2] []) _
  refine wal X4 hx hby rfl d16_38 rfl rfl ?_
  exact retOut X4 hx hret rfl (Or.inr (Or.inr (Or.inr (Or.inr ⟨rfl, rfl, rfl⟩)))) (hb hby d16_39) hr
def Qrm8 (Z : State) (h0 : Heap) (n0 : Nat) (v : Option Value) (h : Heap) (L : List Loc) : Prop := ∃ x0 : Addr, ∃ xk0 : ClassId, v = some (vR x0) ∧ Fr n0 L ∧ Keep h0 h [] ∧ h0.size ≤ x0 ∧ Arv Z h x0 xk0 (.object z4) (0 : Int32) [] .null ∧ Ovr Z xk0 z4 ∧ Exa Z h x0 z3
theorem rm8 (cx : Cx Z a0 w0 w1 kw1 w2 kw2 mr1 mr2 mr3 mr4) (O0 : Old Z n0 h0) : Ct l Z ⟨z23, "copyOf", "([Ljava/lang/Object;I)[Ljava/lang/Object;"⟩ jdk_65_method_119_code 2 (some (.array (.object z4))) ⟨2, 1, 0, 33⟩ #[(vR w1), (vI 0)] h0 (Qrm8 Z h0 n0) := by
  obtain ⟨hw, hj, hS⟩ := id cx
  refine own_bd (plainFor_of_name pn142) (fun m => ef148 m w1 0) fun p e s m below meth c s₁ hret hlk hZ hx hby hml hown hnm X0 e0 => ?_
  have N0 := Fr.nil n0
  obtain ⟨T1, X1, e1, st1⟩ := own_gcls X0 hx hZ hown (hw _ m92) (hw _ m93) (hw _ m95) (hw _ m94) (hw _ m96) e0 (hS.2.2.2.2.1.ext O0.2) hS.2.2.2.2.2.2.2.2.1 (g := (mkF m 3 #[sR w1, sI 0] [(vR w1), (vI 0), (vR w1)])) rfl (by rw [hml]; rfl) rfl (hb hby d15_3) (by decide) (W := 2) (Nat.le_of_eq rfl) (by decide)
  obtain ⟨_, T2, L2, ⟨c2_0, k2_1, rfl, N2q, Kq2, lo2_0, q2_0, q2_1, q2_2⟩, X2, st2⟩ := cS X1 hx hZ (W := 0) hown (cw6 cx) (rm7 cx O0) e1 (g := (mkF m 6 #[sR w1, sI 0] [(vR mr1), (vI 0), (vR w1)])) rfl hml rfl (rest := []) rfl rfl rfl rfl (hb hby d15_6) (by decide)
  have N2 := Fr.app N0 N2q
  have O2 : Old Z n0 T2.heap := O0.keep Kq2 all0
  have K2 : Keep h0 T2.heap [] := (Keep.refl h0 []).trans Kq2 all0
  refine own_end X2 hlk (v := some (vR c2_0)) (own_hv hret) (by decide) ⟨c2_0, k2_1, rfl, N2, K2, (Nat.le_trans (Keep.refl h0 []).1 lo2_0), q2_0, q2_1, q2_2⟩ fun fs hr => ?_
  show St p e below s₁ (mkF m 0 #[sR w1, sI 0] []) _
  refine wal X0 hx hby rfl d15_0 rfl rfl ?_
  refine wil X0 hx hby rfl d15_1 rfl ?_
  refine wal X0 hx hby rfl d15_2 rfl rfl ?_
  refine st1 _ ?_
  refine st2 _ ?_
  exact retOut X2 hx hret rfl (Or.inr (Or.inr (Or.inr (Or.inr ⟨rfl, rfl, rfl⟩)))) (hb hby d15_9) hr
def Qrm9 (Z : State) (h0 : Heap) (n0 : Nat) (v : Option Value) (h : Heap) (L : List Loc) : Prop := ∃ x0 : Addr, ∃ xk0 : ClassId, v = some (vR x0) ∧ Fr n0 L ∧ Keep h0 h [] ∧ h0.size ≤ x0 ∧ Arv Z h x0 xk0 (.object z4) (0 : Int32) [] .null ∧ Ovr Z xk0 z4 ∧ Exa Z h x0 z3
theorem rm9 (cx : Cx Z a0 w0 w1 kw1 w2 kw2 mr1 mr2 mr3 mr4) (a1 : Addr) (O0 : Old Z n0 h0) (PF1 : Fld Z h0 a1 z1 z15 z3 (vR w1)) (PF2 : Fld Z h0 a1 z1 "size" "I" (vI 0)) : Ct l Z ⟨z1, "toArray", z21⟩ jdk_38_method_16_code 1 (some (.array (.object z4))) ⟨3, 1, 0, 46⟩ #[(vR a1)] h0 (Qrm9 Z h0 n0) := by
  obtain ⟨hw, hj, hS⟩ := id cx
  refine own_bd (plainFor_of_name pn51) (fun m => ef10 m a1) fun p e s m below meth c s₁ hret hlk hZ hx hby hml hown hnm X0 e0 => ?_
  have N0 := Fr.nil n0
  obtain ⟨T1, X1, e1, st1⟩ := getF X0 hx hZ hown (host := "") (Or.inl (hw _ m31)) Via.refl e0 PF1 (g := (mkF m 1 #[sR a1] [(vR a1)])) rfl rfl (hb hby d14_1)
  obtain ⟨T2, X2, e2, st2⟩ := getF X1 hx hZ hown (host := "") (Or.inl (hw _ m40)) Via.refl e1 PF2 (g := (mkF m 5 #[sR a1] [(vR a1), (vR w1)])) rfl rfl (hb hby d14_5)
  obtain ⟨_, T3, L3, ⟨c3_0, k3_1, rfl, N3q, Kq3, lo3_0, q3_0, q3_1, q3_2⟩, X3, st3⟩ := cS X2 hx hZ (W := 0) hown (cw7 cx) (rm8 cx O0) e2 (g := (mkF m 8 #[sR a1] [(vI 0), (vR w1)])) rfl hml rfl (rest := []) rfl rfl rfl rfl (hb hby d14_8) (by decide)
  have N3 := Fr.app N0 N3q
  have O3 : Old Z n0 T3.heap := O0.keep Kq3 all0
  have K3 : Keep h0 T3.heap [] := (Keep.refl h0 []).trans Kq3 all0
  refine own_end X3 hlk (v := some (vR c3_0)) (own_hv hret) (by decide) ⟨c3_0, k3_1, rfl, N3, K3, (Nat.le_trans (Keep.refl h0 []).1 lo3_0), q3_0, q3_1, q3_2⟩ fun fs hr => ?_
  show St p e below s₁ (mkF m 0 #[sR a1] []) _
  refine wal X0 hx hby rfl d14_0 rfl rfl ?_
  refine st1 _ ?_
  refine wal X1 hx hby rfl d14_4 rfl rfl ?_
  refine st2 _ ?_
  refine st3 _ ?_
  exact retOut X3 hx hret rfl (Or.inr (Or.inr (Or.inr (Or.inr ⟨rfl, rfl, rfl⟩)))) (hb hby d14_11) hr
def Qrm10 (Z : State) (w2 : Addr) (a1 : Addr) (h0 : Heap) (n0 : Nat) (v : Option Value) (h : Heap) (L : List Loc) : Prop := v = none ∧ Fr n0 L ∧ Keep h0 h [a1] ∧ Fld Z h a1 z9 "modCount" "I" (vI 0) ∧ Fld Z h a1 z1 z15 z3 (vR w2) ∧ Fld Z h a1 z1 "size" "I" (vI 0)
theorem rm10 (cx : Cx Z a0 w0 w1 kw1 w2 kw2 mr1 mr2 mr3 mr4) (a1 : Addr) (a2 : Addr) (O0 : Old Z n0 h0) (PE1 : Exa Z h0 a1 z1) (PF2 : Fld Z h0 a1 z9 "modCount" "I" (vI 0)) (PF3 : Fld Z h0 a1 z1 z15 z3 .null) (PF4 : Fld Z h0 a1 z1 "size" "I" (vI 0)) (gn5 : n0 ≤ a1) (PF6 : Fld Z h0 a2 z1 z15 z3 (vR w1)) (pne7 : a2 ≠ a1) (PF8 : Fld Z h0 a2 z1 "size" "I" (vI 0)) (PE9 : Exa Z h0 a2 z1) : Ct l Z ⟨z1, "<init>", z27⟩ jdk_38_method_3_code 3 none ⟨4, 1, 0, 58⟩ #[(vR a1), (vR a2)] h0 (Qrm10 Z w2 a1 h0 n0) := by
  obtain ⟨hw, hj, hS⟩ := id cx
  refine own_bd (plainFor_of_name pn51) (fun m => ef173 m a1 a2) fun p e s m below meth c s₁ hret hlk hZ hx hby hml hown hnm X0 e0 => ?_
  have N0 := Fr.nil n0
  obtain ⟨_, T1, L1, ⟨rfl, N1q, Kq1, q1_0, q1_1, q1_2⟩, X1, st1⟩ := cI X0 hx hZ (W := 0) hown (cw2 cx) (rm3 cx a1 O0 PE1 PF2 PF3 PF4 gn5) e0 (g := (mkF m 1 #[sR a1, sR a2, sU] [(vR a1)])) rfl hml rfl (rest := []) rfl rfl rfl rfl (hb hby d13_1) (by decide)
  have N1 := Fr.app N0 N1q
  have O1 : Old Z n0 T1.heap := O0.keep Kq1 (allS gn5 all0)
  have K1 : Keep h0 T1.heap [a1] := (Keep.refl h0 [a1]).trans Kq1 (allS (Or.inl (List.mem_of_getElem? (i := 0) rfl)) all0)
  have f3 : Fld Z T1.heap a2 z1 z15 z3 (vR w1) := (PF6.keep Kq1 (ninS pne7 nin0))
  have f4 : Fld Z T1.heap a2 z1 "size" "I" (vI 0) := (PF8.keep Kq1 (ninS pne7 nin0))
  have f5 : Exa Z T1.heap a2 z1 := (PE9.keep Kq1)
  obtain ⟨_, T2, L2, ⟨c2_0, k2_1, rfl, N2q, Kq2, lo2_0, q2_0, q2_1, q2_2⟩, X2, st2⟩ := own_iface X1 hx hZ (W := 0) hown (hw _ m79) (hw _ m80) (mvT hZ (hw _ m81)) (hw _ m82) (hw _ m83) (mvT hZ (hw _ m84)) (mvT hZ (hw _ m85)) (hw _ m86) (hw _ m11) (hw _ m87) (by decide) (rm9 cx a2 O1 f3 f4) (rfl : T1.heap = T1.heap) f5 (g := (mkF m 5 #[sR a1, sR a2, sU] [(vR a2)])) rfl hml rfl (rest := []) (lenOf pd154 rfl) rfl rfl rfl (hb hby d13_5) (by decide)
  have N2 := Fr.app N1 N2q
  have O2 : Old Z n0 T2.heap := O1.keep Kq2 all0
  have K2 : Keep h0 T2.heap [a1] := K1.trans Kq2 all0
  have f6 : Fld Z T2.heap a1 z1 "size" "I" (vI 0) := (q1_2.keep Kq2 nin0)
  have f7 : Exa Z T2.heap a1 z1 := ((PE1.keep Kq1).keep Kq2)
  obtain ⟨T8, h8, L'8, X8, e8, W8, Fw8, O8, K8, N8, st8⟩ := own_put X2 hx hZ hown (host := "") (Or.inl (hw _ m40)) Via.refl (rfl : T2.heap = T2.heap) O2 K2 N2 gn5 (Or.inl (List.mem_of_getElem? (i := 0) rfl)) f6 f7 (Or.inl (hw _ m41)) (hw _ m10) (ty := .int) (by decide) rfl rfl (g := (mkF m 15 #[sR a1, sR a2, sR c2_0] [(vI 0), (vR a1), (vI 0)])) rfl rfl (hb hby d13_15)
  obtain ⟨T9, X9, e9, st9⟩ := getS2 X8 hx hZ hown (host := "") (Or.inl (hw _ m110)) Via.refl e8 (hS.2.2.2.2.2.1.ext O8.2) (g := (mkF m 58 #[sR a1, sR a2, sR c2_0] [(vR a1)])) rfl (hb hby d13_58)
  have f10 : Fld Z h8 a1 z1 z15 z3 .null := ((q1_1.keep Kq2 nin0).other W8 (Or.inr (slot_ne (Or.inl (hw _ m32)) (Or.inl (hw _ m41)) (by decide) (t := (.array (.object z4))) (t' := .int) (by decide) (by decide))))
  have f11 : Exa Z h8 a1 z1 := (f7.wr W8)
  obtain ⟨T12, h12, L'12, X12, e12, W12, Fw12, O12, K12, N12, st12⟩ := own_put X9 hx hZ hown (host := "") (Or.inl (hw _ m31)) Via.refl e9 O8 K8 N8 gn5 (Or.inl (List.mem_of_getElem? (i := 0) rfl)) f10 f11 (Or.inl (hw _ m32)) (hw _ m10) (ty := (.array (.object z4))) (by decide) rfl rfl (g := (mkF m 61 #[sR a1, sR a2, sR c2_0] [(vR w2), (vR a1)])) rfl rfl (hb hby d13_61)
  have f13 : Fld Z h12 a1 z9 "modCount" "I" (vI 0) := (((q1_0.keep Kq2 nin0).other W8 (Or.inr (slot_ne (Or.inl (hw _ m29)) (Or.inl (hw _ m41)) (by decide) (t := .int) (t' := .int) (by decide) (by decide)))).other W12 (Or.inr (slot_ne (Or.inl (hw _ m29)) (Or.inl (hw _ m32)) (by decide) (t := .int) (t' := (.array (.object z4))) (by decide) (by decide))))
  have f14 : Fld Z h12 a1 z1 "size" "I" (vI 0) := (Fw8.other W12 (Or.inr (slot_ne (Or.inl (hw _ m41)) (Or.inl (hw _ m32)) (by decide) (t := .int) (t' := (.array (.object z4))) (by decide) (by decide))))
  refine own_end X12 hlk (v := none) (fun _ => rfl) (by decide) (by rw [e12]; exact ⟨rfl, N12, K12, f13, Fw12, f14⟩) fun fs hr => ?_
  show St p e below s₁ (mkF m 0 #[sR a1, sR a2, sU] []) _
  refine wal X0 hx hby rfl d13_0 rfl rfl ?_
  refine st1 _ ?_
  refine wal X1 hx hby rfl d13_4 rfl rfl ?_
  refine st2 _ ?_
  refine was X2 hx hby rfl d13_10 rfl rfl (l' := #[sR a1, sR a2, sR c2_0]) rfl ?_
  refine wal X2 hx hby rfl d13_11 rfl rfl ?_
  refine wal X2 hx hby rfl d13_12 rfl rfl ?_
  refine own_alen X2 hx hZ (rfl : T2.heap = T2.heap) q2_0 (g := (mkF m 13 #[sR a1, sR a2, sR c2_0] [(vR c2_0), (vR a1)])) rfl rfl (hb hby d13_13) ?_
  refine XS.dupX1 X2.here hx rfl (hb hby d13_14) rfl rfl rfl ?_
  refine st8 _ ?_
  refine wfy X8 hx hby rfl (pc0 := 18) (pc' := 57) rfl d13_18 rfl ((if0 _ _).trans (teq (by decide : (0 : Int32) = (0 : Int32))).1) (by decide) (by decide) ?_
  refine wal X8 hx hby rfl d13_57 rfl rfl ?_
  refine st9 _ ?_
  refine st12 _ ?_
  exact X12.returnOut hx hret (hb hby d13_64) hr
def Qrm11 (Z : State) (a1 : Addr) (a2 : Addr) (h0 : Heap) (n0 : Nat) (v : Option Value) (h : Heap) (L : List Loc) : Prop := v = none ∧ Fr n0 L ∧ Keep h0 h [a1] ∧ Fld Z h a1 z11 "c" z20 (vR a2) ∧ Fld Z h a1 z12 "list" z6 .null
theorem rm11 (cx : Cx Z a0 w0 w1 kw1 w2 kw2 mr1 mr2 mr3 mr4) (a1 : Addr) (a2 : Addr) (O0 : Old Z n0 h0) (PE1 : Exa Z h0 a1 z10) (PF2 : Fld Z h0 a1 z11 "c" z20 .null) (PF3 : Fld Z h0 a1 z12 "list" z6 .null) (gn4 : n0 ≤ a1) : Ct l Z ⟨z11, "<init>", z27⟩ jdk_119_method_1_code 2 none ⟨1, 0, 0, 12⟩ #[(vR a1), (vR a2)] h0 (Qrm11 Z a1 a2 h0 n0) := by
  obtain ⟨hw, hj, hS⟩ := id cx
  refine own_bd (plainFor_of_name pn229) (fun m => ef228 m a1 a2) fun p e s m below meth c s₁ hret hlk hZ hx hby hml hown hnm X0 e0 => ?_
  have N0 := Fr.nil n0
  obtain ⟨T1, X1, e1, st1⟩ := initO X0 hx hZ hown (hw _ m146) (hw _ m7) (hw _ m8) e0 (g := (mkF m 1 #[sR a1, sR a2] [(vR a1)])) rfl (by rw [hml]; rfl) rfl (hb hby d21_1) (by decide) (W := 0) (Nat.le_of_eq rfl) (by decide)
  obtain ⟨T2, h2, L'2, X2, e2, W2, Fw2, O2, K2, N2, st2⟩ := own_put X1 hx hZ hown (host := "") (Or.inl (hw _ m147)) Via.refl e1 O0 (Keep.refl h0 [a1]) N0 gn4 (Or.inl (List.mem_of_getElem? (i := 0) rfl)) PF2 PE1 (Or.inr ⟨(hw _ m148), rfl, hnm⟩) (hw _ m129) (ty := (.object z26)) (by decide) rfl rfl (g := (mkF m 18 #[sR a1, sR a2] [(vR a2), (vR a1)])) rfl rfl (hb hby d21_18)
  have f3 : Fld Z h2 a1 z12 "list" z6 .null := (PF3.other W2 (Or.inr (slot_ne (Or.inr (hw _ m150)) (Or.inr (hw _ m148)) (by decide) (t := (.object z5)) (t' := (.object z26)) (by decide) (by decide))))
  refine own_end X2 hlk (v := none) (fun _ => rfl) (by decide) (by rw [e2]; exact ⟨rfl, N2, K2, Fw2, f3⟩) fun fs hr => ?_
  show St p e below s₁ (mkF m 0 #[sR a1, sR a2] []) _
  refine wal X0 hx hby rfl d21_0 rfl rfl ?_
  refine st1 _ ?_
  refine wal X1 hx hby rfl d21_4 rfl rfl ?_
  refine XS.ifnonnullYes X1.here hx rfl (pc0 := 5) (pc' := 16) rfl (hb hby d21_5) rfl (by decide) (by decide) ?_
  refine wal X1 hx hby rfl d21_16 rfl rfl ?_
  refine wal X1 hx hby rfl d21_17 rfl rfl ?_
  refine st2 _ ?_
  exact X2.returnOut hx hret (hb hby d21_21) hr
def Qrm12 (Z : State) (a1 : Addr) (a2 : Addr) (h0 : Heap) (n0 : Nat) (v : Option Value) (h : Heap) (L : List Loc) : Prop := v = none ∧ Fr n0 L ∧ Keep h0 h [a1] ∧ Fld Z h a1 z11 "c" z20 (vR a2) ∧ Fld Z h a1 z12 "list" z6 (vR a2)
theorem rm12 (cx : Cx Z a0 w0 w1 kw1 w2 kw2 mr1 mr2 mr3 mr4) (a1 : Addr) (a2 : Addr) (O0 : Old Z n0 h0) (PE1 : Exa Z h0 a1 z10) (PF2 : Fld Z h0 a1 z11 "c" z20 .null) (PF3 : Fld Z h0 a1 z12 "list" z6 .null) (gn4 : n0 ≤ a1) : Ct l Z ⟨z12, "<init>", z30⟩ jdk_120_method_1_code 2 none ⟨2, 0, 0, 25⟩ #[(vR a1), (vR a2)] h0 (Qrm12 Z a1 a2 h0 n0) := by
  obtain ⟨hw, hj, hS⟩ := id cx
  refine own_bd (plainFor_of_name pn238) (fun m => ef228 m a1 a2) fun p e s m below meth c s₁ hret hlk hZ hx hby hml hown hnm X0 e0 => ?_
  have N0 := Fr.nil n0
  obtain ⟨_, T1, L1, ⟨rfl, N1q, Kq1, q1_0, q1_1⟩, X1, st1⟩ := cI X0 hx hZ (W := 0) hown (cw9 cx) (rm11 cx a1 a2 O0 PE1 PF2 PF3 gn4) e0 (g := (mkF m 2 #[sR a1, sR a2] [(vR a2), (vR a1)])) rfl hml rfl (rest := []) rfl rfl rfl rfl (hb hby d20_2) (by decide)
  have N1 := Fr.app N0 N1q
  have O1 : Old Z n0 T1.heap := O0.keep Kq1 (allS gn4 all0)
  have K1 : Keep h0 T1.heap [a1] := (Keep.refl h0 [a1]).trans Kq1 (allS (Or.inl (List.mem_of_getElem? (i := 0) rfl)) all0)
  have f2 : Exa Z T1.heap a1 z10 := (PE1.keep Kq1)
  obtain ⟨T3, h3, L'3, X3, e3, W3, Fw3, O3, K3, N3, st3⟩ := own_put X1 hx hZ hown (host := "") (Or.inl (hw _ m149)) Via.refl (rfl : T1.heap = T1.heap) O1 K1 N1 gn4 (Or.inl (List.mem_of_getElem? (i := 0) rfl)) q1_1 f2 (Or.inr ⟨(hw _ m150), rfl, hnm⟩) (hw _ m129) (ty := (.object z5)) (by decide) rfl rfl (g := (mkF m 7 #[sR a1, sR a2] [(vR a2), (vR a1)])) rfl rfl (hb hby d20_7)
  have f4 : Fld Z h3 a1 z11 "c" z20 (vR a2) := (q1_0.other W3 (Or.inr (slot_ne (Or.inr (hw _ m148)) (Or.inr (hw _ m150)) (by decide) (t := (.object z26)) (t' := (.object z5)) (by decide) (by decide))))
  refine own_end X3 hlk (v := none) (fun _ => rfl) (by decide) (by rw [e3]; exact ⟨rfl, N3, K3, f4, Fw3⟩) fun fs hr => ?_
  show St p e below s₁ (mkF m 0 #[sR a1, sR a2] []) _
  refine wal X0 hx hby rfl d20_0 rfl rfl ?_
  refine wal X0 hx hby rfl d20_1 rfl rfl ?_
  refine st1 _ ?_
  refine wal X1 hx hby rfl d20_5 rfl rfl ?_
  refine wal X1 hx hby rfl d20_6 rfl rfl ?_
  refine st3 _ ?_
  exact X3.returnOut hx hret (hb hby d20_10) hr
def Qrm13 (Z : State) (a1 : Addr) (a2 : Addr) (h0 : Heap) (n0 : Nat) (v : Option Value) (h : Heap) (L : List Loc) : Prop := v = none ∧ Fr n0 L ∧ Keep h0 h [a1] ∧ Fld Z h a1 z11 "c" z20 (vR a2) ∧ Fld Z h a1 z12 "list" z6 (vR a2)
theorem rm13 (cx : Cx Z a0 w0 w1 kw1 w2 kw2 mr1 mr2 mr3 mr4) (a1 : Addr) (a2 : Addr) (O0 : Old Z n0 h0) (PE1 : Exa Z h0 a1 z10) (PF2 : Fld Z h0 a1 z11 "c" z20 .null) (PF3 : Fld Z h0 a1 z12 "list" z6 .null) (gn4 : n0 ≤ a1) : Ct l Z ⟨z10, "<init>", z30⟩ jdk_121_method_1_code 2 none ⟨3, 0, 0, 38⟩ #[(vR a1), (vR a2)] h0 (Qrm13 Z a1 a2 h0 n0) := by
  obtain ⟨hw, hj, hS⟩ := id cx
  refine own_bd (plainFor_of_name pn244) (fun m => ef228 m a1 a2) fun p e s m below meth c s₁ hret hlk hZ hx hby hml hown hnm X0 e0 => ?_
  have N0 := Fr.nil n0
  obtain ⟨_, T1, L1, ⟨rfl, N1q, Kq1, q1_0, q1_1⟩, X1, st1⟩ := cI X0 hx hZ (W := 0) hown (cw10 cx) (rm12 cx a1 a2 O0 PE1 PF2 PF3 gn4) e0 (g := (mkF m 2 #[sR a1, sR a2] [(vR a2), (vR a1)])) rfl hml rfl (rest := []) rfl rfl rfl rfl (hb hby d19_2) (by decide)
  have N1 := Fr.app N0 N1q
  have O1 : Old Z n0 T1.heap := O0.keep Kq1 (allS gn4 all0)
  have K1 : Keep h0 T1.heap [a1] := (Keep.refl h0 [a1]).trans Kq1 (allS (Or.inl (List.mem_of_getElem? (i := 0) rfl)) all0)
  refine own_end X1 hlk (v := none) (fun _ => rfl) (by decide) ⟨rfl, N1, K1, q1_0, q1_1⟩ fun fs hr => ?_
  show St p e below s₁ (mkF m 0 #[sR a1, sR a2] []) _
  refine wal X0 hx hby rfl d19_0 rfl rfl ?_
  refine wal X0 hx hby rfl d19_1 rfl rfl ?_
  refine st1 _ ?_
  exact X1.returnOut hx hret (hb hby d19_5) hr
def Qrm14 (Z : State) (a1 : Addr) (h0 : Heap) (n0 : Nat) (v : Option Value) (h : Heap) (L : List Loc) : Prop := ∃ x0 : Addr, v = some (vR x0) ∧ Fr n0 L ∧ Keep h0 h [] ∧ h0.size ≤ x0 ∧ Exa Z h x0 z10 ∧ Fld Z h x0 z11 "c" z20 (vR a1) ∧ Fld Z h x0 z12 "list" z6 (vR a1)
theorem rm14 (cx : Cx Z a0 w0 w1 kw1 w2 kw2 mr1 mr2 mr3 mr4) (a1 : Addr) (O0 : Old Z n0 h0) (PE1 : Exa Z h0 a1 z1) : Ct l Z ⟨z28, "unmodifiableList", "(Ljava/util/List;)Ljava/util/List;"⟩ jdk_79_method_35_code 1 (some (.object z5)) ⟨4, 1, 2, 52⟩ #[(vR a1)] h0 (Qrm14 Z a1 h0 n0) := by
  obtain ⟨hw, hj, hS⟩ := id cx
  refine own_bd (plainFor_of_name pn249) (fun m => ef10 m a1) fun p e s m below meth c s₁ hret hlk hZ hx hby hml hown hnm X0 e0 => ?_
  have N0 := Fr.nil n0
  obtain ⟨T1, X1, e1, st1⟩ := own_gclsI X0 hx hZ hown (hw _ m115) (hw _ m93) (hw _ m116) (hw _ m117) (hw _ m94) (hw _ m118) (mvT hZ (hw _ m119)) (hw _ m120) (hw _ m96) (by decide) e0 PE1 hS.2.2.2.2.2.2.2.2.2.1 (g := (mkF m 1 #[sR a1] [(vR a1)])) rfl (by rw [hml]; rfl) rfl (hb hby d18_1) (by decide) (W := 0) (Nat.le_of_eq rfl) (by decide)
  obtain ⟨T2, X2, e2, st2⟩ := own_ldcM X1 hx hZ hown (hw _ m122) hS.2.2.2.2.2.2.2.2.2.2.1 e1 (g := (mkF m 6 #[sR a1] [(vR mr2)])) rfl (hb hby d18_6)
  obtain ⟨T3, X3, e3, st3⟩ := own_gclsI X2 hx hZ hown (hw _ m124) (hw _ m93) (hw _ m116) (hw _ m117) (hw _ m94) (hw _ m118) (mvT hZ (hw _ m119)) (hw _ m120) (hw _ m96) (by decide) e2 PE1 hS.2.2.2.2.2.2.2.2.2.1 (g := (mkF m 12 #[sR a1] [(vR a1)])) rfl (by rw [hml]; rfl) rfl (hb hby d18_12) (by decide) (W := 0) (Nat.le_of_eq rfl) (by decide)
  obtain ⟨T4, X4, e4, st4⟩ := own_ldcM X3 hx hZ hown (hw _ m125) hS.2.2.2.2.2.2.2.2.2.2.2 e3 (g := (mkF m 17 #[sR a1] [(vR mr2)])) rfl (hb hby d18_17)
  obtain ⟨T5, X5, e5, st5⟩ := instY X4 hx hZ hown (hw _ m127) e4 (Ins.of_exa PE1 (hw _ m128)) (g := (mkF m 25 #[sR a1] [(vR a1)])) rfl rfl (hb hby d18_25)
  obtain ⟨T6, h6, b6, X6, e6, E6, A6, D6, g6, O6, K6, st6⟩ := own_newO X5 hx hZ hown (hw _ m125) (hw _ m129) (hw _ m130) e5 O0 (Keep.refl h0 []) (g := (mkF m 31 #[sR a1] [])) rfl (hb hby d18_31) (by decide) (by decide)
  have F6_1 : Fld Z h6 b6 z11 "c" z20 .null := D6 (Or.inr (hw _ m148)) (ty := (.object z26)) (by decide)
  have F6_2 : Fld Z h6 b6 z12 "list" z6 .null := D6 (Or.inr (hw _ m150)) (ty := (.object z5)) (by decide)
  obtain ⟨_, T7, L7, ⟨rfl, N7q, Kq7, q7_0, q7_1⟩, X7, st7⟩ := cI X6 hx hZ (W := 1) hown (cw11 cx) (rm13 cx b6 a1 O6 A6 F6_1 F6_2 (Nat.le_trans (own_old_le O0) g6)) e6 (g := (mkF m 36 #[sR a1] [(vR a1), (vR b6), (vR b6)])) rfl hml rfl (rest := [(vR b6)]) rfl rfl rfl rfl (hb hby d18_36) (by decide)
  have N7 := Fr.app N0 N7q
  have O7 : Old Z n0 T7.heap := O6.keep Kq7 (allS (Nat.le_trans (own_old_le O0) g6) all0)
  have K7 : Keep h0 T7.heap [] := K6.trans Kq7 (allS (Or.inr (Nat.le_trans (Keep.refl h0 []).1 g6)) all0)
  have f8 : Exa Z T7.heap b6 z10 := (A6.keep Kq7)
  refine own_end X7 hlk (v := some (vR b6)) (own_hv hret) (by decide) ⟨b6, rfl, N7, K7, (Nat.le_trans (Keep.refl h0 []).1 g6), f8, q7_0, q7_1⟩ fun fs hr => ?_
  show St p e below s₁ (mkF m 0 #[sR a1] []) _
  refine wal X0 hx hby rfl d18_0 rfl rfl ?_
  refine st1 _ ?_
  refine st2 _ ?_
  refine Jvm.RoadKit.acmp (g := (mkF m 8 #[sR a1] [(vR mr3), (vR mr2)])) X2 hx rfl rfl rfl (pc0 := 8) (pc' := 11) (same := false) rfl (hb hby d18_8) rfl (decide_eq_false fun q => Mir.ne hS.2.2.2.2.2.2.2.2.2.1 hS.2.2.2.2.2.2.2.2.2.2.1 (by decide) (Value.ref.inj q)) (by decide) (by decide) ?_
  refine wal X2 hx hby rfl d18_11 rfl rfl ?_
  refine st3 _ ?_
  refine st4 _ ?_
  refine Jvm.RoadKit.acmp (g := (mkF m 19 #[sR a1] [(vR mr4), (vR mr2)])) X4 hx rfl rfl rfl (pc0 := 19) (pc' := 24) (same := false) rfl (hb hby d18_19) rfl (decide_eq_false fun q => Mir.ne hS.2.2.2.2.2.2.2.2.2.1 hS.2.2.2.2.2.2.2.2.2.2.2 (by decide) (Value.ref.inj q)) (by decide) (by decide) ?_
  refine wal X4 hx hby rfl d18_24 rfl rfl ?_
  refine st5 _ ?_
  refine wfn X5 hx hby rfl d18_28 rfl ((if0 _ _).trans (feq (by decide : ¬ ((1 : Int32) = (0 : Int32)))).1) ?_
  refine st6 _ ?_
  refine wdu X6 hx hby rfl d18_34 rfl rfl ?_
  refine wal X6 hx hby rfl d18_35 rfl rfl ?_
  refine st7 _ ?_
  refine wgt X7 hx hby rfl (pc0 := 39) (pc' := 50) rfl d18_39 (by decide) (by decide) ?_
  show St p e below T7 (mkF m 50 #[sR a1] [(vR b6)]) _
  exact retOut X7 hx hret rfl (Or.inr (Or.inr (Or.inr (Or.inr ⟨rfl, rfl, rfl⟩)))) (hb hby d18_50) hr
def Qrm15 (Z : State) (w2 : Addr) (p1 : Int32) (a2 : Addr) (h0 : Heap) (n0 : Nat) (v : Option Value) (h : Heap) (L : List Loc) : Prop := ∃ x0 : Addr, ∃ x1 : Addr, v = none ∧ Fr n0 L ∧ Keep h0 h [a2] ∧ h0.size ≤ x0 ∧ x0 < x1 ∧ Exa Z h x0 z1 ∧ Fld Z h x0 z9 "modCount" "I" (vI 0) ∧ Fld Z h x0 z1 z15 z3 (vR w2) ∧ Fld Z h x0 z1 "size" "I" (vI 0) ∧ Exa Z h x1 z10 ∧ Fld Z h x1 z11 "c" z20 (vR x0) ∧ Fld Z h x1 z12 "list" z6 (vR x0) ∧ Fld Z h a2 z0 "values" z6 (vR x1) ∧ Fld Z h a2 z0 "names" z6 .null ∧ Fld Z h a2 z0 "pageSize" "I" (vI p1) ∧ Fld Z h a2 z0 z16 z13 .null
theorem rm15 (cx : Cx Z a0 w0 w1 kw1 w2 kw2 mr1 mr2 mr3 mr4) (p1 : Int32) (a2 : Addr) (a3 : Addr) (O0 : Old Z n0 h0) (PE1 : Exa Z h0 a2 z0) (PF2 : Fld Z h0 a2 z0 "values" z6 .null) (PF3 : Fld Z h0 a2 z0 "names" z6 .null) (PF4 : Fld Z h0 a2 z0 "pageSize" "I" (vI 0)) (PF5 : Fld Z h0 a2 z0 z16 z13 .null) (PF6 : Fld Z h0 a3 z1 z15 z3 (vR w1)) (PF7 : Fld Z h0 a3 z1 "size" "I" (vI 0)) (PE8 : Exa Z h0 a3 z1) (gn9 : n0 ≤ a2) : Ct l Z ⟨z0, "<init>", z18⟩ prog_44_method_1_code 5 none ⟨5, 3, 5, 73⟩ #[(vR a2), (vR a3), .null, (vI p1), .null] h0 (Qrm15 Z w2 p1 a2 h0 n0) := by
  obtain ⟨hw, hj, hS⟩ := id cx
  refine own_bd (plainFor_of_name pn280) (fun m => ef279 m a2 a3 p1) fun p e s m below meth c s₁ hret hlk hZ hx hby hml hown hnm X0 e0 => ?_
  have N0 := Fr.nil n0
  obtain ⟨_, T1, L1, ⟨rfl, N1q, e1⟩, X1, st1⟩ := cI X0 hx hZ (W := 0) hown (cw4 cx) (rm5 cx a2 O0) e0 (g := (mkF m 1 #[sR a2, sR a3, sN, sI p1, sN] [(vR a2)])) rfl hml rfl (rest := []) rfl rfl rfl rfl (hb hby d11_1) (by decide)
  obtain ⟨T2, h2, b2, X2, e2, E2, A2, D2, g2, O2, K2, st2⟩ := own_newO X1 hx hZ hown (hw _ m75) (hw _ m10) (hw _ m11) e1 O0 (Keep.refl h0 [a2]) (g := (mkF m 4 #[sR a2, sR a3, sN, sI p1, sN] [])) rfl (hb hby d11_4) (by decide) (by decide)
  have F2_1 : Fld Z h2 b2 z9 "modCount" "I" (vI 0) := D2 (Or.inl (hw _ m29)) (ty := .int) (by decide)
  have F2_2 : Fld Z h2 b2 z1 z15 z3 .null := D2 (Or.inl (hw _ m32)) (ty := (.array (.object z4))) (by decide)
  have F2_3 : Fld Z h2 b2 z1 "size" "I" (vI 0) := D2 (Or.inl (hw _ m41)) (ty := .int) (by decide)
  have f4 : Fld Z h2 a3 z1 z15 z3 (vR w1) := (PF6.ext E2)
  have f5 : Fld Z h2 a3 z1 "size" "I" (vI 0) := (PF7.ext E2)
  have f6 : Exa Z h2 a3 z1 := (PE8.ext E2)
  obtain ⟨_, T3, L3, ⟨rfl, N3q, Kq3, q3_0, q3_1, q3_2⟩, X3, st3⟩ := cI X2 hx hZ (W := 1) hown (cw8 cx) (rm10 cx b2 a3 O2 A2 F2_1 F2_2 F2_3 (Nat.le_trans (own_old_le O0) g2) f4 (Nat.ne_of_lt (Nat.lt_of_lt_of_le PF6.lt g2)) f5 f6) e2 (g := (mkF m 9 #[sR a2, sR a3, sN, sI p1, sN] [(vR a3), (vR b2), (vR b2)])) rfl hml rfl (rest := [(vR b2)]) rfl rfl rfl rfl (hb hby d11_9) (by decide)
  have N3 := Fr.app (Fr.app N0 N1q) N3q
  have O3 : Old Z n0 T3.heap := O2.keep Kq3 (allS (Nat.le_trans (own_old_le O0) g2) all0)
  have K3 : Keep h0 T3.heap [a2] := K2.trans Kq3 (allS (Or.inr (Nat.le_trans (Keep.refl h0 [a2]).1 g2)) all0)
  have f8 : Exa Z T3.heap b2 z1 := (A2.keep Kq3)
  obtain ⟨_, T7, L7, ⟨c7_0, rfl, N7q, Kq7, lo7_0, q7_0, q7_1, q7_2⟩, X7, st7⟩ := cS X3 hx hZ (W := 0) hown (cw12 cx) (rm14 cx b2 O3 f8) (rfl : T3.heap = T3.heap) (g := (mkF m 12 #[sR a2, sR a3, sN, sI p1, sN] [(vR b2)])) rfl hml rfl (rest := []) rfl rfl rfl rfl (hb hby d11_12) (by decide)
  have N7 := Fr.app N3 N7q
  have O7 : Old Z n0 T7.heap := O3.keep Kq7 all0
  have K7 : Keep h0 T7.heap [a2] := K3.trans Kq7 all0
  have f9 : Fld Z T7.heap a2 z0 "values" z6 .null := (((PF2.ext E2).keep Kq3 (ninS (Nat.ne_of_lt (Nat.lt_of_lt_of_le PE1.lt g2)) nin0)).keep Kq7 nin0)
  have f10 : Exa Z T7.heap a2 z0 := (((PE1.ext E2).keep Kq3).keep Kq7)
  obtain ⟨T11, h11, L'11, X11, e11, W11, Fw11, O11, K11, N11, st11⟩ := own_put X7 hx hZ hown (host := "") (Or.inl (hw _ m151)) Via.refl (rfl : T7.heap = T7.heap) O7 K7 N7 gn9 (Or.inl (List.mem_of_getElem? (i := 0) rfl)) f9 f10 (Or.inr ⟨(hw _ m152), rfl, hnm⟩) (hw _ m64) (ty := (.object z5)) (by decide) rfl rfl (g := (mkF m 75 #[sR a2, sR c7_0, sN, sI p1, sN] [(vR c7_0), (vR a2)])) rfl rfl (hb hby d11_75)
  have f12 : Fld Z h11 a2 z0 "names" z6 .null := ((((PF3.ext E2).keep Kq3 (ninS (Nat.ne_of_lt (Nat.lt_of_lt_of_le PE1.lt g2)) nin0)).keep Kq7 nin0).other W11 (Or.inr (slot_ne (Or.inr (hw _ m154)) (Or.inr (hw _ m152)) (by decide) (t := (.object z5)) (t' := (.object z5)) (by decide) (by decide))))
  have f13 : Exa Z h11 a2 z0 := (f10.wr W11)
  obtain ⟨T14, h14, L'14, X14, e14, W14, Fw14, O14, K14, N14, st14⟩ := own_put X11 hx hZ hown (host := "") (Or.inl (hw _ m153)) Via.refl e11 O11 K11 N11 gn9 (Or.inl (List.mem_of_getElem? (i := 0) rfl)) f12 f13 (Or.inr ⟨(hw _ m154), rfl, hnm⟩) (hw _ m64) (ty := (.object z5)) (by decide) rfl rfl (g := (mkF m 80 #[sR a2, sR c7_0, sN, sI p1, sN] [.null, (vR a2)])) rfl rfl (hb hby d11_80)
  have f15 : Fld Z h14 a2 z0 "pageSize" "I" (vI 0) := (((((PF4.ext E2).keep Kq3 (ninS (Nat.ne_of_lt (Nat.lt_of_lt_of_le PE1.lt g2)) nin0)).keep Kq7 nin0).other W11 (Or.inr (slot_ne (Or.inr (hw _ m156)) (Or.inr (hw _ m152)) (by decide) (t := .int) (t' := (.object z5)) (by decide) (by decide)))).other W14 (Or.inr (slot_ne (Or.inr (hw _ m156)) (Or.inr (hw _ m154)) (by decide) (t := .int) (t' := (.object z5)) (by decide) (by decide))))
  have f16 : Exa Z h14 a2 z0 := (f13.wr W14)
  obtain ⟨T17, h17, L'17, X17, e17, W17, Fw17, O17, K17, N17, st17⟩ := own_put X14 hx hZ hown (host := "") (Or.inl (hw _ m155)) Via.refl e14 O14 K14 N14 gn9 (Or.inl (List.mem_of_getElem? (i := 0) rfl)) f15 f16 (Or.inr ⟨(hw _ m156), rfl, hnm⟩) (hw _ m64) (ty := .int) (by decide) rfl rfl (g := (mkF m 85 #[sR a2, sR c7_0, sN, sI p1, sN] [(vI p1), (vR a2)])) rfl rfl (hb hby d11_85)
  have f18 : Fld Z h17 a2 z0 z16 z13 .null := ((((((PF5.ext E2).keep Kq3 (ninS (Nat.ne_of_lt (Nat.lt_of_lt_of_le PE1.lt g2)) nin0)).keep Kq7 nin0).other W11 (Or.inr (slot_ne (Or.inr (hw _ m158)) (Or.inr (hw _ m152)) (by decide) (t := (.object z7)) (t' := (.object z5)) (by decide) (by decide)))).other W14 (Or.inr (slot_ne (Or.inr (hw _ m158)) (Or.inr (hw _ m154)) (by decide) (t := (.object z7)) (t' := (.object z5)) (by decide) (by decide)))).other W17 (Or.inr (slot_ne (Or.inr (hw _ m158)) (Or.inr (hw _ m156)) (by decide) (t := (.object z7)) (t' := .int) (by decide) (by decide))))
  have f19 : Exa Z h17 a2 z0 := (f16.wr W17)
  obtain ⟨T20, h20, L'20, X20, e20, W20, Fw20, O20, K20, N20, st20⟩ := own_put X17 hx hZ hown (host := "") (Or.inl (hw _ m157)) Via.refl e17 O17 K17 N17 gn9 (Or.inl (List.mem_of_getElem? (i := 0) rfl)) f18 f19 (Or.inr ⟨(hw _ m158), rfl, hnm⟩) (hw _ m64) (ty := (.object z7)) (by decide) rfl rfl (g := (mkF m 91 #[sR a2, sR c7_0, sN, sI p1, sN] [.null, (vR a2)])) rfl rfl (hb hby d11_91)
  have f21 : Exa Z h20 b2 z1 := (((((f8.keep Kq7).wr W11).wr W14).wr W17).wr W20)
  have f22 : Fld Z h20 b2 z9 "modCount" "I" (vI 0) := (((((q3_0.keep Kq7 nin0).other W11 (Or.inl (Ne.symm (Nat.ne_of_lt (Nat.lt_of_lt_of_le PE1.lt g2))))).other W14 (Or.inl (Ne.symm (Nat.ne_of_lt (Nat.lt_of_lt_of_le PE1.lt g2))))).other W17 (Or.inl (Ne.symm (Nat.ne_of_lt (Nat.lt_of_lt_of_le PE1.lt g2))))).other W20 (Or.inl (Ne.symm (Nat.ne_of_lt (Nat.lt_of_lt_of_le PE1.lt g2)))))
  have f23 : Fld Z h20 b2 z1 z15 z3 (vR w2) := (((((q3_1.keep Kq7 nin0).other W11 (Or.inl (Ne.symm (Nat.ne_of_lt (Nat.lt_of_lt_of_le PE1.lt g2))))).other W14 (Or.inl (Ne.symm (Nat.ne_of_lt (Nat.lt_of_lt_of_le PE1.lt g2))))).other W17 (Or.inl (Ne.symm (Nat.ne_of_lt (Nat.lt_of_lt_of_le PE1.lt g2))))).other W20 (Or.inl (Ne.symm (Nat.ne_of_lt (Nat.lt_of_lt_of_le PE1.lt g2)))))
  have f24 : Fld Z h20 b2 z1 "size" "I" (vI 0) := (((((q3_2.keep Kq7 nin0).other W11 (Or.inl (Ne.symm (Nat.ne_of_lt (Nat.lt_of_lt_of_le PE1.lt g2))))).other W14 (Or.inl (Ne.symm (Nat.ne_of_lt (Nat.lt_of_lt_of_le PE1.lt g2))))).other W17 (Or.inl (Ne.symm (Nat.ne_of_lt (Nat.lt_of_lt_of_le PE1.lt g2))))).other W20 (Or.inl (Ne.symm (Nat.ne_of_lt (Nat.lt_of_lt_of_le PE1.lt g2)))))
  have f25 : Exa Z h20 c7_0 z10 := ((((q7_0.wr W11).wr W14).wr W17).wr W20)
  have ne26 : a2 ≠ c7_0 := (Nat.ne_of_lt (Nat.lt_of_lt_of_le (Nat.lt_of_lt_of_le PE1.lt (Nat.le_trans E2.1 Kq3.1)) lo7_0))
  have f27 : Fld Z h20 c7_0 z11 "c" z20 (vR b2) := ((((q7_1.other W11 (Or.inl (Ne.symm ne26))).other W14 (Or.inl (Ne.symm ne26))).other W17 (Or.inl (Ne.symm ne26))).other W20 (Or.inl (Ne.symm ne26)))
  have f28 : Fld Z h20 c7_0 z12 "list" z6 (vR b2) := ((((q7_2.other W11 (Or.inl (Ne.symm ne26))).other W14 (Or.inl (Ne.symm ne26))).other W17 (Or.inl (Ne.symm ne26))).other W20 (Or.inl (Ne.symm ne26)))
  have f29 : Fld Z h20 a2 z0 "values" z6 (vR c7_0) := (((Fw11.other W14 (Or.inr (slot_ne (Or.inr (hw _ m152)) (Or.inr (hw _ m154)) (by decide) (t := (.object z5)) (t' := (.object z5)) (by decide) (by decide)))).other W17 (Or.inr (slot_ne (Or.inr (hw _ m152)) (Or.inr (hw _ m156)) (by decide) (t := (.object z5)) (t' := .int) (by decide) (by decide)))).other W20 (Or.inr (slot_ne (Or.inr (hw _ m152)) (Or.inr (hw _ m158)) (by decide) (t := (.object z5)) (t' := (.object z7)) (by decide) (by decide))))
  have f30 : Fld Z h20 a2 z0 "names" z6 .null := ((Fw14.other W17 (Or.inr (slot_ne (Or.inr (hw _ m154)) (Or.inr (hw _ m156)) (by decide) (t := (.object z5)) (t' := .int) (by decide) (by decide)))).other W20 (Or.inr (slot_ne (Or.inr (hw _ m154)) (Or.inr (hw _ m158)) (by decide) (t := (.object z5)) (t' := (.object z7)) (by decide) (by decide))))
  have f31 : Fld Z h20 a2 z0 "pageSize" "I" (vI p1) := (Fw17.other W20 (Or.inr (slot_ne (Or.inr (hw _ m156)) (Or.inr (hw _ m158)) (by decide) (t := .int) (t' := (.object z7)) (by decide) (by decide))))
  refine own_end X20 hlk (v := none) (fun _ => rfl) (by decide) (by rw [e20]; exact ⟨b2, c7_0, rfl, N20, K20, (Nat.le_trans (Keep.refl h0 [a2]).1 g2), (Nat.lt_of_lt_of_le (Nat.lt_of_lt_of_le A2.lt Kq3.1) lo7_0), f21, f22, f23, f24, f25, f27, f28, f29, f30, f31, Fw20⟩) fun fs hr => ?_
  show St p e below s₁ (mkF m 0 #[sR a2, sR a3, sN, sI p1, sN] []) _
  refine wal X0 hx hby rfl d11_0 rfl rfl ?_
  refine st1 _ ?_
  refine st2 _ ?_
  refine wdu X2 hx hby rfl d11_7 rfl rfl ?_
  refine wal X2 hx hby rfl d11_8 rfl rfl ?_
  refine st3 _ ?_
  refine st7 _ ?_
  refine was X7 hx hby rfl d11_15 rfl rfl (l' := #[sR a2, sR c7_0, sN, sI p1, sN]) rfl ?_
  refine wal X7 hx hby rfl d11_16 rfl rfl ?_
  refine XS.ifnonnullNo X7.here hx rfl (hb hby d11_17) rfl ?_
  refine wan X7 hx hby rfl d11_20 ?_
  refine wgt X7 hx hby rfl (pc0 := 21) (pc' := 28) rfl d11_21 (by decide) (by decide) ?_
  refine was X7 hx hby rfl d11_28 rfl rfl (l' := #[sR a2, sR c7_0, sN, sI p1, sN]) rfl ?_
  refine wal X7 hx hby rfl d11_29 rfl rfl ?_
  refine wny X7 hx hby rfl (pc0 := 30) (pc' := 73) rfl d11_30 rfl (by decide) (by decide) ?_
  refine wal X7 hx hby rfl d11_73 rfl rfl ?_
  show St p e below T7 (mkF m 74 #[sR a2, sR c7_0, sN, sI p1, sN] [(vR a2)]) _
  refine wal X7 hx hby rfl d11_74 rfl rfl ?_
  refine st11 _ ?_
  refine wal X11 hx hby rfl d11_78 rfl rfl ?_
  refine wal X11 hx hby rfl d11_79 rfl rfl ?_
  refine st14 _ ?_
  refine wal X14 hx hby rfl d11_83 rfl rfl ?_
  refine wil X14 hx hby rfl d11_84 rfl ?_
  refine st17 _ ?_
  refine wal X17 hx hby rfl d11_88 rfl rfl ?_
  refine waL X17 hx hby rfl d11_89 rfl rfl ?_
  refine st20 _ ?_
  exact X20.returnOut hx hret (hb hby d11_94) hr
def Qrm16 (Z : State) (p2 : Int32) (h0 : Heap) (n0 : Nat) (v : Option Value) (h : Heap) (L : List Loc) : Prop := v = some (vI p2) ∧ Fr n0 L ∧ h = h0
theorem rm16 (cx : Cx Z a0 w0 w1 kw1 w2 kw2 mr1 mr2 mr3 mr4) (a1 : Addr) (p2 : Int32) (O0 : Old Z n0 h0) (PF1 : Fld Z h0 a1 z0 "pageSize" "I" (vI p2)) : Ct l Z ⟨z0, "pageSize", "()I"⟩ prog_44_method_10_code 1 (some .int) ⟨0, 0, 0, 0⟩ #[(vR a1)] h0 (Qrm16 Z p2 h0 n0) := by
  obtain ⟨hw, hj, hS⟩ := id cx
  refine own_bd (plainFor_of_name pn280) (fun m => ef10 m a1) fun p e s m below meth c s₁ hret hlk hZ hx hby hml hown hnm X0 e0 => ?_
  have N0 := Fr.nil n0
  obtain ⟨T1, X1, e1, st1⟩ := getF X0 hx hZ hown (host := "") (Or.inl (hw _ m155)) Via.refl e0 PF1 (g := (mkF m 1 #[sR a1] [(vR a1)])) rfl rfl (hb hby d23_1)
  refine own_end X1 hlk (v := some (vI p2)) (own_hv hret) (by decide) (by rw [e1]; exact ⟨rfl, N0, rfl⟩) fun fs hr => ?_
  show St p e below s₁ (mkF m 0 #[sR a1] []) _
  refine wal X0 hx hby rfl d23_0 rfl rfl ?_
  refine st1 _ ?_
  exact retOut X1 hx hret rfl (Or.inl ⟨rfl, Or.inl rfl, _, rfl⟩) (hb hby d23_4) hr
def Qrm17 (Z : State) (h0 : Heap) (n0 : Nat) (v : Option Value) (h : Heap) (L : List Loc) : Prop := v = some .null ∧ Fr n0 L ∧ h = h0
theorem rm17 (cx : Cx Z a0 w0 w1 kw1 w2 kw2 mr1 mr2 mr3 mr4) (a1 : Addr) (O0 : Old Z n0 h0) (PF1 : Fld Z h0 a1 z0 z16 z13 .null) : Ct l Z ⟨z0, z16, z19⟩ prog_44_method_11_code 1 (some (.object z7)) ⟨0, 0, 0, 0⟩ #[(vR a1)] h0 (Qrm17 Z h0 n0) := by
  obtain ⟨hw, hj, hS⟩ := id cx
  refine own_bd (plainFor_of_name pn280) (fun m => ef10 m a1) fun p e s m below meth c s₁ hret hlk hZ hx hby hml hown hnm X0 e0 => ?_
  have N0 := Fr.nil n0
  obtain ⟨T1, X1, e1, st1⟩ := getF X0 hx hZ hown (host := "") (Or.inl (hw _ m157)) Via.refl e0 PF1 (g := (mkF m 1 #[sR a1] [(vR a1)])) rfl rfl (hb hby d24_1)
  refine own_end X1 hlk (v := some .null) (own_hv hret) (by decide) (by rw [e1]; exact ⟨rfl, N0, rfl⟩) fun fs hr => ?_
  show St p e below s₁ (mkF m 0 #[sR a1] []) _
  refine wal X0 hx hby rfl d24_0 rfl rfl ?_
  refine st1 _ ?_
  exact retOut X1 hx hret rfl (Or.inr (Or.inr (Or.inr (Or.inr ⟨rfl, rfl, rfl⟩)))) (hb hby d24_4) hr
def Qrm18 (Z : State) (q1 : Int64) (p2 : Int32) (a3 : Addr) (a4 : Addr) (a5 : Addr) (h0 : Heap) (n0 : Nat) (v : Option Value) (h : Heap) (L : List Loc) : Prop := v = none ∧ Fr n0 L ∧ Keep h0 h [a3] ∧ Fld Z h a3 z2 "state" z17 (vR a4) ∧ Fld Z h a3 z2 "values" z6 (vR a5) ∧ Fld Z h a3 z2 "now" "J" (vL q1) ∧ Fld Z h a3 z2 "pageSize" "I" (vI p2) ∧ Fld Z h a3 z2 z16 z13 .null
theorem rm18 (cx : Cx Z a0 w0 w1 kw1 w2 kw2 mr1 mr2 mr3 mr4) (q1 : Int64) (p2 : Int32) (a3 : Addr) (a4 : Addr) (a5 : Addr) (O0 : Old Z n0 h0) (PE1 : Exa Z h0 a3 z2) (PF2 : Fld Z h0 a3 z2 "state" z17 .null) (PF3 : Fld Z h0 a3 z2 "values" z6 .null) (PF4 : Fld Z h0 a3 z2 "now" "J" (vL 0)) (PF5 : Fld Z h0 a3 z2 "pageSize" "I" (vI 0)) (PF6 : Fld Z h0 a3 z2 z16 z13 .null) (gn7 : n0 ≤ a3) : Ct l Z ⟨z2, "<init>", "(Lcom/example/key3/key3/cql/ClientState;Ljava/util/List;JILjava/nio/ByteBuffer;)V"⟩ prog_49_method_1_code 7 none ⟨2, 0, 0, 24⟩ #[(vR a3), (vR a4), (vR a5), (vL q1), (vI p2), .null] h0 (Qrm18 Z q1 p2 a3 a4 a5 h0 n0) := by
  obtain ⟨hw, hj, hS⟩ := id cx
  refine own_bd (plainFor_of_name pn347) (fun m => ef346 m a3 a4 a5 q1 p2) fun p e s m below meth c s₁ hret hlk hZ hx hby hml hown hnm X0 e0 => ?_
  have N0 := Fr.nil n0
  obtain ⟨_, T1, L1, ⟨rfl, N1q, e1⟩, X1, st1⟩ := cI X0 hx hZ (W := 0) hown (cw16 cx) (rm5 cx a3 O0) e0 (g := (mkF m 1 #[sR a3, sR a4, sR a5, sL q1, sS, sI p2, sN] [(vR a3)])) rfl hml rfl (rest := []) rfl rfl rfl rfl (hb hby d25_1) (by decide)
  obtain ⟨T2, h2, L'2, X2, e2, W2, Fw2, O2, K2, N2, st2⟩ := own_put X1 hx hZ hown (host := "") (Or.inl (hw _ m179)) Via.refl e1 O0 (Keep.refl h0 [a3]) (Fr.app N0 N1q) gn7 (Or.inl (List.mem_of_getElem? (i := 0) rfl)) PF2 PE1 (Or.inr ⟨(hw _ m180), rfl, hnm⟩) (hw _ m164) (ty := (.object z8)) (by decide) rfl rfl (g := (mkF m 6 #[sR a3, sR a4, sR a5, sL q1, sS, sI p2, sN] [(vR a4), (vR a3)])) rfl rfl (hb hby d25_6)
  have f3 : Fld Z h2 a3 z2 "values" z6 .null := (PF3.other W2 (Or.inr (slot_ne (Or.inr (hw _ m182)) (Or.inr (hw _ m180)) (by decide) (t := (.object z5)) (t' := (.object z8)) (by decide) (by decide))))
  have f4 : Exa Z h2 a3 z2 := (PE1.wr W2)
  obtain ⟨T5, h5, L'5, X5, e5, W5, Fw5, O5, K5, N5, st5⟩ := own_put X2 hx hZ hown (host := "") (Or.inl (hw _ m181)) Via.refl e2 O2 K2 N2 gn7 (Or.inl (List.mem_of_getElem? (i := 0) rfl)) f3 f4 (Or.inr ⟨(hw _ m182), rfl, hnm⟩) (hw _ m164) (ty := (.object z5)) (by decide) rfl rfl (g := (mkF m 11 #[sR a3, sR a4, sR a5, sL q1, sS, sI p2, sN] [(vR a5), (vR a3)])) rfl rfl (hb hby d25_11)
  have f6 : Fld Z h5 a3 z2 "now" "J" (vL 0) := ((PF4.other W2 (Or.inr (slot_ne (Or.inr (hw _ m184)) (Or.inr (hw _ m180)) (by decide) (t := .long) (t' := (.object z8)) (by decide) (by decide)))).other W5 (Or.inr (slot_ne (Or.inr (hw _ m184)) (Or.inr (hw _ m182)) (by decide) (t := .long) (t' := (.object z5)) (by decide) (by decide))))
  have f7 : Exa Z h5 a3 z2 := (f4.wr W5)
  obtain ⟨T8, h8, L'8, X8, e8, W8, Fw8, O8, K8, N8, st8⟩ := own_put X5 hx hZ hown (host := "") (Or.inl (hw _ m183)) Via.refl e5 O5 K5 N5 gn7 (Or.inl (List.mem_of_getElem? (i := 0) rfl)) f6 f7 (Or.inr ⟨(hw _ m184), rfl, hnm⟩) (hw _ m164) (ty := .long) (by decide) rfl rfl (g := (mkF m 16 #[sR a3, sR a4, sR a5, sL q1, sS, sI p2, sN] [(vL q1), (vR a3)])) rfl rfl (hb hby d25_16)
  have f9 : Fld Z h8 a3 z2 "pageSize" "I" (vI 0) := (((PF5.other W2 (Or.inr (slot_ne (Or.inr (hw _ m186)) (Or.inr (hw _ m180)) (by decide) (t := .int) (t' := (.object z8)) (by decide) (by decide)))).other W5 (Or.inr (slot_ne (Or.inr (hw _ m186)) (Or.inr (hw _ m182)) (by decide) (t := .int) (t' := (.object z5)) (by decide) (by decide)))).other W8 (Or.inr (slot_ne (Or.inr (hw _ m186)) (Or.inr (hw _ m184)) (by decide) (t := .int) (t' := .long) (by decide) (by decide))))
  have f10 : Exa Z h8 a3 z2 := (f7.wr W8)
  obtain ⟨T11, h11, L'11, X11, e11, W11, Fw11, O11, K11, N11, st11⟩ := own_put X8 hx hZ hown (host := "") (Or.inl (hw _ m185)) Via.refl e8 O8 K8 N8 gn7 (Or.inl (List.mem_of_getElem? (i := 0) rfl)) f9 f10 (Or.inr ⟨(hw _ m186), rfl, hnm⟩) (hw _ m164) (ty := .int) (by decide) rfl rfl (g := (mkF m 22 #[sR a3, sR a4, sR a5, sL q1, sS, sI p2, sN] [(vI p2), (vR a3)])) rfl rfl (hb hby d25_22)
  have f12 : Fld Z h11 a3 z2 z16 z13 .null := ((((PF6.other W2 (Or.inr (slot_ne (Or.inr (hw _ m188)) (Or.inr (hw _ m180)) (by decide) (t := (.object z7)) (t' := (.object z8)) (by decide) (by decide)))).other W5 (Or.inr (slot_ne (Or.inr (hw _ m188)) (Or.inr (hw _ m182)) (by decide) (t := (.object z7)) (t' := (.object z5)) (by decide) (by decide)))).other W8 (Or.inr (slot_ne (Or.inr (hw _ m188)) (Or.inr (hw _ m184)) (by decide) (t := (.object z7)) (t' := .long) (by decide) (by decide)))).other W11 (Or.inr (slot_ne (Or.inr (hw _ m188)) (Or.inr (hw _ m186)) (by decide) (t := (.object z7)) (t' := .int) (by decide) (by decide))))
  have f13 : Exa Z h11 a3 z2 := (f10.wr W11)
  obtain ⟨T14, h14, L'14, X14, e14, W14, Fw14, O14, K14, N14, st14⟩ := own_put X11 hx hZ hown (host := "") (Or.inl (hw _ m187)) Via.refl e11 O11 K11 N11 gn7 (Or.inl (List.mem_of_getElem? (i := 0) rfl)) f12 f13 (Or.inr ⟨(hw _ m188), rfl, hnm⟩) (hw _ m164) (ty := (.object z7)) (by decide) rfl rfl (g := (mkF m 28 #[sR a3, sR a4, sR a5, sL q1, sS, sI p2, sN] [.null, (vR a3)])) rfl rfl (hb hby d25_28)
  have f15 : Fld Z h14 a3 z2 "state" z17 (vR a4) := ((((Fw2.other W5 (Or.inr (slot_ne (Or.inr (hw _ m180)) (Or.inr (hw _ m182)) (by decide) (t := (.object z8)) (t' := (.object z5)) (by decide) (by decide)))).other W8 (Or.inr (slot_ne (Or.inr (hw _ m180)) (Or.inr (hw _ m184)) (by decide) (t := (.object z8)) (t' := .long) (by decide) (by decide)))).other W11 (Or.inr (slot_ne (Or.inr (hw _ m180)) (Or.inr (hw _ m186)) (by decide) (t := (.object z8)) (t' := .int) (by decide) (by decide)))).other W14 (Or.inr (slot_ne (Or.inr (hw _ m180)) (Or.inr (hw _ m188)) (by decide) (t := (.object z8)) (t' := (.object z7)) (by decide) (by decide))))
  have f16 : Fld Z h14 a3 z2 "values" z6 (vR a5) := (((Fw5.other W8 (Or.inr (slot_ne (Or.inr (hw _ m182)) (Or.inr (hw _ m184)) (by decide) (t := (.object z5)) (t' := .long) (by decide) (by decide)))).other W11 (Or.inr (slot_ne (Or.inr (hw _ m182)) (Or.inr (hw _ m186)) (by decide) (t := (.object z5)) (t' := .int) (by decide) (by decide)))).other W14 (Or.inr (slot_ne (Or.inr (hw _ m182)) (Or.inr (hw _ m188)) (by decide) (t := (.object z5)) (t' := (.object z7)) (by decide) (by decide))))
  have f17 : Fld Z h14 a3 z2 "now" "J" (vL q1) := ((Fw8.other W11 (Or.inr (slot_ne (Or.inr (hw _ m184)) (Or.inr (hw _ m186)) (by decide) (t := .long) (t' := .int) (by decide) (by decide)))).other W14 (Or.inr (slot_ne (Or.inr (hw _ m184)) (Or.inr (hw _ m188)) (by decide) (t := .long) (t' := (.object z7)) (by decide) (by decide))))
  have f18 : Fld Z h14 a3 z2 "pageSize" "I" (vI p2) := (Fw11.other W14 (Or.inr (slot_ne (Or.inr (hw _ m186)) (Or.inr (hw _ m188)) (by decide) (t := .int) (t' := (.object z7)) (by decide) (by decide))))
  refine own_end X14 hlk (v := none) (fun _ => rfl) (by decide) (by rw [e14]; exact ⟨rfl, N14, K14, f15, f16, f17, f18, Fw14⟩) fun fs hr => ?_
  show St p e below s₁ (mkF m 0 #[sR a3, sR a4, sR a5, sL q1, sS, sI p2, sN] []) _
  refine wal X0 hx hby rfl d25_0 rfl rfl ?_
  refine st1 _ ?_
  refine wal X1 hx hby rfl d25_4 rfl rfl ?_
  refine wal X1 hx hby rfl d25_5 rfl rfl ?_
  refine st2 _ ?_
  refine wal X2 hx hby rfl d25_9 rfl rfl ?_
  refine wal X2 hx hby rfl d25_10 rfl rfl ?_
  refine st5 _ ?_
  refine wal X5 hx hby rfl d25_14 rfl rfl ?_
  refine XS.lloadN X5.here hx rfl (hb hby d25_15) rfl ?_
  refine st8 _ ?_
  refine wal X8 hx hby rfl d25_19 rfl rfl ?_
  refine wiL X8 hx hby rfl d25_20 rfl ?_
  refine st11 _ ?_
  refine wal X11 hx hby rfl d25_25 rfl rfl ?_
  refine waL X11 hx hby rfl d25_26 rfl rfl ?_
  show St p e below T11 (mkF m 28 #[sR a3, sR a4, sR a5, sL q1, sS, sI p2, sN] [.null, (vR a3)]) _
  refine st14 _ ?_
  exact X14.returnOut hx hret (hb hby d25_31) hr
def Qrm19 (Z : State) (q1 : Int64) (a2 : Addr) (a3 : Addr) (p5 : Int32) (h0 : Heap) (n0 : Nat) (v : Option Value) (h : Heap) (L : List Loc) : Prop := ∃ x0 : Addr, v = some (vR x0) ∧ Fr n0 L ∧ Keep h0 h [] ∧ h0.size ≤ x0 ∧ Exa Z h x0 z2 ∧ Fld Z h x0 z2 "state" z17 (vR a2) ∧ Fld Z h x0 z2 "values" z6 (vR a3) ∧ Fld Z h x0 z2 "now" "J" (vL q1) ∧ Fld Z h x0 z2 "pageSize" "I" (vI p5) ∧ Fld Z h x0 z2 z16 z13 .null
theorem rm19 (cx : Cx Z a0 w0 w1 kw1 w2 kw2 mr1 mr2 mr3 mr4) (q1 : Int64) (a2 : Addr) (a3 : Addr) (a4 : Addr) (p5 : Int32) (O0 : Old Z n0 h0) (PF1 : Fld Z h0 a4 z0 "pageSize" "I" (vI p5)) (PE2 : Exa Z h0 a4 z0) (PF3 : Fld Z h0 a4 z0 z16 z13 .null) : Ct l Z ⟨z2, "of", "(Lcom/example/key3/key3/cql/ClientState;Ljava/util/List;JLcom/example/key3/key3/cql/Parameters;)Lcom/example/key3/key3/cql/Request;"⟩ prog_49_method_2_code 5 (some (.object z2)) ⟨3, 1, 5, 43⟩ #[(vR a2), (vR a3), (vL q1), (vR a4)] h0 (Qrm19 Z q1 a2 a3 p5 h0 n0) := by
  obtain ⟨hw, hj, hS⟩ := id cx
  refine own_bd (plainFor_of_name pn347) (fun m => ef352 m a2 a3 q1 a4) fun p e s m below meth c s₁ hret hlk hZ hx hby hml hown hnm X0 e0 => ?_
  have N0 := Fr.nil n0
  obtain ⟨T1, h1, b1, X1, e1, E1, A1, D1, g1, O1, K1, st1⟩ := own_newO X0 hx hZ hown (hw _ m163) (hw _ m164) (hw _ m161) e0 O0 (Keep.refl h0 []) (g := (mkF m 0 #[sR a2, sR a3, sL q1, sS, sR a4] [])) rfl (hb hby d22_0) (by decide) (by decide)
  have F1_1 : Fld Z h1 b1 z2 "state" z17 .null := D1 (Or.inr (hw _ m180)) (ty := (.object z8)) (by decide)
  have F1_2 : Fld Z h1 b1 z2 "values" z6 .null := D1 (Or.inr (hw _ m182)) (ty := (.object z5)) (by decide)
  have F1_3 : Fld Z h1 b1 z2 "now" "J" (vL 0) := D1 (Or.inr (hw _ m184)) (ty := .long) (by decide)
  have F1_4 : Fld Z h1 b1 z2 "pageSize" "I" (vI 0) := D1 (Or.inr (hw _ m186)) (ty := .int) (by decide)
  have F1_5 : Fld Z h1 b1 z2 z16 z13 .null := D1 (Or.inr (hw _ m188)) (ty := (.object z7)) (by decide)
  have f3 : Fld Z h1 a4 z0 "pageSize" "I" (vI p5) := (PF1.ext E1)
  have f4 : Exa Z h1 a4 z0 := (PE2.ext E1)
  obtain ⟨_, T2, L2, ⟨rfl, N2q, e2⟩, X2, st2⟩ := cV X1 hx hZ (W := 6) hown (cw14 cx) (rm16 cx a4 p5 O1 f3) e1 f4 (g := (mkF m 9 #[sR a2, sR a3, sL q1, sS, sR a4] [(vR a4), (vL q1), (vR a3), (vR a2), (vR b1), (vR b1)])) rfl hml rfl (rest := [(vL q1), (vR a3), (vR a2), (vR b1), (vR b1)]) rfl rfl rfl rfl (hb hby d22_9) (by decide)
  have f6 : Fld Z h1 a4 z0 z16 z13 .null := (PF3.ext E1)
  obtain ⟨_, T5, L5, ⟨rfl, N5q, e5⟩, X5, st5⟩ := cV X2 hx hZ (W := 7) hown (cw15 cx) (rm17 cx a4 O1 f6) e2 f4 (g := (mkF m 14 #[sR a2, sR a3, sL q1, sS, sR a4] [(vR a4), (vI p5), (vL q1), (vR a3), (vR a2), (vR b1), (vR b1)])) rfl hml rfl (rest := [(vI p5), (vL q1), (vR a3), (vR a2), (vR b1), (vR b1)]) rfl rfl rfl rfl (hb hby d22_14) (by decide)
  obtain ⟨_, T7, L7, ⟨rfl, N7q, Kq7, q7_0, q7_1, q7_2, q7_3, q7_4⟩, X7, st7⟩ := cI X5 hx hZ (W := 1) hown (cw17 cx) (rm18 cx q1 p5 b1 a2 a3 O1 A1 F1_1 F1_2 F1_3 F1_4 F1_5 (Nat.le_trans (own_old_le O0) g1)) e5 (g := (mkF m 17 #[sR a2, sR a3, sL q1, sS, sR a4] [.null, (vI p5), (vL q1), (vR a3), (vR a2), (vR b1), (vR b1)])) rfl hml rfl (rest := [(vR b1)]) rfl rfl rfl rfl (hb hby d22_17) (by decide)
  have N7 := Fr.app (Fr.app (Fr.app N0 N2q) N5q) N7q
  have O7 : Old Z n0 T7.heap := O1.keep Kq7 (allS (Nat.le_trans (own_old_le O0) g1) all0)
  have K7 : Keep h0 T7.heap [] := K1.trans Kq7 (allS (Or.inr (Nat.le_trans (Keep.refl h0 []).1 g1)) all0)
  have f8 : Exa Z T7.heap b1 z2 := (A1.keep Kq7)
  refine own_end X7 hlk (v := some (vR b1)) (own_hv hret) (by decide) ⟨b1, rfl, N7, K7, (Nat.le_trans (Keep.refl h0 []).1 g1), f8, q7_0, q7_1, q7_2, q7_3, q7_4⟩ fun fs hr => ?_
  show St p e below s₁ (mkF m 0 #[sR a2, sR a3, sL q1, sS, sR a4] []) _
  refine st1 _ ?_
  refine wdu X1 hx hby rfl d22_3 rfl rfl ?_
  refine wal X1 hx hby rfl d22_4 rfl rfl ?_
  refine wal X1 hx hby rfl d22_5 rfl rfl ?_
  refine XS.lloadN X1.here hx rfl (hb hby d22_6) rfl ?_
  refine waL X1 hx hby rfl d22_7 rfl rfl ?_
  refine st2 _ ?_
  refine waL X2 hx hby rfl d22_12 rfl rfl ?_
  refine st5 _ ?_
  refine st7 _ ?_
  exact retOut X7 hx hret rfl (Or.inr (Or.inr (Or.inr (Or.inr ⟨rfl, rfl, rfl⟩)))) (hb hby d22_20) hr
def Qrm20 (Z : State) (a2 : Addr) (h0 : Heap) (n0 : Nat) (v : Option Value) (h : Heap) (L : List Loc) : Prop := v = some (vR a2) ∧ Fr n0 L ∧ h = h0
theorem rm20 (cx : Cx Z a0 w0 w1 kw1 w2 kw2 mr1 mr2 mr3 mr4) (a1 : Addr) (a2 : Addr) (O0 : Old Z n0 h0) (PF1 : Fld Z h0 a1 z2 "state" z17 (vR a2)) : Ct l Z ⟨z2, "state", z24⟩ prog_49_method_6_code 1 (some (.object z8)) ⟨0, 0, 0, 0⟩ #[(vR a1)] h0 (Qrm20 Z a2 h0 n0) := by
  obtain ⟨hw, hj, hS⟩ := id cx
  refine own_bd (plainFor_of_name pn347) (fun m => ef10 m a1) fun p e s m below meth c s₁ hret hlk hZ hx hby hml hown hnm X0 e0 => ?_
  have N0 := Fr.nil n0
  obtain ⟨T1, X1, e1, st1⟩ := getF X0 hx hZ hown (host := "") (Or.inl (hw _ m179)) Via.refl e0 PF1 (g := (mkF m 1 #[sR a1] [(vR a1)])) rfl rfl (hb hby d26_1)
  refine own_end X1 hlk (v := some (vR a2)) (own_hv hret) (by decide) (by rw [e1]; exact ⟨rfl, N0, rfl⟩) fun fs hr => ?_
  show St p e below s₁ (mkF m 0 #[sR a1] []) _
  refine wal X0 hx hby rfl d26_0 rfl rfl ?_
  refine st1 _ ?_
  exact retOut X1 hx hret rfl (Or.inr (Or.inr (Or.inr (Or.inr ⟨rfl, rfl, rfl⟩)))) (hb hby d26_4) hr
def Qrm21 (Z : State) (a2 : Addr) (h0 : Heap) (n0 : Nat) (v : Option Value) (h : Heap) (L : List Loc) : Prop := v = some (vR a2) ∧ Fr n0 L ∧ h = h0
theorem rm21 (cx : Cx Z a0 w0 w1 kw1 w2 kw2 mr1 mr2 mr3 mr4) (a1 : Addr) (a2 : Addr) (O0 : Old Z n0 h0) (PF1 : Fld Z h0 a1 z2 "values" z6 (vR a2)) : Ct l Z ⟨z2, "values", z33⟩ prog_49_method_7_code 1 (some (.object z5)) ⟨0, 0, 0, 0⟩ #[(vR a1)] h0 (Qrm21 Z a2 h0 n0) := by
  obtain ⟨hw, hj, hS⟩ := id cx
  refine own_bd (plainFor_of_name pn347) (fun m => ef10 m a1) fun p e s m below meth c s₁ hret hlk hZ hx hby hml hown hnm X0 e0 => ?_
  have N0 := Fr.nil n0
  obtain ⟨T1, X1, e1, st1⟩ := getF X0 hx hZ hown (host := "") (Or.inl (hw _ m181)) Via.refl e0 PF1 (g := (mkF m 1 #[sR a1] [(vR a1)])) rfl rfl (hb hby d27_1)
  refine own_end X1 hlk (v := some (vR a2)) (own_hv hret) (by decide) (by rw [e1]; exact ⟨rfl, N0, rfl⟩) fun fs hr => ?_
  show St p e below s₁ (mkF m 0 #[sR a1] []) _
  refine wal X0 hx hby rfl d27_0 rfl rfl ?_
  refine st1 _ ?_
  exact retOut X1 hx hret rfl (Or.inr (Or.inr (Or.inr (Or.inr ⟨rfl, rfl, rfl⟩)))) (hb hby d27_4) hr
def Qrm22 (Z : State) (q2 : Int64) (h0 : Heap) (n0 : Nat) (v : Option Value) (h : Heap) (L : List Loc) : Prop := v = some (vL q2) ∧ Fr n0 L ∧ h = h0
theorem rm22 (cx : Cx Z a0 w0 w1 kw1 w2 kw2 mr1 mr2 mr3 mr4) (a1 : Addr) (q2 : Int64) (O0 : Old Z n0 h0) (PF1 : Fld Z h0 a1 z2 "now" "J" (vL q2)) : Ct l Z ⟨z2, "now", "()J"⟩ prog_49_method_8_code 1 (some .long) ⟨0, 0, 0, 0⟩ #[(vR a1)] h0 (Qrm22 Z q2 h0 n0) := by
  obtain ⟨hw, hj, hS⟩ := id cx
  refine own_bd (plainFor_of_name pn347) (fun m => ef10 m a1) fun p e s m below meth c s₁ hret hlk hZ hx hby hml hown hnm X0 e0 => ?_
  have N0 := Fr.nil n0
  obtain ⟨T1, X1, e1, st1⟩ := getF X0 hx hZ hown (host := "") (Or.inl (hw _ m183)) Via.refl e0 PF1 (g := (mkF m 1 #[sR a1] [(vR a1)])) rfl rfl (hb hby d28_1)
  refine own_end X1 hlk (v := some (vL q2)) (own_hv hret) (by decide) (by rw [e1]; exact ⟨rfl, N0, rfl⟩) fun fs hr => ?_
  show St p e below s₁ (mkF m 0 #[sR a1] []) _
  refine wal X0 hx hby rfl d28_0 rfl rfl ?_
  refine st1 _ ?_
  exact retOut X1 hx hret rfl (Or.inr (Or.inl ⟨rfl, rfl, _, rfl⟩)) (hb hby d28_4) hr
def Qrm23 (Z : State) (p2 : Int32) (h0 : Heap) (n0 : Nat) (v : Option Value) (h : Heap) (L : List Loc) : Prop := v = some (vI p2) ∧ Fr n0 L ∧ h = h0
theorem rm23 (cx : Cx Z a0 w0 w1 kw1 w2 kw2 mr1 mr2 mr3 mr4) (a1 : Addr) (p2 : Int32) (O0 : Old Z n0 h0) (PF1 : Fld Z h0 a1 z2 "pageSize" "I" (vI p2)) : Ct l Z ⟨z2, "pageSize", "()I"⟩ prog_49_method_9_code 1 (some .int) ⟨0, 0, 0, 0⟩ #[(vR a1)] h0 (Qrm23 Z p2 h0 n0) := by
  obtain ⟨hw, hj, hS⟩ := id cx
  refine own_bd (plainFor_of_name pn347) (fun m => ef10 m a1) fun p e s m below meth c s₁ hret hlk hZ hx hby hml hown hnm X0 e0 => ?_
  have N0 := Fr.nil n0
  obtain ⟨T1, X1, e1, st1⟩ := getF X0 hx hZ hown (host := "") (Or.inl (hw _ m185)) Via.refl e0 PF1 (g := (mkF m 1 #[sR a1] [(vR a1)])) rfl rfl (hb hby d29_1)
  refine own_end X1 hlk (v := some (vI p2)) (own_hv hret) (by decide) (by rw [e1]; exact ⟨rfl, N0, rfl⟩) fun fs hr => ?_
  show St p e below s₁ (mkF m 0 #[sR a1] []) _
  refine wal X0 hx hby rfl d29_0 rfl rfl ?_
  refine st1 _ ?_
  exact retOut X1 hx hret rfl (Or.inl ⟨rfl, Or.inl rfl, _, rfl⟩) (hb hby d29_4) hr
def Qrm24 (Z : State) (h0 : Heap) (n0 : Nat) (v : Option Value) (h : Heap) (L : List Loc) : Prop := v = some .null ∧ Fr n0 L ∧ h = h0
theorem rm24 (cx : Cx Z a0 w0 w1 kw1 w2 kw2 mr1 mr2 mr3 mr4) (a1 : Addr) (O0 : Old Z n0 h0) (PF1 : Fld Z h0 a1 z2 z16 z13 .null) : Ct l Z ⟨z2, z16, z19⟩ prog_49_method_10_code 1 (some (.object z7)) ⟨0, 0, 0, 0⟩ #[(vR a1)] h0 (Qrm24 Z h0 n0) := by
  obtain ⟨hw, hj, hS⟩ := id cx
  refine own_bd (plainFor_of_name pn347) (fun m => ef10 m a1) fun p e s m below meth c s₁ hret hlk hZ hx hby hml hown hnm X0 e0 => ?_
  have N0 := Fr.nil n0
  obtain ⟨T1, X1, e1, st1⟩ := getF X0 hx hZ hown (host := "") (Or.inl (hw _ m187)) Via.refl e0 PF1 (g := (mkF m 1 #[sR a1] [(vR a1)])) rfl rfl (hb hby d30_1)
  refine own_end X1 hlk (v := some .null) (own_hv hret) (by decide) (by rw [e1]; exact ⟨rfl, N0, rfl⟩) fun fs hr => ?_
  show St p e below s₁ (mkF m 0 #[sR a1] []) _
  refine wal X0 hx hby rfl d30_0 rfl rfl ?_
  refine st1 _ ?_
  exact retOut X1 hx hret rfl (Or.inr (Or.inr (Or.inr (Or.inr ⟨rfl, rfl, rfl⟩)))) (hb hby d30_4) hr
def Qrm25 (Z : State) (w0 : Addr) (w2 : Addr) (p1 : Int32) (a2 : Addr) (h0 : Heap) (n0 : Nat) (v : Option Value) (h : Heap) (L : List Loc) : Prop := ∃ x0 : Addr, ∃ x1 : Addr, v = none ∧ Fr n0 L ∧ Keep h0 h [a2] ∧ h0.size ≤ x0 ∧ x0 < x1 ∧ Exa Z h x0 z1 ∧ Fld Z h x0 z9 "modCount" "I" (vI 0) ∧ Fld Z h x0 z1 z15 z3 (vR w2) ∧ Fld Z h x0 z1 "size" "I" (vI 0) ∧ Exa Z h x1 z10 ∧ Fld Z h x1 z11 "c" z20 (vR x0) ∧ Fld Z h x1 z12 "list" z6 (vR x0) ∧ Fld Z h a2 z0 "values" z6 (vR x1) ∧ Fld Z h a2 z0 "names" z6 .null ∧ Fld Z h a2 z0 "pageSize" "I" (vI p1) ∧ Fld Z h a2 z0 z16 z13 (vR w0)
theorem rm25 (cx : Cx Z a0 w0 w1 kw1 w2 kw2 mr1 mr2 mr3 mr4) (p1 : Int32) (a2 : Addr) (a3 : Addr) (O0 : Old Z n0 h0) (PE1 : Exa Z h0 a2 z0) (PF2 : Fld Z h0 a2 z0 "values" z6 .null) (PF3 : Fld Z h0 a2 z0 "names" z6 .null) (PF4 : Fld Z h0 a2 z0 "pageSize" "I" (vI 0)) (PF5 : Fld Z h0 a2 z0 z16 z13 .null) (PF6 : Fld Z h0 a3 z1 z15 z3 (vR w1)) (PF7 : Fld Z h0 a3 z1 "size" "I" (vI 0)) (PE8 : Exa Z h0 a3 z1) (gn9 : n0 ≤ a2) : Ct l Z ⟨z0, "<init>", z18⟩ prog_44_method_1_code 5 none ⟨5, 3, 5, 73⟩ #[(vR a2), (vR a3), .null, (vI p1), (vR w0)] h0 (Qrm25 Z w0 w2 p1 a2 h0 n0) := by
  obtain ⟨hw, hj, hS⟩ := id cx
  refine own_bd (plainFor_of_name pn280) (fun m => ef400 m a2 a3 p1 w0) fun p e s m below meth c s₁ hret hlk hZ hx hby hml hown hnm X0 e0 => ?_
  have N0 := Fr.nil n0
  obtain ⟨_, T1, L1, ⟨rfl, N1q, e1⟩, X1, st1⟩ := cI X0 hx hZ (W := 0) hown (cw4 cx) (rm5 cx a2 O0) e0 (g := (mkF m 1 #[sR a2, sR a3, sN, sI p1, sR w0] [(vR a2)])) rfl hml rfl (rest := []) rfl rfl rfl rfl (hb hby d11_1) (by decide)
  obtain ⟨T2, h2, b2, X2, e2, E2, A2, D2, g2, O2, K2, st2⟩ := own_newO X1 hx hZ hown (hw _ m75) (hw _ m10) (hw _ m11) e1 O0 (Keep.refl h0 [a2]) (g := (mkF m 4 #[sR a2, sR a3, sN, sI p1, sR w0] [])) rfl (hb hby d11_4) (by decide) (by decide)
  have F2_1 : Fld Z h2 b2 z9 "modCount" "I" (vI 0) := D2 (Or.inl (hw _ m29)) (ty := .int) (by decide)
  have F2_2 : Fld Z h2 b2 z1 z15 z3 .null := D2 (Or.inl (hw _ m32)) (ty := (.array (.object z4))) (by decide)
  have F2_3 : Fld Z h2 b2 z1 "size" "I" (vI 0) := D2 (Or.inl (hw _ m41)) (ty := .int) (by decide)
  have f4 : Fld Z h2 a3 z1 z15 z3 (vR w1) := (PF6.ext E2)
  have f5 : Fld Z h2 a3 z1 "size" "I" (vI 0) := (PF7.ext E2)
  have f6 : Exa Z h2 a3 z1 := (PE8.ext E2)
  obtain ⟨_, T3, L3, ⟨rfl, N3q, Kq3, q3_0, q3_1, q3_2⟩, X3, st3⟩ := cI X2 hx hZ (W := 1) hown (cw8 cx) (rm10 cx b2 a3 O2 A2 F2_1 F2_2 F2_3 (Nat.le_trans (own_old_le O0) g2) f4 (Nat.ne_of_lt (Nat.lt_of_lt_of_le PF6.lt g2)) f5 f6) e2 (g := (mkF m 9 #[sR a2, sR a3, sN, sI p1, sR w0] [(vR a3), (vR b2), (vR b2)])) rfl hml rfl (rest := [(vR b2)]) rfl rfl rfl rfl (hb hby d11_9) (by decide)
  have N3 := Fr.app (Fr.app N0 N1q) N3q
  have O3 : Old Z n0 T3.heap := O2.keep Kq3 (allS (Nat.le_trans (own_old_le O0) g2) all0)
  have K3 : Keep h0 T3.heap [a2] := K2.trans Kq3 (allS (Or.inr (Nat.le_trans (Keep.refl h0 [a2]).1 g2)) all0)
  have f8 : Exa Z T3.heap b2 z1 := (A2.keep Kq3)
  obtain ⟨_, T7, L7, ⟨c7_0, rfl, N7q, Kq7, lo7_0, q7_0, q7_1, q7_2⟩, X7, st7⟩ := cS X3 hx hZ (W := 0) hown (cw12 cx) (rm14 cx b2 O3 f8) (rfl : T3.heap = T3.heap) (g := (mkF m 12 #[sR a2, sR a3, sN, sI p1, sR w0] [(vR b2)])) rfl hml rfl (rest := []) rfl rfl rfl rfl (hb hby d11_12) (by decide)
  have N7 := Fr.app N3 N7q
  have O7 : Old Z n0 T7.heap := O3.keep Kq7 all0
  have K7 : Keep h0 T7.heap [a2] := K3.trans Kq7 all0
  have f9 : Fld Z T7.heap a2 z0 "values" z6 .null := (((PF2.ext E2).keep Kq3 (ninS (Nat.ne_of_lt (Nat.lt_of_lt_of_le PE1.lt g2)) nin0)).keep Kq7 nin0)
  have f10 : Exa Z T7.heap a2 z0 := (((PE1.ext E2).keep Kq3).keep Kq7)
  obtain ⟨T11, h11, L'11, X11, e11, W11, Fw11, O11, K11, N11, st11⟩ := own_put X7 hx hZ hown (host := "") (Or.inl (hw _ m151)) Via.refl (rfl : T7.heap = T7.heap) O7 K7 N7 gn9 (Or.inl (List.mem_of_getElem? (i := 0) rfl)) f9 f10 (Or.inr ⟨(hw _ m152), rfl, hnm⟩) (hw _ m64) (ty := (.object z5)) (by decide) rfl rfl (g := (mkF m 75 #[sR a2, sR c7_0, sN, sI p1, sR w0] [(vR c7_0), (vR a2)])) rfl rfl (hb hby d11_75)
  have f12 : Fld Z h11 a2 z0 "names" z6 .null := ((((PF3.ext E2).keep Kq3 (ninS (Nat.ne_of_lt (Nat.lt_of_lt_of_le PE1.lt g2)) nin0)).keep Kq7 nin0).other W11 (Or.inr (slot_ne (Or.inr (hw _ m154)) (Or.inr (hw _ m152)) (by decide) (t := (.object z5)) (t' := (.object z5)) (by decide) (by decide))))
  have f13 : Exa Z h11 a2 z0 := (f10.wr W11)
  obtain ⟨T14, h14, L'14, X14, e14, W14, Fw14, O14, K14, N14, st14⟩ := own_put X11 hx hZ hown (host := "") (Or.inl (hw _ m153)) Via.refl e11 O11 K11 N11 gn9 (Or.inl (List.mem_of_getElem? (i := 0) rfl)) f12 f13 (Or.inr ⟨(hw _ m154), rfl, hnm⟩) (hw _ m64) (ty := (.object z5)) (by decide) rfl rfl (g := (mkF m 80 #[sR a2, sR c7_0, sN, sI p1, sR w0] [.null, (vR a2)])) rfl rfl (hb hby d11_80)
  have f15 : Fld Z h14 a2 z0 "pageSize" "I" (vI 0) := (((((PF4.ext E2).keep Kq3 (ninS (Nat.ne_of_lt (Nat.lt_of_lt_of_le PE1.lt g2)) nin0)).keep Kq7 nin0).other W11 (Or.inr (slot_ne (Or.inr (hw _ m156)) (Or.inr (hw _ m152)) (by decide) (t := .int) (t' := (.object z5)) (by decide) (by decide)))).other W14 (Or.inr (slot_ne (Or.inr (hw _ m156)) (Or.inr (hw _ m154)) (by decide) (t := .int) (t' := (.object z5)) (by decide) (by decide))))
  have f16 : Exa Z h14 a2 z0 := (f13.wr W14)
  obtain ⟨T17, h17, L'17, X17, e17, W17, Fw17, O17, K17, N17, st17⟩ := own_put X14 hx hZ hown (host := "") (Or.inl (hw _ m155)) Via.refl e14 O14 K14 N14 gn9 (Or.inl (List.mem_of_getElem? (i := 0) rfl)) f15 f16 (Or.inr ⟨(hw _ m156), rfl, hnm⟩) (hw _ m64) (ty := .int) (by decide) rfl rfl (g := (mkF m 85 #[sR a2, sR c7_0, sN, sI p1, sR w0] [(vI p1), (vR a2)])) rfl rfl (hb hby d11_85)
  have f18 : Fld Z h17 a2 z0 z16 z13 .null := ((((((PF5.ext E2).keep Kq3 (ninS (Nat.ne_of_lt (Nat.lt_of_lt_of_le PE1.lt g2)) nin0)).keep Kq7 nin0).other W11 (Or.inr (slot_ne (Or.inr (hw _ m158)) (Or.inr (hw _ m152)) (by decide) (t := (.object z7)) (t' := (.object z5)) (by decide) (by decide)))).other W14 (Or.inr (slot_ne (Or.inr (hw _ m158)) (Or.inr (hw _ m154)) (by decide) (t := (.object z7)) (t' := (.object z5)) (by decide) (by decide)))).other W17 (Or.inr (slot_ne (Or.inr (hw _ m158)) (Or.inr (hw _ m156)) (by decide) (t := (.object z7)) (t' := .int) (by decide) (by decide))))
  have f19 : Exa Z h17 a2 z0 := (f16.wr W17)
  obtain ⟨T20, h20, L'20, X20, e20, W20, Fw20, O20, K20, N20, st20⟩ := own_put X17 hx hZ hown (host := "") (Or.inl (hw _ m157)) Via.refl e17 O17 K17 N17 gn9 (Or.inl (List.mem_of_getElem? (i := 0) rfl)) f18 f19 (Or.inr ⟨(hw _ m158), rfl, hnm⟩) (hw _ m64) (ty := (.object z7)) (by decide) rfl rfl (g := (mkF m 91 #[sR a2, sR c7_0, sN, sI p1, sR w0] [(vR w0), (vR a2)])) rfl rfl (hb hby d11_91)
  have f21 : Exa Z h20 b2 z1 := (((((f8.keep Kq7).wr W11).wr W14).wr W17).wr W20)
  have f22 : Fld Z h20 b2 z9 "modCount" "I" (vI 0) := (((((q3_0.keep Kq7 nin0).other W11 (Or.inl (Ne.symm (Nat.ne_of_lt (Nat.lt_of_lt_of_le PE1.lt g2))))).other W14 (Or.inl (Ne.symm (Nat.ne_of_lt (Nat.lt_of_lt_of_le PE1.lt g2))))).other W17 (Or.inl (Ne.symm (Nat.ne_of_lt (Nat.lt_of_lt_of_le PE1.lt g2))))).other W20 (Or.inl (Ne.symm (Nat.ne_of_lt (Nat.lt_of_lt_of_le PE1.lt g2)))))
  have f23 : Fld Z h20 b2 z1 z15 z3 (vR w2) := (((((q3_1.keep Kq7 nin0).other W11 (Or.inl (Ne.symm (Nat.ne_of_lt (Nat.lt_of_lt_of_le PE1.lt g2))))).other W14 (Or.inl (Ne.symm (Nat.ne_of_lt (Nat.lt_of_lt_of_le PE1.lt g2))))).other W17 (Or.inl (Ne.symm (Nat.ne_of_lt (Nat.lt_of_lt_of_le PE1.lt g2))))).other W20 (Or.inl (Ne.symm (Nat.ne_of_lt (Nat.lt_of_lt_of_le PE1.lt g2)))))
  have f24 : Fld Z h20 b2 z1 "size" "I" (vI 0) := (((((q3_2.keep Kq7 nin0).other W11 (Or.inl (Ne.symm (Nat.ne_of_lt (Nat.lt_of_lt_of_le PE1.lt g2))))).other W14 (Or.inl (Ne.symm (Nat.ne_of_lt (Nat.lt_of_lt_of_le PE1.lt g2))))).other W17 (Or.inl (Ne.symm (Nat.ne_of_lt (Nat.lt_of_lt_of_le PE1.lt g2))))).other W20 (Or.inl (Ne.symm (Nat.ne_of_lt (Nat.lt_of_lt_of_le PE1.lt g2)))))
  have f25 : Exa Z h20 c7_0 z10 := ((((q7_0.wr W11).wr W14).wr W17).wr W20)
  have ne26 : a2 ≠ c7_0 := (Nat.ne_of_lt (Nat.lt_of_lt_of_le (Nat.lt_of_lt_of_le PE1.lt (Nat.le_trans E2.1 Kq3.1)) lo7_0))
  have f27 : Fld Z h20 c7_0 z11 "c" z20 (vR b2) := ((((q7_1.other W11 (Or.inl (Ne.symm ne26))).other W14 (Or.inl (Ne.symm ne26))).other W17 (Or.inl (Ne.symm ne26))).other W20 (Or.inl (Ne.symm ne26)))
  have f28 : Fld Z h20 c7_0 z12 "list" z6 (vR b2) := ((((q7_2.other W11 (Or.inl (Ne.symm ne26))).other W14 (Or.inl (Ne.symm ne26))).other W17 (Or.inl (Ne.symm ne26))).other W20 (Or.inl (Ne.symm ne26)))
  have f29 : Fld Z h20 a2 z0 "values" z6 (vR c7_0) := (((Fw11.other W14 (Or.inr (slot_ne (Or.inr (hw _ m152)) (Or.inr (hw _ m154)) (by decide) (t := (.object z5)) (t' := (.object z5)) (by decide) (by decide)))).other W17 (Or.inr (slot_ne (Or.inr (hw _ m152)) (Or.inr (hw _ m156)) (by decide) (t := (.object z5)) (t' := .int) (by decide) (by decide)))).other W20 (Or.inr (slot_ne (Or.inr (hw _ m152)) (Or.inr (hw _ m158)) (by decide) (t := (.object z5)) (t' := (.object z7)) (by decide) (by decide))))
  have f30 : Fld Z h20 a2 z0 "names" z6 .null := ((Fw14.other W17 (Or.inr (slot_ne (Or.inr (hw _ m154)) (Or.inr (hw _ m156)) (by decide) (t := (.object z5)) (t' := .int) (by decide) (by decide)))).other W20 (Or.inr (slot_ne (Or.inr (hw _ m154)) (Or.inr (hw _ m158)) (by decide) (t := (.object z5)) (t' := (.object z7)) (by decide) (by decide))))
  have f31 : Fld Z h20 a2 z0 "pageSize" "I" (vI p1) := (Fw17.other W20 (Or.inr (slot_ne (Or.inr (hw _ m156)) (Or.inr (hw _ m158)) (by decide) (t := .int) (t' := (.object z7)) (by decide) (by decide))))
  refine own_end X20 hlk (v := none) (fun _ => rfl) (by decide) (by rw [e20]; exact ⟨b2, c7_0, rfl, N20, K20, (Nat.le_trans (Keep.refl h0 [a2]).1 g2), (Nat.lt_of_lt_of_le (Nat.lt_of_lt_of_le A2.lt Kq3.1) lo7_0), f21, f22, f23, f24, f25, f27, f28, f29, f30, f31, Fw20⟩) fun fs hr => ?_
  show St p e below s₁ (mkF m 0 #[sR a2, sR a3, sN, sI p1, sR w0] []) _
  refine wal X0 hx hby rfl d11_0 rfl rfl ?_
  refine st1 _ ?_
  refine st2 _ ?_
  refine wdu X2 hx hby rfl d11_7 rfl rfl ?_
  refine wal X2 hx hby rfl d11_8 rfl rfl ?_
  refine st3 _ ?_
  refine st7 _ ?_
  refine was X7 hx hby rfl d11_15 rfl rfl (l' := #[sR a2, sR c7_0, sN, sI p1, sR w0]) rfl ?_
  refine wal X7 hx hby rfl d11_16 rfl rfl ?_
  refine XS.ifnonnullNo X7.here hx rfl (hb hby d11_17) rfl ?_
  refine wan X7 hx hby rfl d11_20 ?_
  refine wgt X7 hx hby rfl (pc0 := 21) (pc' := 28) rfl d11_21 (by decide) (by decide) ?_
  refine was X7 hx hby rfl d11_28 rfl rfl (l' := #[sR a2, sR c7_0, sN, sI p1, sR w0]) rfl ?_
  refine wal X7 hx hby rfl d11_29 rfl rfl ?_
  refine wny X7 hx hby rfl (pc0 := 30) (pc' := 73) rfl d11_30 rfl (by decide) (by decide) ?_
  refine wal X7 hx hby rfl d11_73 rfl rfl ?_
  show St p e below T7 (mkF m 74 #[sR a2, sR c7_0, sN, sI p1, sR w0] [(vR a2)]) _
  refine wal X7 hx hby rfl d11_74 rfl rfl ?_
  refine st11 _ ?_
  refine wal X11 hx hby rfl d11_78 rfl rfl ?_
  refine wal X11 hx hby rfl d11_79 rfl rfl ?_
  refine st14 _ ?_
  refine wal X14 hx hby rfl d11_83 rfl rfl ?_
  refine wil X14 hx hby rfl d11_84 rfl ?_
  refine st17 _ ?_
  refine wal X17 hx hby rfl d11_88 rfl rfl ?_
  refine waL X17 hx hby rfl d11_89 rfl rfl ?_
  refine st20 _ ?_
  exact X20.returnOut hx hret (hb hby d11_94) hr
def Qrm26 (Z : State) (w0 : Addr) (h0 : Heap) (n0 : Nat) (v : Option Value) (h : Heap) (L : List Loc) : Prop := v = some (vR w0) ∧ Fr n0 L ∧ h = h0
theorem rm26 (cx : Cx Z a0 w0 w1 kw1 w2 kw2 mr1 mr2 mr3 mr4) (a1 : Addr) (O0 : Old Z n0 h0) (PF1 : Fld Z h0 a1 z0 z16 z13 (vR w0)) : Ct l Z ⟨z0, z16, z19⟩ prog_44_method_11_code 1 (some (.object z7)) ⟨0, 0, 0, 0⟩ #[(vR a1)] h0 (Qrm26 Z w0 h0 n0) := by
  obtain ⟨hw, hj, hS⟩ := id cx
  refine own_bd (plainFor_of_name pn280) (fun m => ef10 m a1) fun p e s m below meth c s₁ hret hlk hZ hx hby hml hown hnm X0 e0 => ?_
  have N0 := Fr.nil n0
  obtain ⟨T1, X1, e1, st1⟩ := getF X0 hx hZ hown (host := "") (Or.inl (hw _ m157)) Via.refl e0 PF1 (g := (mkF m 1 #[sR a1] [(vR a1)])) rfl rfl (hb hby d24_1)
  refine own_end X1 hlk (v := some (vR w0)) (own_hv hret) (by decide) (by rw [e1]; exact ⟨rfl, N0, rfl⟩) fun fs hr => ?_
  show St p e below s₁ (mkF m 0 #[sR a1] []) _
  refine wal X0 hx hby rfl d24_0 rfl rfl ?_
  refine st1 _ ?_
  exact retOut X1 hx hret rfl (Or.inr (Or.inr (Or.inr (Or.inr ⟨rfl, rfl, rfl⟩)))) (hb hby d24_4) hr
def Qrm27 (Z : State) (w0 : Addr) (q1 : Int64) (p2 : Int32) (a3 : Addr) (a4 : Addr) (a5 : Addr) (h0 : Heap) (n0 : Nat) (v : Option Value) (h : Heap) (L : List Loc) : Prop := v = none ∧ Fr n0 L ∧ Keep h0 h [a3] ∧ Fld Z h a3 z2 "state" z17 (vR a4) ∧ Fld Z h a3 z2 "values" z6 (vR a5) ∧ Fld Z h a3 z2 "now" "J" (vL q1) ∧ Fld Z h a3 z2 "pageSize" "I" (vI p2) ∧ Fld Z h a3 z2 z16 z13 (vR w0)
theorem rm27 (cx : Cx Z a0 w0 w1 kw1 w2 kw2 mr1 mr2 mr3 mr4) (q1 : Int64) (p2 : Int32) (a3 : Addr) (a4 : Addr) (a5 : Addr) (O0 : Old Z n0 h0) (PE1 : Exa Z h0 a3 z2) (PF2 : Fld Z h0 a3 z2 "state" z17 .null) (PF3 : Fld Z h0 a3 z2 "values" z6 .null) (PF4 : Fld Z h0 a3 z2 "now" "J" (vL 0)) (PF5 : Fld Z h0 a3 z2 "pageSize" "I" (vI 0)) (PF6 : Fld Z h0 a3 z2 z16 z13 .null) (gn7 : n0 ≤ a3) : Ct l Z ⟨z2, "<init>", "(Lcom/example/key3/key3/cql/ClientState;Ljava/util/List;JILjava/nio/ByteBuffer;)V"⟩ prog_49_method_1_code 7 none ⟨2, 0, 0, 24⟩ #[(vR a3), (vR a4), (vR a5), (vL q1), (vI p2), (vR w0)] h0 (Qrm27 Z w0 q1 p2 a3 a4 a5 h0 n0) := by
  obtain ⟨hw, hj, hS⟩ := id cx
  refine own_bd (plainFor_of_name pn347) (fun m => ef401 m a3 a4 a5 q1 p2 w0) fun p e s m below meth c s₁ hret hlk hZ hx hby hml hown hnm X0 e0 => ?_
  have N0 := Fr.nil n0
  obtain ⟨_, T1, L1, ⟨rfl, N1q, e1⟩, X1, st1⟩ := cI X0 hx hZ (W := 0) hown (cw16 cx) (rm5 cx a3 O0) e0 (g := (mkF m 1 #[sR a3, sR a4, sR a5, sL q1, sS, sI p2, sR w0] [(vR a3)])) rfl hml rfl (rest := []) rfl rfl rfl rfl (hb hby d25_1) (by decide)
  obtain ⟨T2, h2, L'2, X2, e2, W2, Fw2, O2, K2, N2, st2⟩ := own_put X1 hx hZ hown (host := "") (Or.inl (hw _ m179)) Via.refl e1 O0 (Keep.refl h0 [a3]) (Fr.app N0 N1q) gn7 (Or.inl (List.mem_of_getElem? (i := 0) rfl)) PF2 PE1 (Or.inr ⟨(hw _ m180), rfl, hnm⟩) (hw _ m164) (ty := (.object z8)) (by decide) rfl rfl (g := (mkF m 6 #[sR a3, sR a4, sR a5, sL q1, sS, sI p2, sR w0] [(vR a4), (vR a3)])) rfl rfl (hb hby d25_6)
  have f3 : Fld Z h2 a3 z2 "values" z6 .null := (PF3.other W2 (Or.inr (slot_ne (Or.inr (hw _ m182)) (Or.inr (hw _ m180)) (by decide) (t := (.object z5)) (t' := (.object z8)) (by decide) (by decide))))
  have f4 : Exa Z h2 a3 z2 := (PE1.wr W2)
  obtain ⟨T5, h5, L'5, X5, e5, W5, Fw5, O5, K5, N5, st5⟩ := own_put X2 hx hZ hown (host := "") (Or.inl (hw _ m181)) Via.refl e2 O2 K2 N2 gn7 (Or.inl (List.mem_of_getElem? (i := 0) rfl)) f3 f4 (Or.inr ⟨(hw _ m182), rfl, hnm⟩) (hw _ m164) (ty := (.object z5)) (by decide) rfl rfl (g := (mkF m 11 #[sR a3, sR a4, sR a5, sL q1, sS, sI p2, sR w0] [(vR a5), (vR a3)])) rfl rfl (hb hby d25_11)
  have f6 : Fld Z h5 a3 z2 "now" "J" (vL 0) := ((PF4.other W2 (Or.inr (slot_ne (Or.inr (hw _ m184)) (Or.inr (hw _ m180)) (by decide) (t := .long) (t' := (.object z8)) (by decide) (by decide)))).other W5 (Or.inr (slot_ne (Or.inr (hw _ m184)) (Or.inr (hw _ m182)) (by decide) (t := .long) (t' := (.object z5)) (by decide) (by decide))))
  have f7 : Exa Z h5 a3 z2 := (f4.wr W5)
  obtain ⟨T8, h8, L'8, X8, e8, W8, Fw8, O8, K8, N8, st8⟩ := own_put X5 hx hZ hown (host := "") (Or.inl (hw _ m183)) Via.refl e5 O5 K5 N5 gn7 (Or.inl (List.mem_of_getElem? (i := 0) rfl)) f6 f7 (Or.inr ⟨(hw _ m184), rfl, hnm⟩) (hw _ m164) (ty := .long) (by decide) rfl rfl (g := (mkF m 16 #[sR a3, sR a4, sR a5, sL q1, sS, sI p2, sR w0] [(vL q1), (vR a3)])) rfl rfl (hb hby d25_16)
  have f9 : Fld Z h8 a3 z2 "pageSize" "I" (vI 0) := (((PF5.other W2 (Or.inr (slot_ne (Or.inr (hw _ m186)) (Or.inr (hw _ m180)) (by decide) (t := .int) (t' := (.object z8)) (by decide) (by decide)))).other W5 (Or.inr (slot_ne (Or.inr (hw _ m186)) (Or.inr (hw _ m182)) (by decide) (t := .int) (t' := (.object z5)) (by decide) (by decide)))).other W8 (Or.inr (slot_ne (Or.inr (hw _ m186)) (Or.inr (hw _ m184)) (by decide) (t := .int) (t' := .long) (by decide) (by decide))))
  have f10 : Exa Z h8 a3 z2 := (f7.wr W8)
  obtain ⟨T11, h11, L'11, X11, e11, W11, Fw11, O11, K11, N11, st11⟩ := own_put X8 hx hZ hown (host := "") (Or.inl (hw _ m185)) Via.refl e8 O8 K8 N8 gn7 (Or.inl (List.mem_of_getElem? (i := 0) rfl)) f9 f10 (Or.inr ⟨(hw _ m186), rfl, hnm⟩) (hw _ m164) (ty := .int) (by decide) rfl rfl (g := (mkF m 22 #[sR a3, sR a4, sR a5, sL q1, sS, sI p2, sR w0] [(vI p2), (vR a3)])) rfl rfl (hb hby d25_22)
  have f12 : Fld Z h11 a3 z2 z16 z13 .null := ((((PF6.other W2 (Or.inr (slot_ne (Or.inr (hw _ m188)) (Or.inr (hw _ m180)) (by decide) (t := (.object z7)) (t' := (.object z8)) (by decide) (by decide)))).other W5 (Or.inr (slot_ne (Or.inr (hw _ m188)) (Or.inr (hw _ m182)) (by decide) (t := (.object z7)) (t' := (.object z5)) (by decide) (by decide)))).other W8 (Or.inr (slot_ne (Or.inr (hw _ m188)) (Or.inr (hw _ m184)) (by decide) (t := (.object z7)) (t' := .long) (by decide) (by decide)))).other W11 (Or.inr (slot_ne (Or.inr (hw _ m188)) (Or.inr (hw _ m186)) (by decide) (t := (.object z7)) (t' := .int) (by decide) (by decide))))
  have f13 : Exa Z h11 a3 z2 := (f10.wr W11)
  obtain ⟨T14, h14, L'14, X14, e14, W14, Fw14, O14, K14, N14, st14⟩ := own_put X11 hx hZ hown (host := "") (Or.inl (hw _ m187)) Via.refl e11 O11 K11 N11 gn7 (Or.inl (List.mem_of_getElem? (i := 0) rfl)) f12 f13 (Or.inr ⟨(hw _ m188), rfl, hnm⟩) (hw _ m164) (ty := (.object z7)) (by decide) rfl rfl (g := (mkF m 28 #[sR a3, sR a4, sR a5, sL q1, sS, sI p2, sR w0] [(vR w0), (vR a3)])) rfl rfl (hb hby d25_28)
  have f15 : Fld Z h14 a3 z2 "state" z17 (vR a4) := ((((Fw2.other W5 (Or.inr (slot_ne (Or.inr (hw _ m180)) (Or.inr (hw _ m182)) (by decide) (t := (.object z8)) (t' := (.object z5)) (by decide) (by decide)))).other W8 (Or.inr (slot_ne (Or.inr (hw _ m180)) (Or.inr (hw _ m184)) (by decide) (t := (.object z8)) (t' := .long) (by decide) (by decide)))).other W11 (Or.inr (slot_ne (Or.inr (hw _ m180)) (Or.inr (hw _ m186)) (by decide) (t := (.object z8)) (t' := .int) (by decide) (by decide)))).other W14 (Or.inr (slot_ne (Or.inr (hw _ m180)) (Or.inr (hw _ m188)) (by decide) (t := (.object z8)) (t' := (.object z7)) (by decide) (by decide))))
  have f16 : Fld Z h14 a3 z2 "values" z6 (vR a5) := (((Fw5.other W8 (Or.inr (slot_ne (Or.inr (hw _ m182)) (Or.inr (hw _ m184)) (by decide) (t := (.object z5)) (t' := .long) (by decide) (by decide)))).other W11 (Or.inr (slot_ne (Or.inr (hw _ m182)) (Or.inr (hw _ m186)) (by decide) (t := (.object z5)) (t' := .int) (by decide) (by decide)))).other W14 (Or.inr (slot_ne (Or.inr (hw _ m182)) (Or.inr (hw _ m188)) (by decide) (t := (.object z5)) (t' := (.object z7)) (by decide) (by decide))))
  have f17 : Fld Z h14 a3 z2 "now" "J" (vL q1) := ((Fw8.other W11 (Or.inr (slot_ne (Or.inr (hw _ m184)) (Or.inr (hw _ m186)) (by decide) (t := .long) (t' := .int) (by decide) (by decide)))).other W14 (Or.inr (slot_ne (Or.inr (hw _ m184)) (Or.inr (hw _ m188)) (by decide) (t := .long) (t' := (.object z7)) (by decide) (by decide))))
  have f18 : Fld Z h14 a3 z2 "pageSize" "I" (vI p2) := (Fw11.other W14 (Or.inr (slot_ne (Or.inr (hw _ m186)) (Or.inr (hw _ m188)) (by decide) (t := .int) (t' := (.object z7)) (by decide) (by decide))))
  refine own_end X14 hlk (v := none) (fun _ => rfl) (by decide) (by rw [e14]; exact ⟨rfl, N14, K14, f15, f16, f17, f18, Fw14⟩) fun fs hr => ?_
  show St p e below s₁ (mkF m 0 #[sR a3, sR a4, sR a5, sL q1, sS, sI p2, sR w0] []) _
  refine wal X0 hx hby rfl d25_0 rfl rfl ?_
  refine st1 _ ?_
  refine wal X1 hx hby rfl d25_4 rfl rfl ?_
  refine wal X1 hx hby rfl d25_5 rfl rfl ?_
  refine st2 _ ?_
  refine wal X2 hx hby rfl d25_9 rfl rfl ?_
  refine wal X2 hx hby rfl d25_10 rfl rfl ?_
  refine st5 _ ?_
  refine wal X5 hx hby rfl d25_14 rfl rfl ?_
  refine XS.lloadN X5.here hx rfl (hb hby d25_15) rfl ?_
  refine st8 _ ?_
  refine wal X8 hx hby rfl d25_19 rfl rfl ?_
  refine wiL X8 hx hby rfl d25_20 rfl ?_
  refine st11 _ ?_
  refine wal X11 hx hby rfl d25_25 rfl rfl ?_
  refine waL X11 hx hby rfl d25_26 rfl rfl ?_
  show St p e below T11 (mkF m 28 #[sR a3, sR a4, sR a5, sL q1, sS, sI p2, sR w0] [(vR w0), (vR a3)]) _
  refine st14 _ ?_
  exact X14.returnOut hx hret (hb hby d25_31) hr
def Qrm28 (Z : State) (w0 : Addr) (q1 : Int64) (a2 : Addr) (a3 : Addr) (p5 : Int32) (h0 : Heap) (n0 : Nat) (v : Option Value) (h : Heap) (L : List Loc) : Prop := ∃ x0 : Addr, v = some (vR x0) ∧ Fr n0 L ∧ Keep h0 h [] ∧ h0.size ≤ x0 ∧ Exa Z h x0 z2 ∧ Fld Z h x0 z2 "state" z17 (vR a2) ∧ Fld Z h x0 z2 "values" z6 (vR a3) ∧ Fld Z h x0 z2 "now" "J" (vL q1) ∧ Fld Z h x0 z2 "pageSize" "I" (vI p5) ∧ Fld Z h x0 z2 z16 z13 (vR w0)
theorem rm28 (cx : Cx Z a0 w0 w1 kw1 w2 kw2 mr1 mr2 mr3 mr4) (q1 : Int64) (a2 : Addr) (a3 : Addr) (a4 : Addr) (p5 : Int32) (O0 : Old Z n0 h0) (PF1 : Fld Z h0 a4 z0 "pageSize" "I" (vI p5)) (PE2 : Exa Z h0 a4 z0) (PF3 : Fld Z h0 a4 z0 z16 z13 (vR w0)) : Ct l Z ⟨z2, "of", "(Lcom/example/key3/key3/cql/ClientState;Ljava/util/List;JLcom/example/key3/key3/cql/Parameters;)Lcom/example/key3/key3/cql/Request;"⟩ prog_49_method_2_code 5 (some (.object z2)) ⟨3, 1, 5, 43⟩ #[(vR a2), (vR a3), (vL q1), (vR a4)] h0 (Qrm28 Z w0 q1 a2 a3 p5 h0 n0) := by
  obtain ⟨hw, hj, hS⟩ := id cx
  refine own_bd (plainFor_of_name pn347) (fun m => ef352 m a2 a3 q1 a4) fun p e s m below meth c s₁ hret hlk hZ hx hby hml hown hnm X0 e0 => ?_
  have N0 := Fr.nil n0
  obtain ⟨T1, h1, b1, X1, e1, E1, A1, D1, g1, O1, K1, st1⟩ := own_newO X0 hx hZ hown (hw _ m163) (hw _ m164) (hw _ m161) e0 O0 (Keep.refl h0 []) (g := (mkF m 0 #[sR a2, sR a3, sL q1, sS, sR a4] [])) rfl (hb hby d22_0) (by decide) (by decide)
  have F1_1 : Fld Z h1 b1 z2 "state" z17 .null := D1 (Or.inr (hw _ m180)) (ty := (.object z8)) (by decide)
  have F1_2 : Fld Z h1 b1 z2 "values" z6 .null := D1 (Or.inr (hw _ m182)) (ty := (.object z5)) (by decide)
  have F1_3 : Fld Z h1 b1 z2 "now" "J" (vL 0) := D1 (Or.inr (hw _ m184)) (ty := .long) (by decide)
  have F1_4 : Fld Z h1 b1 z2 "pageSize" "I" (vI 0) := D1 (Or.inr (hw _ m186)) (ty := .int) (by decide)
  have F1_5 : Fld Z h1 b1 z2 z16 z13 .null := D1 (Or.inr (hw _ m188)) (ty := (.object z7)) (by decide)
  have f3 : Fld Z h1 a4 z0 "pageSize" "I" (vI p5) := (PF1.ext E1)
  have f4 : Exa Z h1 a4 z0 := (PE2.ext E1)
  obtain ⟨_, T2, L2, ⟨rfl, N2q, e2⟩, X2, st2⟩ := cV X1 hx hZ (W := 6) hown (cw14 cx) (rm16 cx a4 p5 O1 f3) e1 f4 (g := (mkF m 9 #[sR a2, sR a3, sL q1, sS, sR a4] [(vR a4), (vL q1), (vR a3), (vR a2), (vR b1), (vR b1)])) rfl hml rfl (rest := [(vL q1), (vR a3), (vR a2), (vR b1), (vR b1)]) rfl rfl rfl rfl (hb hby d22_9) (by decide)
  have f6 : Fld Z h1 a4 z0 z16 z13 (vR w0) := (PF3.ext E1)
  obtain ⟨_, T5, L5, ⟨rfl, N5q, e5⟩, X5, st5⟩ := cV X2 hx hZ (W := 7) hown (cw15 cx) (rm26 cx a4 O1 f6) e2 f4 (g := (mkF m 14 #[sR a2, sR a3, sL q1, sS, sR a4] [(vR a4), (vI p5), (vL q1), (vR a3), (vR a2), (vR b1), (vR b1)])) rfl hml rfl (rest := [(vI p5), (vL q1), (vR a3), (vR a2), (vR b1), (vR b1)]) rfl rfl rfl rfl (hb hby d22_14) (by decide)
  obtain ⟨_, T7, L7, ⟨rfl, N7q, Kq7, q7_0, q7_1, q7_2, q7_3, q7_4⟩, X7, st7⟩ := cI X5 hx hZ (W := 1) hown (cw17 cx) (rm27 cx q1 p5 b1 a2 a3 O1 A1 F1_1 F1_2 F1_3 F1_4 F1_5 (Nat.le_trans (own_old_le O0) g1)) e5 (g := (mkF m 17 #[sR a2, sR a3, sL q1, sS, sR a4] [(vR w0), (vI p5), (vL q1), (vR a3), (vR a2), (vR b1), (vR b1)])) rfl hml rfl (rest := [(vR b1)]) rfl rfl rfl rfl (hb hby d22_17) (by decide)
  have N7 := Fr.app (Fr.app (Fr.app N0 N2q) N5q) N7q
  have O7 : Old Z n0 T7.heap := O1.keep Kq7 (allS (Nat.le_trans (own_old_le O0) g1) all0)
  have K7 : Keep h0 T7.heap [] := K1.trans Kq7 (allS (Or.inr (Nat.le_trans (Keep.refl h0 []).1 g1)) all0)
  have f8 : Exa Z T7.heap b1 z2 := (A1.keep Kq7)
  refine own_end X7 hlk (v := some (vR b1)) (own_hv hret) (by decide) ⟨b1, rfl, N7, K7, (Nat.le_trans (Keep.refl h0 []).1 g1), f8, q7_0, q7_1, q7_2, q7_3, q7_4⟩ fun fs hr => ?_
  show St p e below s₁ (mkF m 0 #[sR a2, sR a3, sL q1, sS, sR a4] []) _
  refine st1 _ ?_
  refine wdu X1 hx hby rfl d22_3 rfl rfl ?_
  refine wal X1 hx hby rfl d22_4 rfl rfl ?_
  refine wal X1 hx hby rfl d22_5 rfl rfl ?_
  refine XS.lloadN X1.here hx rfl (hb hby d22_6) rfl ?_
  refine waL X1 hx hby rfl d22_7 rfl rfl ?_
  refine st2 _ ?_
  refine waL X2 hx hby rfl d22_12 rfl rfl ?_
  refine st5 _ ?_
  refine st7 _ ?_
  exact retOut X7 hx hret rfl (Or.inr (Or.inr (Or.inr (Or.inr ⟨rfl, rfl, rfl⟩)))) (hb hby d22_20) hr
def Qrm29 (Z : State) (w0 : Addr) (h0 : Heap) (n0 : Nat) (v : Option Value) (h : Heap) (L : List Loc) : Prop := v = some (vR w0) ∧ Fr n0 L ∧ h = h0
theorem rm29 (cx : Cx Z a0 w0 w1 kw1 w2 kw2 mr1 mr2 mr3 mr4) (a1 : Addr) (O0 : Old Z n0 h0) (PF1 : Fld Z h0 a1 z2 z16 z13 (vR w0)) : Ct l Z ⟨z2, z16, z19⟩ prog_49_method_10_code 1 (some (.object z7)) ⟨0, 0, 0, 0⟩ #[(vR a1)] h0 (Qrm29 Z w0 h0 n0) := by
  obtain ⟨hw, hj, hS⟩ := id cx
  refine own_bd (plainFor_of_name pn347) (fun m => ef10 m a1) fun p e s m below meth c s₁ hret hlk hZ hx hby hml hown hnm X0 e0 => ?_
  have N0 := Fr.nil n0
  obtain ⟨T1, X1, e1, st1⟩ := getF X0 hx hZ hown (host := "") (Or.inl (hw _ m187)) Via.refl e0 PF1 (g := (mkF m 1 #[sR a1] [(vR a1)])) rfl rfl (hb hby d30_1)
  refine own_end X1 hlk (v := some (vR w0)) (own_hv hret) (by decide) (by rw [e1]; exact ⟨rfl, N0, rfl⟩) fun fs hr => ?_
  show St p e below s₁ (mkF m 0 #[sR a1] []) _
  refine wal X0 hx hby rfl d30_0 rfl rfl ?_
  refine st1 _ ?_
  exact retOut X1 hx hret rfl (Or.inr (Or.inr (Or.inr (Or.inr ⟨rfl, rfl, rfl⟩)))) (hb hby d30_4) hr
def Qrm30 (Z : State) (p1 : Int32) (h0 : Heap) (n0 : Nat) (v : Option Value) (h : Heap) (L : List Loc) : Prop := v = some (vI p1) ∧ Fr n0 L ∧ h = h0
theorem rm30 (cx : Cx Z a0 w0 w1 kw1 w2 kw2 mr1 mr2 mr3 mr4) (p1 : Int32) (p2 : Int32) (O0 : Old Z n0 h0) (hc1 : ¬ (p1 < p2)) : Ct l Z ⟨z31, "max", "(II)I"⟩ jdk_29_method_65_code 2 (some .int) ⟨0, 0, 0, 0⟩ #[(vI p1), (vI p2)] h0 (Qrm30 Z p1 h0 n0) := by
  obtain ⟨hw, hj, hS⟩ := id cx
  refine own_bd (Jvm.Free.JP.mathPlain rfl (by decide +kernel)) (fun m => ef129 m p1 p2) fun p e s m below meth c s₁ hret hlk hZ hx hby hml hown hnm X0 e0 => ?_
  have N0 := Fr.nil n0
  refine own_end X0 hlk (v := some (vI p1)) (own_hv hret) (by decide) (by rw [e0]; exact ⟨rfl, N0, rfl⟩) fun fs hr => ?_
  show St p e below s₁ (mkF m 0 #[sI p1, sI p2] []) _
  refine wil X0 hx hby rfl d10_0 rfl ?_
  refine wil X0 hx hby rfl d10_1 rfl ?_
  refine wcn X0 hx hby rfl d10_2 rfl (flt hc1).1 ?_
  refine wil X0 hx hby rfl d10_5 rfl ?_
  refine wgt X0 hx hby rfl (pc0 := 6) (pc' := 10) rfl d10_6 (by decide) (by decide) ?_
  exact retOut X0 hx hret rfl (Or.inl ⟨rfl, Or.inl rfl, _, rfl⟩) (hb hby d10_10) hr
def Qrm31 (Z : State) (a1 : Addr) (h0 : Heap) (n0 : Nat) (v : Option Value) (h : Heap) (L : List Loc) : Prop := ∃ x0 : Addr, ∃ xk0 : ClassId, v = some (vR x0) ∧ Fr n0 L ∧ Keep h0 h [a1] ∧ h0.size ≤ x0 ∧ Arv Z h x0 xk0 (.object z4) (10 : Int32) [.null, .null, .null, .null, .null, .null, .null, .null, .null, .null] .null ∧ Ovr Z xk0 z4 ∧ Exa Z h x0 z3 ∧ Fld Z h a1 z9 "modCount" "I" (vI 1) ∧ Fld Z h a1 z1 z15 z3 (vR x0) ∧ Fld Z h a1 z1 "size" "I" (vI 0)
theorem rm31 (cx : Cx Z a0 w0 w1 kw1 w2 kw2 mr1 mr2 mr3 mr4) (a1 : Addr) (O0 : Old Z n0 h0) (PE1 : Exa Z h0 a1 z1) (PF2 : Fld Z h0 a1 z9 "modCount" "I" (vI 1)) (PF3 : Fld Z h0 a1 z1 z15 z3 (vR w1)) (PF4 : Fld Z h0 a1 z1 "size" "I" (vI 0)) (gn5 : n0 ≤ a1) : Ct l Z ⟨z1, "grow", "(I)[Ljava/lang/Object;"⟩ jdk_38_method_6_code 4 (some (.array (.object z4))) ⟨1, 1, 10, 14⟩ #[(vR a1), (vI 1)] h0 (Qrm31 Z a1 h0 n0) := by
  obtain ⟨hw, hj, hS⟩ := id cx
  refine own_bd (plainFor_of_name pn51) (fun m => ef465 m a1 1) fun p e s m below meth c s₁ hret hlk hZ hx hby hml hown hnm X0 e0 => ?_
  have N0 := Fr.nil n0
  obtain ⟨T1, X1, e1, st1⟩ := getF X0 hx hZ hown (host := "") (Or.inl (hw _ m31)) Via.refl e0 PF3 (g := (mkF m 1 #[sR a1, sI 1, sU, sU] [(vR a1)])) rfl rfl (hb hby d9_1)
  obtain ⟨T2, X2, e2, st2⟩ := getF X1 hx hZ hown (host := "") (Or.inl (hw _ m31)) Via.refl e1 PF3 (g := (mkF m 11 #[sR a1, sI 1, sI 0, sU] [(vR a1)])) rfl rfl (hb hby d9_11)
  obtain ⟨T3, X3, e3, st3⟩ := getS2 X2 hx hZ hown (host := "") (Or.inl (hw _ m30)) Via.refl e2 (hS.2.2.1.ext O0.2) (g := (mkF m 14 #[sR a1, sI 1, sI 0, sU] [(vR w1)])) rfl (hb hby d9_14)
  obtain ⟨_, T4, L4, ⟨rfl, N4q, e4⟩, X4, st4⟩ := cS X3 hx hZ (W := 1) hown (cw24 cx) (rm30 cx 10 1 O0 (by decide : ¬ ((10 : Int32) < (1 : Int32)))) e3 (g := (mkF m 49 #[sR a1, sI 1, sI 0, sU] [(vI 1), (vI 10), (vR a1)])) rfl hml rfl (rest := [(vR a1)]) rfl rfl rfl rfl (hb hby d9_49) (by decide)
  obtain ⟨T5, h5, k5, b5, X5, e5, E5, V5, O'5, A5, g5, O5, K5, st5⟩ := own_newRE X4 hx hZ (AC := z3) (vs := [.null, .null, .null, .null, .null, .null, .null, .null, .null, .null]) (cap := 10) rfl hown (hw _ m61) (hw _ m62) rfl e4 O0 (Keep.refl h0 [a1]) (g := (mkF m 52 #[sR a1, sI 1, sI 0, sU] [(vI 10), (vR a1)])) rfl (hb hby d9_52) rfl (by decide) (by decide) (by decide) (by decide) (by decide)
  have f6 : Fld Z h5 a1 z1 z15 z3 (vR w1) := (PF3.ext E5)
  have f7 : Exa Z h5 a1 z1 := (PE1.ext E5)
  obtain ⟨T8, h8, L'8, X8, e8, W8, Fw8, O8, K8, N8, st8⟩ := own_put X5 hx hZ hown (host := "") (Or.inl (hw _ m31)) Via.refl e5 O5 K5 (Fr.app N0 N4q) gn5 (Or.inl (List.mem_of_getElem? (i := 0) rfl)) f6 f7 (Or.inl (hw _ m32)) (hw _ m10) (ty := (.array (.object z4))) (by decide) rfl rfl (g := (mkF m 56 #[sR a1, sI 1, sI 0, sU] [(vR b5), (vR a1), (vR b5)])) rfl rfl (hb hby d9_56)
  have f9 : Arv Z h8 b5 k5 (.object z4) (10 : Int32) [.null, .null, .null, .null, .null, .null, .null, .null, .null, .null] .null := (V5.other W8 (Ne.symm (Nat.ne_of_lt (Nat.lt_of_lt_of_le PE1.lt g5))))
  have f10 : Exa Z h8 b5 z3 := (A5.wr W8)
  have f11 : Fld Z h8 a1 z9 "modCount" "I" (vI 1) := ((PF2.ext E5).other W8 (Or.inr (slot_ne (Or.inl (hw _ m29)) (Or.inl (hw _ m32)) (by decide) (t := .int) (t' := (.array (.object z4))) (by decide) (by decide))))
  have f12 : Fld Z h8 a1 z1 "size" "I" (vI 0) := ((PF4.ext E5).other W8 (Or.inr (slot_ne (Or.inl (hw _ m41)) (Or.inl (hw _ m32)) (by decide) (t := .int) (t' := (.array (.object z4))) (by decide) (by decide))))
  refine own_end X8 hlk (v := some (vR b5)) (own_hv hret) (by decide) (by rw [e8]; exact ⟨b5, k5, rfl, N8, K8, (Nat.le_trans (Keep.refl h0 [a1]).1 g5), f9, O'5, f10, f11, Fw8, f12⟩) fun fs hr => ?_
  show St p e below s₁ (mkF m 0 #[sR a1, sI 1, sU, sU] []) _
  refine wal X0 hx hby rfl d9_0 rfl rfl ?_
  refine st1 _ ?_
  refine own_alen X1 hx hZ e1 (hS.2.2.2.1.ext O0.2) (g := (mkF m 4 #[sR a1, sI 1, sU, sU] [(vR w1)])) rfl rfl (hb hby d9_4) ?_
  refine wis X1 hx hby rfl d9_5 rfl (l' := #[sR a1, sI 1, sI 0, sU]) rfl ?_
  refine wil X1 hx hby rfl d9_6 rfl ?_
  refine wfn X1 hx hby rfl d9_7 rfl ((if0 _ _).trans (flt (by decide : ¬ ((0 : Int32) < (0 : Int32)))).2.2.1) ?_
  refine wal X1 hx hby rfl d9_10 rfl rfl ?_
  refine st2 _ ?_
  refine st3 _ ?_
  refine Jvm.RoadKit.acmp (g := (mkF m 17 #[sR a1, sI 1, sI 0, sU] [(vR w1), (vR w1)])) X3 hx rfl rfl rfl (pc0 := 17) (pc' := 45) (same := true) rfl (hb hby d9_17) rfl (decide_eq_true rfl) (by decide) (by decide) ?_
  refine wal X3 hx hby rfl d9_45 rfl rfl ?_
  refine wbp X3 hx hby rfl d9_46 ?_
  refine wil X3 hx hby rfl d9_48 rfl ?_
  refine st4 _ ?_
  refine st5 _ ?_
  refine XS.dupX1 X5.here hx rfl (hb hby d9_55) rfl rfl rfl ?_
  show St p e below T5 (mkF m 56 #[sR a1, sI 1, sI 0, sU] [(vR b5), (vR a1), (vR b5)]) _
  refine st8 _ ?_
  exact retOut X8 hx hret rfl (Or.inr (Or.inr (Or.inr (Or.inr ⟨rfl, rfl, rfl⟩)))) (hb hby d9_59) hr
def Qrm32 (Z : State) (a1 : Addr) (h0 : Heap) (n0 : Nat) (v : Option Value) (h : Heap) (L : List Loc) : Prop := ∃ x0 : Addr, ∃ xk0 : ClassId, v = some (vR x0) ∧ Fr n0 L ∧ Keep h0 h [a1] ∧ h0.size ≤ x0 ∧ Arv Z h x0 xk0 (.object z4) (10 : Int32) [.null, .null, .null, .null, .null, .null, .null, .null, .null, .null] .null ∧ Ovr Z xk0 z4 ∧ Exa Z h x0 z3 ∧ Fld Z h a1 z9 "modCount" "I" (vI 1) ∧ Fld Z h a1 z1 z15 z3 (vR x0) ∧ Fld Z h a1 z1 "size" "I" (vI 0)
theorem rm32 (cx : Cx Z a0 w0 w1 kw1 w2 kw2 mr1 mr2 mr3 mr4) (a1 : Addr) (O0 : Old Z n0 h0) (PE1 : Exa Z h0 a1 z1) (PF2 : Fld Z h0 a1 z9 "modCount" "I" (vI 1)) (PF3 : Fld Z h0 a1 z1 z15 z3 (vR w1)) (PF4 : Fld Z h0 a1 z1 "size" "I" (vI 0)) (gn5 : n0 ≤ a1) : Ct l Z ⟨z1, "grow", z21⟩ jdk_38_method_7_code 1 (some (.array (.object z4))) ⟨2, 1, 10, 29⟩ #[(vR a1)] h0 (Qrm32 Z a1 h0 n0) := by
  obtain ⟨hw, hj, hS⟩ := id cx
  refine own_bd (plainFor_of_name pn51) (fun m => ef10 m a1) fun p e s m below meth c s₁ hret hlk hZ hx hby hml hown hnm X0 e0 => ?_
  have N0 := Fr.nil n0
  obtain ⟨T1, X1, e1, st1⟩ := getF X0 hx hZ hown (host := "") (Or.inl (hw _ m40)) Via.refl e0 PF4 (g := (mkF m 2 #[sR a1] [(vR a1), (vR a1)])) rfl rfl (hb hby d8_2)
  obtain ⟨_, T2, L2, ⟨c2_0, k2_1, rfl, N2q, Kq2, lo2_0, q2_0, q2_1, q2_2, q2_3, q2_4, q2_5⟩, X2, st2⟩ := own_private X1 hx hZ (W := 0) hown (hw _ m52) (hw _ m53) (mvT hZ (hw _ m55)) (hw _ m54) (hw _ m11) (hw _ m56) (by decide) (rm31 cx a1 O0 PE1 PF2 PF3 PF4 gn5) e1 PE1 (g := (mkF m 7 #[sR a1] [(vI 1), (vR a1)])) rfl hml rfl (rest := []) (lenOf pd467 rfl) rfl rfl rfl (hb hby d8_7) (by decide)
  have N2 := Fr.app N0 N2q
  have O2 : Old Z n0 T2.heap := O0.keep Kq2 (allS gn5 all0)
  have K2 : Keep h0 T2.heap [a1] := (Keep.refl h0 [a1]).trans Kq2 (allS (Or.inl (List.mem_of_getElem? (i := 0) rfl)) all0)
  refine own_end X2 hlk (v := some (vR c2_0)) (own_hv hret) (by decide) ⟨c2_0, k2_1, rfl, N2, K2, (Nat.le_trans (Keep.refl h0 [a1]).1 lo2_0), q2_0, q2_1, q2_2, q2_3, q2_4, q2_5⟩ fun fs hr => ?_
  show St p e below s₁ (mkF m 0 #[sR a1] []) _
  refine wal X0 hx hby rfl d8_0 rfl rfl ?_
  refine wal X0 hx hby rfl d8_1 rfl rfl ?_
  refine st1 _ ?_
  refine wic X1 hx hby rfl d8_5 ?_
  refine Own.iadd X1.here hx rfl (hb hby d8_6) rfl (by decide : ((0 : Int32) + (1 : Int32)) = (1 : Int32)) ?_
  refine st2 _ ?_
  exact retOut X2 hx hret rfl (Or.inr (Or.inr (Or.inr (Or.inr ⟨rfl, rfl, rfl⟩)))) (hb hby d8_10) hr
def Qrm33 (Z : State) (w0 : Addr) (a1 : Addr) (h0 : Heap) (n0 : Nat) (v : Option Value) (h : Heap) (L : List Loc) : Prop := ∃ x0 : Addr, ∃ xk0 : ClassId, v = none ∧ Fr n0 L ∧ Keep h0 h [a1] ∧ h0.size ≤ x0 ∧ Arv Z h x0 xk0 (.object z4) (10 : Int32) [(vR w0), .null, .null, .null, .null, .null, .null, .null, .null, .null] .null ∧ Ovr Z xk0 z4 ∧ Exa Z h x0 z3 ∧ Fld Z h a1 z9 "modCount" "I" (vI 1) ∧ Fld Z h a1 z1 z15 z3 (vR x0) ∧ Fld Z h a1 z1 "size" "I" (vI 1)
theorem rm33 (cx : Cx Z a0 w0 w1 kw1 w2 kw2 mr1 mr2 mr3 mr4) (a1 : Addr) (O0 : Old Z n0 h0) (PE1 : Exa Z h0 a1 z1) (PF2 : Fld Z h0 a1 z9 "modCount" "I" (vI 1)) (PF3 : Fld Z h0 a1 z1 z15 z3 (vR w1)) (PF4 : Fld Z h0 a1 z1 "size" "I" (vI 0)) (gn5 : n0 ≤ a1) : Ct l Z ⟨z1, "add", z22⟩ jdk_38_method_24_code 4 none ⟨3, 1, 10, 41⟩ #[(vR a1), (vR w0), (vR w1), (vI 0)] h0 (Qrm33 Z w0 a1 h0 n0) := by
  obtain ⟨hw, hj, hS⟩ := id cx
  refine own_bd (plainFor_of_name pn51) (fun m => ef486 m a1 w0 w1 0) fun p e s m below meth c s₁ hret hlk hZ hx hby hml hown hnm X0 e0 => ?_
  have N0 := Fr.nil n0
  obtain ⟨_, T1, L1, ⟨c1_0, k1_1, rfl, N1q, Kq1, lo1_0, q1_0, q1_1, q1_2, q1_3, q1_4, q1_5⟩, X1, st1⟩ := own_private X0 hx hZ (W := 0) hown (hw _ m47) (hw _ m48) (mvT hZ (hw _ m50)) (hw _ m49) (hw _ m11) (hw _ m51) (by decide) (rm32 cx a1 O0 PE1 PF2 PF3 PF4 gn5) e0 PE1 (g := (mkF m 7 #[sR a1, sR w0, sR w1, sI 0] [(vR a1)])) rfl hml rfl (rest := []) (lenOf pd154 rfl) rfl rfl rfl (hb hby d7_7) (by decide)
  have N1 := Fr.app N0 N1q
  have O1 : Old Z n0 T1.heap := O0.keep Kq1 (allS gn5 all0)
  have K1 : Keep h0 T1.heap [a1] := (Keep.refl h0 [a1]).trans Kq1 (allS (Or.inl (List.mem_of_getElem? (i := 0) rfl)) all0)
  obtain ⟨T2, h2, L'2, X2, e2, W2, V2, O2, K2, N2, st2⟩ := own_stR X1 hx hZ (rfl : T1.heap = T1.heap) q1_0 O1 K1 N1 (Nat.le_trans (own_old_le O0) lo1_0) (Or.inr (Nat.le_trans (Keep.refl h0 [a1]).1 lo1_0)) (j := (0 : Int32)) 0 (by decide) (Nat.le_of_ble_eq_true rfl) (vs' := [(vR w0), .null, .null, .null, .null, .null, .null, .null, .null, .null]) rfl rfl rfl (Or.inr ⟨_, _, rfl, q1_1, (Ins.of_exa (hS.2.1.ext O1.2) (hw _ m216))⟩) (g := (mkF m 14 #[sR a1, sR w0, sR c1_0, sI 0] [(vR w0), (vI 0), (vR c1_0)])) rfl rfl (hb hby d7_14)
  have f3 : Fld Z h2 a1 z1 "size" "I" (vI 0) := (q1_5.other W2 (Or.inl (Nat.ne_of_lt (Nat.lt_of_lt_of_le PE1.lt lo1_0))))
  have f4 : Exa Z h2 a1 z1 := ((PE1.keep Kq1).wr W2)
  obtain ⟨T5, h5, L'5, X5, e5, W5, Fw5, O5, K5, N5, st5⟩ := own_put X2 hx hZ hown (host := "") (Or.inl (hw _ m40)) Via.refl e2 O2 K2 N2 gn5 (Or.inl (List.mem_of_getElem? (i := 0) rfl)) f3 f4 (Or.inl (hw _ m41)) (hw _ m10) (ty := .int) (by decide) rfl rfl (g := (mkF m 19 #[sR a1, sR w0, sR c1_0, sI 0] [(vI 1), (vR a1)])) rfl rfl (hb hby d7_19)
  have f6 : Arv Z h5 c1_0 k1_1 (.object z4) (10 : Int32) [(vR w0), .null, .null, .null, .null, .null, .null, .null, .null, .null] .null := (V2.other W5 (Ne.symm (Nat.ne_of_lt (Nat.lt_of_lt_of_le PE1.lt lo1_0))))
  have f7 : Exa Z h5 c1_0 z3 := ((q1_2.wr W2).wr W5)
  have f8 : Fld Z h5 a1 z9 "modCount" "I" (vI 1) := ((q1_3.other W2 (Or.inl (Nat.ne_of_lt (Nat.lt_of_lt_of_le PE1.lt lo1_0)))).other W5 (Or.inr (slot_ne (Or.inl (hw _ m29)) (Or.inl (hw _ m41)) (by decide) (t := .int) (t' := .int) (by decide) (by decide))))
  have f9 : Fld Z h5 a1 z1 z15 z3 (vR c1_0) := ((q1_4.other W2 (Or.inl (Nat.ne_of_lt (Nat.lt_of_lt_of_le PE1.lt lo1_0)))).other W5 (Or.inr (slot_ne (Or.inl (hw _ m32)) (Or.inl (hw _ m41)) (by decide) (t := (.array (.object z4))) (t' := .int) (by decide) (by decide))))
  refine own_end X5 hlk (v := none) (fun _ => rfl) (by decide) (by rw [e5]; exact ⟨c1_0, k1_1, rfl, N5, K5, (Nat.le_trans (Keep.refl h0 [a1]).1 lo1_0), f6, q1_1, f7, f8, f9, Fw5⟩) fun fs hr => ?_
  show St p e below s₁ (mkF m 0 #[sR a1, sR w0, sR w1, sI 0] []) _
  refine wil X0 hx hby rfl d7_0 rfl ?_
  refine wal X0 hx hby rfl d7_1 rfl rfl ?_
  refine own_alen X0 hx hZ e0 (hS.2.2.2.1.ext O0.2) (g := (mkF m 2 #[sR a1, sR w0, sR w1, sI 0] [(vR w1), (vI 0)])) rfl rfl (hb hby d7_2) ?_
  refine wcn X0 hx hby rfl d7_3 rfl (teq (by decide : (0 : Int32) = (0 : Int32))).2 ?_
  refine wal X0 hx hby rfl d7_6 rfl rfl ?_
  refine st1 _ ?_
  refine was X1 hx hby rfl d7_10 rfl rfl (l' := #[sR a1, sR w0, sR c1_0, sI 0]) rfl ?_
  refine wal X1 hx hby rfl d7_11 rfl rfl ?_
  refine wil X1 hx hby rfl d7_12 rfl ?_
  refine wal X1 hx hby rfl d7_13 rfl rfl ?_
  refine st2 _ ?_
  refine wal X2 hx hby rfl d7_15 rfl rfl ?_
  refine wil X2 hx hby rfl d7_16 rfl ?_
  refine wic X2 hx hby rfl d7_17 ?_
  refine Own.iadd X2.here hx rfl (hb hby d7_18) rfl (by decide : ((0 : Int32) + (1 : Int32)) = (1 : Int32)) ?_
  refine st5 _ ?_
  show St p e below T5 (mkF m 22 #[sR a1, sR w0, sR c1_0, sI 0] []) _
  exact X5.returnOut hx hret (hb hby d7_22) hr
def Qrm34 (Z : State) (w0 : Addr) (a1 : Addr) (h0 : Heap) (n0 : Nat) (v : Option Value) (h : Heap) (L : List Loc) : Prop := ∃ x0 : Addr, ∃ xk0 : ClassId, v = some (vI 1) ∧ Fr n0 L ∧ Keep h0 h [a1] ∧ h0.size ≤ x0 ∧ Arv Z h x0 xk0 (.object z4) (10 : Int32) [(vR w0), .null, .null, .null, .null, .null, .null, .null, .null, .null] .null ∧ Ovr Z xk0 z4 ∧ Exa Z h x0 z3 ∧ Fld Z h a1 z9 "modCount" "I" (vI 1) ∧ Fld Z h a1 z1 z15 z3 (vR x0) ∧ Fld Z h a1 z1 "size" "I" (vI 1)
theorem rm34 (cx : Cx Z a0 w0 w1 kw1 w2 kw2 mr1 mr2 mr3 mr4) (a1 : Addr) (O0 : Old Z n0 h0) (PE1 : Exa Z h0 a1 z1) (PF2 : Fld Z h0 a1 z9 "modCount" "I" (vI 0)) (PF3 : Fld Z h0 a1 z1 z15 z3 (vR w1)) (PF4 : Fld Z h0 a1 z1 "size" "I" (vI 0)) (gn5 : n0 ≤ a1) : Ct l Z ⟨z1, "add", z29⟩ jdk_38_method_25_code 2 (some .boolean) ⟨4, 1, 10, 56⟩ #[(vR a1), (vR w0)] h0 (Qrm34 Z w0 a1 h0 n0) := by
  obtain ⟨hw, hj, hS⟩ := id cx
  refine own_bd (plainFor_of_name pn51) (fun m => ef228 m a1 w0) fun p e s m below meth c s₁ hret hlk hZ hx hby hml hown hnm X0 e0 => ?_
  have N0 := Fr.nil n0
  obtain ⟨T1, X1, e1, st1⟩ := getF X0 hx hZ hown (host := "") (Or.inl (hw _ m38)) (Via.of (hw _ m39)) e0 PF2 (g := (mkF m 2 #[sR a1, sR w0] [(vR a1), (vR a1)])) rfl rfl (hb hby d6_2)
  obtain ⟨T2, h2, L'2, X2, e2, W2, Fw2, O2, K2, N2, st2⟩ := own_put X1 hx hZ hown (host := "") (Or.inl (hw _ m38)) (Via.of (hw _ m39)) e1 O0 (Keep.refl h0 [a1]) N0 gn5 (Or.inl (List.mem_of_getElem? (i := 0) rfl)) PF2 PE1 (Or.inl (hw _ m29)) (hw _ m10) (ty := .int) (by decide) rfl rfl (g := (mkF m 7 #[sR a1, sR w0] [(vI 1), (vR a1)])) rfl rfl (hb hby d6_7)
  have f3 : Fld Z h2 a1 z1 z15 z3 (vR w1) := (PF3.other W2 (Or.inr (slot_ne (Or.inl (hw _ m32)) (Or.inl (hw _ m29)) (by decide) (t := (.array (.object z4))) (t' := .int) (by decide) (by decide))))
  obtain ⟨T4, X4, e4, st4⟩ := getF X2 hx hZ hown (host := "") (Or.inl (hw _ m31)) Via.refl e2 f3 (g := (mkF m 13 #[sR a1, sR w0] [(vR a1), (vR w0), (vR a1)])) rfl rfl (hb hby d6_13)
  have f5 : Fld Z h2 a1 z1 "size" "I" (vI 0) := (PF4.other W2 (Or.inr (slot_ne (Or.inl (hw _ m41)) (Or.inl (hw _ m29)) (by decide) (t := .int) (t' := .int) (by decide) (by decide))))
  obtain ⟨T6, X6, e6, st6⟩ := getF X4 hx hZ hown (host := "") (Or.inl (hw _ m40)) Via.refl e4 f5 (g := (mkF m 17 #[sR a1, sR w0] [(vR a1), (vR w1), (vR w0), (vR a1)])) rfl rfl (hb hby d6_17)
  have f8 : Exa Z h2 a1 z1 := (PE1.wr W2)
  obtain ⟨_, T7, L7, ⟨c7_0, k7_1, rfl, N7q, Kq7, lo7_0, q7_0, q7_1, q7_2, q7_3, q7_4, q7_5⟩, X7, st7⟩ := own_private X6 hx hZ (W := 0) hown (hw _ m42) (hw _ m43) (mvT hZ (hw _ m45)) (hw _ m44) (hw _ m11) (hw _ m46) (by decide) (rm33 cx a1 O2 f8 Fw2 f3 f5 gn5) e6 f8 (g := (mkF m 20 #[sR a1, sR w0] [(vI 0), (vR w1), (vR w0), (vR a1)])) rfl hml rfl (rest := []) (lenOf pd488 rfl) rfl rfl rfl (hb hby d6_20) (by decide)
  have N7 := Fr.app N2 N7q
  have O7 : Old Z n0 T7.heap := O2.keep Kq7 (allS gn5 all0)
  have K7 : Keep h0 T7.heap [a1] := K2.trans Kq7 (allS (Or.inl (List.mem_of_getElem? (i := 0) rfl)) all0)
  refine own_end X7 hlk (v := some (vI 1)) (own_hv hret) (by decide) ⟨c7_0, k7_1, rfl, N7, K7, (Nat.le_trans K2.1 lo7_0), q7_0, q7_1, q7_2, q7_3, q7_4, q7_5⟩ fun fs hr => ?_
  show St p e below s₁ (mkF m 0 #[sR a1, sR w0] []) _
  refine wal X0 hx hby rfl d6_0 rfl rfl ?_
  refine wdu X0 hx hby rfl d6_1 rfl rfl ?_
  refine st1 _ ?_
  refine wic X1 hx hby rfl d6_5 ?_
  refine Own.iadd X1.here hx rfl (hb hby d6_6) rfl (by decide : ((0 : Int32) + (1 : Int32)) = (1 : Int32)) ?_
  refine st2 _ ?_
  refine wal X2 hx hby rfl d6_10 rfl rfl ?_
  refine wal X2 hx hby rfl d6_11 rfl rfl ?_
  refine wal X2 hx hby rfl d6_12 rfl rfl ?_
  refine st4 _ ?_
  refine wal X4 hx hby rfl d6_16 rfl rfl ?_
  refine st6 _ ?_
  refine st7 _ ?_
  refine wic X7 hx hby rfl d6_23 ?_
  exact retN X7 hx (t := .boolean) hret (by simp) (hb hby d6_24) hr
def Qrm35 (Z : State) (p2 : Int32) (h0 : Heap) (n0 : Nat) (v : Option Value) (h : Heap) (L : List Loc) : Prop := v = some (vI p2) ∧ Fr n0 L ∧ h = h0
theorem rm35 (cx : Cx Z a0 w0 w1 kw1 w2 kw2 mr1 mr2 mr3 mr4) (p1 : Int32) (p2 : Int32) (O0 : Old Z n0 h0) (hc1 : p2 < p1) : Ct l Z ⟨z31, "min", "(II)I"⟩ jdk_29_method_69_code 2 (some .int) ⟨0, 0, 0, 0⟩ #[(vI p1), (vI p2)] h0 (Qrm35 Z p2 h0 n0) := by
  obtain ⟨hw, hj, hS⟩ := id cx
  refine own_bd (Jvm.Free.JP.mathPlain rfl (by decide +kernel)) (fun m => ef129 m p1 p2) fun p e s m below meth c s₁ hret hlk hZ hx hby hml hown hnm X0 e0 => ?_
  have N0 := Fr.nil n0
  refine own_end X0 hlk (v := some (vI p2)) (own_hv hret) (by decide) (by rw [e0]; exact ⟨rfl, N0, rfl⟩) fun fs hr => ?_
  show St p e below s₁ (mkF m 0 #[sI p1, sI p2] []) _
  refine wil X0 hx hby rfl d17_0 rfl ?_
  refine wil X0 hx hby rfl d17_1 rfl ?_
  refine wcy X0 hx hby rfl (pc0 := 2) (pc' := 9) rfl d17_2 rfl (tlt hc1).2.2.1 (by decide) (by decide) ?_
  refine wil X0 hx hby rfl d17_9 rfl ?_
  exact retOut X0 hx hret rfl (Or.inl ⟨rfl, Or.inl rfl, _, rfl⟩) (hb hby d17_10) hr
def Qrm36 (Z : State) (w0 : Addr) (h0 : Heap) (n0 : Nat) (v : Option Value) (h : Heap) (L : List Loc) : Prop := ∃ x0 : Addr, ∃ xk0 : ClassId, v = some (vR x0) ∧ Fr n0 L ∧ Keep h0 h [] ∧ h0.size ≤ x0 ∧ Arv Z h x0 xk0 (.object z4) (1 : Int32) [(vR w0)] .null ∧ Ovr Z xk0 z4 ∧ Exa Z h x0 z3
theorem rm36 (cx : Cx Z a0 w0 w1 kw1 w2 kw2 mr1 mr2 mr3 mr4) (a1 : Addr) (ck2 : ClassId) (O0 : Old Z n0 h0) (PV1 : Arv Z h0 a1 ck2 (.object z4) (10 : Int32) [(vR w0), .null, .null, .null, .null, .null, .null, .null, .null, .null] .null) : Ct l Z ⟨z23, "copyOf", "([Ljava/lang/Object;ILjava/lang/Class;)[Ljava/lang/Object;"⟩ jdk_65_method_120_code 4 (some (.array (.object z4))) ⟨1, 1, 1, 18⟩ #[(vR a1), (vI 1), (vR mr1)] h0 (Qrm36 Z w0 h0 n0) := by
  obtain ⟨hw, hj, hS⟩ := id cx
  refine own_bd (plainFor_of_name pn142) (fun m => ef141 m a1 1 mr1) fun p e s m below meth c s₁ hret hlk hZ hx hby hml hown hnm X0 e0 => ?_
  have N0 := Fr.nil n0
  obtain ⟨T1, X1, e1, st1⟩ := own_ldcM X0 hx hZ hown (hw _ m101) hS.2.2.2.2.2.2.2.2.1 e0 (g := (mkF m 1 #[sR a1, sI 1, sR mr1, sU] [(vR mr1)])) rfl (hb hby d16_1)
  obtain ⟨T2, h2, k2, b2, X2, e2, E2, V2, O'2, A2, g2, O2, K2, st2⟩ := own_newRE X1 hx hZ (AC := z3) (vs := [.null]) (cap := 1) rfl hown (hw _ m102) (hw _ m62) rfl e1 O0 (Keep.refl h0 []) (g := (mkF m 7 #[sR a1, sI 1, sR mr1, sU] [(vI 1)])) rfl (hb hby d16_7) rfl (by decide) (by decide) (by decide) (by decide) (by decide)
  have f3 : Arv Z h2 a1 ck2 (.object z4) (10 : Int32) [(vR w0), .null, .null, .null, .null, .null, .null, .null, .null, .null] .null := (PV1.ext E2)
  obtain ⟨_, T4, L4, ⟨rfl, N4q, e4⟩, X4, st4⟩ := cS X2 hx hZ (W := 4) hown (cw5 cx) (rm35 cx 10 1 O2 (by decide : (1 : Int32) < (10 : Int32))) e2 (g := (mkF m 32 #[sR a1, sI 1, sR mr1, sR b2] [(vI 1), (vI 10), (vI 0), (vR b2), (vI 0), (vR a1)])) rfl hml rfl (rest := [(vI 0), (vR b2), (vI 0), (vR a1)]) rfl rfl rfl rfl (hb hby d16_32) (by decide)
  obtain ⟨T5, h5, L'5, X5, e5, N5, Kq5, V5, st5⟩ := cpA X4 hx hZ hown (hw _ m106) (hw _ m109) (hw _ m107) (hw _ m108) e4 f3 V2 (us := [(vR w0)]) (Or.inr ⟨rfl, rfl, ⟨own_stoV V2 O'2 (Ins.of_exa (hS.2.1.ext O2.2) (hw _ m216)), trivial⟩⟩) (by decide) (by decide) (by decide) (by decide) (by decide) rfl (by decide) (Fr.app N0 N4q) (Nat.le_trans (own_old_le O0) g2) (g := (mkF m 35 #[sR a1, sI 1, sR mr1, sR b2] [(vI 1), (vI 0), (vR b2), (vI 0), (vR a1)])) rfl (by rw [hml]; rfl) rfl (hb hby d16_35) (by decide) (W := 0) (Nat.le_of_eq rfl) (by decide)
  have O5 : Old Z n0 h5 := O2.keep Kq5 (allS (Nat.le_trans (own_old_le O0) g2) all0)
  have K5 : Keep h0 h5 [] := K2.trans Kq5 (allS (Or.inr (Nat.le_trans (Keep.refl h0 []).1 g2)) all0)
  have V5' : Arv Z h5 b2 k2 (.object z4) (1 : Int32) [(vR w0)] .null := V5
  have f6 : Exa Z h5 b2 z3 := (A2.keep Kq5)
  refine own_end X5 hlk (v := some (vR b2)) (own_hv hret) (by decide) (by rw [e5]; exact ⟨b2, k2, rfl, N5, K5, (Nat.le_trans (Keep.refl h0 []).1 g2), V5', O'2, f6⟩) fun fs hr => ?_
  show St p e below s₁ (mkF m 0 #[sR a1, sI 1, sR mr1, sU] []) _
  refine wal X0 hx hby rfl d16_0 rfl rfl ?_
  refine st1 _ ?_
  refine Jvm.RoadKit.acmp (g := (mkF m 3 #[sR a1, sI 1, sR mr1, sU] [(vR mr1), (vR mr1)])) X1 hx rfl rfl rfl (pc0 := 3) (pc' := 6) (same := true) rfl (hb hby d16_3) rfl (decide_eq_true rfl) (by decide) (by decide) ?_
  refine wil X1 hx hby rfl d16_6 rfl ?_
  refine st2 _ ?_
  refine wgt X2 hx hby rfl (pc0 := 10) (pc' := 24) rfl d16_10 (by decide) (by decide) ?_
  refine was X2 hx hby rfl d16_24 rfl rfl (l' := #[sR a1, sI 1, sR mr1, sR b2]) rfl ?_
  refine wal X2 hx hby rfl d16_25 rfl rfl ?_
  refine wic X2 hx hby rfl d16_26 ?_
  refine wal X2 hx hby rfl d16_27 rfl rfl ?_
  refine wic X2 hx hby rfl d16_28 ?_
  refine wal X2 hx hby rfl d16_29 rfl rfl ?_
  refine own_alen X2 hx hZ e2 f3 (g := (mkF m 30 #[sR a1, sI 1, sR mr1, sR b2] [(vR a1), (vI 0), (vR b2), (vI 0), (vR a1)])) rfl rfl (hb hby d16_30) ?_
  refine wil X2 hx hby rfl d16_31 rfl ?_
  refine st4 _ ?_
  refine st5 _ ?_
  show St p e below T5 (mkF m 38 #[sR a1, sI 1, sR mr1, sR b2] []) _
  refine wal X5 hx hby rfl d16_38 rfl rfl ?_
  exact retOut X5 hx hret rfl (Or.inr (Or.inr (Or.inr (Or.inr ⟨rfl, rfl, rfl⟩)))) (hb hby d16_39) hr
def Qrm37 (Z : State) (w0 : Addr) (h0 : Heap) (n0 : Nat) (v : Option Value) (h : Heap) (L : List Loc) : Prop := ∃ x0 : Addr, ∃ xk0 : ClassId, v = some (vR x0) ∧ Fr n0 L ∧ Keep h0 h [] ∧ h0.size ≤ x0 ∧ Arv Z h x0 xk0 (.object z4) (1 : Int32) [(vR w0)] .null ∧ Ovr Z xk0 z4 ∧ Exa Z h x0 z3
theorem rm37 (cx : Cx Z a0 w0 w1 kw1 w2 kw2 mr1 mr2 mr3 mr4) (a1 : Addr) (ck2 : ClassId) (O0 : Old Z n0 h0) (PE1 : Exa Z h0 a1 z3) (PV2 : Arv Z h0 a1 ck2 (.object z4) (10 : Int32) [(vR w0), .null, .null, .null, .null, .null, .null, .null, .null, .null] .null) : Ct l Z ⟨z23, "copyOf", "([Ljava/lang/Object;I)[Ljava/lang/Object;"⟩ jdk_65_method_119_code 2 (some (.array (.object z4))) ⟨2, 1, 1, 33⟩ #[(vR a1), (vI 1)] h0 (Qrm37 Z w0 h0 n0) := by
  obtain ⟨hw, hj, hS⟩ := id cx
  refine own_bd (plainFor_of_name pn142) (fun m => ef148 m a1 1) fun p e s m below meth c s₁ hret hlk hZ hx hby hml hown hnm X0 e0 => ?_
  have N0 := Fr.nil n0
  obtain ⟨T1, X1, e1, st1⟩ := own_gcls X0 hx hZ hown (hw _ m92) (hw _ m93) (hw _ m95) (hw _ m94) (hw _ m96) e0 PE1 hS.2.2.2.2.2.2.2.2.1 (g := (mkF m 3 #[sR a1, sI 1] [(vR a1), (vI 1), (vR a1)])) rfl (by rw [hml]; rfl) rfl (hb hby d15_3) (by decide) (W := 2) (Nat.le_of_eq rfl) (by decide)
  obtain ⟨_, T2, L2, ⟨c2_0, k2_1, rfl, N2q, Kq2, lo2_0, q2_0, q2_1, q2_2⟩, X2, st2⟩ := cS X1 hx hZ (W := 0) hown (cw6 cx) (rm36 cx a1 ck2 O0 PV2) e1 (g := (mkF m 6 #[sR a1, sI 1] [(vR mr1), (vI 1), (vR a1)])) rfl hml rfl (rest := []) rfl rfl rfl rfl (hb hby d15_6) (by decide)
  have N2 := Fr.app N0 N2q
  have O2 : Old Z n0 T2.heap := O0.keep Kq2 all0
  have K2 : Keep h0 T2.heap [] := (Keep.refl h0 []).trans Kq2 all0
  refine own_end X2 hlk (v := some (vR c2_0)) (own_hv hret) (by decide) ⟨c2_0, k2_1, rfl, N2, K2, (Nat.le_trans (Keep.refl h0 []).1 lo2_0), q2_0, q2_1, q2_2⟩ fun fs hr => ?_
  show St p e below s₁ (mkF m 0 #[sR a1, sI 1] []) _
  refine wal X0 hx hby rfl d15_0 rfl rfl ?_
  refine wil X0 hx hby rfl d15_1 rfl ?_
  refine wal X0 hx hby rfl d15_2 rfl rfl ?_
  refine st1 _ ?_
  refine st2 _ ?_
  exact retOut X2 hx hret rfl (Or.inr (Or.inr (Or.inr (Or.inr ⟨rfl, rfl, rfl⟩)))) (hb hby d15_9) hr
def Qrm38 (Z : State) (w0 : Addr) (h0 : Heap) (n0 : Nat) (v : Option Value) (h : Heap) (L : List Loc) : Prop := ∃ x0 : Addr, ∃ xk0 : ClassId, v = some (vR x0) ∧ Fr n0 L ∧ Keep h0 h [] ∧ h0.size ≤ x0 ∧ Arv Z h x0 xk0 (.object z4) (1 : Int32) [(vR w0)] .null ∧ Ovr Z xk0 z4 ∧ Exa Z h x0 z3
theorem rm38 (cx : Cx Z a0 w0 w1 kw1 w2 kw2 mr1 mr2 mr3 mr4) (a1 : Addr) (a2 : Addr) (ck3 : ClassId) (O0 : Old Z n0 h0) (PF1 : Fld Z h0 a1 z1 z15 z3 (vR a2)) (PF2 : Fld Z h0 a1 z1 "size" "I" (vI 1)) (PE3 : Exa Z h0 a2 z3) (PV4 : Arv Z h0 a2 ck3 (.object z4) (10 : Int32) [(vR w0), .null, .null, .null, .null, .null, .null, .null, .null, .null] .null) : Ct l Z ⟨z1, "toArray", z21⟩ jdk_38_method_16_code 1 (some (.array (.object z4))) ⟨3, 1, 1, 46⟩ #[(vR a1)] h0 (Qrm38 Z w0 h0 n0) := by
  obtain ⟨hw, hj, hS⟩ := id cx
  refine own_bd (plainFor_of_name pn51) (fun m => ef10 m a1) fun p e s m below meth c s₁ hret hlk hZ hx hby hml hown hnm X0 e0 => ?_
  have N0 := Fr.nil n0
  obtain ⟨T1, X1, e1, st1⟩ := getF X0 hx hZ hown (host := "") (Or.inl (hw _ m31)) Via.refl e0 PF1 (g := (mkF m 1 #[sR a1] [(vR a1)])) rfl rfl (hb hby d14_1)
  obtain ⟨T2, X2, e2, st2⟩ := getF X1 hx hZ hown (host := "") (Or.inl (hw _ m40)) Via.refl e1 PF2 (g := (mkF m 5 #[sR a1] [(vR a1), (vR a2)])) rfl rfl (hb hby d14_5)
  obtain ⟨_, T3, L3, ⟨c3_0, k3_1, rfl, N3q, Kq3, lo3_0, q3_0, q3_1, q3_2⟩, X3, st3⟩ := cS X2 hx hZ (W := 0) hown (cw7 cx) (rm37 cx a2 ck3 O0 PE3 PV4) e2 (g := (mkF m 8 #[sR a1] [(vI 1), (vR a2)])) rfl hml rfl (rest := []) rfl rfl rfl rfl (hb hby d14_8) (by decide)
  have N3 := Fr.app N0 N3q
  have O3 : Old Z n0 T3.heap := O0.keep Kq3 all0
  have K3 : Keep h0 T3.heap [] := (Keep.refl h0 []).trans Kq3 all0
  refine own_end X3 hlk (v := some (vR c3_0)) (own_hv hret) (by decide) ⟨c3_0, k3_1, rfl, N3, K3, (Nat.le_trans (Keep.refl h0 []).1 lo3_0), q3_0, q3_1, q3_2⟩ fun fs hr => ?_
  show St p e below s₁ (mkF m 0 #[sR a1] []) _
  refine wal X0 hx hby rfl d14_0 rfl rfl ?_
  refine st1 _ ?_
  refine wal X1 hx hby rfl d14_4 rfl rfl ?_
  refine st2 _ ?_
  refine st3 _ ?_
  exact retOut X3 hx hret rfl (Or.inr (Or.inr (Or.inr (Or.inr ⟨rfl, rfl, rfl⟩)))) (hb hby d14_11) hr
def Qrm39 (Z : State) (w0 : Addr) (a1 : Addr) (h0 : Heap) (n0 : Nat) (v : Option Value) (h : Heap) (L : List Loc) : Prop := ∃ x0 : Addr, ∃ xk0 : ClassId, v = none ∧ Fr n0 L ∧ Keep h0 h [a1] ∧ h0.size ≤ x0 ∧ Arv Z h x0 xk0 (.object z4) (1 : Int32) [(vR w0)] .null ∧ Ovr Z xk0 z4 ∧ Exa Z h x0 z3 ∧ Fld Z h a1 z9 "modCount" "I" (vI 0) ∧ Fld Z h a1 z1 z15 z3 (vR x0) ∧ Fld Z h a1 z1 "size" "I" (vI 1)
theorem rm39 (cx : Cx Z a0 w0 w1 kw1 w2 kw2 mr1 mr2 mr3 mr4) (a1 : Addr) (a2 : Addr) (a3 : Addr) (ck4 : ClassId) (O0 : Old Z n0 h0) (PE1 : Exa Z h0 a1 z1) (PF2 : Fld Z h0 a1 z9 "modCount" "I" (vI 0)) (PF3 : Fld Z h0 a1 z1 z15 z3 .null) (PF4 : Fld Z h0 a1 z1 "size" "I" (vI 0)) (gn5 : n0 ≤ a1) (PF6 : Fld Z h0 a2 z1 z15 z3 (vR a3)) (pne7 : a2 ≠ a1) (PF8 : Fld Z h0 a2 z1 "size" "I" (vI 1)) (PE9 : Exa Z h0 a3 z3) (PV10 : Arv Z h0 a3 ck4 (.object z4) (10 : Int32) [(vR w0), .null, .null, .null, .null, .null, .null, .null, .null, .null] .null) (pne11 : a3 ≠ a1) (PE12 : Exa Z h0 a2 z1) : Ct l Z ⟨z1, "<init>", z27⟩ jdk_38_method_3_code 3 none ⟨4, 1, 1, 58⟩ #[(vR a1), (vR a2)] h0 (Qrm39 Z w0 a1 h0 n0) := by
  obtain ⟨hw, hj, hS⟩ := id cx
  refine own_bd (plainFor_of_name pn51) (fun m => ef173 m a1 a2) fun p e s m below meth c s₁ hret hlk hZ hx hby hml hown hnm X0 e0 => ?_
  have N0 := Fr.nil n0
  obtain ⟨_, T1, L1, ⟨rfl, N1q, Kq1, q1_0, q1_1, q1_2⟩, X1, st1⟩ := cI X0 hx hZ (W := 0) hown (cw2 cx) (rm3 cx a1 O0 PE1 PF2 PF3 PF4 gn5) e0 (g := (mkF m 1 #[sR a1, sR a2, sU] [(vR a1)])) rfl hml rfl (rest := []) rfl rfl rfl rfl (hb hby d13_1) (by decide)
  have N1 := Fr.app N0 N1q
  have O1 : Old Z n0 T1.heap := O0.keep Kq1 (allS gn5 all0)
  have K1 : Keep h0 T1.heap [a1] := (Keep.refl h0 [a1]).trans Kq1 (allS (Or.inl (List.mem_of_getElem? (i := 0) rfl)) all0)
  have f3 : Fld Z T1.heap a2 z1 z15 z3 (vR a3) := (PF6.keep Kq1 (ninS pne7 nin0))
  have f4 : Fld Z T1.heap a2 z1 "size" "I" (vI 1) := (PF8.keep Kq1 (ninS pne7 nin0))
  have f5 : Exa Z T1.heap a3 z3 := (PE9.keep Kq1)
  have f6 : Arv Z T1.heap a3 ck4 (.object z4) (10 : Int32) [(vR w0), .null, .null, .null, .null, .null, .null, .null, .null, .null] .null := (PV10.keep Kq1 (ninS pne11 nin0))
  have f7 : Exa Z T1.heap a2 z1 := (PE12.keep Kq1)
  obtain ⟨_, T2, L2, ⟨c2_0, k2_1, rfl, N2q, Kq2, lo2_0, q2_0, q2_1, q2_2⟩, X2, st2⟩ := own_iface X1 hx hZ (W := 0) hown (hw _ m79) (hw _ m80) (mvT hZ (hw _ m81)) (hw _ m82) (hw _ m83) (mvT hZ (hw _ m84)) (mvT hZ (hw _ m85)) (hw _ m86) (hw _ m11) (hw _ m87) (by decide) (rm38 cx a2 a3 ck4 O1 f3 f4 f5 f6) (rfl : T1.heap = T1.heap) f7 (g := (mkF m 5 #[sR a1, sR a2, sU] [(vR a2)])) rfl hml rfl (rest := []) (lenOf pd154 rfl) rfl rfl rfl (hb hby d13_5) (by decide)
  have N2 := Fr.app N1 N2q
  have O2 : Old Z n0 T2.heap := O1.keep Kq2 all0
  have K2 : Keep h0 T2.heap [a1] := K1.trans Kq2 all0
  have f8 : Fld Z T2.heap a1 z1 "size" "I" (vI 0) := (q1_2.keep Kq2 nin0)
  have f9 : Exa Z T2.heap a1 z1 := ((PE1.keep Kq1).keep Kq2)
  obtain ⟨T10, h10, L'10, X10, e10, W10, Fw10, O10, K10, N10, st10⟩ := own_put X2 hx hZ hown (host := "") (Or.inl (hw _ m40)) Via.refl (rfl : T2.heap = T2.heap) O2 K2 N2 gn5 (Or.inl (List.mem_of_getElem? (i := 0) rfl)) f8 f9 (Or.inl (hw _ m41)) (hw _ m10) (ty := .int) (by decide) rfl rfl (g := (mkF m 15 #[sR a1, sR a2, sR c2_0] [(vI 1), (vR a1), (vI 1)])) rfl rfl (hb hby d13_15)
  have f11 : Exa Z h10 a2 z1 := ((f7.keep Kq2).wr W10)
  obtain ⟨T12, X12, e12, st12⟩ := own_gclsI X10 hx hZ hown (hw _ m217) (hw _ m93) (hw _ m218) (hw _ m219) (hw _ m94) (hw _ m118) (mvT hZ (hw _ m119)) (hw _ m86) (hw _ m96) (by decide) e10 f11 hS.2.2.2.2.2.2.2.2.2.1 (g := (mkF m 22 #[sR a1, sR a2, sR c2_0] [(vR a2)])) rfl (by rw [hml]; rfl) rfl (hb hby d13_22) (by decide) (W := 0) (Nat.le_of_eq rfl) (by decide)
  obtain ⟨T13, X13, e13, st13⟩ := own_ldcM X12 hx hZ hown (hw _ m220) hS.2.2.2.2.2.2.2.2.2.1 e12 (g := (mkF m 27 #[sR a1, sR a2, sR c2_0] [(vR mr2)])) rfl (hb hby d13_27)
  have f14 : Fld Z h10 a1 z1 z15 z3 .null := ((q1_1.keep Kq2 nin0).other W10 (Or.inr (slot_ne (Or.inl (hw _ m32)) (Or.inl (hw _ m41)) (by decide) (t := (.array (.object z4))) (t' := .int) (by decide) (by decide))))
  have f15 : Exa Z h10 a1 z1 := (f9.wr W10)
  obtain ⟨T16, h16, L'16, X16, e16, W16, Fw16, O16, K16, N16, st16⟩ := own_put X13 hx hZ hown (host := "") (Or.inl (hw _ m31)) Via.refl e13 O10 K10 N10 gn5 (Or.inl (List.mem_of_getElem? (i := 0) rfl)) f14 f15 (Or.inl (hw _ m32)) (hw _ m10) (ty := (.array (.object z4))) (by decide) rfl rfl (g := (mkF m 34 #[sR a1, sR a2, sR c2_0] [(vR c2_0), (vR a1)])) rfl rfl (hb hby d13_34)
  have ne17 : a1 ≠ c2_0 := (Nat.ne_of_lt (Nat.lt_of_lt_of_le (Nat.lt_of_lt_of_le PE1.lt Kq1.1) lo2_0))
  have f18 : Arv Z h16 c2_0 k2_1 (.object z4) (1 : Int32) [(vR w0)] .null := ((q2_0.other W10 (Ne.symm ne17)).other W16 (Ne.symm ne17))
  have f19 : Exa Z h16 c2_0 z3 := ((q2_2.wr W10).wr W16)
  have f20 : Fld Z h16 a1 z9 "modCount" "I" (vI 0) := (((q1_0.keep Kq2 nin0).other W10 (Or.inr (slot_ne (Or.inl (hw _ m29)) (Or.inl (hw _ m41)) (by decide) (t := .int) (t' := .int) (by decide) (by decide)))).other W16 (Or.inr (slot_ne (Or.inl (hw _ m29)) (Or.inl (hw _ m32)) (by decide) (t := .int) (t' := (.array (.object z4))) (by decide) (by decide))))
  have f21 : Fld Z h16 a1 z1 "size" "I" (vI 1) := (Fw10.other W16 (Or.inr (slot_ne (Or.inl (hw _ m41)) (Or.inl (hw _ m32)) (by decide) (t := .int) (t' := (.array (.object z4))) (by decide) (by decide))))
  refine own_end X16 hlk (v := none) (fun _ => rfl) (by decide) (by rw [e16]; exact ⟨c2_0, k2_1, rfl, N16, K16, (Nat.le_trans K1.1 lo2_0), f18, q2_1, f19, f20, Fw16, f21⟩) fun fs hr => ?_
  show St p e below s₁ (mkF m 0 #[sR a1, sR a2, sU] []) _
  refine wal X0 hx hby rfl d13_0 rfl rfl ?_
  refine st1 _ ?_
  refine wal X1 hx hby rfl d13_4 rfl rfl ?_
  refine st2 _ ?_
  refine was X2 hx hby rfl d13_10 rfl rfl (l' := #[sR a1, sR a2, sR c2_0]) rfl ?_
  refine wal X2 hx hby rfl d13_11 rfl rfl ?_
  refine wal X2 hx hby rfl d13_12 rfl rfl ?_
  refine own_alen X2 hx hZ (rfl : T2.heap = T2.heap) q2_0 (g := (mkF m 13 #[sR a1, sR a2, sR c2_0] [(vR c2_0), (vR a1)])) rfl rfl (hb hby d13_13) ?_
  refine XS.dupX1 X2.here hx rfl (hb hby d13_14) rfl rfl rfl ?_
  refine st10 _ ?_
  refine wfn X10 hx hby rfl d13_18 rfl ((if0 _ _).trans (feq (by decide : ¬ ((1 : Int32) = (0 : Int32)))).1) ?_
  refine wal X10 hx hby rfl d13_21 rfl rfl ?_
  refine st12 _ ?_
  refine st13 _ ?_
  refine Jvm.RoadKit.acmp (g := (mkF m 29 #[sR a1, sR a2, sR c2_0] [(vR mr2), (vR mr2)])) X13 hx rfl rfl rfl (pc0 := 29) (pc' := 32) (same := true) rfl (hb hby d13_29) rfl (decide_eq_true rfl) (by decide) (by decide) ?_
  refine wal X13 hx hby rfl d13_32 rfl rfl ?_
  show St p e below T13 (mkF m 33 #[sR a1, sR a2, sR c2_0] [(vR a1)]) _
  refine wal X13 hx hby rfl d13_33 rfl rfl ?_
  refine st16 _ ?_
  refine wgt X16 hx hby rfl (pc0 := 37) (pc' := 64) rfl d13_37 (by decide) (by decide) ?_
  exact X16.returnOut hx hret (hb hby d13_64) hr
def Qrm40 (Z : State) (w0 : Addr) (p1 : Int32) (a2 : Addr) (h0 : Heap) (n0 : Nat) (v : Option Value) (h : Heap) (L : List Loc) : Prop := ∃ x0 : Addr, ∃ x1 : Addr, ∃ x2 : Addr, ∃ xk0 : ClassId, v = none ∧ Fr n0 L ∧ Keep h0 h [a2] ∧ h0.size ≤ x0 ∧ x0 < x1 ∧ x1 < x2 ∧ Exa Z h x0 z1 ∧ Fld Z h x0 z9 "modCount" "I" (vI 0) ∧ Fld Z h x0 z1 z15 z3 (vR x1) ∧ Fld Z h x0 z1 "size" "I" (vI 1) ∧ Arv Z h x1 xk0 (.object z4) (1 : Int32) [(vR w0)] .null ∧ Ovr Z xk0 z4 ∧ Exa Z h x1 z3 ∧ Exa Z h x2 z10 ∧ Fld Z h x2 z11 "c" z20 (vR x0) ∧ Fld Z h x2 z12 "list" z6 (vR x0) ∧ Fld Z h a2 z0 "values" z6 (vR x2) ∧ Fld Z h a2 z0 "names" z6 .null ∧ Fld Z h a2 z0 "pageSize" "I" (vI p1) ∧ Fld Z h a2 z0 z16 z13 .null
theorem rm40 (cx : Cx Z a0 w0 w1 kw1 w2 kw2 mr1 mr2 mr3 mr4) (p1 : Int32) (a2 : Addr) (a3 : Addr) (a4 : Addr) (ck5 : ClassId) (O0 : Old Z n0 h0) (PE1 : Exa Z h0 a2 z0) (PF2 : Fld Z h0 a2 z0 "values" z6 .null) (PF3 : Fld Z h0 a2 z0 "names" z6 .null) (PF4 : Fld Z h0 a2 z0 "pageSize" "I" (vI 0)) (PF5 : Fld Z h0 a2 z0 z16 z13 .null) (PF6 : Fld Z h0 a3 z1 z15 z3 (vR a4)) (PF7 : Fld Z h0 a3 z1 "size" "I" (vI 1)) (PE8 : Exa Z h0 a4 z3) (PV9 : Arv Z h0 a4 ck5 (.object z4) (10 : Int32) [(vR w0), .null, .null, .null, .null, .null, .null, .null, .null, .null] .null) (PE10 : Exa Z h0 a3 z1) (gn11 : n0 ≤ a2) : Ct l Z ⟨z0, "<init>", z18⟩ prog_44_method_1_code 5 none ⟨5, 3, 6, 73⟩ #[(vR a2), (vR a3), .null, (vI p1), .null] h0 (Qrm40 Z w0 p1 a2 h0 n0) := by
  obtain ⟨hw, hj, hS⟩ := id cx
  refine own_bd (plainFor_of_name pn280) (fun m => ef279 m a2 a3 p1) fun p e s m below meth c s₁ hret hlk hZ hx hby hml hown hnm X0 e0 => ?_
  have N0 := Fr.nil n0
  obtain ⟨_, T1, L1, ⟨rfl, N1q, e1⟩, X1, st1⟩ := cI X0 hx hZ (W := 0) hown (cw4 cx) (rm5 cx a2 O0) e0 (g := (mkF m 1 #[sR a2, sR a3, sN, sI p1, sN] [(vR a2)])) rfl hml rfl (rest := []) rfl rfl rfl rfl (hb hby d11_1) (by decide)
  obtain ⟨T2, h2, b2, X2, e2, E2, A2, D2, g2, O2, K2, st2⟩ := own_newO X1 hx hZ hown (hw _ m75) (hw _ m10) (hw _ m11) e1 O0 (Keep.refl h0 [a2]) (g := (mkF m 4 #[sR a2, sR a3, sN, sI p1, sN] [])) rfl (hb hby d11_4) (by decide) (by decide)
  have F2_1 : Fld Z h2 b2 z9 "modCount" "I" (vI 0) := D2 (Or.inl (hw _ m29)) (ty := .int) (by decide)
  have F2_2 : Fld Z h2 b2 z1 z15 z3 .null := D2 (Or.inl (hw _ m32)) (ty := (.array (.object z4))) (by decide)
  have F2_3 : Fld Z h2 b2 z1 "size" "I" (vI 0) := D2 (Or.inl (hw _ m41)) (ty := .int) (by decide)
  have f4 : Fld Z h2 a3 z1 z15 z3 (vR a4) := (PF6.ext E2)
  have f5 : Fld Z h2 a3 z1 "size" "I" (vI 1) := (PF7.ext E2)
  have f6 : Exa Z h2 a4 z3 := (PE8.ext E2)
  have f7 : Arv Z h2 a4 ck5 (.object z4) (10 : Int32) [(vR w0), .null, .null, .null, .null, .null, .null, .null, .null, .null] .null := (PV9.ext E2)
  have f8 : Exa Z h2 a3 z1 := (PE10.ext E2)
  obtain ⟨_, T3, L3, ⟨c3_0, k3_1, rfl, N3q, Kq3, lo3_0, q3_0, q3_1, q3_2, q3_3, q3_4, q3_5⟩, X3, st3⟩ := cI X2 hx hZ (W := 1) hown (cw8 cx) (rm39 cx b2 a3 a4 ck5 O2 A2 F2_1 F2_2 F2_3 (Nat.le_trans (own_old_le O0) g2) f4 (Nat.ne_of_lt (Nat.lt_of_lt_of_le PF6.lt g2)) f5 f6 f7 (Nat.ne_of_lt (Nat.lt_of_lt_of_le PE8.lt g2)) f8) e2 (g := (mkF m 9 #[sR a2, sR a3, sN, sI p1, sN] [(vR a3), (vR b2), (vR b2)])) rfl hml rfl (rest := [(vR b2)]) rfl rfl rfl rfl (hb hby d11_9) (by decide)
  have N3 := Fr.app (Fr.app N0 N1q) N3q
  have O3 : Old Z n0 T3.heap := O2.keep Kq3 (allS (Nat.le_trans (own_old_le O0) g2) all0)
  have K3 : Keep h0 T3.heap [a2] := K2.trans Kq3 (allS (Or.inr (Nat.le_trans (Keep.refl h0 [a2]).1 g2)) all0)
  have f10 : Exa Z T3.heap b2 z1 := (A2.keep Kq3)
  obtain ⟨_, T9, L9, ⟨c9_0, rfl, N9q, Kq9, lo9_0, q9_0, q9_1, q9_2⟩, X9, st9⟩ := cS X3 hx hZ (W := 0) hown (cw12 cx) (rm14 cx b2 O3 f10) (rfl : T3.heap = T3.heap) (g := (mkF m 12 #[sR a2, sR a3, sN, sI p1, sN] [(vR b2)])) rfl hml rfl (rest := []) rfl rfl rfl rfl (hb hby d11_12) (by decide)
  have N9 := Fr.app N3 N9q
  have O9 : Old Z n0 T9.heap := O3.keep Kq9 all0
  have K9 : Keep h0 T9.heap [a2] := K3.trans Kq9 all0
  have f11 : Fld Z T9.heap a2 z0 "values" z6 .null := (((PF2.ext E2).keep Kq3 (ninS (Nat.ne_of_lt (Nat.lt_of_lt_of_le PE1.lt g2)) nin0)).keep Kq9 nin0)
  have f12 : Exa Z T9.heap a2 z0 := (((PE1.ext E2).keep Kq3).keep Kq9)
  obtain ⟨T13, h13, L'13, X13, e13, W13, Fw13, O13, K13, N13, st13⟩ := own_put X9 hx hZ hown (host := "") (Or.inl (hw _ m151)) Via.refl (rfl : T9.heap = T9.heap) O9 K9 N9 gn11 (Or.inl (List.mem_of_getElem? (i := 0) rfl)) f11 f12 (Or.inr ⟨(hw _ m152), rfl, hnm⟩) (hw _ m64) (ty := (.object z5)) (by decide) rfl rfl (g := (mkF m 75 #[sR a2, sR c9_0, sN, sI p1, sN] [(vR c9_0), (vR a2)])) rfl rfl (hb hby d11_75)
  have f14 : Fld Z h13 a2 z0 "names" z6 .null := ((((PF3.ext E2).keep Kq3 (ninS (Nat.ne_of_lt (Nat.lt_of_lt_of_le PE1.lt g2)) nin0)).keep Kq9 nin0).other W13 (Or.inr (slot_ne (Or.inr (hw _ m154)) (Or.inr (hw _ m152)) (by decide) (t := (.object z5)) (t' := (.object z5)) (by decide) (by decide))))
  have f15 : Exa Z h13 a2 z0 := (f12.wr W13)
  obtain ⟨T16, h16, L'16, X16, e16, W16, Fw16, O16, K16, N16, st16⟩ := own_put X13 hx hZ hown (host := "") (Or.inl (hw _ m153)) Via.refl e13 O13 K13 N13 gn11 (Or.inl (List.mem_of_getElem? (i := 0) rfl)) f14 f15 (Or.inr ⟨(hw _ m154), rfl, hnm⟩) (hw _ m64) (ty := (.object z5)) (by decide) rfl rfl (g := (mkF m 80 #[sR a2, sR c9_0, sN, sI p1, sN] [.null, (vR a2)])) rfl rfl (hb hby d11_80)
  have f17 : Fld Z h16 a2 z0 "pageSize" "I" (vI 0) := (((((PF4.ext E2).keep Kq3 (ninS (Nat.ne_of_lt (Nat.lt_of_lt_of_le PE1.lt g2)) nin0)).keep Kq9 nin0).other W13 (Or.inr (slot_ne (Or.inr (hw _ m156)) (Or.inr (hw _ m152)) (by decide) (t := .int) (t' := (.object z5)) (by decide) (by decide)))).other W16 (Or.inr (slot_ne (Or.inr (hw _ m156)) (Or.inr (hw _ m154)) (by decide) (t := .int) (t' := (.object z5)) (by decide) (by decide))))
  have f18 : Exa Z h16 a2 z0 := (f15.wr W16)
  obtain ⟨T19, h19, L'19, X19, e19, W19, Fw19, O19, K19, N19, st19⟩ := own_put X16 hx hZ hown (host := "") (Or.inl (hw _ m155)) Via.refl e16 O16 K16 N16 gn11 (Or.inl (List.mem_of_getElem? (i := 0) rfl)) f17 f18 (Or.inr ⟨(hw _ m156), rfl, hnm⟩) (hw _ m64) (ty := .int) (by decide) rfl rfl (g := (mkF m 85 #[sR a2, sR c9_0, sN, sI p1, sN] [(vI p1), (vR a2)])) rfl rfl (hb hby d11_85)
  have f20 : Fld Z h19 a2 z0 z16 z13 .null := ((((((PF5.ext E2).keep Kq3 (ninS (Nat.ne_of_lt (Nat.lt_of_lt_of_le PE1.lt g2)) nin0)).keep Kq9 nin0).other W13 (Or.inr (slot_ne (Or.inr (hw _ m158)) (Or.inr (hw _ m152)) (by decide) (t := (.object z7)) (t' := (.object z5)) (by decide) (by decide)))).other W16 (Or.inr (slot_ne (Or.inr (hw _ m158)) (Or.inr (hw _ m154)) (by decide) (t := (.object z7)) (t' := (.object z5)) (by decide) (by decide)))).other W19 (Or.inr (slot_ne (Or.inr (hw _ m158)) (Or.inr (hw _ m156)) (by decide) (t := (.object z7)) (t' := .int) (by decide) (by decide))))
  have f21 : Exa Z h19 a2 z0 := (f18.wr W19)
  obtain ⟨T22, h22, L'22, X22, e22, W22, Fw22, O22, K22, N22, st22⟩ := own_put X19 hx hZ hown (host := "") (Or.inl (hw _ m157)) Via.refl e19 O19 K19 N19 gn11 (Or.inl (List.mem_of_getElem? (i := 0) rfl)) f20 f21 (Or.inr ⟨(hw _ m158), rfl, hnm⟩) (hw _ m64) (ty := (.object z7)) (by decide) rfl rfl (g := (mkF m 91 #[sR a2, sR c9_0, sN, sI p1, sN] [.null, (vR a2)])) rfl rfl (hb hby d11_91)
  have f23 : Exa Z h22 b2 z1 := (((((f10.keep Kq9).wr W13).wr W16).wr W19).wr W22)
  have f24 : Fld Z h22 b2 z9 "modCount" "I" (vI 0) := (((((q3_3.keep Kq9 nin0).other W13 (Or.inl (Ne.symm (Nat.ne_of_lt (Nat.lt_of_lt_of_le PE1.lt g2))))).other W16 (Or.inl (Ne.symm (Nat.ne_of_lt (Nat.lt_of_lt_of_le PE1.lt g2))))).other W19 (Or.inl (Ne.symm (Nat.ne_of_lt (Nat.lt_of_lt_of_le PE1.lt g2))))).other W22 (Or.inl (Ne.symm (Nat.ne_of_lt (Nat.lt_of_lt_of_le PE1.lt g2)))))
  have f25 : Fld Z h22 b2 z1 z15 z3 (vR c3_0) := (((((q3_4.keep Kq9 nin0).other W13 (Or.inl (Ne.symm (Nat.ne_of_lt (Nat.lt_of_lt_of_le PE1.lt g2))))).other W16 (Or.inl (Ne.symm (Nat.ne_of_lt (Nat.lt_of_lt_of_le PE1.lt g2))))).other W19 (Or.inl (Ne.symm (Nat.ne_of_lt (Nat.lt_of_lt_of_le PE1.lt g2))))).other W22 (Or.inl (Ne.symm (Nat.ne_of_lt (Nat.lt_of_lt_of_le PE1.lt g2)))))
  have f26 : Fld Z h22 b2 z1 "size" "I" (vI 1) := (((((q3_5.keep Kq9 nin0).other W13 (Or.inl (Ne.symm (Nat.ne_of_lt (Nat.lt_of_lt_of_le PE1.lt g2))))).other W16 (Or.inl (Ne.symm (Nat.ne_of_lt (Nat.lt_of_lt_of_le PE1.lt g2))))).other W19 (Or.inl (Ne.symm (Nat.ne_of_lt (Nat.lt_of_lt_of_le PE1.lt g2))))).other W22 (Or.inl (Ne.symm (Nat.ne_of_lt (Nat.lt_of_lt_of_le PE1.lt g2)))))
  have ne27 : a2 ≠ c3_0 := (Nat.ne_of_lt (Nat.lt_of_lt_of_le (Nat.lt_of_lt_of_le PE1.lt E2.1) lo3_0))
  have f28 : Arv Z h22 c3_0 k3_1 (.object z4) (1 : Int32) [(vR w0)] .null := (((((q3_0.keep Kq9 nin0).other W13 (Ne.symm ne27)).other W16 (Ne.symm ne27)).other W19 (Ne.symm ne27)).other W22 (Ne.symm ne27))
  have f29 : Exa Z h22 c3_0 z3 := (((((q3_2.keep Kq9).wr W13).wr W16).wr W19).wr W22)
  have f30 : Exa Z h22 c9_0 z10 := ((((q9_0.wr W13).wr W16).wr W19).wr W22)
  have ne31 : a2 ≠ c9_0 := (Nat.ne_of_lt (Nat.lt_of_lt_of_le (Nat.lt_of_lt_of_le PE1.lt (Nat.le_trans E2.1 Kq3.1)) lo9_0))
  have f32 : Fld Z h22 c9_0 z11 "c" z20 (vR b2) := ((((q9_1.other W13 (Or.inl (Ne.symm ne31))).other W16 (Or.inl (Ne.symm ne31))).other W19 (Or.inl (Ne.symm ne31))).other W22 (Or.inl (Ne.symm ne31)))
  have f33 : Fld Z h22 c9_0 z12 "list" z6 (vR b2) := ((((q9_2.other W13 (Or.inl (Ne.symm ne31))).other W16 (Or.inl (Ne.symm ne31))).other W19 (Or.inl (Ne.symm ne31))).other W22 (Or.inl (Ne.symm ne31)))
  have f34 : Fld Z h22 a2 z0 "values" z6 (vR c9_0) := (((Fw13.other W16 (Or.inr (slot_ne (Or.inr (hw _ m152)) (Or.inr (hw _ m154)) (by decide) (t := (.object z5)) (t' := (.object z5)) (by decide) (by decide)))).other W19 (Or.inr (slot_ne (Or.inr (hw _ m152)) (Or.inr (hw _ m156)) (by decide) (t := (.object z5)) (t' := .int) (by decide) (by decide)))).other W22 (Or.inr (slot_ne (Or.inr (hw _ m152)) (Or.inr (hw _ m158)) (by decide) (t := (.object z5)) (t' := (.object z7)) (by decide) (by decide))))
  have f35 : Fld Z h22 a2 z0 "names" z6 .null := ((Fw16.other W19 (Or.inr (slot_ne (Or.inr (hw _ m154)) (Or.inr (hw _ m156)) (by decide) (t := (.object z5)) (t' := .int) (by decide) (by decide)))).other W22 (Or.inr (slot_ne (Or.inr (hw _ m154)) (Or.inr (hw _ m158)) (by decide) (t := (.object z5)) (t' := (.object z7)) (by decide) (by decide))))
  have f36 : Fld Z h22 a2 z0 "pageSize" "I" (vI p1) := (Fw19.other W22 (Or.inr (slot_ne (Or.inr (hw _ m156)) (Or.inr (hw _ m158)) (by decide) (t := .int) (t' := (.object z7)) (by decide) (by decide))))
  refine own_end X22 hlk (v := none) (fun _ => rfl) (by decide) (by rw [e22]; exact ⟨b2, c3_0, c9_0, k3_1, rfl, N22, K22, (Nat.le_trans (Keep.refl h0 [a2]).1 g2), (Nat.lt_of_lt_of_le A2.lt lo3_0), (Nat.lt_of_lt_of_le q3_0.lt lo9_0), f23, f24, f25, f26, f28, q3_1, f29, f30, f32, f33, f34, f35, f36, Fw22⟩) fun fs hr => ?_
  show St p e below s₁ (mkF m 0 #[sR a2, sR a3, sN, sI p1, sN] []) _
  refine wal X0 hx hby rfl d11_0 rfl rfl ?_
  refine st1 _ ?_
  refine st2 _ ?_
  refine wdu X2 hx hby rfl d11_7 rfl rfl ?_
  refine wal X2 hx hby rfl d11_8 rfl rfl ?_
  refine st3 _ ?_
  refine st9 _ ?_
  refine was X9 hx hby rfl d11_15 rfl rfl (l' := #[sR a2, sR c9_0, sN, sI p1, sN]) rfl ?_
  refine wal X9 hx hby rfl d11_16 rfl rfl ?_
  refine XS.ifnonnullNo X9.here hx rfl (hb hby d11_17) rfl ?_
  refine wan X9 hx hby rfl d11_20 ?_
  refine wgt X9 hx hby rfl (pc0 := 21) (pc' := 28) rfl d11_21 (by decide) (by decide) ?_
  refine was X9 hx hby rfl d11_28 rfl rfl (l' := #[sR a2, sR c9_0, sN, sI p1, sN]) rfl ?_
  refine wal X9 hx hby rfl d11_29 rfl rfl ?_
  refine wny X9 hx hby rfl (pc0 := 30) (pc' := 73) rfl d11_30 rfl (by decide) (by decide) ?_
  refine wal X9 hx hby rfl d11_73 rfl rfl ?_
  show St p e below T9 (mkF m 74 #[sR a2, sR c9_0, sN, sI p1, sN] [(vR a2)]) _
  refine wal X9 hx hby rfl d11_74 rfl rfl ?_
  refine st13 _ ?_
  refine wal X13 hx hby rfl d11_78 rfl rfl ?_
  refine wal X13 hx hby rfl d11_79 rfl rfl ?_
  refine st16 _ ?_
  refine wal X16 hx hby rfl d11_83 rfl rfl ?_
  refine wil X16 hx hby rfl d11_84 rfl ?_
  refine st19 _ ?_
  refine wal X19 hx hby rfl d11_88 rfl rfl ?_
  refine waL X19 hx hby rfl d11_89 rfl rfl ?_
  refine st22 _ ?_
  exact X22.returnOut hx hret (hb hby d11_94) hr
def Qrm41 (Z : State) (w0 : Addr) (p1 : Int32) (a2 : Addr) (h0 : Heap) (n0 : Nat) (v : Option Value) (h : Heap) (L : List Loc) : Prop := ∃ x0 : Addr, ∃ x1 : Addr, ∃ x2 : Addr, ∃ xk0 : ClassId, v = none ∧ Fr n0 L ∧ Keep h0 h [a2] ∧ h0.size ≤ x0 ∧ x0 < x1 ∧ x1 < x2 ∧ Exa Z h x0 z1 ∧ Fld Z h x0 z9 "modCount" "I" (vI 0) ∧ Fld Z h x0 z1 z15 z3 (vR x1) ∧ Fld Z h x0 z1 "size" "I" (vI 1) ∧ Arv Z h x1 xk0 (.object z4) (1 : Int32) [(vR w0)] .null ∧ Ovr Z xk0 z4 ∧ Exa Z h x1 z3 ∧ Exa Z h x2 z10 ∧ Fld Z h x2 z11 "c" z20 (vR x0) ∧ Fld Z h x2 z12 "list" z6 (vR x0) ∧ Fld Z h a2 z0 "values" z6 (vR x2) ∧ Fld Z h a2 z0 "names" z6 .null ∧ Fld Z h a2 z0 "pageSize" "I" (vI p1) ∧ Fld Z h a2 z0 z16 z13 (vR w0)
theorem rm41 (cx : Cx Z a0 w0 w1 kw1 w2 kw2 mr1 mr2 mr3 mr4) (p1 : Int32) (a2 : Addr) (a3 : Addr) (a4 : Addr) (ck5 : ClassId) (O0 : Old Z n0 h0) (PE1 : Exa Z h0 a2 z0) (PF2 : Fld Z h0 a2 z0 "values" z6 .null) (PF3 : Fld Z h0 a2 z0 "names" z6 .null) (PF4 : Fld Z h0 a2 z0 "pageSize" "I" (vI 0)) (PF5 : Fld Z h0 a2 z0 z16 z13 .null) (PF6 : Fld Z h0 a3 z1 z15 z3 (vR a4)) (PF7 : Fld Z h0 a3 z1 "size" "I" (vI 1)) (PE8 : Exa Z h0 a4 z3) (PV9 : Arv Z h0 a4 ck5 (.object z4) (10 : Int32) [(vR w0), .null, .null, .null, .null, .null, .null, .null, .null, .null] .null) (PE10 : Exa Z h0 a3 z1) (gn11 : n0 ≤ a2) : Ct l Z ⟨z0, "<init>", z18⟩ prog_44_method_1_code 5 none ⟨5, 3, 6, 73⟩ #[(vR a2), (vR a3), .null, (vI p1), (vR w0)] h0 (Qrm41 Z w0 p1 a2 h0 n0) := by
  obtain ⟨hw, hj, hS⟩ := id cx
  refine own_bd (plainFor_of_name pn280) (fun m => ef400 m a2 a3 p1 w0) fun p e s m below meth c s₁ hret hlk hZ hx hby hml hown hnm X0 e0 => ?_
  have N0 := Fr.nil n0
  obtain ⟨_, T1, L1, ⟨rfl, N1q, e1⟩, X1, st1⟩ := cI X0 hx hZ (W := 0) hown (cw4 cx) (rm5 cx a2 O0) e0 (g := (mkF m 1 #[sR a2, sR a3, sN, sI p1, sR w0] [(vR a2)])) rfl hml rfl (rest := []) rfl rfl rfl rfl (hb hby d11_1) (by decide)
  obtain ⟨T2, h2, b2, X2, e2, E2, A2, D2, g2, O2, K2, st2⟩ := own_newO X1 hx hZ hown (hw _ m75) (hw _ m10) (hw _ m11) e1 O0 (Keep.refl h0 [a2]) (g := (mkF m 4 #[sR a2, sR a3, sN, sI p1, sR w0] [])) rfl (hb hby d11_4) (by decide) (by decide)
  have F2_1 : Fld Z h2 b2 z9 "modCount" "I" (vI 0) := D2 (Or.inl (hw _ m29)) (ty := .int) (by decide)
  have F2_2 : Fld Z h2 b2 z1 z15 z3 .null := D2 (Or.inl (hw _ m32)) (ty := (.array (.object z4))) (by decide)
  have F2_3 : Fld Z h2 b2 z1 "size" "I" (vI 0) := D2 (Or.inl (hw _ m41)) (ty := .int) (by decide)
  have f4 : Fld Z h2 a3 z1 z15 z3 (vR a4) := (PF6.ext E2)
  have f5 : Fld Z h2 a3 z1 "size" "I" (vI 1) := (PF7.ext E2)
  have f6 : Exa Z h2 a4 z3 := (PE8.ext E2)
  have f7 : Arv Z h2 a4 ck5 (.object z4) (10 : Int32) [(vR w0), .null, .null, .null, .null, .null, .null, .null, .null, .null] .null := (PV9.ext E2)
  have f8 : Exa Z h2 a3 z1 := (PE10.ext E2)
  obtain ⟨_, T3, L3, ⟨c3_0, k3_1, rfl, N3q, Kq3, lo3_0, q3_0, q3_1, q3_2, q3_3, q3_4, q3_5⟩, X3, st3⟩ := cI X2 hx hZ (W := 1) hown (cw8 cx) (rm39 cx b2 a3 a4 ck5 O2 A2 F2_1 F2_2 F2_3 (Nat.le_trans (own_old_le O0) g2) f4 (Nat.ne_of_lt (Nat.lt_of_lt_of_le PF6.lt g2)) f5 f6 f7 (Nat.ne_of_lt (Nat.lt_of_lt_of_le PE8.lt g2)) f8) e2 (g := (mkF m 9 #[sR a2, sR a3, sN, sI p1, sR w0] [(vR a3), (vR b2), (vR b2)])) rfl hml rfl (rest := [(vR b2)]) rfl rfl rfl rfl (hb hby d11_9) (by decide)
  have N3 := Fr.app (Fr.app N0 N1q) N3q
  have O3 : Old Z n0 T3.heap := O2.keep Kq3 (allS (Nat.le_trans (own_old_le O0) g2) all0)
  have K3 : Keep h0 T3.heap [a2] := K2.trans Kq3 (allS (Or.inr (Nat.le_trans (Keep.refl h0 [a2]).1 g2)) all0)
  have f10 : Exa Z T3.heap b2 z1 := (A2.keep Kq3)
  obtain ⟨_, T9, L9, ⟨c9_0, rfl, N9q, Kq9, lo9_0, q9_0, q9_1, q9_2⟩, X9, st9⟩ := cS X3 hx hZ (W := 0) hown (cw12 cx) (rm14 cx b2 O3 f10) (rfl : T3.heap = T3.heap) (g := (mkF m 12 #[sR a2, sR a3, sN, sI p1, sR w0] [(vR b2)])) rfl hml rfl (rest := []) rfl rfl rfl rfl (hb hby d11_12) (by decide)
  have N9 := Fr.app N3 N9q
  have O9 : Old Z n0 T9.heap := O3.keep Kq9 all0
  have K9 : Keep h0 T9.heap [a2] := K3.trans Kq9 all0
  have f11 : Fld Z T9.heap a2 z0 "values" z6 .null := (((PF2.ext E2).keep Kq3 (ninS (Nat.ne_of_lt (Nat.lt_of_lt_of_le PE1.lt g2)) nin0)).keep Kq9 nin0)
  have f12 : Exa Z T9.heap a2 z0 := (((PE1.ext E2).keep Kq3).keep Kq9)
  obtain ⟨T13, h13, L'13, X13, e13, W13, Fw13, O13, K13, N13, st13⟩ := own_put X9 hx hZ hown (host := "") (Or.inl (hw _ m151)) Via.refl (rfl : T9.heap = T9.heap) O9 K9 N9 gn11 (Or.inl (List.mem_of_getElem? (i := 0) rfl)) f11 f12 (Or.inr ⟨(hw _ m152), rfl, hnm⟩) (hw _ m64) (ty := (.object z5)) (by decide) rfl rfl (g := (mkF m 75 #[sR a2, sR c9_0, sN, sI p1, sR w0] [(vR c9_0), (vR a2)])) rfl rfl (hb hby d11_75)
  have f14 : Fld Z h13 a2 z0 "names" z6 .null := ((((PF3.ext E2).keep Kq3 (ninS (Nat.ne_of_lt (Nat.lt_of_lt_of_le PE1.lt g2)) nin0)).keep Kq9 nin0).other W13 (Or.inr (slot_ne (Or.inr (hw _ m154)) (Or.inr (hw _ m152)) (by decide) (t := (.object z5)) (t' := (.object z5)) (by decide) (by decide))))
  have f15 : Exa Z h13 a2 z0 := (f12.wr W13)
  obtain ⟨T16, h16, L'16, X16, e16, W16, Fw16, O16, K16, N16, st16⟩ := own_put X13 hx hZ hown (host := "") (Or.inl (hw _ m153)) Via.refl e13 O13 K13 N13 gn11 (Or.inl (List.mem_of_getElem? (i := 0) rfl)) f14 f15 (Or.inr ⟨(hw _ m154), rfl, hnm⟩) (hw _ m64) (ty := (.object z5)) (by decide) rfl rfl (g := (mkF m 80 #[sR a2, sR c9_0, sN, sI p1, sR w0] [.null, (vR a2)])) rfl rfl (hb hby d11_80)
  have f17 : Fld Z h16 a2 z0 "pageSize" "I" (vI 0) := (((((PF4.ext E2).keep Kq3 (ninS (Nat.ne_of_lt (Nat.lt_of_lt_of_le PE1.lt g2)) nin0)).keep Kq9 nin0).other W13 (Or.inr (slot_ne (Or.inr (hw _ m156)) (Or.inr (hw _ m152)) (by decide) (t := .int) (t' := (.object z5)) (by decide) (by decide)))).other W16 (Or.inr (slot_ne (Or.inr (hw _ m156)) (Or.inr (hw _ m154)) (by decide) (t := .int) (t' := (.object z5)) (by decide) (by decide))))
  have f18 : Exa Z h16 a2 z0 := (f15.wr W16)
  obtain ⟨T19, h19, L'19, X19, e19, W19, Fw19, O19, K19, N19, st19⟩ := own_put X16 hx hZ hown (host := "") (Or.inl (hw _ m155)) Via.refl e16 O16 K16 N16 gn11 (Or.inl (List.mem_of_getElem? (i := 0) rfl)) f17 f18 (Or.inr ⟨(hw _ m156), rfl, hnm⟩) (hw _ m64) (ty := .int) (by decide) rfl rfl (g := (mkF m 85 #[sR a2, sR c9_0, sN, sI p1, sR w0] [(vI p1), (vR a2)])) rfl rfl (hb hby d11_85)
  have f20 : Fld Z h19 a2 z0 z16 z13 .null := ((((((PF5.ext E2).keep Kq3 (ninS (Nat.ne_of_lt (Nat.lt_of_lt_of_le PE1.lt g2)) nin0)).keep Kq9 nin0).other W13 (Or.inr (slot_ne (Or.inr (hw _ m158)) (Or.inr (hw _ m152)) (by decide) (t := (.object z7)) (t' := (.object z5)) (by decide) (by decide)))).other W16 (Or.inr (slot_ne (Or.inr (hw _ m158)) (Or.inr (hw _ m154)) (by decide) (t := (.object z7)) (t' := (.object z5)) (by decide) (by decide)))).other W19 (Or.inr (slot_ne (Or.inr (hw _ m158)) (Or.inr (hw _ m156)) (by decide) (t := (.object z7)) (t' := .int) (by decide) (by decide))))
  have f21 : Exa Z h19 a2 z0 := (f18.wr W19)
  obtain ⟨T22, h22, L'22, X22, e22, W22, Fw22, O22, K22, N22, st22⟩ := own_put X19 hx hZ hown (host := "") (Or.inl (hw _ m157)) Via.refl e19 O19 K19 N19 gn11 (Or.inl (List.mem_of_getElem? (i := 0) rfl)) f20 f21 (Or.inr ⟨(hw _ m158), rfl, hnm⟩) (hw _ m64) (ty := (.object z7)) (by decide) rfl rfl (g := (mkF m 91 #[sR a2, sR c9_0, sN, sI p1, sR w0] [(vR w0), (vR a2)])) rfl rfl (hb hby d11_91)
  have f23 : Exa Z h22 b2 z1 := (((((f10.keep Kq9).wr W13).wr W16).wr W19).wr W22)
  have f24 : Fld Z h22 b2 z9 "modCount" "I" (vI 0) := (((((q3_3.keep Kq9 nin0).other W13 (Or.inl (Ne.symm (Nat.ne_of_lt (Nat.lt_of_lt_of_le PE1.lt g2))))).other W16 (Or.inl (Ne.symm (Nat.ne_of_lt (Nat.lt_of_lt_of_le PE1.lt g2))))).other W19 (Or.inl (Ne.symm (Nat.ne_of_lt (Nat.lt_of_lt_of_le PE1.lt g2))))).other W22 (Or.inl (Ne.symm (Nat.ne_of_lt (Nat.lt_of_lt_of_le PE1.lt g2)))))
  have f25 : Fld Z h22 b2 z1 z15 z3 (vR c3_0) := (((((q3_4.keep Kq9 nin0).other W13 (Or.inl (Ne.symm (Nat.ne_of_lt (Nat.lt_of_lt_of_le PE1.lt g2))))).other W16 (Or.inl (Ne.symm (Nat.ne_of_lt (Nat.lt_of_lt_of_le PE1.lt g2))))).other W19 (Or.inl (Ne.symm (Nat.ne_of_lt (Nat.lt_of_lt_of_le PE1.lt g2))))).other W22 (Or.inl (Ne.symm (Nat.ne_of_lt (Nat.lt_of_lt_of_le PE1.lt g2)))))
  have f26 : Fld Z h22 b2 z1 "size" "I" (vI 1) := (((((q3_5.keep Kq9 nin0).other W13 (Or.inl (Ne.symm (Nat.ne_of_lt (Nat.lt_of_lt_of_le PE1.lt g2))))).other W16 (Or.inl (Ne.symm (Nat.ne_of_lt (Nat.lt_of_lt_of_le PE1.lt g2))))).other W19 (Or.inl (Ne.symm (Nat.ne_of_lt (Nat.lt_of_lt_of_le PE1.lt g2))))).other W22 (Or.inl (Ne.symm (Nat.ne_of_lt (Nat.lt_of_lt_of_le PE1.lt g2)))))
  have ne27 : a2 ≠ c3_0 := (Nat.ne_of_lt (Nat.lt_of_lt_of_le (Nat.lt_of_lt_of_le PE1.lt E2.1) lo3_0))
  have f28 : Arv Z h22 c3_0 k3_1 (.object z4) (1 : Int32) [(vR w0)] .null := (((((q3_0.keep Kq9 nin0).other W13 (Ne.symm ne27)).other W16 (Ne.symm ne27)).other W19 (Ne.symm ne27)).other W22 (Ne.symm ne27))
  have f29 : Exa Z h22 c3_0 z3 := (((((q3_2.keep Kq9).wr W13).wr W16).wr W19).wr W22)
  have f30 : Exa Z h22 c9_0 z10 := ((((q9_0.wr W13).wr W16).wr W19).wr W22)
  have ne31 : a2 ≠ c9_0 := (Nat.ne_of_lt (Nat.lt_of_lt_of_le (Nat.lt_of_lt_of_le PE1.lt (Nat.le_trans E2.1 Kq3.1)) lo9_0))
  have f32 : Fld Z h22 c9_0 z11 "c" z20 (vR b2) := ((((q9_1.other W13 (Or.inl (Ne.symm ne31))).other W16 (Or.inl (Ne.symm ne31))).other W19 (Or.inl (Ne.symm ne31))).other W22 (Or.inl (Ne.symm ne31)))
  have f33 : Fld Z h22 c9_0 z12 "list" z6 (vR b2) := ((((q9_2.other W13 (Or.inl (Ne.symm ne31))).other W16 (Or.inl (Ne.symm ne31))).other W19 (Or.inl (Ne.symm ne31))).other W22 (Or.inl (Ne.symm ne31)))
  have f34 : Fld Z h22 a2 z0 "values" z6 (vR c9_0) := (((Fw13.other W16 (Or.inr (slot_ne (Or.inr (hw _ m152)) (Or.inr (hw _ m154)) (by decide) (t := (.object z5)) (t' := (.object z5)) (by decide) (by decide)))).other W19 (Or.inr (slot_ne (Or.inr (hw _ m152)) (Or.inr (hw _ m156)) (by decide) (t := (.object z5)) (t' := .int) (by decide) (by decide)))).other W22 (Or.inr (slot_ne (Or.inr (hw _ m152)) (Or.inr (hw _ m158)) (by decide) (t := (.object z5)) (t' := (.object z7)) (by decide) (by decide))))
  have f35 : Fld Z h22 a2 z0 "names" z6 .null := ((Fw16.other W19 (Or.inr (slot_ne (Or.inr (hw _ m154)) (Or.inr (hw _ m156)) (by decide) (t := (.object z5)) (t' := .int) (by decide) (by decide)))).other W22 (Or.inr (slot_ne (Or.inr (hw _ m154)) (Or.inr (hw _ m158)) (by decide) (t := (.object z5)) (t' := (.object z7)) (by decide) (by decide))))
  have f36 : Fld Z h22 a2 z0 "pageSize" "I" (vI p1) := (Fw19.other W22 (Or.inr (slot_ne (Or.inr (hw _ m156)) (Or.inr (hw _ m158)) (by decide) (t := .int) (t' := (.object z7)) (by decide) (by decide))))
  refine own_end X22 hlk (v := none) (fun _ => rfl) (by decide) (by rw [e22]; exact ⟨b2, c3_0, c9_0, k3_1, rfl, N22, K22, (Nat.le_trans (Keep.refl h0 [a2]).1 g2), (Nat.lt_of_lt_of_le A2.lt lo3_0), (Nat.lt_of_lt_of_le q3_0.lt lo9_0), f23, f24, f25, f26, f28, q3_1, f29, f30, f32, f33, f34, f35, f36, Fw22⟩) fun fs hr => ?_
  show St p e below s₁ (mkF m 0 #[sR a2, sR a3, sN, sI p1, sR w0] []) _
  refine wal X0 hx hby rfl d11_0 rfl rfl ?_
  refine st1 _ ?_
  refine st2 _ ?_
  refine wdu X2 hx hby rfl d11_7 rfl rfl ?_
  refine wal X2 hx hby rfl d11_8 rfl rfl ?_
  refine st3 _ ?_
  refine st9 _ ?_
  refine was X9 hx hby rfl d11_15 rfl rfl (l' := #[sR a2, sR c9_0, sN, sI p1, sR w0]) rfl ?_
  refine wal X9 hx hby rfl d11_16 rfl rfl ?_
  refine XS.ifnonnullNo X9.here hx rfl (hb hby d11_17) rfl ?_
  refine wan X9 hx hby rfl d11_20 ?_
  refine wgt X9 hx hby rfl (pc0 := 21) (pc' := 28) rfl d11_21 (by decide) (by decide) ?_
  refine was X9 hx hby rfl d11_28 rfl rfl (l' := #[sR a2, sR c9_0, sN, sI p1, sR w0]) rfl ?_
  refine wal X9 hx hby rfl d11_29 rfl rfl ?_
  refine wny X9 hx hby rfl (pc0 := 30) (pc' := 73) rfl d11_30 rfl (by decide) (by decide) ?_
  refine wal X9 hx hby rfl d11_73 rfl rfl ?_
  show St p e below T9 (mkF m 74 #[sR a2, sR c9_0, sN, sI p1, sR w0] [(vR a2)]) _
  refine wal X9 hx hby rfl d11_74 rfl rfl ?_
  refine st13 _ ?_
  refine wal X13 hx hby rfl d11_78 rfl rfl ?_
  refine wal X13 hx hby rfl d11_79 rfl rfl ?_
  refine st16 _ ?_
  refine wal X16 hx hby rfl d11_83 rfl rfl ?_
  refine wil X16 hx hby rfl d11_84 rfl ?_
  refine st19 _ ?_
  refine wal X19 hx hby rfl d11_88 rfl rfl ?_
  refine waL X19 hx hby rfl d11_89 rfl rfl ?_
  refine st22 _ ?_
  exact X22.returnOut hx hret (hb hby d11_94) hr
def Qrm42 (Z : State) (a1 : Addr) (h0 : Heap) (n0 : Nat) (v : Option Value) (h : Heap) (L : List Loc) : Prop := ∃ x0 : Addr, ∃ xk0 : ClassId, v = none ∧ Fr n0 L ∧ Keep h0 h [a1] ∧ h0.size ≤ x0 ∧ Arv Z h x0 xk0 (.object z4) (10 : Int32) [.null, .null, .null, .null, .null, .null, .null, .null, .null, .null] .null ∧ Ovr Z xk0 z4 ∧ Exa Z h x0 z3 ∧ Fld Z h a1 z9 "modCount" "I" (vI 1) ∧ Fld Z h a1 z1 z15 z3 (vR x0) ∧ Fld Z h a1 z1 "size" "I" (vI 1)
theorem rm42 (cx : Cx Z a0 w0 w1 kw1 w2 kw2 mr1 mr2 mr3 mr4) (a1 : Addr) (O0 : Old Z n0 h0) (PE1 : Exa Z h0 a1 z1) (PF2 : Fld Z h0 a1 z9 "modCount" "I" (vI 1)) (PF3 : Fld Z h0 a1 z1 z15 z3 (vR w1)) (PF4 : Fld Z h0 a1 z1 "size" "I" (vI 0)) (gn5 : n0 ≤ a1) : Ct l Z ⟨z1, "add", z22⟩ jdk_38_method_24_code 4 none ⟨3, 1, 10, 41⟩ #[(vR a1), .null, (vR w1), (vI 0)] h0 (Qrm42 Z a1 h0 n0) := by
  obtain ⟨hw, hj, hS⟩ := id cx
  refine own_bd (plainFor_of_name pn51) (fun m => ef510 m a1 w1 0) fun p e s m below meth c s₁ hret hlk hZ hx hby hml hown hnm X0 e0 => ?_
  have N0 := Fr.nil n0
  obtain ⟨_, T1, L1, ⟨c1_0, k1_1, rfl, N1q, Kq1, lo1_0, q1_0, q1_1, q1_2, q1_3, q1_4, q1_5⟩, X1, st1⟩ := own_private X0 hx hZ (W := 0) hown (hw _ m47) (hw _ m48) (mvT hZ (hw _ m50)) (hw _ m49) (hw _ m11) (hw _ m51) (by decide) (rm32 cx a1 O0 PE1 PF2 PF3 PF4 gn5) e0 PE1 (g := (mkF m 7 #[sR a1, sN, sR w1, sI 0] [(vR a1)])) rfl hml rfl (rest := []) (lenOf pd154 rfl) rfl rfl rfl (hb hby d7_7) (by decide)
  have N1 := Fr.app N0 N1q
  have O1 : Old Z n0 T1.heap := O0.keep Kq1 (allS gn5 all0)
  have K1 : Keep h0 T1.heap [a1] := (Keep.refl h0 [a1]).trans Kq1 (allS (Or.inl (List.mem_of_getElem? (i := 0) rfl)) all0)
  obtain ⟨T2, h2, L'2, X2, e2, W2, V2, O2, K2, N2, st2⟩ := own_stR X1 hx hZ (rfl : T1.heap = T1.heap) q1_0 O1 K1 N1 (Nat.le_trans (own_old_le O0) lo1_0) (Or.inr (Nat.le_trans (Keep.refl h0 [a1]).1 lo1_0)) (j := (0 : Int32)) 0 (by decide) (Nat.le_of_ble_eq_true rfl) (vs' := [.null, .null, .null, .null, .null, .null, .null, .null, .null, .null]) rfl rfl rfl (Or.inl rfl) (g := (mkF m 14 #[sR a1, sN, sR c1_0, sI 0] [.null, (vI 0), (vR c1_0)])) rfl rfl (hb hby d7_14)
  have f3 : Fld Z h2 a1 z1 "size" "I" (vI 0) := (q1_5.other W2 (Or.inl (Nat.ne_of_lt (Nat.lt_of_lt_of_le PE1.lt lo1_0))))
  have f4 : Exa Z h2 a1 z1 := ((PE1.keep Kq1).wr W2)
  obtain ⟨T5, h5, L'5, X5, e5, W5, Fw5, O5, K5, N5, st5⟩ := own_put X2 hx hZ hown (host := "") (Or.inl (hw _ m40)) Via.refl e2 O2 K2 N2 gn5 (Or.inl (List.mem_of_getElem? (i := 0) rfl)) f3 f4 (Or.inl (hw _ m41)) (hw _ m10) (ty := .int) (by decide) rfl rfl (g := (mkF m 19 #[sR a1, sN, sR c1_0, sI 0] [(vI 1), (vR a1)])) rfl rfl (hb hby d7_19)
  have f6 : Arv Z h5 c1_0 k1_1 (.object z4) (10 : Int32) [.null, .null, .null, .null, .null, .null, .null, .null, .null, .null] .null := (V2.other W5 (Ne.symm (Nat.ne_of_lt (Nat.lt_of_lt_of_le PE1.lt lo1_0))))
  have f7 : Exa Z h5 c1_0 z3 := ((q1_2.wr W2).wr W5)
  have f8 : Fld Z h5 a1 z9 "modCount" "I" (vI 1) := ((q1_3.other W2 (Or.inl (Nat.ne_of_lt (Nat.lt_of_lt_of_le PE1.lt lo1_0)))).other W5 (Or.inr (slot_ne (Or.inl (hw _ m29)) (Or.inl (hw _ m41)) (by decide) (t := .int) (t' := .int) (by decide) (by decide))))
  have f9 : Fld Z h5 a1 z1 z15 z3 (vR c1_0) := ((q1_4.other W2 (Or.inl (Nat.ne_of_lt (Nat.lt_of_lt_of_le PE1.lt lo1_0)))).other W5 (Or.inr (slot_ne (Or.inl (hw _ m32)) (Or.inl (hw _ m41)) (by decide) (t := (.array (.object z4))) (t' := .int) (by decide) (by decide))))
  refine own_end X5 hlk (v := none) (fun _ => rfl) (by decide) (by rw [e5]; exact ⟨c1_0, k1_1, rfl, N5, K5, (Nat.le_trans (Keep.refl h0 [a1]).1 lo1_0), f6, q1_1, f7, f8, f9, Fw5⟩) fun fs hr => ?_
  show St p e below s₁ (mkF m 0 #[sR a1, sN, sR w1, sI 0] []) _
  refine wil X0 hx hby rfl d7_0 rfl ?_
  refine wal X0 hx hby rfl d7_1 rfl rfl ?_
  refine own_alen X0 hx hZ e0 (hS.2.2.2.1.ext O0.2) (g := (mkF m 2 #[sR a1, sN, sR w1, sI 0] [(vR w1), (vI 0)])) rfl rfl (hb hby d7_2) ?_
  refine wcn X0 hx hby rfl d7_3 rfl (teq (by decide : (0 : Int32) = (0 : Int32))).2 ?_
  refine wal X0 hx hby rfl d7_6 rfl rfl ?_
  refine st1 _ ?_
  refine was X1 hx hby rfl d7_10 rfl rfl (l' := #[sR a1, sN, sR c1_0, sI 0]) rfl ?_
  refine wal X1 hx hby rfl d7_11 rfl rfl ?_
  refine wil X1 hx hby rfl d7_12 rfl ?_
  refine wal X1 hx hby rfl d7_13 rfl rfl ?_
  refine st2 _ ?_
  refine wal X2 hx hby rfl d7_15 rfl rfl ?_
  refine wil X2 hx hby rfl d7_16 rfl ?_
  refine wic X2 hx hby rfl d7_17 ?_
  refine Own.iadd X2.here hx rfl (hb hby d7_18) rfl (by decide : ((0 : Int32) + (1 : Int32)) = (1 : Int32)) ?_
  refine st5 _ ?_
  show St p e below T5 (mkF m 22 #[sR a1, sN, sR c1_0, sI 0] []) _
  exact X5.returnOut hx hret (hb hby d7_22) hr
def Qrm43 (Z : State) (a1 : Addr) (h0 : Heap) (n0 : Nat) (v : Option Value) (h : Heap) (L : List Loc) : Prop := ∃ x0 : Addr, ∃ xk0 : ClassId, v = some (vI 1) ∧ Fr n0 L ∧ Keep h0 h [a1] ∧ h0.size ≤ x0 ∧ Arv Z h x0 xk0 (.object z4) (10 : Int32) [.null, .null, .null, .null, .null, .null, .null, .null, .null, .null] .null ∧ Ovr Z xk0 z4 ∧ Exa Z h x0 z3 ∧ Fld Z h a1 z9 "modCount" "I" (vI 1) ∧ Fld Z h a1 z1 z15 z3 (vR x0) ∧ Fld Z h a1 z1 "size" "I" (vI 1)
theorem rm43 (cx : Cx Z a0 w0 w1 kw1 w2 kw2 mr1 mr2 mr3 mr4) (a1 : Addr) (O0 : Old Z n0 h0) (PE1 : Exa Z h0 a1 z1) (PF2 : Fld Z h0 a1 z9 "modCount" "I" (vI 0)) (PF3 : Fld Z h0 a1 z1 z15 z3 (vR w1)) (PF4 : Fld Z h0 a1 z1 "size" "I" (vI 0)) (gn5 : n0 ≤ a1) : Ct l Z ⟨z1, "add", z29⟩ jdk_38_method_25_code 2 (some .boolean) ⟨4, 1, 10, 56⟩ #[(vR a1), .null] h0 (Qrm43 Z a1 h0 n0) := by
  obtain ⟨hw, hj, hS⟩ := id cx
  refine own_bd (plainFor_of_name pn51) (fun m => ef511 m a1) fun p e s m below meth c s₁ hret hlk hZ hx hby hml hown hnm X0 e0 => ?_
  have N0 := Fr.nil n0
  obtain ⟨T1, X1, e1, st1⟩ := getF X0 hx hZ hown (host := "") (Or.inl (hw _ m38)) (Via.of (hw _ m39)) e0 PF2 (g := (mkF m 2 #[sR a1, sN] [(vR a1), (vR a1)])) rfl rfl (hb hby d6_2)
  obtain ⟨T2, h2, L'2, X2, e2, W2, Fw2, O2, K2, N2, st2⟩ := own_put X1 hx hZ hown (host := "") (Or.inl (hw _ m38)) (Via.of (hw _ m39)) e1 O0 (Keep.refl h0 [a1]) N0 gn5 (Or.inl (List.mem_of_getElem? (i := 0) rfl)) PF2 PE1 (Or.inl (hw _ m29)) (hw _ m10) (ty := .int) (by decide) rfl rfl (g := (mkF m 7 #[sR a1, sN] [(vI 1), (vR a1)])) rfl rfl (hb hby d6_7)
  have f3 : Fld Z h2 a1 z1 z15 z3 (vR w1) := (PF3.other W2 (Or.inr (slot_ne (Or.inl (hw _ m32)) (Or.inl (hw _ m29)) (by decide) (t := (.array (.object z4))) (t' := .int) (by decide) (by decide))))
  obtain ⟨T4, X4, e4, st4⟩ := getF X2 hx hZ hown (host := "") (Or.inl (hw _ m31)) Via.refl e2 f3 (g := (mkF m 13 #[sR a1, sN] [(vR a1), .null, (vR a1)])) rfl rfl (hb hby d6_13)
  have f5 : Fld Z h2 a1 z1 "size" "I" (vI 0) := (PF4.other W2 (Or.inr (slot_ne (Or.inl (hw _ m41)) (Or.inl (hw _ m29)) (by decide) (t := .int) (t' := .int) (by decide) (by decide))))
  obtain ⟨T6, X6, e6, st6⟩ := getF X4 hx hZ hown (host := "") (Or.inl (hw _ m40)) Via.refl e4 f5 (g := (mkF m 17 #[sR a1, sN] [(vR a1), (vR w1), .null, (vR a1)])) rfl rfl (hb hby d6_17)
  have f8 : Exa Z h2 a1 z1 := (PE1.wr W2)
  obtain ⟨_, T7, L7, ⟨c7_0, k7_1, rfl, N7q, Kq7, lo7_0, q7_0, q7_1, q7_2, q7_3, q7_4, q7_5⟩, X7, st7⟩ := own_private X6 hx hZ (W := 0) hown (hw _ m42) (hw _ m43) (mvT hZ (hw _ m45)) (hw _ m44) (hw _ m11) (hw _ m46) (by decide) (rm42 cx a1 O2 f8 Fw2 f3 f5 gn5) e6 f8 (g := (mkF m 20 #[sR a1, sN] [(vI 0), (vR w1), .null, (vR a1)])) rfl hml rfl (rest := []) (lenOf pd488 rfl) rfl rfl rfl (hb hby d6_20) (by decide)
  have N7 := Fr.app N2 N7q
  have O7 : Old Z n0 T7.heap := O2.keep Kq7 (allS gn5 all0)
  have K7 : Keep h0 T7.heap [a1] := K2.trans Kq7 (allS (Or.inl (List.mem_of_getElem? (i := 0) rfl)) all0)
  refine own_end X7 hlk (v := some (vI 1)) (own_hv hret) (by decide) ⟨c7_0, k7_1, rfl, N7, K7, (Nat.le_trans K2.1 lo7_0), q7_0, q7_1, q7_2, q7_3, q7_4, q7_5⟩ fun fs hr => ?_
  show St p e below s₁ (mkF m 0 #[sR a1, sN] []) _
  refine wal X0 hx hby rfl d6_0 rfl rfl ?_
  refine wdu X0 hx hby rfl d6_1 rfl rfl ?_
  refine st1 _ ?_
  refine wic X1 hx hby rfl d6_5 ?_
  refine Own.iadd X1.here hx rfl (hb hby d6_6) rfl (by decide : ((0 : Int32) + (1 : Int32)) = (1 : Int32)) ?_
  refine st2 _ ?_
  refine wal X2 hx hby rfl d6_10 rfl rfl ?_
  refine wal X2 hx hby rfl d6_11 rfl rfl ?_
  refine wal X2 hx hby rfl d6_12 rfl rfl ?_
  refine st4 _ ?_
  refine wal X4 hx hby rfl d6_16 rfl rfl ?_
  refine st6 _ ?_
  refine st7 _ ?_
  refine wic X7 hx hby rfl d6_23 ?_
  exact retN X7 hx (t := .boolean) hret (by simp) (hb hby d6_24) hr
def Qrm44 (Z : State) (w0 : Addr) (a1 : Addr) (ck2 : ClassId) (a3 : Addr) (h0 : Heap) (n0 : Nat) (v : Option Value) (h : Heap) (L : List Loc) : Prop := v = none ∧ Fr n0 L ∧ Keep h0 h [a1, a3] ∧ Arv Z h a1 ck2 (.object z4) (10 : Int32) [.null, (vR w0), .null, .null, .null, .null, .null, .null, .null, .null] .null ∧ Fld Z h a3 z9 "modCount" "I" (vI 2) ∧ Fld Z h a3 z1 z15 z3 (vR a1) ∧ Fld Z h a3 z1 "size" "I" (vI 2)
theorem rm44 (cx : Cx Z a0 w0 w1 kw1 w2 kw2 mr1 mr2 mr3 mr4) (a1 : Addr) (ck2 : ClassId) (a3 : Addr) (O0 : Old Z n0 h0) (PV1 : Arv Z h0 a1 ck2 (.object z4) (10 : Int32) [.null, .null, .null, .null, .null, .null, .null, .null, .null, .null] .null) (PE2 : Exa Z h0 a3 z1) (PF3 : Fld Z h0 a3 z9 "modCount" "I" (vI 2)) (PF4 : Fld Z h0 a3 z1 z15 z3 (vR a1)) (PF5 : Fld Z h0 a3 z1 "size" "I" (vI 1)) (Ov6 : Ovr Z ck2 z4) (gn7 : n0 ≤ a1) (pne8 : a3 ≠ a1) (gn9 : n0 ≤ a3) : Ct l Z ⟨z1, "add", z22⟩ jdk_38_method_24_code 4 none ⟨0, 0, 0, 0⟩ #[(vR a3), (vR w0), (vR a1), (vI 1)] h0 (Qrm44 Z w0 a1 ck2 a3 h0 n0) := by
  obtain ⟨hw, hj, hS⟩ := id cx
  refine own_bd (plainFor_of_name pn51) (fun m => ef486 m a3 w0 a1 1) fun p e s m below meth c s₁ hret hlk hZ hx hby hml hown hnm X0 e0 => ?_
  have N0 := Fr.nil n0
  obtain ⟨T1, h1, L'1, X1, e1, W1, V1, O1, K1, N1, st1⟩ := own_stR X0 hx hZ e0 PV1 O0 (Keep.refl h0 [a1, a3]) N0 gn7 (Or.inl (List.mem_of_getElem? (i := 0) rfl)) (j := (1 : Int32)) 1 (by decide) (Nat.le_of_ble_eq_true rfl) (vs' := [.null, (vR w0), .null, .null, .null, .null, .null, .null, .null, .null]) rfl rfl rfl (Or.inr ⟨_, _, rfl, Ov6, (Ins.of_exa (hS.2.1.ext O0.2) (hw _ m216))⟩) (g := (mkF m 14 #[sR a3, sR w0, sR a1, sI 1] [(vR w0), (vI 1), (vR a1)])) rfl rfl (hb hby d7_14)
  have f2 : Fld Z h1 a3 z1 "size" "I" (vI 1) := (PF5.other W1 (Or.inl pne8))
  have f3 : Exa Z h1 a3 z1 := (PE2.wr W1)
  obtain ⟨T4, h4, L'4, X4, e4, W4, Fw4, O4, K4, N4, st4⟩ := own_put X1 hx hZ hown (host := "") (Or.inl (hw _ m40)) Via.refl e1 O1 K1 N1 gn9 (Or.inl (List.mem_of_getElem? (i := 1) rfl)) f2 f3 (Or.inl (hw _ m41)) (hw _ m10) (ty := .int) (by decide) rfl rfl (g := (mkF m 19 #[sR a3, sR w0, sR a1, sI 1] [(vI 2), (vR a3)])) rfl rfl (hb hby d7_19)
  have f5 : Arv Z h4 a1 ck2 (.object z4) (10 : Int32) [.null, (vR w0), .null, .null, .null, .null, .null, .null, .null, .null] .null := (V1.other W4 (Ne.symm pne8))
  have f6 : Fld Z h4 a3 z9 "modCount" "I" (vI 2) := ((PF3.other W1 (Or.inl pne8)).other W4 (Or.inr (slot_ne (Or.inl (hw _ m29)) (Or.inl (hw _ m41)) (by decide) (t := .int) (t' := .int) (by decide) (by decide))))
  have f7 : Fld Z h4 a3 z1 z15 z3 (vR a1) := ((PF4.other W1 (Or.inl pne8)).other W4 (Or.inr (slot_ne (Or.inl (hw _ m32)) (Or.inl (hw _ m41)) (by decide) (t := (.array (.object z4))) (t' := .int) (by decide) (by decide))))
  refine own_end X4 hlk (v := none) (fun _ => rfl) (by decide) (by rw [e4]; exact ⟨rfl, N4, K4, f5, f6, f7, Fw4⟩) fun fs hr => ?_
  show St p e below s₁ (mkF m 0 #[sR a3, sR w0, sR a1, sI 1] []) _
  refine wil X0 hx hby rfl d7_0 rfl ?_
  refine wal X0 hx hby rfl d7_1 rfl rfl ?_
  refine own_alen X0 hx hZ e0 PV1 (g := (mkF m 2 #[sR a3, sR w0, sR a1, sI 1] [(vR a1), (vI 1)])) rfl rfl (hb hby d7_2) ?_
  refine wcy X0 hx hby rfl (pc0 := 3) (pc' := 11) rfl d7_3 rfl (feq (by decide : ¬ ((1 : Int32) = (10 : Int32)))).2 (by decide) (by decide) ?_
  refine wal X0 hx hby rfl d7_11 rfl rfl ?_
  refine wil X0 hx hby rfl d7_12 rfl ?_
  refine wal X0 hx hby rfl d7_13 rfl rfl ?_
  refine st1 _ ?_
  refine wal X1 hx hby rfl d7_15 rfl rfl ?_
  refine wil X1 hx hby rfl d7_16 rfl ?_
  refine wic X1 hx hby rfl d7_17 ?_
  refine Own.iadd X1.here hx rfl (hb hby d7_18) rfl (by decide : ((1 : Int32) + (1 : Int32)) = (2 : Int32)) ?_
  refine st4 _ ?_
  exact X4.returnOut hx hret (hb hby d7_22) hr
def Qrm45 (Z : State) (w0 : Addr) (a1 : Addr) (a2 : Addr) (ck3 : ClassId) (h0 : Heap) (n0 : Nat) (v : Option Value) (h : Heap) (L : List Loc) : Prop := v = some (vI 1) ∧ Fr n0 L ∧ Keep h0 h [a1, a2] ∧ Fld Z h a1 z9 "modCount" "I" (vI 2) ∧ Fld Z h a1 z1 z15 z3 (vR a2) ∧ Fld Z h a1 z1 "size" "I" (vI 2) ∧ Arv Z h a2 ck3 (.object z4) (10 : Int32) [.null, (vR w0), .null, .null, .null, .null, .null, .null, .null, .null] .null
theorem rm45 (cx : Cx Z a0 w0 w1 kw1 w2 kw2 mr1 mr2 mr3 mr4) (a1 : Addr) (a2 : Addr) (ck3 : ClassId) (O0 : Old Z n0 h0) (PE1 : Exa Z h0 a1 z1) (PF2 : Fld Z h0 a1 z9 "modCount" "I" (vI 1)) (PF3 : Fld Z h0 a1 z1 z15 z3 (vR a2)) (PF4 : Fld Z h0 a1 z1 "size" "I" (vI 1)) (PV5 : Arv Z h0 a2 ck3 (.object z4) (10 : Int32) [.null, .null, .null, .null, .null, .null, .null, .null, .null, .null] .null) (gn6 : n0 ≤ a1) (pne7 : a2 ≠ a1) (Ov8 : Ovr Z ck3 z4) (gn9 : n0 ≤ a2) : Ct l Z ⟨z1, "add", z29⟩ jdk_38_method_25_code 2 (some .boolean) ⟨1, 0, 0, 15⟩ #[(vR a1), (vR w0)] h0 (Qrm45 Z w0 a1 a2 ck3 h0 n0) := by
  obtain ⟨hw, hj, hS⟩ := id cx
  refine own_bd (plainFor_of_name pn51) (fun m => ef228 m a1 w0) fun p e s m below meth c s₁ hret hlk hZ hx hby hml hown hnm X0 e0 => ?_
  have N0 := Fr.nil n0
  obtain ⟨T1, X1, e1, st1⟩ := getF X0 hx hZ hown (host := "") (Or.inl (hw _ m38)) (Via.of (hw _ m39)) e0 PF2 (g := (mkF m 2 #[sR a1, sR w0] [(vR a1), (vR a1)])) rfl rfl (hb hby d6_2)
  obtain ⟨T2, h2, L'2, X2, e2, W2, Fw2, O2, K2, N2, st2⟩ := own_put X1 hx hZ hown (host := "") (Or.inl (hw _ m38)) (Via.of (hw _ m39)) e1 O0 (Keep.refl h0 [a1, a2]) N0 gn6 (Or.inl (List.mem_of_getElem? (i := 0) rfl)) PF2 PE1 (Or.inl (hw _ m29)) (hw _ m10) (ty := .int) (by decide) rfl rfl (g := (mkF m 7 #[sR a1, sR w0] [(vI 2), (vR a1)])) rfl rfl (hb hby d6_7)
  have f3 : Fld Z h2 a1 z1 z15 z3 (vR a2) := (PF3.other W2 (Or.inr (slot_ne (Or.inl (hw _ m32)) (Or.inl (hw _ m29)) (by decide) (t := (.array (.object z4))) (t' := .int) (by decide) (by decide))))
  obtain ⟨T4, X4, e4, st4⟩ := getF X2 hx hZ hown (host := "") (Or.inl (hw _ m31)) Via.refl e2 f3 (g := (mkF m 13 #[sR a1, sR w0] [(vR a1), (vR w0), (vR a1)])) rfl rfl (hb hby d6_13)
  have f5 : Fld Z h2 a1 z1 "size" "I" (vI 1) := (PF4.other W2 (Or.inr (slot_ne (Or.inl (hw _ m41)) (Or.inl (hw _ m29)) (by decide) (t := .int) (t' := .int) (by decide) (by decide))))
  obtain ⟨T6, X6, e6, st6⟩ := getF X4 hx hZ hown (host := "") (Or.inl (hw _ m40)) Via.refl e4 f5 (g := (mkF m 17 #[sR a1, sR w0] [(vR a1), (vR a2), (vR w0), (vR a1)])) rfl rfl (hb hby d6_17)
  have f8 : Arv Z h2 a2 ck3 (.object z4) (10 : Int32) [.null, .null, .null, .null, .null, .null, .null, .null, .null, .null] .null := (PV5.other W2 pne7)
  have f9 : Exa Z h2 a1 z1 := (PE1.wr W2)
  obtain ⟨_, T7, L7, ⟨rfl, N7q, Kq7, q7_0, q7_1, q7_2, q7_3⟩, X7, st7⟩ := own_private X6 hx hZ (W := 0) hown (hw _ m42) (hw _ m43) (mvT hZ (hw _ m45)) (hw _ m44) (hw _ m11) (hw _ m46) (by decide) (rm44 cx a2 ck3 a1 O2 f8 f9 Fw2 f3 f5 Ov8 gn9 (Ne.symm pne7) gn6) e6 f9 (g := (mkF m 20 #[sR a1, sR w0] [(vI 1), (vR a2), (vR w0), (vR a1)])) rfl hml rfl (rest := []) (lenOf pd488 rfl) rfl rfl rfl (hb hby d6_20) (by decide)
  have N7 := Fr.app N2 N7q
  have O7 : Old Z n0 T7.heap := O2.keep Kq7 (allS gn9 (allS gn6 all0))
  have K7 : Keep h0 T7.heap [a1, a2] := K2.trans Kq7 (allS (Or.inl (List.mem_of_getElem? (i := 1) rfl)) (allS (Or.inl (List.mem_of_getElem? (i := 0) rfl)) all0))
  refine own_end X7 hlk (v := some (vI 1)) (own_hv hret) (by decide) ⟨rfl, N7, K7, q7_1, q7_2, q7_3, q7_0⟩ fun fs hr => ?_
  show St p e below s₁ (mkF m 0 #[sR a1, sR w0] []) _
  refine wal X0 hx hby rfl d6_0 rfl rfl ?_
  refine wdu X0 hx hby rfl d6_1 rfl rfl ?_
  refine st1 _ ?_
  refine wic X1 hx hby rfl d6_5 ?_
  refine Own.iadd X1.here hx rfl (hb hby d6_6) rfl (by decide : ((1 : Int32) + (1 : Int32)) = (2 : Int32)) ?_
  refine st2 _ ?_
  refine wal X2 hx hby rfl d6_10 rfl rfl ?_
  refine wal X2 hx hby rfl d6_11 rfl rfl ?_
  refine wal X2 hx hby rfl d6_12 rfl rfl ?_
  refine st4 _ ?_
  refine wal X4 hx hby rfl d6_16 rfl rfl ?_
  refine st6 _ ?_
  refine st7 _ ?_
  refine wic X7 hx hby rfl d6_23 ?_
  exact retN X7 hx (t := .boolean) hret (by simp) (hb hby d6_24) hr
def QL (n0 : Nat) (v : Option Value) (h : Heap) (L : List Loc) : Prop := v = some (.int (1 : Int32)) ∧ Fr n0 L
theorem rm0 (cx : Cx Z a0 w0 w1 kw1 w2 kw2 mr1 mr2 mr3 mr4) (ws : List Jvm.Cond) (i0 : Int64) (i1 : Int32) (i2 : Int32) (h0 : Heap) (n0 : Nat) (O0 : Old Z n0 h0) :
    MetFree l x (head1 (Jvm.Cond.code x code maxLocals ret :: ws) room_1) (fun a U => a = #[(vL i0), (vI i1), (vI i2)] ∧ Z.Warmed39 U.vm ∧ U.heap = h0) (fun _ _ _ _ _ => True) (fun _ U o U' => ∃ v L, o = .returned v ∧ QL n0 v U'.heap L ∧ FrameEnd U o U' L room_1.cells room_1.slots) := by
  refine MetFree.of_bodySF (plainFor_of_name pn512) hisR ?_
  intro p e s m args below meth c s₁ Bd hml0 hP hK
  obtain ⟨rfl, hZ, hh⟩ := hP
  have hx := Bd.exec
  have hby := Bd.bytes
  have hret := Bd.returns
  have hlk := Bd.notSynchronized
  have hml : c.maxLocals = 10 := hml0
  have hown : s.vm.findClass z14 = some m.cls := findClass_of_methodNamed Bd.named
  have hnm := (name_of_methodNamed Bd.named Bd.method).1
  have X0 : Stand p l e room_1 s m #[(vL i0), (vI i1), (vI i2)] below meth c s₁ [] 0 0 := Stand.of_body Bd
  have e0 : s₁.heap = h0 := by rw [← hh, Bd.state]; rfl
  obtain ⟨hw, hj, hS⟩ := id cx
  have N0 := Fr.nil n0
  obtain ⟨g0, hg0⟩ : ∃ g, g = entryFrame m #[(vL i0), (vI i1), (vI i2)] maxLocals := ⟨_, rfl⟩
  rw [← hg0]
  have pre0 : ∀ t, St p e below s₁ (mkF m 0 #[sL i0, sS, sI i1, sI i2, sU, sU, sU, sU, sU, sU] []) t → St p e below s₁ g0 t := fun t k => castTop (hg0.trans (ef513 m i0 i1 i2)) k
  show End p e s below room_1 (QL n0) _
  obtain ⟨T1, h1, b1, X1, e1, E1, A1, D1, g1, O1, K1, st1⟩ := own_newO X0 hx hZ hown (hw _ m0) (hw _ m1) (hw _ m2) e0 O0 (Keep.refl h0 []) (g := (mkF m 0 #[sL i0, sS, sI i1, sI i2, sU, sU, sU, sU, sU, sU] [])) rfl (hb hby at_0) (by decide) (by decide)
  obtain ⟨_, T2, L2, ⟨rfl, N2q, e2⟩, X2, st2⟩ := cI X1 hx hZ (W := 1) hown (cw0 cx) (rm1 cx b1 O1) e1 (g := (mkF m 4 #[sL i0, sS, sI i1, sI i2, sU, sU, sU, sU, sU, sU] [(vR b1), (vR b1)])) rfl hml rfl (rest := [(vR b1)]) rfl rfl rfl rfl (hb hby at_4) (by decide)
  obtain ⟨T3, h3, b3, X3, e3, E3, A3, D3, g3, O3, K3, st3⟩ := own_newO X2 hx hZ hown (hw _ m9) (hw _ m10) (hw _ m11) e2 O1 K1 (g := (mkF m 9 #[sL i0, sS, sI i1, sI i2, sR b1, sU, sU, sU, sU, sU] [])) rfl (hb hby at_9) (by decide) (by decide)
  have F3_1 : Fld Z h3 b3 z9 "modCount" "I" (vI 0) := D3 (Or.inl (hw _ m29)) (ty := .int) (by decide)
  have F3_2 : Fld Z h3 b3 z1 z15 z3 .null := D3 (Or.inl (hw _ m32)) (ty := (.array (.object z4))) (by decide)
  have F3_3 : Fld Z h3 b3 z1 "size" "I" (vI 0) := D3 (Or.inl (hw _ m41)) (ty := .int) (by decide)
  obtain ⟨_, T4, L4, ⟨rfl, N4q, Kq4, q4_0, q4_1, q4_2⟩, X4, st4⟩ := cI X3 hx hZ (W := 1) hown (cw3 cx) (rm4 cx b3 O3 A3 F3_1 F3_2 F3_3 (Nat.le_trans (own_old_le O1) g3)) e3 (g := (mkF m 13 #[sL i0, sS, sI i1, sI i2, sR b1, sU, sU, sU, sU, sU] [(vR b3), (vR b3)])) rfl hml rfl (rest := [(vR b3)]) rfl rfl rfl rfl (hb hby at_13) (by decide)
  have N4 := Fr.app (Fr.app N0 N2q) N4q
  have O4 : Old Z n0 T4.heap := O3.keep Kq4 (allS (Nat.le_trans (own_old_le O1) g3) all0)
  have K4 : Keep h0 T4.heap [] := K3.trans Kq4 (allS (Or.inr (Nat.le_trans K1.1 g3)) all0)
  obtain ⟨x20, hx20⟩ : ∃ z, (i2 &&& (1 : Int32)) = z := ⟨_, rfl⟩
  have rx20 : 0 ≤ x20.toInt ∧ x20.toInt ≤ 1 := hx20 ▸ (own_mask i2 (1 : Int32) (by decide) : 0 ≤ ((i2 &&& (1 : Int32))).toInt ∧ ((i2 &&& (1 : Int32))).toInt ≤ 1)
  have pre1 : ∀ t, St p e below T4 (mkF m 21 #[sL i0, sS, sI i1, sI i2, sR b1, sR b3, sU, sU, sU, sU] [(vI x20)]) t → St p e below s₁ g0 t := fun t kt => pre0 _ (by
      show St p e below s₁ (mkF m 0 #[sL i0, sS, sI i1, sI i2, sU, sU, sU, sU, sU, sU] []) _
      refine st1 _ ?_
      refine wdu X1 hx hby rfl at_3 rfl rfl ?_
      refine st2 _ ?_
      refine waS X2 hx hby rfl at_7 rfl rfl (l' := #[sL i0, sS, sI i1, sI i2, sR b1, sU, sU, sU, sU, sU]) rfl ?_
      refine st3 _ ?_
      refine wdu X3 hx hby rfl at_12 rfl rfl ?_
      refine st4 _ ?_
      refine waS X4 hx hby rfl at_16 rfl rfl (l' := #[sL i0, sS, sI i1, sI i2, sR b1, sR b3, sU, sU, sU, sU]) rfl ?_
      refine wil X4 hx hby rfl at_18 rfl ?_
      refine wic X4 hx hby rfl at_19 ?_
      refine Own.iand X4.here hx rfl (hb hby at_20) rfl hx20 ?_
      exact kt)
  rcases en_54 x20 (by have q0 := own_rng i2; have q1 := (by decide : ((1 : Int32)).toInt = 1); have q2 := (own_mask i2 (1 : Int32) (by decide) : 0 ≤ ((i2 &&& (1 : Int32))).toInt ∧ ((i2 &&& (1 : Int32))).toInt ≤ 1); have q3 := congrArg Int32.toInt hx20; have q4 := rx20; omega) with hp0 | hp0
  · obtain ⟨x33, hx33⟩ : ∃ z, (i2 &&& (2 : Int32)) = z := ⟨_, rfl⟩
    have rx33 : 0 ≤ x33.toInt ∧ x33.toInt ≤ 2 := hx33 ▸ (own_mask i2 (2 : Int32) (by decide) : 0 ≤ ((i2 &&& (2 : Int32))).toInt ∧ ((i2 &&& (2 : Int32))).toInt ≤ 2)
    have pre2 : ∀ t, St p e below T4 (mkF m 34 #[sL i0, sS, sI i1, sI i2, sR b1, sR b3, sU, sU, sU, sU] [(vI x33)]) t → St p e below s₁ g0 t := fun t kt => pre1 _ (by
        show St p e below T4 (mkF m 21 #[sL i0, sS, sI i1, sI i2, sR b1, sR b3, sU, sU, sU, sU] [(vI x20)]) _
        rw [hp0]
        show St p e below T4 (mkF m 21 #[sL i0, sS, sI i1, sI i2, sR b1, sR b3, sU, sU, sU, sU] [(vI 0)]) _
        refine wfy X4 hx hby rfl (pc0 := 21) (pc' := 31) rfl at_21 rfl ((if0 _ _).trans (teq (by decide : (0 : Int32) = (0 : Int32))).1) (by decide) (by decide) ?_
        show St p e below T4 (mkF m 31 #[sL i0, sS, sI i1, sI i2, sR b1, sR b3, sU, sU, sU, sU] []) _
        refine wil X4 hx hby rfl at_31 rfl ?_
        refine wic X4 hx hby rfl at_32 ?_
        refine Own.iand X4.here hx rfl (hb hby at_33) rfl hx33 ?_
        exact kt)
    rcases Decidable.em (x33 = (0 : Int32)) with hp1 | hp1
    · obtain ⟨T5, h5, b5, X5, e5, E5, A5, D5, g5, O5, K5, st5⟩ := own_newO X4 hx hZ hown (hw _ m9) (hw _ m10) (hw _ m11) (rfl : T4.heap = T4.heap) O4 K4 (g := (mkF m 46 #[sL i0, sS, sI i1, sI i2, sR b1, sR b3, sU, sU, sU, sU] [])) rfl (hb hby at_46) (by decide) (by decide)
      have F5_1 : Fld Z h5 b5 z9 "modCount" "I" (vI 0) := D5 (Or.inl (hw _ m29)) (ty := .int) (by decide)
      have F5_2 : Fld Z h5 b5 z1 z15 z3 .null := D5 (Or.inl (hw _ m32)) (ty := (.array (.object z4))) (by decide)
      have F5_3 : Fld Z h5 b5 z1 "size" "I" (vI 0) := D5 (Or.inl (hw _ m41)) (ty := .int) (by decide)
      obtain ⟨_, T6, L6, ⟨rfl, N6q, Kq6, q6_0, q6_1, q6_2⟩, X6, st6⟩ := cI X5 hx hZ (W := 1) hown (cw3 cx) (rm4 cx b5 O5 A5 F5_1 F5_2 F5_3 (Nat.le_trans (own_old_le O4) g5)) e5 (g := (mkF m 50 #[sL i0, sS, sI i1, sI i2, sR b1, sR b3, sU, sU, sU, sU] [(vR b5), (vR b5)])) rfl hml rfl (rest := [(vR b5)]) rfl rfl rfl rfl (hb hby at_50) (by decide)
      have N6 := Fr.app N4 N6q
      have O6 : Old Z n0 T6.heap := O5.keep Kq6 (allS (Nat.le_trans (own_old_le O4) g5) all0)
      have K6 : Keep h0 T6.heap [] := K5.trans Kq6 (allS (Or.inr (Nat.le_trans K4.1 g5)) all0)
      obtain ⟨x57, hx57⟩ : ∃ z, (i2 &&& (4 : Int32)) = z := ⟨_, rfl⟩
      have rx57 : 0 ≤ x57.toInt ∧ x57.toInt ≤ 4 := hx57 ▸ (own_mask i2 (4 : Int32) (by decide) : 0 ≤ ((i2 &&& (4 : Int32))).toInt ∧ ((i2 &&& (4 : Int32))).toInt ≤ 4)
      have pre3 : ∀ t, St p e below T6 (mkF m 58 #[sL i0, sS, sI i1, sI i2, sR b1, sR b3, sR b5, sU, sU, sU] [(vI x57)]) t → St p e below s₁ g0 t := fun t kt => pre2 _ (by
          show St p e below T4 (mkF m 34 #[sL i0, sS, sI i1, sI i2, sR b1, sR b3, sU, sU, sU, sU] [(vI x33)]) _
          rw [hp1]
          show St p e below T4 (mkF m 34 #[sL i0, sS, sI i1, sI i2, sR b1, sR b3, sU, sU, sU, sU] [(vI 0)]) _
          refine wfy X4 hx hby rfl (pc0 := 34) (pc' := 46) rfl at_34 rfl ((if0 _ _).trans (teq (by decide : (0 : Int32) = (0 : Int32))).1) (by decide) (by decide) ?_
          show St p e below T4 (mkF m 46 #[sL i0, sS, sI i1, sI i2, sR b1, sR b3, sU, sU, sU, sU] []) _
          refine st5 _ ?_
          refine wdu X5 hx hby rfl at_49 rfl rfl ?_
          refine st6 _ ?_
          refine waS X6 hx hby rfl at_53 rfl rfl (l' := #[sL i0, sS, sI i1, sI i2, sR b1, sR b3, sR b5, sU, sU, sU]) rfl ?_
          refine wil X6 hx hby rfl at_55 rfl ?_
          refine wic X6 hx hby rfl at_56 ?_
          refine Own.iand X6.here hx rfl (hb hby at_57) rfl hx57 ?_
          exact kt)
      rcases Decidable.em (x57 = (0 : Int32)) with hp2 | hp2
      · obtain ⟨x73, hx73⟩ : ∃ z, (i2 &&& (8 : Int32)) = z := ⟨_, rfl⟩
        have rx73 : 0 ≤ x73.toInt ∧ x73.toInt ≤ 8 := hx73 ▸ (own_mask i2 (8 : Int32) (by decide) : 0 ≤ ((i2 &&& (8 : Int32))).toInt ∧ ((i2 &&& (8 : Int32))).toInt ≤ 8)
        have pre4 : ∀ t, St p e below T6 (mkF m 74 #[sL i0, sS, sI i1, sI i2, sR b1, sR b3, sR b5, sU, sU, sU] [(vI x73)]) t → St p e below s₁ g0 t := fun t kt => pre3 _ (by
            show St p e below T6 (mkF m 58 #[sL i0, sS, sI i1, sI i2, sR b1, sR b3, sR b5, sU, sU, sU] [(vI x57)]) _
            rw [hp2]
            show St p e below T6 (mkF m 58 #[sL i0, sS, sI i1, sI i2, sR b1, sR b3, sR b5, sU, sU, sU] [(vI 0)]) _
            refine wfy X6 hx hby rfl (pc0 := 58) (pc' := 70) rfl at_58 rfl ((if0 _ _).trans (teq (by decide : (0 : Int32) = (0 : Int32))).1) (by decide) (by decide) ?_
            show St p e below T6 (mkF m 70 #[sL i0, sS, sI i1, sI i2, sR b1, sR b3, sR b5, sU, sU, sU] []) _
            refine wil X6 hx hby rfl at_70 rfl ?_
            refine wbp X6 hx hby rfl at_71 ?_
            refine Own.iand X6.here hx rfl (hb hby at_73) rfl hx73 ?_
            exact kt)
        rcases Decidable.em (x73 = (0 : Int32)) with hp3 | hp3
        · obtain ⟨T7, h7, b7, X7, e7, E7, A7, D7, g7, O7, K7, st7⟩ := own_newO X6 hx hZ hown (hw _ m63) (hw _ m64) (hw _ m65) (rfl : T6.heap = T6.heap) O6 K6 (g := (mkF m 86 #[sL i0, sS, sI i1, sI i2, sR b1, sR b3, sR b5, sN, sU, sU] [])) rfl (hb hby at_86) (by decide) (by decide)
          have F7_1 : Fld Z h7 b7 z0 "values" z6 .null := D7 (Or.inr (hw _ m152)) (ty := (.object z5)) (by decide)
          have F7_2 : Fld Z h7 b7 z0 "names" z6 .null := D7 (Or.inr (hw _ m154)) (ty := (.object z5)) (by decide)
          have F7_3 : Fld Z h7 b7 z0 "pageSize" "I" (vI 0) := D7 (Or.inr (hw _ m156)) (ty := .int) (by decide)
          have F7_4 : Fld Z h7 b7 z0 z16 z13 .null := D7 (Or.inr (hw _ m158)) (ty := (.object z7)) (by decide)
          have f9 : Fld Z h7 b5 z1 z15 z3 (vR w1) := (q6_1.ext E7)
          have f10 : Fld Z h7 b5 z1 "size" "I" (vI 0) := (q6_2.ext E7)
          have f11 : Exa Z h7 b5 z1 := ((A5.keep Kq6).ext E7)
          obtain ⟨_, T8, L8, ⟨c8_0, c8_1, rfl, N8q, Kq8, lo8_0, lo8_1, q8_0, q8_1, q8_2, q8_3, q8_4, q8_5, q8_6, q8_7, q8_8, q8_9, q8_10⟩, X8, st8⟩ := cI X7 hx hZ (W := 1) hown (cw13 cx) (rm15 cx i1 b7 b5 O7 A7 F7_1 F7_2 F7_3 F7_4 f9 f10 f11 (Nat.le_trans (own_old_le O6) g7)) e7 (g := (mkF m 96 #[sL i0, sS, sI i1, sI i2, sR b1, sR b3, sR b5, sN, sU, sU] [.null, (vI i1), .null, (vR b5), (vR b7), (vR b7)])) rfl hml rfl (rest := [(vR b7)]) rfl rfl rfl rfl (hb hby at_96) (by decide)
          have N8 := Fr.app N6 N8q
          have O8 : Old Z n0 T8.heap := O7.keep Kq8 (allS (Nat.le_trans (own_old_le O6) g7) all0)
          have K8 : Keep h0 T8.heap [] := K7.trans Kq8 (allS (Or.inr (Nat.le_trans K6.1 g7)) all0)
          have f13 : Exa Z T8.heap b7 z0 := (A7.keep Kq8)
          obtain ⟨_, T12, L12, ⟨c12_0, rfl, N12q, Kq12, lo12_0, q12_0, q12_1, q12_2, q12_3, q12_4, q12_5⟩, X12, st12⟩ := cS X8 hx hZ (W := 0) hown (cw18 cx) (rm19 cx i0 b1 b3 b7 i1 O8 q8_9 f13 q8_10) (rfl : T8.heap = T8.heap) (g := (mkF m 108 #[sL i0, sS, sI i1, sI i2, sR b1, sR b3, sR b5, sN, sR b7, sU] [(vR b7), (vL i0), (vR b3), (vR b1)])) rfl hml rfl (rest := []) rfl rfl rfl rfl (hb hby at_108) (by decide)
          have N12 := Fr.app N8 N12q
          have O12 : Old Z n0 T12.heap := O8.keep Kq12 all0
          have K12 : Keep h0 T12.heap [] := K8.trans Kq12 all0
          obtain ⟨_, T14, L14, ⟨rfl, N14q, e14⟩, X14, st14⟩ := cV X12 hx hZ (W := 0) hown (cw19 cx) (rm20 cx c12_0 b1 O12 q12_1) (rfl : T12.heap = T12.heap) q12_0 (g := (mkF m 115 #[sL i0, sS, sI i1, sI i2, sR b1, sR b3, sR b5, sN, sR b7, sR c12_0] [(vR c12_0)])) rfl hml rfl (rest := []) rfl rfl rfl rfl (hb hby at_115) (by decide)
          obtain ⟨_, T15, L15, ⟨rfl, N15q, e15⟩, X15, st15⟩ := cV X14 hx hZ (W := 0) hown (cw20 cx) (rm21 cx c12_0 b3 O12 q12_2) e14 q12_0 (g := (mkF m 125 #[sL i0, sS, sI i1, sI i2, sR b1, sR b3, sR b5, sN, sR b7, sR c12_0] [(vR c12_0)])) rfl hml rfl (rest := []) rfl rfl rfl rfl (hb hby at_125) (by decide)
          obtain ⟨_, T16, L16, ⟨rfl, N16q, e16⟩, X16, st16⟩ := cV X15 hx hZ (W := 0) hown (cw21 cx) (rm22 cx c12_0 i0 O12 q12_3) e15 q12_0 (g := (mkF m 135 #[sL i0, sS, sI i1, sI i2, sR b1, sR b3, sR b5, sN, sR b7, sR c12_0] [(vR c12_0)])) rfl hml rfl (rest := []) rfl rfl rfl rfl (hb hby at_135) (by decide)
          obtain ⟨_, T17, L17, ⟨rfl, N17q, e17⟩, X17, st17⟩ := cV X16 hx hZ (W := 0) hown (cw22 cx) (rm23 cx c12_0 i1 O12 q12_4) e16 q12_0 (g := (mkF m 145 #[sL i0, sS, sI i1, sI i2, sR b1, sR b3, sR b5, sN, sR b7, sR c12_0] [(vR c12_0)])) rfl hml rfl (rest := []) rfl rfl rfl rfl (hb hby at_145) (by decide)
          obtain ⟨_, T18, L18, ⟨rfl, N18q, e18⟩, X18, st18⟩ := cV X17 hx hZ (W := 0) hown (cw23 cx) (rm24 cx c12_0 O12 q12_5) e17 q12_0 (g := (mkF m 154 #[sL i0, sS, sI i1, sI i2, sR b1, sR b3, sR b5, sN, sR b7, sR c12_0] [(vR c12_0)])) rfl hml rfl (rest := []) rfl rfl rfl rfl (hb hby at_154) (by decide)
          refine own_end X18 hlk (v := some (vI 1)) (own_hv hret) (by decide) ⟨rfl, (Fr.app (Fr.app (Fr.app (Fr.app (Fr.app N12 N14q) N15q) N16q) N17q) N18q)⟩ fun fs hr => pre4 _ ?_
          show St p e below T6 (mkF m 74 #[sL i0, sS, sI i1, sI i2, sR b1, sR b3, sR b5, sU, sU, sU] [(vI x73)]) _
          rw [hp3]
          show St p e below T6 (mkF m 74 #[sL i0, sS, sI i1, sI i2, sR b1, sR b3, sR b5, sU, sU, sU] [(vI 0)]) _
          refine wfy X6 hx hby rfl (pc0 := 74) (pc' := 83) rfl at_74 rfl ((if0 _ _).trans (teq (by decide : (0 : Int32) = (0 : Int32))).1) (by decide) (by decide) ?_
          show St p e below T6 (mkF m 83 #[sL i0, sS, sI i1, sI i2, sR b1, sR b3, sR b5, sU, sU, sU] []) _
          refine wan X6 hx hby rfl at_83 ?_
          show St p e below T6 (mkF m 84 #[sL i0, sS, sI i1, sI i2, sR b1, sR b3, sR b5, sU, sU, sU] [.null]) _
          refine waS X6 hx hby rfl at_84 rfl rfl (l' := #[sL i0, sS, sI i1, sI i2, sR b1, sR b3, sR b5, sN, sU, sU]) rfl ?_
          refine st7 _ ?_
          refine wdu X7 hx hby rfl at_89 rfl rfl ?_
          refine waL X7 hx hby rfl at_90 rfl rfl ?_
          refine wan X7 hx hby rfl at_92 ?_
          refine wil X7 hx hby rfl at_93 rfl ?_
          refine waL X7 hx hby rfl at_94 rfl rfl ?_
          refine st8 _ ?_
          refine waS X8 hx hby rfl at_99 rfl rfl (l' := #[sL i0, sS, sI i1, sI i2, sR b1, sR b3, sR b5, sN, sR b7, sU]) rfl ?_
          refine waL X8 hx hby rfl at_101 rfl rfl ?_
          refine waL X8 hx hby rfl at_103 rfl rfl ?_
          refine XS.lloadN X8.here hx rfl (hb hby at_105) rfl ?_
          refine waL X8 hx hby rfl at_106 rfl rfl ?_
          refine st12 _ ?_
          refine waS X12 hx hby rfl at_111 rfl rfl (l' := #[sL i0, sS, sI i1, sI i2, sR b1, sR b3, sR b5, sN, sR b7, sR c12_0]) rfl ?_
          refine waL X12 hx hby rfl at_113 rfl rfl ?_
          show St p e below T12 (mkF m 115 #[sL i0, sS, sI i1, sI i2, sR b1, sR b3, sR b5, sN, sR b7, sR c12_0] [(vR c12_0)]) _
          refine st14 _ ?_
          refine waL X14 hx hby rfl at_118 rfl rfl ?_
          refine Jvm.RoadKit.acmp (g := (mkF m 120 #[sL i0, sS, sI i1, sI i2, sR b1, sR b3, sR b5, sN, sR b7, sR c12_0] [(vR b1), (vR b1)])) X14 hx rfl rfl rfl (pc0 := 120) (pc' := 123) (same := true) rfl (hb hby at_120) rfl (decide_eq_true rfl) (by decide) (by decide) ?_
          refine waL X14 hx hby rfl at_123 rfl rfl ?_
          refine st15 _ ?_
          refine waL X15 hx hby rfl at_128 rfl rfl ?_
          refine Jvm.RoadKit.acmp (g := (mkF m 130 #[sL i0, sS, sI i1, sI i2, sR b1, sR b3, sR b5, sN, sR b7, sR c12_0] [(vR b3), (vR b3)])) X15 hx rfl rfl rfl (pc0 := 130) (pc' := 133) (same := true) rfl (hb hby at_130) rfl (decide_eq_true rfl) (by decide) (by decide) ?_
          refine waL X15 hx hby rfl at_133 rfl rfl ?_
          refine st16 _ ?_
          refine XS.lloadN X16.here hx rfl (hb hby at_138) rfl ?_
          refine XS.lcmp X16.here hx rfl (hb hby at_139) rfl ?_
          refine wfn X16 hx hby rfl at_140 rfl ((if0 _ _).trans (teq ((lw_eq i0 i0).mpr (rfl : i0 = i0))).2) ?_
          refine waL X16 hx hby rfl at_143 rfl rfl ?_
          refine st17 _ ?_
          refine wil X17 hx hby rfl at_148 rfl ?_
          refine wcn X17 hx hby rfl at_149 rfl (teq (rfl : i1 = i1)).2 ?_
          show St p e below T17 (mkF m 152 #[sL i0, sS, sI i1, sI i2, sR b1, sR b3, sR b5, sN, sR b7, sR c12_0] []) _
          refine waL X17 hx hby rfl at_152 rfl rfl ?_
          refine st18 _ ?_
          refine waL X18 hx hby rfl at_157 rfl rfl ?_
          refine Jvm.RoadKit.acmp (g := (mkF m 159 #[sL i0, sS, sI i1, sI i2, sR b1, sR b3, sR b5, sN, sR b7, sR c12_0] [.null, .null])) X18 hx rfl rfl rfl (pc0 := 159) (pc' := 162) (same := true) rfl (hb hby at_159) rfl (decide_eq_true rfl) (by decide) (by decide) ?_
          refine wic X18 hx hby rfl at_162 ?_
          refine wgt X18 hx hby rfl (pc0 := 163) (pc' := 167) rfl at_163 (by decide) (by decide) ?_
          show St p e below T18 (mkF m 167 #[sL i0, sS, sI i1, sI i2, sR b1, sR b3, sR b5, sN, sR b7, sR c12_0] [(vI 1)]) _
          exact retN X18 hx (t := .boolean) hret (by simp) (hb hby at_167) hr
        · obtain ⟨T7, X7, e7, st7⟩ := getS2 X6 hx hZ hown (host := "") (Or.inl (hw _ m214)) Via.refl (rfl : T6.heap = T6.heap) (hS.1.ext O6.2) (g := (mkF m 77 #[sL i0, sS, sI i1, sI i2, sR b1, sR b3, sR b5, sU, sU, sU] [])) rfl (hb hby at_77)
          obtain ⟨T8, h8, b8, X8, e8, E8, A8, D8, g8, O8, K8, st8⟩ := own_newO X7 hx hZ hown (hw _ m63) (hw _ m64) (hw _ m65) e7 O6 K6 (g := (mkF m 86 #[sL i0, sS, sI i1, sI i2, sR b1, sR b3, sR b5, sR w0, sU, sU] [])) rfl (hb hby at_86) (by decide) (by decide)
          have F8_1 : Fld Z h8 b8 z0 "values" z6 .null := D8 (Or.inr (hw _ m152)) (ty := (.object z5)) (by decide)
          have F8_2 : Fld Z h8 b8 z0 "names" z6 .null := D8 (Or.inr (hw _ m154)) (ty := (.object z5)) (by decide)
          have F8_3 : Fld Z h8 b8 z0 "pageSize" "I" (vI 0) := D8 (Or.inr (hw _ m156)) (ty := .int) (by decide)
          have F8_4 : Fld Z h8 b8 z0 z16 z13 .null := D8 (Or.inr (hw _ m158)) (ty := (.object z7)) (by decide)
          have f10 : Fld Z h8 b5 z1 z15 z3 (vR w1) := (q6_1.ext E8)
          have f11 : Fld Z h8 b5 z1 "size" "I" (vI 0) := (q6_2.ext E8)
          have f12 : Exa Z h8 b5 z1 := ((A5.keep Kq6).ext E8)
          obtain ⟨_, T9, L9, ⟨c9_0, c9_1, rfl, N9q, Kq9, lo9_0, lo9_1, q9_0, q9_1, q9_2, q9_3, q9_4, q9_5, q9_6, q9_7, q9_8, q9_9, q9_10⟩, X9, st9⟩ := cI X8 hx hZ (W := 1) hown (cw13 cx) (rm25 cx i1 b8 b5 O8 A8 F8_1 F8_2 F8_3 F8_4 f10 f11 f12 (Nat.le_trans (own_old_le O6) g8)) e8 (g := (mkF m 96 #[sL i0, sS, sI i1, sI i2, sR b1, sR b3, sR b5, sR w0, sU, sU] [(vR w0), (vI i1), .null, (vR b5), (vR b8), (vR b8)])) rfl hml rfl (rest := [(vR b8)]) rfl rfl rfl rfl (hb hby at_96) (by decide)
          have N9 := Fr.app N6 N9q
          have O9 : Old Z n0 T9.heap := O8.keep Kq9 (allS (Nat.le_trans (own_old_le O6) g8) all0)
          have K9 : Keep h0 T9.heap [] := K8.trans Kq9 (allS (Or.inr (Nat.le_trans K6.1 g8)) all0)
          have f14 : Exa Z T9.heap b8 z0 := (A8.keep Kq9)
          obtain ⟨_, T13, L13, ⟨c13_0, rfl, N13q, Kq13, lo13_0, q13_0, q13_1, q13_2, q13_3, q13_4, q13_5⟩, X13, st13⟩ := cS X9 hx hZ (W := 0) hown (cw18 cx) (rm28 cx i0 b1 b3 b8 i1 O9 q9_9 f14 q9_10) (rfl : T9.heap = T9.heap) (g := (mkF m 108 #[sL i0, sS, sI i1, sI i2, sR b1, sR b3, sR b5, sR w0, sR b8, sU] [(vR b8), (vL i0), (vR b3), (vR b1)])) rfl hml rfl (rest := []) rfl rfl rfl rfl (hb hby at_108) (by decide)
          have N13 := Fr.app N9 N13q
          have O13 : Old Z n0 T13.heap := O9.keep Kq13 all0
          have K13 : Keep h0 T13.heap [] := K9.trans Kq13 all0
          obtain ⟨_, T15, L15, ⟨rfl, N15q, e15⟩, X15, st15⟩ := cV X13 hx hZ (W := 0) hown (cw19 cx) (rm20 cx c13_0 b1 O13 q13_1) (rfl : T13.heap = T13.heap) q13_0 (g := (mkF m 115 #[sL i0, sS, sI i1, sI i2, sR b1, sR b3, sR b5, sR w0, sR b8, sR c13_0] [(vR c13_0)])) rfl hml rfl (rest := []) rfl rfl rfl rfl (hb hby at_115) (by decide)
          obtain ⟨_, T16, L16, ⟨rfl, N16q, e16⟩, X16, st16⟩ := cV X15 hx hZ (W := 0) hown (cw20 cx) (rm21 cx c13_0 b3 O13 q13_2) e15 q13_0 (g := (mkF m 125 #[sL i0, sS, sI i1, sI i2, sR b1, sR b3, sR b5, sR w0, sR b8, sR c13_0] [(vR c13_0)])) rfl hml rfl (rest := []) rfl rfl rfl rfl (hb hby at_125) (by decide)
          obtain ⟨_, T17, L17, ⟨rfl, N17q, e17⟩, X17, st17⟩ := cV X16 hx hZ (W := 0) hown (cw21 cx) (rm22 cx c13_0 i0 O13 q13_3) e16 q13_0 (g := (mkF m 135 #[sL i0, sS, sI i1, sI i2, sR b1, sR b3, sR b5, sR w0, sR b8, sR c13_0] [(vR c13_0)])) rfl hml rfl (rest := []) rfl rfl rfl rfl (hb hby at_135) (by decide)
          obtain ⟨_, T18, L18, ⟨rfl, N18q, e18⟩, X18, st18⟩ := cV X17 hx hZ (W := 0) hown (cw22 cx) (rm23 cx c13_0 i1 O13 q13_4) e17 q13_0 (g := (mkF m 145 #[sL i0, sS, sI i1, sI i2, sR b1, sR b3, sR b5, sR w0, sR b8, sR c13_0] [(vR c13_0)])) rfl hml rfl (rest := []) rfl rfl rfl rfl (hb hby at_145) (by decide)
          obtain ⟨_, T19, L19, ⟨rfl, N19q, e19⟩, X19, st19⟩ := cV X18 hx hZ (W := 0) hown (cw23 cx) (rm29 cx c13_0 O13 q13_5) e18 q13_0 (g := (mkF m 154 #[sL i0, sS, sI i1, sI i2, sR b1, sR b3, sR b5, sR w0, sR b8, sR c13_0] [(vR c13_0)])) rfl hml rfl (rest := []) rfl rfl rfl rfl (hb hby at_154) (by decide)
          refine own_end X19 hlk (v := some (vI 1)) (own_hv hret) (by decide) ⟨rfl, (Fr.app (Fr.app (Fr.app (Fr.app (Fr.app N13 N15q) N16q) N17q) N18q) N19q)⟩ fun fs hr => pre4 _ ?_
          refine wfn X6 hx hby rfl at_74 rfl ((if0 _ _).trans (feq hp3).1) ?_
          refine st7 _ ?_
          refine wgt X7 hx hby rfl (pc0 := 80) (pc' := 84) rfl at_80 (by decide) (by decide) ?_
          show St p e below T7 (mkF m 84 #[sL i0, sS, sI i1, sI i2, sR b1, sR b3, sR b5, sU, sU, sU] [(vR w0)]) _
          refine waS X7 hx hby rfl at_84 rfl rfl (l' := #[sL i0, sS, sI i1, sI i2, sR b1, sR b3, sR b5, sR w0, sU, sU]) rfl ?_
          refine st8 _ ?_
          refine wdu X8 hx hby rfl at_89 rfl rfl ?_
          refine waL X8 hx hby rfl at_90 rfl rfl ?_
          refine wan X8 hx hby rfl at_92 ?_
          refine wil X8 hx hby rfl at_93 rfl ?_
          refine waL X8 hx hby rfl at_94 rfl rfl ?_
          refine st9 _ ?_
          refine waS X9 hx hby rfl at_99 rfl rfl (l' := #[sL i0, sS, sI i1, sI i2, sR b1, sR b3, sR b5, sR w0, sR b8, sU]) rfl ?_
          refine waL X9 hx hby rfl at_101 rfl rfl ?_
          refine waL X9 hx hby rfl at_103 rfl rfl ?_
          refine XS.lloadN X9.here hx rfl (hb hby at_105) rfl ?_
          refine waL X9 hx hby rfl at_106 rfl rfl ?_
          refine st13 _ ?_
          refine waS X13 hx hby rfl at_111 rfl rfl (l' := #[sL i0, sS, sI i1, sI i2, sR b1, sR b3, sR b5, sR w0, sR b8, sR c13_0]) rfl ?_
          refine waL X13 hx hby rfl at_113 rfl rfl ?_
          show St p e below T13 (mkF m 115 #[sL i0, sS, sI i1, sI i2, sR b1, sR b3, sR b5, sR w0, sR b8, sR c13_0] [(vR c13_0)]) _
          refine st15 _ ?_
          refine waL X15 hx hby rfl at_118 rfl rfl ?_
          refine Jvm.RoadKit.acmp (g := (mkF m 120 #[sL i0, sS, sI i1, sI i2, sR b1, sR b3, sR b5, sR w0, sR b8, sR c13_0] [(vR b1), (vR b1)])) X15 hx rfl rfl rfl (pc0 := 120) (pc' := 123) (same := true) rfl (hb hby at_120) rfl (decide_eq_true rfl) (by decide) (by decide) ?_
          refine waL X15 hx hby rfl at_123 rfl rfl ?_
          refine st16 _ ?_
          refine waL X16 hx hby rfl at_128 rfl rfl ?_
          refine Jvm.RoadKit.acmp (g := (mkF m 130 #[sL i0, sS, sI i1, sI i2, sR b1, sR b3, sR b5, sR w0, sR b8, sR c13_0] [(vR b3), (vR b3)])) X16 hx rfl rfl rfl (pc0 := 130) (pc' := 133) (same := true) rfl (hb hby at_130) rfl (decide_eq_true rfl) (by decide) (by decide) ?_
          refine waL X16 hx hby rfl at_133 rfl rfl ?_
          refine st17 _ ?_
          refine XS.lloadN X17.here hx rfl (hb hby at_138) rfl ?_
          refine XS.lcmp X17.here hx rfl (hb hby at_139) rfl ?_
          refine wfn X17 hx hby rfl at_140 rfl ((if0 _ _).trans (teq ((lw_eq i0 i0).mpr (rfl : i0 = i0))).2) ?_
          refine waL X17 hx hby rfl at_143 rfl rfl ?_
          refine st18 _ ?_
          refine wil X18 hx hby rfl at_148 rfl ?_
          refine wcn X18 hx hby rfl at_149 rfl (teq (rfl : i1 = i1)).2 ?_
          show St p e below T18 (mkF m 152 #[sL i0, sS, sI i1, sI i2, sR b1, sR b3, sR b5, sR w0, sR b8, sR c13_0] []) _
          refine waL X18 hx hby rfl at_152 rfl rfl ?_
          refine st19 _ ?_
          refine waL X19 hx hby rfl at_157 rfl rfl ?_
          refine Jvm.RoadKit.acmp (g := (mkF m 159 #[sL i0, sS, sI i1, sI i2, sR b1, sR b3, sR b5, sR w0, sR b8, sR c13_0] [(vR w0), (vR w0)])) X19 hx rfl rfl rfl (pc0 := 159) (pc' := 162) (same := true) rfl (hb hby at_159) rfl (decide_eq_true rfl) (by decide) (by decide) ?_
          refine wic X19 hx hby rfl at_162 ?_
          refine wgt X19 hx hby rfl (pc0 := 163) (pc' := 167) rfl at_163 (by decide) (by decide) ?_
          show St p e below T19 (mkF m 167 #[sL i0, sS, sI i1, sI i2, sR b1, sR b3, sR b5, sR w0, sR b8, sR c13_0] [(vI 1)]) _
          exact retN X19 hx (t := .boolean) hret (by simp) (hb hby at_167) hr
      · obtain ⟨T7, X7, e7, st7⟩ := getS2 X6 hx hZ hown (host := "") (Or.inl (hw _ m214)) Via.refl (rfl : T6.heap = T6.heap) (hS.1.ext O6.2) (g := (mkF m 63 #[sL i0, sS, sI i1, sI i2, sR b1, sR b3, sR b5, sU, sU, sU] [(vR b5)])) rfl (hb hby at_63)
        have f9 : Exa Z T6.heap b5 z1 := (A5.keep Kq6)
        obtain ⟨_, T8, L8, ⟨c8_0, k8_1, rfl, N8q, Kq8, lo8_0, q8_0, q8_1, q8_2, q8_3, q8_4, q8_5⟩, X8, st8⟩ := cV X7 hx hZ (W := 0) hown (cw25 cx) (rm34 cx b5 O6 f9 q6_0 q6_1 q6_2 (Nat.le_trans (own_old_le O4) g5)) e7 f9 (g := (mkF m 66 #[sL i0, sS, sI i1, sI i2, sR b1, sR b3, sR b5, sU, sU, sU] [(vR w0), (vR b5)])) rfl hml rfl (rest := []) rfl rfl rfl rfl (hb hby at_66) (by decide)
        have N8 := Fr.app N6 N8q
        have O8 : Old Z n0 T8.heap := O6.keep Kq8 (allS (Nat.le_trans (own_old_le O4) g5) all0)
        have K8 : Keep h0 T8.heap [] := K6.trans Kq8 (allS (Or.inr (Nat.le_trans K4.1 g5)) all0)
        obtain ⟨x73, hx73⟩ : ∃ z, (i2 &&& (8 : Int32)) = z := ⟨_, rfl⟩
        have rx73 : 0 ≤ x73.toInt ∧ x73.toInt ≤ 8 := hx73 ▸ (own_mask i2 (8 : Int32) (by decide) : 0 ≤ ((i2 &&& (8 : Int32))).toInt ∧ ((i2 &&& (8 : Int32))).toInt ≤ 8)
        have pre4 : ∀ t, St p e below T8 (mkF m 74 #[sL i0, sS, sI i1, sI i2, sR b1, sR b3, sR b5, sU, sU, sU] [(vI x73)]) t → St p e below s₁ g0 t := fun t kt => pre3 _ (by
            refine wfn X6 hx hby rfl at_58 rfl ((if0 _ _).trans (feq hp2).1) ?_
            refine waL X6 hx hby rfl at_61 rfl rfl ?_
            refine st7 _ ?_
            refine st8 _ ?_
            refine XS.pop X8.here hx rfl (hb hby at_69) rfl rfl ?_
            show St p e below T8 (mkF m 70 #[sL i0, sS, sI i1, sI i2, sR b1, sR b3, sR b5, sU, sU, sU] []) _
            refine wil X8 hx hby rfl at_70 rfl ?_
            refine wbp X8 hx hby rfl at_71 ?_
            refine Own.iand X8.here hx rfl (hb hby at_73) rfl hx73 ?_
            exact kt)
        rcases Decidable.em (x73 = (0 : Int32)) with hp3 | hp3
        · obtain ⟨T10, h10, b10, X10, e10, E10, A10, D10, g10, O10, K10, st10⟩ := own_newO X8 hx hZ hown (hw _ m63) (hw _ m64) (hw _ m65) (rfl : T8.heap = T8.heap) O8 K8 (g := (mkF m 86 #[sL i0, sS, sI i1, sI i2, sR b1, sR b3, sR b5, sN, sU, sU] [])) rfl (hb hby at_86) (by decide) (by decide)
          have F10_1 : Fld Z h10 b10 z0 "values" z6 .null := D10 (Or.inr (hw _ m152)) (ty := (.object z5)) (by decide)
          have F10_2 : Fld Z h10 b10 z0 "names" z6 .null := D10 (Or.inr (hw _ m154)) (ty := (.object z5)) (by decide)
          have F10_3 : Fld Z h10 b10 z0 "pageSize" "I" (vI 0) := D10 (Or.inr (hw _ m156)) (ty := .int) (by decide)
          have F10_4 : Fld Z h10 b10 z0 z16 z13 .null := D10 (Or.inr (hw _ m158)) (ty := (.object z7)) (by decide)
          have f12 : Fld Z h10 b5 z1 z15 z3 (vR c8_0) := (q8_4.ext E10)
          have f13 : Fld Z h10 b5 z1 "size" "I" (vI 1) := (q8_5.ext E10)
          have f14 : Exa Z h10 c8_0 z3 := (q8_2.ext E10)
          have f15 : Arv Z h10 c8_0 k8_1 (.object z4) (10 : Int32) [(vR w0), .null, .null, .null, .null, .null, .null, .null, .null, .null] .null := (q8_0.ext E10)
          have f16 : Exa Z h10 b5 z1 := ((f9.keep Kq8).ext E10)
          obtain ⟨_, T11, L11, ⟨c11_0, c11_1, c11_2, k11_3, rfl, N11q, Kq11, lo11_0, lo11_1, lo11_2, q11_0, q11_1, q11_2, q11_3, q11_4, q11_5, q11_6, q11_7, q11_8, q11_9, q11_10, q11_11, q11_12, q11_13⟩, X11, st11⟩ := cI X10 hx hZ (W := 1) hown (cw13 cx) (rm40 cx i1 b10 b5 c8_0 k8_1 O10 A10 F10_1 F10_2 F10_3 F10_4 f12 f13 f14 f15 f16 (Nat.le_trans (own_old_le O8) g10)) e10 (g := (mkF m 96 #[sL i0, sS, sI i1, sI i2, sR b1, sR b3, sR b5, sN, sU, sU] [.null, (vI i1), .null, (vR b5), (vR b10), (vR b10)])) rfl hml rfl (rest := [(vR b10)]) rfl rfl rfl rfl (hb hby at_96) (by decide)
          have N11 := Fr.app N8 N11q
          have O11 : Old Z n0 T11.heap := O10.keep Kq11 (allS (Nat.le_trans (own_old_le O8) g10) all0)
          have K11 : Keep h0 T11.heap [] := K10.trans Kq11 (allS (Or.inr (Nat.le_trans K8.1 g10)) all0)
          have f18 : Exa Z T11.heap b10 z0 := (A10.keep Kq11)
          obtain ⟨_, T17, L17, ⟨c17_0, rfl, N17q, Kq17, lo17_0, q17_0, q17_1, q17_2, q17_3, q17_4, q17_5⟩, X17, st17⟩ := cS X11 hx hZ (W := 0) hown (cw18 cx) (rm19 cx i0 b1 b3 b10 i1 O11 q11_12 f18 q11_13) (rfl : T11.heap = T11.heap) (g := (mkF m 108 #[sL i0, sS, sI i1, sI i2, sR b1, sR b3, sR b5, sN, sR b10, sU] [(vR b10), (vL i0), (vR b3), (vR b1)])) rfl hml rfl (rest := []) rfl rfl rfl rfl (hb hby at_108) (by decide)
          have N17 := Fr.app N11 N17q
          have O17 : Old Z n0 T17.heap := O11.keep Kq17 all0
          have K17 : Keep h0 T17.heap [] := K11.trans Kq17 all0
          obtain ⟨_, T19, L19, ⟨rfl, N19q, e19⟩, X19, st19⟩ := cV X17 hx hZ (W := 0) hown (cw19 cx) (rm20 cx c17_0 b1 O17 q17_1) (rfl : T17.heap = T17.heap) q17_0 (g := (mkF m 115 #[sL i0, sS, sI i1, sI i2, sR b1, sR b3, sR b5, sN, sR b10, sR c17_0] [(vR c17_0)])) rfl hml rfl (rest := []) rfl rfl rfl rfl (hb hby at_115) (by decide)
          obtain ⟨_, T20, L20, ⟨rfl, N20q, e20⟩, X20, st20⟩ := cV X19 hx hZ (W := 0) hown (cw20 cx) (rm21 cx c17_0 b3 O17 q17_2) e19 q17_0 (g := (mkF m 125 #[sL i0, sS, sI i1, sI i2, sR b1, sR b3, sR b5, sN, sR b10, sR c17_0] [(vR c17_0)])) rfl hml rfl (rest := []) rfl rfl rfl rfl (hb hby at_125) (by decide)
          obtain ⟨_, T21, L21, ⟨rfl, N21q, e21⟩, X21, st21⟩ := cV X20 hx hZ (W := 0) hown (cw21 cx) (rm22 cx c17_0 i0 O17 q17_3) e20 q17_0 (g := (mkF m 135 #[sL i0, sS, sI i1, sI i2, sR b1, sR b3, sR b5, sN, sR b10, sR c17_0] [(vR c17_0)])) rfl hml rfl (rest := []) rfl rfl rfl rfl (hb hby at_135) (by decide)
          obtain ⟨_, T22, L22, ⟨rfl, N22q, e22⟩, X22, st22⟩ := cV X21 hx hZ (W := 0) hown (cw22 cx) (rm23 cx c17_0 i1 O17 q17_4) e21 q17_0 (g := (mkF m 145 #[sL i0, sS, sI i1, sI i2, sR b1, sR b3, sR b5, sN, sR b10, sR c17_0] [(vR c17_0)])) rfl hml rfl (rest := []) rfl rfl rfl rfl (hb hby at_145) (by decide)
          obtain ⟨_, T23, L23, ⟨rfl, N23q, e23⟩, X23, st23⟩ := cV X22 hx hZ (W := 0) hown (cw23 cx) (rm24 cx c17_0 O17 q17_5) e22 q17_0 (g := (mkF m 154 #[sL i0, sS, sI i1, sI i2, sR b1, sR b3, sR b5, sN, sR b10, sR c17_0] [(vR c17_0)])) rfl hml rfl (rest := []) rfl rfl rfl rfl (hb hby at_154) (by decide)
          refine own_end X23 hlk (v := some (vI 1)) (own_hv hret) (by decide) ⟨rfl, (Fr.app (Fr.app (Fr.app (Fr.app (Fr.app N17 N19q) N20q) N21q) N22q) N23q)⟩ fun fs hr => pre4 _ ?_
          show St p e below T8 (mkF m 74 #[sL i0, sS, sI i1, sI i2, sR b1, sR b3, sR b5, sU, sU, sU] [(vI x73)]) _
          rw [hp3]
          show St p e below T8 (mkF m 74 #[sL i0, sS, sI i1, sI i2, sR b1, sR b3, sR b5, sU, sU, sU] [(vI 0)]) _
          refine wfy X8 hx hby rfl (pc0 := 74) (pc' := 83) rfl at_74 rfl ((if0 _ _).trans (teq (by decide : (0 : Int32) = (0 : Int32))).1) (by decide) (by decide) ?_
          show St p e below T8 (mkF m 83 #[sL i0, sS, sI i1, sI i2, sR b1, sR b3, sR b5, sU, sU, sU] []) _
          refine wan X8 hx hby rfl at_83 ?_
          show St p e below T8 (mkF m 84 #[sL i0, sS, sI i1, sI i2, sR b1, sR b3, sR b5, sU, sU, sU] [.null]) _
          refine waS X8 hx hby rfl at_84 rfl rfl (l' := #[sL i0, sS, sI i1, sI i2, sR b1, sR b3, sR b5, sN, sU, sU]) rfl ?_
          refine st10 _ ?_
          refine wdu X10 hx hby rfl at_89 rfl rfl ?_
          refine waL X10 hx hby rfl at_90 rfl rfl ?_
          refine wan X10 hx hby rfl at_92 ?_
          refine wil X10 hx hby rfl at_93 rfl ?_
          refine waL X10 hx hby rfl at_94 rfl rfl ?_
          refine st11 _ ?_
          refine waS X11 hx hby rfl at_99 rfl rfl (l' := #[sL i0, sS, sI i1, sI i2, sR b1, sR b3, sR b5, sN, sR b10, sU]) rfl ?_
          refine waL X11 hx hby rfl at_101 rfl rfl ?_
          refine waL X11 hx hby rfl at_103 rfl rfl ?_
          refine XS.lloadN X11.here hx rfl (hb hby at_105) rfl ?_
          refine waL X11 hx hby rfl at_106 rfl rfl ?_
          refine st17 _ ?_
          refine waS X17 hx hby rfl at_111 rfl rfl (l' := #[sL i0, sS, sI i1, sI i2, sR b1, sR b3, sR b5, sN, sR b10, sR c17_0]) rfl ?_
          refine waL X17 hx hby rfl at_113 rfl rfl ?_
          show St p e below T17 (mkF m 115 #[sL i0, sS, sI i1, sI i2, sR b1, sR b3, sR b5, sN, sR b10, sR c17_0] [(vR c17_0)]) _
          refine st19 _ ?_
          refine waL X19 hx hby rfl at_118 rfl rfl ?_
          refine Jvm.RoadKit.acmp (g := (mkF m 120 #[sL i0, sS, sI i1, sI i2, sR b1, sR b3, sR b5, sN, sR b10, sR c17_0] [(vR b1), (vR b1)])) X19 hx rfl rfl rfl (pc0 := 120) (pc' := 123) (same := true) rfl (hb hby at_120) rfl (decide_eq_true rfl) (by decide) (by decide) ?_
          refine waL X19 hx hby rfl at_123 rfl rfl ?_
          refine st20 _ ?_
          refine waL X20 hx hby rfl at_128 rfl rfl ?_
          refine Jvm.RoadKit.acmp (g := (mkF m 130 #[sL i0, sS, sI i1, sI i2, sR b1, sR b3, sR b5, sN, sR b10, sR c17_0] [(vR b3), (vR b3)])) X20 hx rfl rfl rfl (pc0 := 130) (pc' := 133) (same := true) rfl (hb hby at_130) rfl (decide_eq_true rfl) (by decide) (by decide) ?_
          refine waL X20 hx hby rfl at_133 rfl rfl ?_
          refine st21 _ ?_
          refine XS.lloadN X21.here hx rfl (hb hby at_138) rfl ?_
          refine XS.lcmp X21.here hx rfl (hb hby at_139) rfl ?_
          refine wfn X21 hx hby rfl at_140 rfl ((if0 _ _).trans (teq ((lw_eq i0 i0).mpr (rfl : i0 = i0))).2) ?_
          refine waL X21 hx hby rfl at_143 rfl rfl ?_
          refine st22 _ ?_
          refine wil X22 hx hby rfl at_148 rfl ?_
          refine wcn X22 hx hby rfl at_149 rfl (teq (rfl : i1 = i1)).2 ?_
          show St p e below T22 (mkF m 152 #[sL i0, sS, sI i1, sI i2, sR b1, sR b3, sR b5, sN, sR b10, sR c17_0] []) _
          refine waL X22 hx hby rfl at_152 rfl rfl ?_
          refine st23 _ ?_
          refine waL X23 hx hby rfl at_157 rfl rfl ?_
          refine Jvm.RoadKit.acmp (g := (mkF m 159 #[sL i0, sS, sI i1, sI i2, sR b1, sR b3, sR b5, sN, sR b10, sR c17_0] [.null, .null])) X23 hx rfl rfl rfl (pc0 := 159) (pc' := 162) (same := true) rfl (hb hby at_159) rfl (decide_eq_true rfl) (by decide) (by decide) ?_
          refine wic X23 hx hby rfl at_162 ?_
          refine wgt X23 hx hby rfl (pc0 := 163) (pc' := 167) rfl at_163 (by decide) (by decide) ?_
          show St p e below T23 (mkF m 167 #[sL i0, sS, sI i1, sI i2, sR b1, sR b3, sR b5, sN, sR b10, sR c17_0] [(vI 1)]) _
          exact retN X23 hx (t := .boolean) hret (by simp) (hb hby at_167) hr
        · obtain ⟨T10, X10, e10, st10⟩ := getS2 X8 hx hZ hown (host := "") (Or.inl (hw _ m214)) Via.refl (rfl : T8.heap = T8.heap) (hS.1.ext O8.2) (g := (mkF m 77 #[sL i0, sS, sI i1, sI i2, sR b1, sR b3, sR b5, sU, sU, sU] [])) rfl (hb hby at_77)
          obtain ⟨T11, h11, b11, X11, e11, E11, A11, D11, g11, O11, K11, st11⟩ := own_newO X10 hx hZ hown (hw _ m63) (hw _ m64) (hw _ m65) e10 O8 K8 (g := (mkF m 86 #[sL i0, sS, sI i1, sI i2, sR b1, sR b3, sR b5, sR w0, sU, sU] [])) rfl (hb hby at_86) (by decide) (by decide)
          have F11_1 : Fld Z h11 b11 z0 "values" z6 .null := D11 (Or.inr (hw _ m152)) (ty := (.object z5)) (by decide)
          have F11_2 : Fld Z h11 b11 z0 "names" z6 .null := D11 (Or.inr (hw _ m154)) (ty := (.object z5)) (by decide)
          have F11_3 : Fld Z h11 b11 z0 "pageSize" "I" (vI 0) := D11 (Or.inr (hw _ m156)) (ty := .int) (by decide)
          have F11_4 : Fld Z h11 b11 z0 z16 z13 .null := D11 (Or.inr (hw _ m158)) (ty := (.object z7)) (by decide)
          have f13 : Fld Z h11 b5 z1 z15 z3 (vR c8_0) := (q8_4.ext E11)
          have f14 : Fld Z h11 b5 z1 "size" "I" (vI 1) := (q8_5.ext E11)
          have f15 : Exa Z h11 c8_0 z3 := (q8_2.ext E11)
          have f16 : Arv Z h11 c8_0 k8_1 (.object z4) (10 : Int32) [(vR w0), .null, .null, .null, .null, .null, .null, .null, .null, .null] .null := (q8_0.ext E11)
          have f17 : Exa Z h11 b5 z1 := ((f9.keep Kq8).ext E11)
          obtain ⟨_, T12, L12, ⟨c12_0, c12_1, c12_2, k12_3, rfl, N12q, Kq12, lo12_0, lo12_1, lo12_2, q12_0, q12_1, q12_2, q12_3, q12_4, q12_5, q12_6, q12_7, q12_8, q12_9, q12_10, q12_11, q12_12, q12_13⟩, X12, st12⟩ := cI X11 hx hZ (W := 1) hown (cw13 cx) (rm41 cx i1 b11 b5 c8_0 k8_1 O11 A11 F11_1 F11_2 F11_3 F11_4 f13 f14 f15 f16 f17 (Nat.le_trans (own_old_le O8) g11)) e11 (g := (mkF m 96 #[sL i0, sS, sI i1, sI i2, sR b1, sR b3, sR b5, sR w0, sU, sU] [(vR w0), (vI i1), .null, (vR b5), (vR b11), (vR b11)])) rfl hml rfl (rest := [(vR b11)]) rfl rfl rfl rfl (hb hby at_96) (by decide)
          have N12 := Fr.app N8 N12q
          have O12 : Old Z n0 T12.heap := O11.keep Kq12 (allS (Nat.le_trans (own_old_le O8) g11) all0)
          have K12 : Keep h0 T12.heap [] := K11.trans Kq12 (allS (Or.inr (Nat.le_trans K8.1 g11)) all0)
          have f19 : Exa Z T12.heap b11 z0 := (A11.keep Kq12)
          obtain ⟨_, T18, L18, ⟨c18_0, rfl, N18q, Kq18, lo18_0, q18_0, q18_1, q18_2, q18_3, q18_4, q18_5⟩, X18, st18⟩ := cS X12 hx hZ (W := 0) hown (cw18 cx) (rm28 cx i0 b1 b3 b11 i1 O12 q12_12 f19 q12_13) (rfl : T12.heap = T12.heap) (g := (mkF m 108 #[sL i0, sS, sI i1, sI i2, sR b1, sR b3, sR b5, sR w0, sR b11, sU] [(vR b11), (vL i0), (vR b3), (vR b1)])) rfl hml rfl (rest := []) rfl rfl rfl rfl (hb hby at_108) (by decide)
          have N18 := Fr.app N12 N18q
          have O18 : Old Z n0 T18.heap := O12.keep Kq18 all0
          have K18 : Keep h0 T18.heap [] := K12.trans Kq18 all0
          obtain ⟨_, T20, L20, ⟨rfl, N20q, e20⟩, X20, st20⟩ := cV X18 hx hZ (W := 0) hown (cw19 cx) (rm20 cx c18_0 b1 O18 q18_1) (rfl : T18.heap = T18.heap) q18_0 (g := (mkF m 115 #[sL i0, sS, sI i1, sI i2, sR b1, sR b3, sR b5, sR w0, sR b11, sR c18_0] [(vR c18_0)])) rfl hml rfl (rest := []) rfl rfl rfl rfl (hb hby at_115) (by decide)
          obtain ⟨_, T21, L21, ⟨rfl, N21q, e21⟩, X21, st21⟩ := cV X20 hx hZ (W := 0) hown (cw20 cx) (rm21 cx c18_0 b3 O18 q18_2) e20 q18_0 (g := (mkF m 125 #[sL i0, sS, sI i1, sI i2, sR b1, sR b3, sR b5, sR w0, sR b11, sR c18_0] [(vR c18_0)])) rfl hml rfl (rest := []) rfl rfl rfl rfl (hb hby at_125) (by decide)
          obtain ⟨_, T22, L22, ⟨rfl, N22q, e22⟩, X22, st22⟩ := cV X21 hx hZ (W := 0) hown (cw21 cx) (rm22 cx c18_0 i0 O18 q18_3) e21 q18_0 (g := (mkF m 135 #[sL i0, sS, sI i1, sI i2, sR b1, sR b3, sR b5, sR w0, sR b11, sR c18_0] [(vR c18_0)])) rfl hml rfl (rest := []) rfl rfl rfl rfl (hb hby at_135) (by decide)
          obtain ⟨_, T23, L23, ⟨rfl, N23q, e23⟩, X23, st23⟩ := cV X22 hx hZ (W := 0) hown (cw22 cx) (rm23 cx c18_0 i1 O18 q18_4) e22 q18_0 (g := (mkF m 145 #[sL i0, sS, sI i1, sI i2, sR b1, sR b3, sR b5, sR w0, sR b11, sR c18_0] [(vR c18_0)])) rfl hml rfl (rest := []) rfl rfl rfl rfl (hb hby at_145) (by decide)
          obtain ⟨_, T24, L24, ⟨rfl, N24q, e24⟩, X24, st24⟩ := cV X23 hx hZ (W := 0) hown (cw23 cx) (rm29 cx c18_0 O18 q18_5) e23 q18_0 (g := (mkF m 154 #[sL i0, sS, sI i1, sI i2, sR b1, sR b3, sR b5, sR w0, sR b11, sR c18_0] [(vR c18_0)])) rfl hml rfl (rest := []) rfl rfl rfl rfl (hb hby at_154) (by decide)
          refine own_end X24 hlk (v := some (vI 1)) (own_hv hret) (by decide) ⟨rfl, (Fr.app (Fr.app (Fr.app (Fr.app (Fr.app N18 N20q) N21q) N22q) N23q) N24q)⟩ fun fs hr => pre4 _ ?_
          refine wfn X8 hx hby rfl at_74 rfl ((if0 _ _).trans (feq hp3).1) ?_
          refine st10 _ ?_
          refine wgt X10 hx hby rfl (pc0 := 80) (pc' := 84) rfl at_80 (by decide) (by decide) ?_
          show St p e below T10 (mkF m 84 #[sL i0, sS, sI i1, sI i2, sR b1, sR b3, sR b5, sU, sU, sU] [(vR w0)]) _
          refine waS X10 hx hby rfl at_84 rfl rfl (l' := #[sL i0, sS, sI i1, sI i2, sR b1, sR b3, sR b5, sR w0, sU, sU]) rfl ?_
          refine st11 _ ?_
          refine wdu X11 hx hby rfl at_89 rfl rfl ?_
          refine waL X11 hx hby rfl at_90 rfl rfl ?_
          refine wan X11 hx hby rfl at_92 ?_
          refine wil X11 hx hby rfl at_93 rfl ?_
          refine waL X11 hx hby rfl at_94 rfl rfl ?_
          refine st12 _ ?_
          refine waS X12 hx hby rfl at_99 rfl rfl (l' := #[sL i0, sS, sI i1, sI i2, sR b1, sR b3, sR b5, sR w0, sR b11, sU]) rfl ?_
          refine waL X12 hx hby rfl at_101 rfl rfl ?_
          refine waL X12 hx hby rfl at_103 rfl rfl ?_
          refine XS.lloadN X12.here hx rfl (hb hby at_105) rfl ?_
          refine waL X12 hx hby rfl at_106 rfl rfl ?_
          refine st18 _ ?_
          refine waS X18 hx hby rfl at_111 rfl rfl (l' := #[sL i0, sS, sI i1, sI i2, sR b1, sR b3, sR b5, sR w0, sR b11, sR c18_0]) rfl ?_
          refine waL X18 hx hby rfl at_113 rfl rfl ?_
          show St p e below T18 (mkF m 115 #[sL i0, sS, sI i1, sI i2, sR b1, sR b3, sR b5, sR w0, sR b11, sR c18_0] [(vR c18_0)]) _
          refine st20 _ ?_
          refine waL X20 hx hby rfl at_118 rfl rfl ?_
          refine Jvm.RoadKit.acmp (g := (mkF m 120 #[sL i0, sS, sI i1, sI i2, sR b1, sR b3, sR b5, sR w0, sR b11, sR c18_0] [(vR b1), (vR b1)])) X20 hx rfl rfl rfl (pc0 := 120) (pc' := 123) (same := true) rfl (hb hby at_120) rfl (decide_eq_true rfl) (by decide) (by decide) ?_
          refine waL X20 hx hby rfl at_123 rfl rfl ?_
          refine st21 _ ?_
          refine waL X21 hx hby rfl at_128 rfl rfl ?_
          refine Jvm.RoadKit.acmp (g := (mkF m 130 #[sL i0, sS, sI i1, sI i2, sR b1, sR b3, sR b5, sR w0, sR b11, sR c18_0] [(vR b3), (vR b3)])) X21 hx rfl rfl rfl (pc0 := 130) (pc' := 133) (same := true) rfl (hb hby at_130) rfl (decide_eq_true rfl) (by decide) (by decide) ?_
          refine waL X21 hx hby rfl at_133 rfl rfl ?_
          refine st22 _ ?_
          refine XS.lloadN X22.here hx rfl (hb hby at_138) rfl ?_
          refine XS.lcmp X22.here hx rfl (hb hby at_139) rfl ?_
          refine wfn X22 hx hby rfl at_140 rfl ((if0 _ _).trans (teq ((lw_eq i0 i0).mpr (rfl : i0 = i0))).2) ?_
          refine waL X22 hx hby rfl at_143 rfl rfl ?_
          refine st23 _ ?_
          refine wil X23 hx hby rfl at_148 rfl ?_
          refine wcn X23 hx hby rfl at_149 rfl (teq (rfl : i1 = i1)).2 ?_
          show St p e below T23 (mkF m 152 #[sL i0, sS, sI i1, sI i2, sR b1, sR b3, sR b5, sR w0, sR b11, sR c18_0] []) _
          refine waL X23 hx hby rfl at_152 rfl rfl ?_
          refine st24 _ ?_
          refine waL X24 hx hby rfl at_157 rfl rfl ?_
          refine Jvm.RoadKit.acmp (g := (mkF m 159 #[sL i0, sS, sI i1, sI i2, sR b1, sR b3, sR b5, sR w0, sR b11, sR c18_0] [(vR w0), (vR w0)])) X24 hx rfl rfl rfl (pc0 := 159) (pc' := 162) (same := true) rfl (hb hby at_159) rfl (decide_eq_true rfl) (by decide) (by decide) ?_
          refine wic X24 hx hby rfl at_162 ?_
          refine wgt X24 hx hby rfl (pc0 := 163) (pc' := 167) rfl at_163 (by decide) (by decide) ?_
          show St p e below T24 (mkF m 167 #[sL i0, sS, sI i1, sI i2, sR b1, sR b3, sR b5, sR w0, sR b11, sR c18_0] [(vI 1)]) _
          exact retN X24 hx (t := .boolean) hret (by simp) (hb hby at_167) hr
    · obtain ⟨T5, X5, e5, st5⟩ := getS2 X4 hx hZ hown (host := "") (Or.inl (hw _ m214)) Via.refl (rfl : T4.heap = T4.heap) (hS.1.ext O4.2) (g := (mkF m 39 #[sL i0, sS, sI i1, sI i2, sR b1, sR b3, sU, sU, sU, sU] [(vR b3)])) rfl (hb hby at_39)
      have f7 : Exa Z T4.heap b3 z1 := (A3.keep Kq4)
      obtain ⟨_, T6, L6, ⟨c6_0, k6_1, rfl, N6q, Kq6, lo6_0, q6_0, q6_1, q6_2, q6_3, q6_4, q6_5⟩, X6, st6⟩ := cV X5 hx hZ (W := 0) hown (cw25 cx) (rm34 cx b3 O4 f7 q4_0 q4_1 q4_2 (Nat.le_trans (own_old_le O1) g3)) e5 f7 (g := (mkF m 42 #[sL i0, sS, sI i1, sI i2, sR b1, sR b3, sU, sU, sU, sU] [(vR w0), (vR b3)])) rfl hml rfl (rest := []) rfl rfl rfl rfl (hb hby at_42) (by decide)
      have N6 := Fr.app N4 N6q
      have O6 : Old Z n0 T6.heap := O4.keep Kq6 (allS (Nat.le_trans (own_old_le O1) g3) all0)
      have K6 : Keep h0 T6.heap [] := K4.trans Kq6 (allS (Or.inr (Nat.le_trans K1.1 g3)) all0)
      obtain ⟨T8, h8, b8, X8, e8, E8, A8, D8, g8, O8, K8, st8⟩ := own_newO X6 hx hZ hown (hw _ m9) (hw _ m10) (hw _ m11) (rfl : T6.heap = T6.heap) O6 K6 (g := (mkF m 46 #[sL i0, sS, sI i1, sI i2, sR b1, sR b3, sU, sU, sU, sU] [])) rfl (hb hby at_46) (by decide) (by decide)
      have F8_1 : Fld Z h8 b8 z9 "modCount" "I" (vI 0) := D8 (Or.inl (hw _ m29)) (ty := .int) (by decide)
      have F8_2 : Fld Z h8 b8 z1 z15 z3 .null := D8 (Or.inl (hw _ m32)) (ty := (.array (.object z4))) (by decide)
      have F8_3 : Fld Z h8 b8 z1 "size" "I" (vI 0) := D8 (Or.inl (hw _ m41)) (ty := .int) (by decide)
      obtain ⟨_, T9, L9, ⟨rfl, N9q, Kq9, q9_0, q9_1, q9_2⟩, X9, st9⟩ := cI X8 hx hZ (W := 1) hown (cw3 cx) (rm4 cx b8 O8 A8 F8_1 F8_2 F8_3 (Nat.le_trans (own_old_le O6) g8)) e8 (g := (mkF m 50 #[sL i0, sS, sI i1, sI i2, sR b1, sR b3, sU, sU, sU, sU] [(vR b8), (vR b8)])) rfl hml rfl (rest := [(vR b8)]) rfl rfl rfl rfl (hb hby at_50) (by decide)
      have N9 := Fr.app N6 N9q
      have O9 : Old Z n0 T9.heap := O8.keep Kq9 (allS (Nat.le_trans (own_old_le O6) g8) all0)
      have K9 : Keep h0 T9.heap [] := K8.trans Kq9 (allS (Or.inr (Nat.le_trans K6.1 g8)) all0)
      obtain ⟨x57, hx57⟩ : ∃ z, (i2 &&& (4 : Int32)) = z := ⟨_, rfl⟩
      have rx57 : 0 ≤ x57.toInt ∧ x57.toInt ≤ 4 := hx57 ▸ (own_mask i2 (4 : Int32) (by decide) : 0 ≤ ((i2 &&& (4 : Int32))).toInt ∧ ((i2 &&& (4 : Int32))).toInt ≤ 4)
      have pre3 : ∀ t, St p e below T9 (mkF m 58 #[sL i0, sS, sI i1, sI i2, sR b1, sR b3, sR b8, sU, sU, sU] [(vI x57)]) t → St p e below s₁ g0 t := fun t kt => pre2 _ (by
          refine wfn X4 hx hby rfl at_34 rfl ((if0 _ _).trans (feq hp1).1) ?_
          refine waL X4 hx hby rfl at_37 rfl rfl ?_
          refine st5 _ ?_
          refine st6 _ ?_
          refine XS.pop X6.here hx rfl (hb hby at_45) rfl rfl ?_
          show St p e below T6 (mkF m 46 #[sL i0, sS, sI i1, sI i2, sR b1, sR b3, sU, sU, sU, sU] []) _
          refine st8 _ ?_
          refine wdu X8 hx hby rfl at_49 rfl rfl ?_
          refine st9 _ ?_
          refine waS X9 hx hby rfl at_53 rfl rfl (l' := #[sL i0, sS, sI i1, sI i2, sR b1, sR b3, sR b8, sU, sU, sU]) rfl ?_
          refine wil X9 hx hby rfl at_55 rfl ?_
          refine wic X9 hx hby rfl at_56 ?_
          refine Own.iand X9.here hx rfl (hb hby at_57) rfl hx57 ?_
          exact kt)
      rcases Decidable.em (x57 = (0 : Int32)) with hp2 | hp2
      · obtain ⟨x73, hx73⟩ : ∃ z, (i2 &&& (8 : Int32)) = z := ⟨_, rfl⟩
        have rx73 : 0 ≤ x73.toInt ∧ x73.toInt ≤ 8 := hx73 ▸ (own_mask i2 (8 : Int32) (by decide) : 0 ≤ ((i2 &&& (8 : Int32))).toInt ∧ ((i2 &&& (8 : Int32))).toInt ≤ 8)
        have pre4 : ∀ t, St p e below T9 (mkF m 74 #[sL i0, sS, sI i1, sI i2, sR b1, sR b3, sR b8, sU, sU, sU] [(vI x73)]) t → St p e below s₁ g0 t := fun t kt => pre3 _ (by
            show St p e below T9 (mkF m 58 #[sL i0, sS, sI i1, sI i2, sR b1, sR b3, sR b8, sU, sU, sU] [(vI x57)]) _
            rw [hp2]
            show St p e below T9 (mkF m 58 #[sL i0, sS, sI i1, sI i2, sR b1, sR b3, sR b8, sU, sU, sU] [(vI 0)]) _
            refine wfy X9 hx hby rfl (pc0 := 58) (pc' := 70) rfl at_58 rfl ((if0 _ _).trans (teq (by decide : (0 : Int32) = (0 : Int32))).1) (by decide) (by decide) ?_
            show St p e below T9 (mkF m 70 #[sL i0, sS, sI i1, sI i2, sR b1, sR b3, sR b8, sU, sU, sU] []) _
            refine wil X9 hx hby rfl at_70 rfl ?_
            refine wbp X9 hx hby rfl at_71 ?_
            refine Own.iand X9.here hx rfl (hb hby at_73) rfl hx73 ?_
            exact kt)
        rcases Decidable.em (x73 = (0 : Int32)) with hp3 | hp3
        · obtain ⟨T10, h10, b10, X10, e10, E10, A10, D10, g10, O10, K10, st10⟩ := own_newO X9 hx hZ hown (hw _ m63) (hw _ m64) (hw _ m65) (rfl : T9.heap = T9.heap) O9 K9 (g := (mkF m 86 #[sL i0, sS, sI i1, sI i2, sR b1, sR b3, sR b8, sN, sU, sU] [])) rfl (hb hby at_86) (by decide) (by decide)
          have F10_1 : Fld Z h10 b10 z0 "values" z6 .null := D10 (Or.inr (hw _ m152)) (ty := (.object z5)) (by decide)
          have F10_2 : Fld Z h10 b10 z0 "names" z6 .null := D10 (Or.inr (hw _ m154)) (ty := (.object z5)) (by decide)
          have F10_3 : Fld Z h10 b10 z0 "pageSize" "I" (vI 0) := D10 (Or.inr (hw _ m156)) (ty := .int) (by decide)
          have F10_4 : Fld Z h10 b10 z0 z16 z13 .null := D10 (Or.inr (hw _ m158)) (ty := (.object z7)) (by decide)
          have f12 : Fld Z h10 b8 z1 z15 z3 (vR w1) := (q9_1.ext E10)
          have f13 : Fld Z h10 b8 z1 "size" "I" (vI 0) := (q9_2.ext E10)
          have f14 : Exa Z h10 b8 z1 := ((A8.keep Kq9).ext E10)
          obtain ⟨_, T11, L11, ⟨c11_0, c11_1, rfl, N11q, Kq11, lo11_0, lo11_1, q11_0, q11_1, q11_2, q11_3, q11_4, q11_5, q11_6, q11_7, q11_8, q11_9, q11_10⟩, X11, st11⟩ := cI X10 hx hZ (W := 1) hown (cw13 cx) (rm15 cx i1 b10 b8 O10 A10 F10_1 F10_2 F10_3 F10_4 f12 f13 f14 (Nat.le_trans (own_old_le O9) g10)) e10 (g := (mkF m 96 #[sL i0, sS, sI i1, sI i2, sR b1, sR b3, sR b8, sN, sU, sU] [.null, (vI i1), .null, (vR b8), (vR b10), (vR b10)])) rfl hml rfl (rest := [(vR b10)]) rfl rfl rfl rfl (hb hby at_96) (by decide)
          have N11 := Fr.app N9 N11q
          have O11 : Old Z n0 T11.heap := O10.keep Kq11 (allS (Nat.le_trans (own_old_le O9) g10) all0)
          have K11 : Keep h0 T11.heap [] := K10.trans Kq11 (allS (Or.inr (Nat.le_trans K9.1 g10)) all0)
          have f16 : Exa Z T11.heap b10 z0 := (A10.keep Kq11)
          obtain ⟨_, T15, L15, ⟨c15_0, rfl, N15q, Kq15, lo15_0, q15_0, q15_1, q15_2, q15_3, q15_4, q15_5⟩, X15, st15⟩ := cS X11 hx hZ (W := 0) hown (cw18 cx) (rm19 cx i0 b1 b3 b10 i1 O11 q11_9 f16 q11_10) (rfl : T11.heap = T11.heap) (g := (mkF m 108 #[sL i0, sS, sI i1, sI i2, sR b1, sR b3, sR b8, sN, sR b10, sU] [(vR b10), (vL i0), (vR b3), (vR b1)])) rfl hml rfl (rest := []) rfl rfl rfl rfl (hb hby at_108) (by decide)
          have N15 := Fr.app N11 N15q
          have O15 : Old Z n0 T15.heap := O11.keep Kq15 all0
          have K15 : Keep h0 T15.heap [] := K11.trans Kq15 all0
          obtain ⟨_, T17, L17, ⟨rfl, N17q, e17⟩, X17, st17⟩ := cV X15 hx hZ (W := 0) hown (cw19 cx) (rm20 cx c15_0 b1 O15 q15_1) (rfl : T15.heap = T15.heap) q15_0 (g := (mkF m 115 #[sL i0, sS, sI i1, sI i2, sR b1, sR b3, sR b8, sN, sR b10, sR c15_0] [(vR c15_0)])) rfl hml rfl (rest := []) rfl rfl rfl rfl (hb hby at_115) (by decide)
          obtain ⟨_, T18, L18, ⟨rfl, N18q, e18⟩, X18, st18⟩ := cV X17 hx hZ (W := 0) hown (cw20 cx) (rm21 cx c15_0 b3 O15 q15_2) e17 q15_0 (g := (mkF m 125 #[sL i0, sS, sI i1, sI i2, sR b1, sR b3, sR b8, sN, sR b10, sR c15_0] [(vR c15_0)])) rfl hml rfl (rest := []) rfl rfl rfl rfl (hb hby at_125) (by decide)
          obtain ⟨_, T19, L19, ⟨rfl, N19q, e19⟩, X19, st19⟩ := cV X18 hx hZ (W := 0) hown (cw21 cx) (rm22 cx c15_0 i0 O15 q15_3) e18 q15_0 (g := (mkF m 135 #[sL i0, sS, sI i1, sI i2, sR b1, sR b3, sR b8, sN, sR b10, sR c15_0] [(vR c15_0)])) rfl hml rfl (rest := []) rfl rfl rfl rfl (hb hby at_135) (by decide)
          obtain ⟨_, T20, L20, ⟨rfl, N20q, e20⟩, X20, st20⟩ := cV X19 hx hZ (W := 0) hown (cw22 cx) (rm23 cx c15_0 i1 O15 q15_4) e19 q15_0 (g := (mkF m 145 #[sL i0, sS, sI i1, sI i2, sR b1, sR b3, sR b8, sN, sR b10, sR c15_0] [(vR c15_0)])) rfl hml rfl (rest := []) rfl rfl rfl rfl (hb hby at_145) (by decide)
          obtain ⟨_, T21, L21, ⟨rfl, N21q, e21⟩, X21, st21⟩ := cV X20 hx hZ (W := 0) hown (cw23 cx) (rm24 cx c15_0 O15 q15_5) e20 q15_0 (g := (mkF m 154 #[sL i0, sS, sI i1, sI i2, sR b1, sR b3, sR b8, sN, sR b10, sR c15_0] [(vR c15_0)])) rfl hml rfl (rest := []) rfl rfl rfl rfl (hb hby at_154) (by decide)
          refine own_end X21 hlk (v := some (vI 1)) (own_hv hret) (by decide) ⟨rfl, (Fr.app (Fr.app (Fr.app (Fr.app (Fr.app N15 N17q) N18q) N19q) N20q) N21q)⟩ fun fs hr => pre4 _ ?_
          show St p e below T9 (mkF m 74 #[sL i0, sS, sI i1, sI i2, sR b1, sR b3, sR b8, sU, sU, sU] [(vI x73)]) _
          rw [hp3]
          show St p e below T9 (mkF m 74 #[sL i0, sS, sI i1, sI i2, sR b1, sR b3, sR b8, sU, sU, sU] [(vI 0)]) _
          refine wfy X9 hx hby rfl (pc0 := 74) (pc' := 83) rfl at_74 rfl ((if0 _ _).trans (teq (by decide : (0 : Int32) = (0 : Int32))).1) (by decide) (by decide) ?_
          show St p e below T9 (mkF m 83 #[sL i0, sS, sI i1, sI i2, sR b1, sR b3, sR b8, sU, sU, sU] []) _
          refine wan X9 hx hby rfl at_83 ?_
          show St p e below T9 (mkF m 84 #[sL i0, sS, sI i1, sI i2, sR b1, sR b3, sR b8, sU, sU, sU] [.null]) _
          refine waS X9 hx hby rfl at_84 rfl rfl (l' := #[sL i0, sS, sI i1, sI i2, sR b1, sR b3, sR b8, sN, sU, sU]) rfl ?_
          refine st10 _ ?_
          refine wdu X10 hx hby rfl at_89 rfl rfl ?_
          refine waL X10 hx hby rfl at_90 rfl rfl ?_
          refine wan X10 hx hby rfl at_92 ?_
          refine wil X10 hx hby rfl at_93 rfl ?_
          refine waL X10 hx hby rfl at_94 rfl rfl ?_
          refine st11 _ ?_
          refine waS X11 hx hby rfl at_99 rfl rfl (l' := #[sL i0, sS, sI i1, sI i2, sR b1, sR b3, sR b8, sN, sR b10, sU]) rfl ?_
          refine waL X11 hx hby rfl at_101 rfl rfl ?_
          refine waL X11 hx hby rfl at_103 rfl rfl ?_
          refine XS.lloadN X11.here hx rfl (hb hby at_105) rfl ?_
          refine waL X11 hx hby rfl at_106 rfl rfl ?_
          refine st15 _ ?_
          refine waS X15 hx hby rfl at_111 rfl rfl (l' := #[sL i0, sS, sI i1, sI i2, sR b1, sR b3, sR b8, sN, sR b10, sR c15_0]) rfl ?_
          refine waL X15 hx hby rfl at_113 rfl rfl ?_
          show St p e below T15 (mkF m 115 #[sL i0, sS, sI i1, sI i2, sR b1, sR b3, sR b8, sN, sR b10, sR c15_0] [(vR c15_0)]) _
          refine st17 _ ?_
          refine waL X17 hx hby rfl at_118 rfl rfl ?_
          refine Jvm.RoadKit.acmp (g := (mkF m 120 #[sL i0, sS, sI i1, sI i2, sR b1, sR b3, sR b8, sN, sR b10, sR c15_0] [(vR b1), (vR b1)])) X17 hx rfl rfl rfl (pc0 := 120) (pc' := 123) (same := true) rfl (hb hby at_120) rfl (decide_eq_true rfl) (by decide) (by decide) ?_
          refine waL X17 hx hby rfl at_123 rfl rfl ?_
          refine st18 _ ?_
          refine waL X18 hx hby rfl at_128 rfl rfl ?_
          refine Jvm.RoadKit.acmp (g := (mkF m 130 #[sL i0, sS, sI i1, sI i2, sR b1, sR b3, sR b8, sN, sR b10, sR c15_0] [(vR b3), (vR b3)])) X18 hx rfl rfl rfl (pc0 := 130) (pc' := 133) (same := true) rfl (hb hby at_130) rfl (decide_eq_true rfl) (by decide) (by decide) ?_
          refine waL X18 hx hby rfl at_133 rfl rfl ?_
          refine st19 _ ?_
          refine XS.lloadN X19.here hx rfl (hb hby at_138) rfl ?_
          refine XS.lcmp X19.here hx rfl (hb hby at_139) rfl ?_
          refine wfn X19 hx hby rfl at_140 rfl ((if0 _ _).trans (teq ((lw_eq i0 i0).mpr (rfl : i0 = i0))).2) ?_
          refine waL X19 hx hby rfl at_143 rfl rfl ?_
          refine st20 _ ?_
          refine wil X20 hx hby rfl at_148 rfl ?_
          refine wcn X20 hx hby rfl at_149 rfl (teq (rfl : i1 = i1)).2 ?_
          show St p e below T20 (mkF m 152 #[sL i0, sS, sI i1, sI i2, sR b1, sR b3, sR b8, sN, sR b10, sR c15_0] []) _
          refine waL X20 hx hby rfl at_152 rfl rfl ?_
          refine st21 _ ?_
          refine waL X21 hx hby rfl at_157 rfl rfl ?_
          refine Jvm.RoadKit.acmp (g := (mkF m 159 #[sL i0, sS, sI i1, sI i2, sR b1, sR b3, sR b8, sN, sR b10, sR c15_0] [.null, .null])) X21 hx rfl rfl rfl (pc0 := 159) (pc' := 162) (same := true) rfl (hb hby at_159) rfl (decide_eq_true rfl) (by decide) (by decide) ?_
          refine wic X21 hx hby rfl at_162 ?_
          refine wgt X21 hx hby rfl (pc0 := 163) (pc' := 167) rfl at_163 (by decide) (by decide) ?_
          show St p e below T21 (mkF m 167 #[sL i0, sS, sI i1, sI i2, sR b1, sR b3, sR b8, sN, sR b10, sR c15_0] [(vI 1)]) _
          exact retN X21 hx (t := .boolean) hret (by simp) (hb hby at_167) hr
        · obtain ⟨T10, X10, e10, st10⟩ := getS2 X9 hx hZ hown (host := "") (Or.inl (hw _ m214)) Via.refl (rfl : T9.heap = T9.heap) (hS.1.ext O9.2) (g := (mkF m 77 #[sL i0, sS, sI i1, sI i2, sR b1, sR b3, sR b8, sU, sU, sU] [])) rfl (hb hby at_77)
          obtain ⟨T11, h11, b11, X11, e11, E11, A11, D11, g11, O11, K11, st11⟩ := own_newO X10 hx hZ hown (hw _ m63) (hw _ m64) (hw _ m65) e10 O9 K9 (g := (mkF m 86 #[sL i0, sS, sI i1, sI i2, sR b1, sR b3, sR b8, sR w0, sU, sU] [])) rfl (hb hby at_86) (by decide) (by decide)
          have F11_1 : Fld Z h11 b11 z0 "values" z6 .null := D11 (Or.inr (hw _ m152)) (ty := (.object z5)) (by decide)
          have F11_2 : Fld Z h11 b11 z0 "names" z6 .null := D11 (Or.inr (hw _ m154)) (ty := (.object z5)) (by decide)
          have F11_3 : Fld Z h11 b11 z0 "pageSize" "I" (vI 0) := D11 (Or.inr (hw _ m156)) (ty := .int) (by decide)
          have F11_4 : Fld Z h11 b11 z0 z16 z13 .null := D11 (Or.inr (hw _ m158)) (ty := (.object z7)) (by decide)
          have f13 : Fld Z h11 b8 z1 z15 z3 (vR w1) := (q9_1.ext E11)
          have f14 : Fld Z h11 b8 z1 "size" "I" (vI 0) := (q9_2.ext E11)
          have f15 : Exa Z h11 b8 z1 := ((A8.keep Kq9).ext E11)
          obtain ⟨_, T12, L12, ⟨c12_0, c12_1, rfl, N12q, Kq12, lo12_0, lo12_1, q12_0, q12_1, q12_2, q12_3, q12_4, q12_5, q12_6, q12_7, q12_8, q12_9, q12_10⟩, X12, st12⟩ := cI X11 hx hZ (W := 1) hown (cw13 cx) (rm25 cx i1 b11 b8 O11 A11 F11_1 F11_2 F11_3 F11_4 f13 f14 f15 (Nat.le_trans (own_old_le O9) g11)) e11 (g := (mkF m 96 #[sL i0, sS, sI i1, sI i2, sR b1, sR b3, sR b8, sR w0, sU, sU] [(vR w0), (vI i1), .null, (vR b8), (vR b11), (vR b11)])) rfl hml rfl (rest := [(vR b11)]) rfl rfl rfl rfl (hb hby at_96) (by decide)
          have N12 := Fr.app N9 N12q
          have O12 : Old Z n0 T12.heap := O11.keep Kq12 (allS (Nat.le_trans (own_old_le O9) g11) all0)
          have K12 : Keep h0 T12.heap [] := K11.trans Kq12 (allS (Or.inr (Nat.le_trans K9.1 g11)) all0)
          have f17 : Exa Z T12.heap b11 z0 := (A11.keep Kq12)
          obtain ⟨_, T16, L16, ⟨c16_0, rfl, N16q, Kq16, lo16_0, q16_0, q16_1, q16_2, q16_3, q16_4, q16_5⟩, X16, st16⟩ := cS X12 hx hZ (W := 0) hown (cw18 cx) (rm28 cx i0 b1 b3 b11 i1 O12 q12_9 f17 q12_10) (rfl : T12.heap = T12.heap) (g := (mkF m 108 #[sL i0, sS, sI i1, sI i2, sR b1, sR b3, sR b8, sR w0, sR b11, sU] [(vR b11), (vL i0), (vR b3), (vR b1)])) rfl hml rfl (rest := []) rfl rfl rfl rfl (hb hby at_108) (by decide)
          have N16 := Fr.app N12 N16q
          have O16 : Old Z n0 T16.heap := O12.keep Kq16 all0
          have K16 : Keep h0 T16.heap [] := K12.trans Kq16 all0
          obtain ⟨_, T18, L18, ⟨rfl, N18q, e18⟩, X18, st18⟩ := cV X16 hx hZ (W := 0) hown (cw19 cx) (rm20 cx c16_0 b1 O16 q16_1) (rfl : T16.heap = T16.heap) q16_0 (g := (mkF m 115 #[sL i0, sS, sI i1, sI i2, sR b1, sR b3, sR b8, sR w0, sR b11, sR c16_0] [(vR c16_0)])) rfl hml rfl (rest := []) rfl rfl rfl rfl (hb hby at_115) (by decide)
          obtain ⟨_, T19, L19, ⟨rfl, N19q, e19⟩, X19, st19⟩ := cV X18 hx hZ (W := 0) hown (cw20 cx) (rm21 cx c16_0 b3 O16 q16_2) e18 q16_0 (g := (mkF m 125 #[sL i0, sS, sI i1, sI i2, sR b1, sR b3, sR b8, sR w0, sR b11, sR c16_0] [(vR c16_0)])) rfl hml rfl (rest := []) rfl rfl rfl rfl (hb hby at_125) (by decide)
          obtain ⟨_, T20, L20, ⟨rfl, N20q, e20⟩, X20, st20⟩ := cV X19 hx hZ (W := 0) hown (cw21 cx) (rm22 cx c16_0 i0 O16 q16_3) e19 q16_0 (g := (mkF m 135 #[sL i0, sS, sI i1, sI i2, sR b1, sR b3, sR b8, sR w0, sR b11, sR c16_0] [(vR c16_0)])) rfl hml rfl (rest := []) rfl rfl rfl rfl (hb hby at_135) (by decide)
          obtain ⟨_, T21, L21, ⟨rfl, N21q, e21⟩, X21, st21⟩ := cV X20 hx hZ (W := 0) hown (cw22 cx) (rm23 cx c16_0 i1 O16 q16_4) e20 q16_0 (g := (mkF m 145 #[sL i0, sS, sI i1, sI i2, sR b1, sR b3, sR b8, sR w0, sR b11, sR c16_0] [(vR c16_0)])) rfl hml rfl (rest := []) rfl rfl rfl rfl (hb hby at_145) (by decide)
          obtain ⟨_, T22, L22, ⟨rfl, N22q, e22⟩, X22, st22⟩ := cV X21 hx hZ (W := 0) hown (cw23 cx) (rm29 cx c16_0 O16 q16_5) e21 q16_0 (g := (mkF m 154 #[sL i0, sS, sI i1, sI i2, sR b1, sR b3, sR b8, sR w0, sR b11, sR c16_0] [(vR c16_0)])) rfl hml rfl (rest := []) rfl rfl rfl rfl (hb hby at_154) (by decide)
          refine own_end X22 hlk (v := some (vI 1)) (own_hv hret) (by decide) ⟨rfl, (Fr.app (Fr.app (Fr.app (Fr.app (Fr.app N16 N18q) N19q) N20q) N21q) N22q)⟩ fun fs hr => pre4 _ ?_
          refine wfn X9 hx hby rfl at_74 rfl ((if0 _ _).trans (feq hp3).1) ?_
          refine st10 _ ?_
          refine wgt X10 hx hby rfl (pc0 := 80) (pc' := 84) rfl at_80 (by decide) (by decide) ?_
          show St p e below T10 (mkF m 84 #[sL i0, sS, sI i1, sI i2, sR b1, sR b3, sR b8, sU, sU, sU] [(vR w0)]) _
          refine waS X10 hx hby rfl at_84 rfl rfl (l' := #[sL i0, sS, sI i1, sI i2, sR b1, sR b3, sR b8, sR w0, sU, sU]) rfl ?_
          refine st11 _ ?_
          refine wdu X11 hx hby rfl at_89 rfl rfl ?_
          refine waL X11 hx hby rfl at_90 rfl rfl ?_
          refine wan X11 hx hby rfl at_92 ?_
          refine wil X11 hx hby rfl at_93 rfl ?_
          refine waL X11 hx hby rfl at_94 rfl rfl ?_
          refine st12 _ ?_
          refine waS X12 hx hby rfl at_99 rfl rfl (l' := #[sL i0, sS, sI i1, sI i2, sR b1, sR b3, sR b8, sR w0, sR b11, sU]) rfl ?_
          refine waL X12 hx hby rfl at_101 rfl rfl ?_
          refine waL X12 hx hby rfl at_103 rfl rfl ?_
          refine XS.lloadN X12.here hx rfl (hb hby at_105) rfl ?_
          refine waL X12 hx hby rfl at_106 rfl rfl ?_
          refine st16 _ ?_
          refine waS X16 hx hby rfl at_111 rfl rfl (l' := #[sL i0, sS, sI i1, sI i2, sR b1, sR b3, sR b8, sR w0, sR b11, sR c16_0]) rfl ?_
          refine waL X16 hx hby rfl at_113 rfl rfl ?_
          show St p e below T16 (mkF m 115 #[sL i0, sS, sI i1, sI i2, sR b1, sR b3, sR b8, sR w0, sR b11, sR c16_0] [(vR c16_0)]) _
          refine st18 _ ?_
          refine waL X18 hx hby rfl at_118 rfl rfl ?_
          refine Jvm.RoadKit.acmp (g := (mkF m 120 #[sL i0, sS, sI i1, sI i2, sR b1, sR b3, sR b8, sR w0, sR b11, sR c16_0] [(vR b1), (vR b1)])) X18 hx rfl rfl rfl (pc0 := 120) (pc' := 123) (same := true) rfl (hb hby at_120) rfl (decide_eq_true rfl) (by decide) (by decide) ?_
          refine waL X18 hx hby rfl at_123 rfl rfl ?_
          refine st19 _ ?_
          refine waL X19 hx hby rfl at_128 rfl rfl ?_
          refine Jvm.RoadKit.acmp (g := (mkF m 130 #[sL i0, sS, sI i1, sI i2, sR b1, sR b3, sR b8, sR w0, sR b11, sR c16_0] [(vR b3), (vR b3)])) X19 hx rfl rfl rfl (pc0 := 130) (pc' := 133) (same := true) rfl (hb hby at_130) rfl (decide_eq_true rfl) (by decide) (by decide) ?_
          refine waL X19 hx hby rfl at_133 rfl rfl ?_
          refine st20 _ ?_
          refine XS.lloadN X20.here hx rfl (hb hby at_138) rfl ?_
          refine XS.lcmp X20.here hx rfl (hb hby at_139) rfl ?_
          refine wfn X20 hx hby rfl at_140 rfl ((if0 _ _).trans (teq ((lw_eq i0 i0).mpr (rfl : i0 = i0))).2) ?_
          refine waL X20 hx hby rfl at_143 rfl rfl ?_
          refine st21 _ ?_
          refine wil X21 hx hby rfl at_148 rfl ?_
          refine wcn X21 hx hby rfl at_149 rfl (teq (rfl : i1 = i1)).2 ?_
          show St p e below T21 (mkF m 152 #[sL i0, sS, sI i1, sI i2, sR b1, sR b3, sR b8, sR w0, sR b11, sR c16_0] []) _
          refine waL X21 hx hby rfl at_152 rfl rfl ?_
          refine st22 _ ?_
          refine waL X22 hx hby rfl at_157 rfl rfl ?_
          refine Jvm.RoadKit.acmp (g := (mkF m 159 #[sL i0, sS, sI i1, sI i2, sR b1, sR b3, sR b8, sR w0, sR b11, sR c16_0] [(vR w0), (vR w0)])) X22 hx rfl rfl rfl (pc0 := 159) (pc' := 162) (same := true) rfl (hb hby at_159) rfl (decide_eq_true rfl) (by decide) (by decide) ?_
          refine wic X22 hx hby rfl at_162 ?_
          refine wgt X22 hx hby rfl (pc0 := 163) (pc' := 167) rfl at_163 (by decide) (by decide) ?_
          show St p e below T22 (mkF m 167 #[sL i0, sS, sI i1, sI i2, sR b1, sR b3, sR b8, sR w0, sR b11, sR c16_0] [(vI 1)]) _
          exact retN X22 hx (t := .boolean) hret (by simp) (hb hby at_167) hr
      · obtain ⟨T10, X10, e10, st10⟩ := getS2 X9 hx hZ hown (host := "") (Or.inl (hw _ m214)) Via.refl (rfl : T9.heap = T9.heap) (hS.1.ext O9.2) (g := (mkF m 63 #[sL i0, sS, sI i1, sI i2, sR b1, sR b3, sR b8, sU, sU, sU] [(vR b8)])) rfl (hb hby at_63)
        have f12 : Exa Z T9.heap b8 z1 := (A8.keep Kq9)
        obtain ⟨_, T11, L11, ⟨c11_0, k11_1, rfl, N11q, Kq11, lo11_0, q11_0, q11_1, q11_2, q11_3, q11_4, q11_5⟩, X11, st11⟩ := cV X10 hx hZ (W := 0) hown (cw25 cx) (rm34 cx b8 O9 f12 q9_0 q9_1 q9_2 (Nat.le_trans (own_old_le O6) g8)) e10 f12 (g := (mkF m 66 #[sL i0, sS, sI i1, sI i2, sR b1, sR b3, sR b8, sU, sU, sU] [(vR w0), (vR b8)])) rfl hml rfl (rest := []) rfl rfl rfl rfl (hb hby at_66) (by decide)
        have N11 := Fr.app N9 N11q
        have O11 : Old Z n0 T11.heap := O9.keep Kq11 (allS (Nat.le_trans (own_old_le O6) g8) all0)
        have K11 : Keep h0 T11.heap [] := K9.trans Kq11 (allS (Or.inr (Nat.le_trans K6.1 g8)) all0)
        obtain ⟨x73, hx73⟩ : ∃ z, (i2 &&& (8 : Int32)) = z := ⟨_, rfl⟩
        have rx73 : 0 ≤ x73.toInt ∧ x73.toInt ≤ 8 := hx73 ▸ (own_mask i2 (8 : Int32) (by decide) : 0 ≤ ((i2 &&& (8 : Int32))).toInt ∧ ((i2 &&& (8 : Int32))).toInt ≤ 8)
        have pre4 : ∀ t, St p e below T11 (mkF m 74 #[sL i0, sS, sI i1, sI i2, sR b1, sR b3, sR b8, sU, sU, sU] [(vI x73)]) t → St p e below s₁ g0 t := fun t kt => pre3 _ (by
            refine wfn X9 hx hby rfl at_58 rfl ((if0 _ _).trans (feq hp2).1) ?_
            refine waL X9 hx hby rfl at_61 rfl rfl ?_
            refine st10 _ ?_
            refine st11 _ ?_
            refine XS.pop X11.here hx rfl (hb hby at_69) rfl rfl ?_
            show St p e below T11 (mkF m 70 #[sL i0, sS, sI i1, sI i2, sR b1, sR b3, sR b8, sU, sU, sU] []) _
            refine wil X11 hx hby rfl at_70 rfl ?_
            refine wbp X11 hx hby rfl at_71 ?_
            refine Own.iand X11.here hx rfl (hb hby at_73) rfl hx73 ?_
            exact kt)
        rcases Decidable.em (x73 = (0 : Int32)) with hp3 | hp3
        · obtain ⟨T13, h13, b13, X13, e13, E13, A13, D13, g13, O13, K13, st13⟩ := own_newO X11 hx hZ hown (hw _ m63) (hw _ m64) (hw _ m65) (rfl : T11.heap = T11.heap) O11 K11 (g := (mkF m 86 #[sL i0, sS, sI i1, sI i2, sR b1, sR b3, sR b8, sN, sU, sU] [])) rfl (hb hby at_86) (by decide) (by decide)
          have F13_1 : Fld Z h13 b13 z0 "values" z6 .null := D13 (Or.inr (hw _ m152)) (ty := (.object z5)) (by decide)
          have F13_2 : Fld Z h13 b13 z0 "names" z6 .null := D13 (Or.inr (hw _ m154)) (ty := (.object z5)) (by decide)
          have F13_3 : Fld Z h13 b13 z0 "pageSize" "I" (vI 0) := D13 (Or.inr (hw _ m156)) (ty := .int) (by decide)
          have F13_4 : Fld Z h13 b13 z0 z16 z13 .null := D13 (Or.inr (hw _ m158)) (ty := (.object z7)) (by decide)
          have f15 : Fld Z h13 b8 z1 z15 z3 (vR c11_0) := (q11_4.ext E13)
          have f16 : Fld Z h13 b8 z1 "size" "I" (vI 1) := (q11_5.ext E13)
          have f17 : Exa Z h13 c11_0 z3 := (q11_2.ext E13)
          have f18 : Arv Z h13 c11_0 k11_1 (.object z4) (10 : Int32) [(vR w0), .null, .null, .null, .null, .null, .null, .null, .null, .null] .null := (q11_0.ext E13)
          have f19 : Exa Z h13 b8 z1 := ((f12.keep Kq11).ext E13)
          obtain ⟨_, T14, L14, ⟨c14_0, c14_1, c14_2, k14_3, rfl, N14q, Kq14, lo14_0, lo14_1, lo14_2, q14_0, q14_1, q14_2, q14_3, q14_4, q14_5, q14_6, q14_7, q14_8, q14_9, q14_10, q14_11, q14_12, q14_13⟩, X14, st14⟩ := cI X13 hx hZ (W := 1) hown (cw13 cx) (rm40 cx i1 b13 b8 c11_0 k11_1 O13 A13 F13_1 F13_2 F13_3 F13_4 f15 f16 f17 f18 f19 (Nat.le_trans (own_old_le O11) g13)) e13 (g := (mkF m 96 #[sL i0, sS, sI i1, sI i2, sR b1, sR b3, sR b8, sN, sU, sU] [.null, (vI i1), .null, (vR b8), (vR b13), (vR b13)])) rfl hml rfl (rest := [(vR b13)]) rfl rfl rfl rfl (hb hby at_96) (by decide)
          have N14 := Fr.app N11 N14q
          have O14 : Old Z n0 T14.heap := O13.keep Kq14 (allS (Nat.le_trans (own_old_le O11) g13) all0)
          have K14 : Keep h0 T14.heap [] := K13.trans Kq14 (allS (Or.inr (Nat.le_trans K11.1 g13)) all0)
          have f21 : Exa Z T14.heap b13 z0 := (A13.keep Kq14)
          obtain ⟨_, T20, L20, ⟨c20_0, rfl, N20q, Kq20, lo20_0, q20_0, q20_1, q20_2, q20_3, q20_4, q20_5⟩, X20, st20⟩ := cS X14 hx hZ (W := 0) hown (cw18 cx) (rm19 cx i0 b1 b3 b13 i1 O14 q14_12 f21 q14_13) (rfl : T14.heap = T14.heap) (g := (mkF m 108 #[sL i0, sS, sI i1, sI i2, sR b1, sR b3, sR b8, sN, sR b13, sU] [(vR b13), (vL i0), (vR b3), (vR b1)])) rfl hml rfl (rest := []) rfl rfl rfl rfl (hb hby at_108) (by decide)
          have N20 := Fr.app N14 N20q
          have O20 : Old Z n0 T20.heap := O14.keep Kq20 all0
          have K20 : Keep h0 T20.heap [] := K14.trans Kq20 all0
          obtain ⟨_, T22, L22, ⟨rfl, N22q, e22⟩, X22, st22⟩ := cV X20 hx hZ (W := 0) hown (cw19 cx) (rm20 cx c20_0 b1 O20 q20_1) (rfl : T20.heap = T20.heap) q20_0 (g := (mkF m 115 #[sL i0, sS, sI i1, sI i2, sR b1, sR b3, sR b8, sN, sR b13, sR c20_0] [(vR c20_0)])) rfl hml rfl (rest := []) rfl rfl rfl rfl (hb hby at_115) (by decide)
          obtain ⟨_, T23, L23, ⟨rfl, N23q, e23⟩, X23, st23⟩ := cV X22 hx hZ (W := 0) hown (cw20 cx) (rm21 cx c20_0 b3 O20 q20_2) e22 q20_0 (g := (mkF m 125 #[sL i0, sS, sI i1, sI i2, sR b1, sR b3, sR b8, sN, sR b13, sR c20_0] [(vR c20_0)])) rfl hml rfl (rest := []) rfl rfl rfl rfl (hb hby at_125) (by decide)
          obtain ⟨_, T24, L24, ⟨rfl, N24q, e24⟩, X24, st24⟩ := cV X23 hx hZ (W := 0) hown (cw21 cx) (rm22 cx c20_0 i0 O20 q20_3) e23 q20_0 (g := (mkF m 135 #[sL i0, sS, sI i1, sI i2, sR b1, sR b3, sR b8, sN, sR b13, sR c20_0] [(vR c20_0)])) rfl hml rfl (rest := []) rfl rfl rfl rfl (hb hby at_135) (by decide)
          obtain ⟨_, T25, L25, ⟨rfl, N25q, e25⟩, X25, st25⟩ := cV X24 hx hZ (W := 0) hown (cw22 cx) (rm23 cx c20_0 i1 O20 q20_4) e24 q20_0 (g := (mkF m 145 #[sL i0, sS, sI i1, sI i2, sR b1, sR b3, sR b8, sN, sR b13, sR c20_0] [(vR c20_0)])) rfl hml rfl (rest := []) rfl rfl rfl rfl (hb hby at_145) (by decide)
          obtain ⟨_, T26, L26, ⟨rfl, N26q, e26⟩, X26, st26⟩ := cV X25 hx hZ (W := 0) hown (cw23 cx) (rm24 cx c20_0 O20 q20_5) e25 q20_0 (g := (mkF m 154 #[sL i0, sS, sI i1, sI i2, sR b1, sR b3, sR b8, sN, sR b13, sR c20_0] [(vR c20_0)])) rfl hml rfl (rest := []) rfl rfl rfl rfl (hb hby at_154) (by decide)
          refine own_end X26 hlk (v := some (vI 1)) (own_hv hret) (by decide) ⟨rfl, (Fr.app (Fr.app (Fr.app (Fr.app (Fr.app N20 N22q) N23q) N24q) N25q) N26q)⟩ fun fs hr => pre4 _ ?_
          show St p e below T11 (mkF m 74 #[sL i0, sS, sI i1, sI i2, sR b1, sR b3, sR b8, sU, sU, sU] [(vI x73)]) _
          rw [hp3]
          show St p e below T11 (mkF m 74 #[sL i0, sS, sI i1, sI i2, sR b1, sR b3, sR b8, sU, sU, sU] [(vI 0)]) _
          refine wfy X11 hx hby rfl (pc0 := 74) (pc' := 83) rfl at_74 rfl ((if0 _ _).trans (teq (by decide : (0 : Int32) = (0 : Int32))).1) (by decide) (by decide) ?_
          show St p e below T11 (mkF m 83 #[sL i0, sS, sI i1, sI i2, sR b1, sR b3, sR b8, sU, sU, sU] []) _
          refine wan X11 hx hby rfl at_83 ?_
          show St p e below T11 (mkF m 84 #[sL i0, sS, sI i1, sI i2, sR b1, sR b3, sR b8, sU, sU, sU] [.null]) _
          refine waS X11 hx hby rfl at_84 rfl rfl (l' := #[sL i0, sS, sI i1, sI i2, sR b1, sR b3, sR b8, sN, sU, sU]) rfl ?_
          refine st13 _ ?_
          refine wdu X13 hx hby rfl at_89 rfl rfl ?_
          refine waL X13 hx hby rfl at_90 rfl rfl ?_
          refine wan X13 hx hby rfl at_92 ?_
          refine wil X13 hx hby rfl at_93 rfl ?_
          refine waL X13 hx hby rfl at_94 rfl rfl ?_
          refine st14 _ ?_
          refine waS X14 hx hby rfl at_99 rfl rfl (l' := #[sL i0, sS, sI i1, sI i2, sR b1, sR b3, sR b8, sN, sR b13, sU]) rfl ?_
          refine waL X14 hx hby rfl at_101 rfl rfl ?_
          refine waL X14 hx hby rfl at_103 rfl rfl ?_
          refine XS.lloadN X14.here hx rfl (hb hby at_105) rfl ?_
          refine waL X14 hx hby rfl at_106 rfl rfl ?_
          refine st20 _ ?_
          refine waS X20 hx hby rfl at_111 rfl rfl (l' := #[sL i0, sS, sI i1, sI i2, sR b1, sR b3, sR b8, sN, sR b13, sR c20_0]) rfl ?_
          refine waL X20 hx hby rfl at_113 rfl rfl ?_
          show St p e below T20 (mkF m 115 #[sL i0, sS, sI i1, sI i2, sR b1, sR b3, sR b8, sN, sR b13, sR c20_0] [(vR c20_0)]) _
          refine st22 _ ?_
          refine waL X22 hx hby rfl at_118 rfl rfl ?_
          refine Jvm.RoadKit.acmp (g := (mkF m 120 #[sL i0, sS, sI i1, sI i2, sR b1, sR b3, sR b8, sN, sR b13, sR c20_0] [(vR b1), (vR b1)])) X22 hx rfl rfl rfl (pc0 := 120) (pc' := 123) (same := true) rfl (hb hby at_120) rfl (decide_eq_true rfl) (by decide) (by decide) ?_
          refine waL X22 hx hby rfl at_123 rfl rfl ?_
          refine st23 _ ?_
          refine waL X23 hx hby rfl at_128 rfl rfl ?_
          refine Jvm.RoadKit.acmp (g := (mkF m 130 #[sL i0, sS, sI i1, sI i2, sR b1, sR b3, sR b8, sN, sR b13, sR c20_0] [(vR b3), (vR b3)])) X23 hx rfl rfl rfl (pc0 := 130) (pc' := 133) (same := true) rfl (hb hby at_130) rfl (decide_eq_true rfl) (by decide) (by decide) ?_
          refine waL X23 hx hby rfl at_133 rfl rfl ?_
          refine st24 _ ?_
          refine XS.lloadN X24.here hx rfl (hb hby at_138) rfl ?_
          refine XS.lcmp X24.here hx rfl (hb hby at_139) rfl ?_
          refine wfn X24 hx hby rfl at_140 rfl ((if0 _ _).trans (teq ((lw_eq i0 i0).mpr (rfl : i0 = i0))).2) ?_
          refine waL X24 hx hby rfl at_143 rfl rfl ?_
          refine st25 _ ?_
          refine wil X25 hx hby rfl at_148 rfl ?_
          refine wcn X25 hx hby rfl at_149 rfl (teq (rfl : i1 = i1)).2 ?_
          show St p e below T25 (mkF m 152 #[sL i0, sS, sI i1, sI i2, sR b1, sR b3, sR b8, sN, sR b13, sR c20_0] []) _
          refine waL X25 hx hby rfl at_152 rfl rfl ?_
          refine st26 _ ?_
          refine waL X26 hx hby rfl at_157 rfl rfl ?_
          refine Jvm.RoadKit.acmp (g := (mkF m 159 #[sL i0, sS, sI i1, sI i2, sR b1, sR b3, sR b8, sN, sR b13, sR c20_0] [.null, .null])) X26 hx rfl rfl rfl (pc0 := 159) (pc' := 162) (same := true) rfl (hb hby at_159) rfl (decide_eq_true rfl) (by decide) (by decide) ?_
          refine wic X26 hx hby rfl at_162 ?_
          refine wgt X26 hx hby rfl (pc0 := 163) (pc' := 167) rfl at_163 (by decide) (by decide) ?_
          show St p e below T26 (mkF m 167 #[sL i0, sS, sI i1, sI i2, sR b1, sR b3, sR b8, sN, sR b13, sR c20_0] [(vI 1)]) _
          exact retN X26 hx (t := .boolean) hret (by simp) (hb hby at_167) hr
        · obtain ⟨T13, X13, e13, st13⟩ := getS2 X11 hx hZ hown (host := "") (Or.inl (hw _ m214)) Via.refl (rfl : T11.heap = T11.heap) (hS.1.ext O11.2) (g := (mkF m 77 #[sL i0, sS, sI i1, sI i2, sR b1, sR b3, sR b8, sU, sU, sU] [])) rfl (hb hby at_77)
          obtain ⟨T14, h14, b14, X14, e14, E14, A14, D14, g14, O14, K14, st14⟩ := own_newO X13 hx hZ hown (hw _ m63) (hw _ m64) (hw _ m65) e13 O11 K11 (g := (mkF m 86 #[sL i0, sS, sI i1, sI i2, sR b1, sR b3, sR b8, sR w0, sU, sU] [])) rfl (hb hby at_86) (by decide) (by decide)
          have F14_1 : Fld Z h14 b14 z0 "values" z6 .null := D14 (Or.inr (hw _ m152)) (ty := (.object z5)) (by decide)
          have F14_2 : Fld Z h14 b14 z0 "names" z6 .null := D14 (Or.inr (hw _ m154)) (ty := (.object z5)) (by decide)
          have F14_3 : Fld Z h14 b14 z0 "pageSize" "I" (vI 0) := D14 (Or.inr (hw _ m156)) (ty := .int) (by decide)
          have F14_4 : Fld Z h14 b14 z0 z16 z13 .null := D14 (Or.inr (hw _ m158)) (ty := (.object z7)) (by decide)
          have f16 : Fld Z h14 b8 z1 z15 z3 (vR c11_0) := (q11_4.ext E14)
          have f17 : Fld Z h14 b8 z1 "size" "I" (vI 1) := (q11_5.ext E14)
          have f18 : Exa Z h14 c11_0 z3 := (q11_2.ext E14)
          have f19 : Arv Z h14 c11_0 k11_1 (.object z4) (10 : Int32) [(vR w0), .null, .null, .null, .null, .null, .null, .null, .null, .null] .null := (q11_0.ext E14)
          have f20 : Exa Z h14 b8 z1 := ((f12.keep Kq11).ext E14)
          obtain ⟨_, T15, L15, ⟨c15_0, c15_1, c15_2, k15_3, rfl, N15q, Kq15, lo15_0, lo15_1, lo15_2, q15_0, q15_1, q15_2, q15_3, q15_4, q15_5, q15_6, q15_7, q15_8, q15_9, q15_10, q15_11, q15_12, q15_13⟩, X15, st15⟩ := cI X14 hx hZ (W := 1) hown (cw13 cx) (rm41 cx i1 b14 b8 c11_0 k11_1 O14 A14 F14_1 F14_2 F14_3 F14_4 f16 f17 f18 f19 f20 (Nat.le_trans (own_old_le O11) g14)) e14 (g := (mkF m 96 #[sL i0, sS, sI i1, sI i2, sR b1, sR b3, sR b8, sR w0, sU, sU] [(vR w0), (vI i1), .null, (vR b8), (vR b14), (vR b14)])) rfl hml rfl (rest := [(vR b14)]) rfl rfl rfl rfl (hb hby at_96) (by decide)
          have N15 := Fr.app N11 N15q
          have O15 : Old Z n0 T15.heap := O14.keep Kq15 (allS (Nat.le_trans (own_old_le O11) g14) all0)
          have K15 : Keep h0 T15.heap [] := K14.trans Kq15 (allS (Or.inr (Nat.le_trans K11.1 g14)) all0)
          have f22 : Exa Z T15.heap b14 z0 := (A14.keep Kq15)
          obtain ⟨_, T21, L21, ⟨c21_0, rfl, N21q, Kq21, lo21_0, q21_0, q21_1, q21_2, q21_3, q21_4, q21_5⟩, X21, st21⟩ := cS X15 hx hZ (W := 0) hown (cw18 cx) (rm28 cx i0 b1 b3 b14 i1 O15 q15_12 f22 q15_13) (rfl : T15.heap = T15.heap) (g := (mkF m 108 #[sL i0, sS, sI i1, sI i2, sR b1, sR b3, sR b8, sR w0, sR b14, sU] [(vR b14), (vL i0), (vR b3), (vR b1)])) rfl hml rfl (rest := []) rfl rfl rfl rfl (hb hby at_108) (by decide)
          have N21 := Fr.app N15 N21q
          have O21 : Old Z n0 T21.heap := O15.keep Kq21 all0
          have K21 : Keep h0 T21.heap [] := K15.trans Kq21 all0
          obtain ⟨_, T23, L23, ⟨rfl, N23q, e23⟩, X23, st23⟩ := cV X21 hx hZ (W := 0) hown (cw19 cx) (rm20 cx c21_0 b1 O21 q21_1) (rfl : T21.heap = T21.heap) q21_0 (g := (mkF m 115 #[sL i0, sS, sI i1, sI i2, sR b1, sR b3, sR b8, sR w0, sR b14, sR c21_0] [(vR c21_0)])) rfl hml rfl (rest := []) rfl rfl rfl rfl (hb hby at_115) (by decide)
          obtain ⟨_, T24, L24, ⟨rfl, N24q, e24⟩, X24, st24⟩ := cV X23 hx hZ (W := 0) hown (cw20 cx) (rm21 cx c21_0 b3 O21 q21_2) e23 q21_0 (g := (mkF m 125 #[sL i0, sS, sI i1, sI i2, sR b1, sR b3, sR b8, sR w0, sR b14, sR c21_0] [(vR c21_0)])) rfl hml rfl (rest := []) rfl rfl rfl rfl (hb hby at_125) (by decide)
          obtain ⟨_, T25, L25, ⟨rfl, N25q, e25⟩, X25, st25⟩ := cV X24 hx hZ (W := 0) hown (cw21 cx) (rm22 cx c21_0 i0 O21 q21_3) e24 q21_0 (g := (mkF m 135 #[sL i0, sS, sI i1, sI i2, sR b1, sR b3, sR b8, sR w0, sR b14, sR c21_0] [(vR c21_0)])) rfl hml rfl (rest := []) rfl rfl rfl rfl (hb hby at_135) (by decide)
          obtain ⟨_, T26, L26, ⟨rfl, N26q, e26⟩, X26, st26⟩ := cV X25 hx hZ (W := 0) hown (cw22 cx) (rm23 cx c21_0 i1 O21 q21_4) e25 q21_0 (g := (mkF m 145 #[sL i0, sS, sI i1, sI i2, sR b1, sR b3, sR b8, sR w0, sR b14, sR c21_0] [(vR c21_0)])) rfl hml rfl (rest := []) rfl rfl rfl rfl (hb hby at_145) (by decide)
          obtain ⟨_, T27, L27, ⟨rfl, N27q, e27⟩, X27, st27⟩ := cV X26 hx hZ (W := 0) hown (cw23 cx) (rm29 cx c21_0 O21 q21_5) e26 q21_0 (g := (mkF m 154 #[sL i0, sS, sI i1, sI i2, sR b1, sR b3, sR b8, sR w0, sR b14, sR c21_0] [(vR c21_0)])) rfl hml rfl (rest := []) rfl rfl rfl rfl (hb hby at_154) (by decide)
          refine own_end X27 hlk (v := some (vI 1)) (own_hv hret) (by decide) ⟨rfl, (Fr.app (Fr.app (Fr.app (Fr.app (Fr.app N21 N23q) N24q) N25q) N26q) N27q)⟩ fun fs hr => pre4 _ ?_
          refine wfn X11 hx hby rfl at_74 rfl ((if0 _ _).trans (feq hp3).1) ?_
          refine st13 _ ?_
          refine wgt X13 hx hby rfl (pc0 := 80) (pc' := 84) rfl at_80 (by decide) (by decide) ?_
          show St p e below T13 (mkF m 84 #[sL i0, sS, sI i1, sI i2, sR b1, sR b3, sR b8, sU, sU, sU] [(vR w0)]) _
          refine waS X13 hx hby rfl at_84 rfl rfl (l' := #[sL i0, sS, sI i1, sI i2, sR b1, sR b3, sR b8, sR w0, sU, sU]) rfl ?_
          refine st14 _ ?_
          refine wdu X14 hx hby rfl at_89 rfl rfl ?_
          refine waL X14 hx hby rfl at_90 rfl rfl ?_
          refine wan X14 hx hby rfl at_92 ?_
          refine wil X14 hx hby rfl at_93 rfl ?_
          refine waL X14 hx hby rfl at_94 rfl rfl ?_
          refine st15 _ ?_
          refine waS X15 hx hby rfl at_99 rfl rfl (l' := #[sL i0, sS, sI i1, sI i2, sR b1, sR b3, sR b8, sR w0, sR b14, sU]) rfl ?_
          refine waL X15 hx hby rfl at_101 rfl rfl ?_
          refine waL X15 hx hby rfl at_103 rfl rfl ?_
          refine XS.lloadN X15.here hx rfl (hb hby at_105) rfl ?_
          refine waL X15 hx hby rfl at_106 rfl rfl ?_
          refine st21 _ ?_
          refine waS X21 hx hby rfl at_111 rfl rfl (l' := #[sL i0, sS, sI i1, sI i2, sR b1, sR b3, sR b8, sR w0, sR b14, sR c21_0]) rfl ?_
          refine waL X21 hx hby rfl at_113 rfl rfl ?_
          show St p e below T21 (mkF m 115 #[sL i0, sS, sI i1, sI i2, sR b1, sR b3, sR b8, sR w0, sR b14, sR c21_0] [(vR c21_0)]) _
          refine st23 _ ?_
          refine waL X23 hx hby rfl at_118 rfl rfl ?_
          refine Jvm.RoadKit.acmp (g := (mkF m 120 #[sL i0, sS, sI i1, sI i2, sR b1, sR b3, sR b8, sR w0, sR b14, sR c21_0] [(vR b1), (vR b1)])) X23 hx rfl rfl rfl (pc0 := 120) (pc' := 123) (same := true) rfl (hb hby at_120) rfl (decide_eq_true rfl) (by decide) (by decide) ?_
          refine waL X23 hx hby rfl at_123 rfl rfl ?_
          refine st24 _ ?_
          refine waL X24 hx hby rfl at_128 rfl rfl ?_
          refine Jvm.RoadKit.acmp (g := (mkF m 130 #[sL i0, sS, sI i1, sI i2, sR b1, sR b3, sR b8, sR w0, sR b14, sR c21_0] [(vR b3), (vR b3)])) X24 hx rfl rfl rfl (pc0 := 130) (pc' := 133) (same := true) rfl (hb hby at_130) rfl (decide_eq_true rfl) (by decide) (by decide) ?_
          refine waL X24 hx hby rfl at_133 rfl rfl ?_
          refine st25 _ ?_
          refine XS.lloadN X25.here hx rfl (hb hby at_138) rfl ?_
          refine XS.lcmp X25.here hx rfl (hb hby at_139) rfl ?_
          refine wfn X25 hx hby rfl at_140 rfl ((if0 _ _).trans (teq ((lw_eq i0 i0).mpr (rfl : i0 = i0))).2) ?_
          refine waL X25 hx hby rfl at_143 rfl rfl ?_
          refine st26 _ ?_
          refine wil X26 hx hby rfl at_148 rfl ?_
          refine wcn X26 hx hby rfl at_149 rfl (teq (rfl : i1 = i1)).2 ?_
          show St p e below T26 (mkF m 152 #[sL i0, sS, sI i1, sI i2, sR b1, sR b3, sR b8, sR w0, sR b14, sR c21_0] []) _
          refine waL X26 hx hby rfl at_152 rfl rfl ?_
          refine st27 _ ?_
          refine waL X27 hx hby rfl at_157 rfl rfl ?_
          refine Jvm.RoadKit.acmp (g := (mkF m 159 #[sL i0, sS, sI i1, sI i2, sR b1, sR b3, sR b8, sR w0, sR b14, sR c21_0] [(vR w0), (vR w0)])) X27 hx rfl rfl rfl (pc0 := 159) (pc' := 162) (same := true) rfl (hb hby at_159) rfl (decide_eq_true rfl) (by decide) (by decide) ?_
          refine wic X27 hx hby rfl at_162 ?_
          refine wgt X27 hx hby rfl (pc0 := 163) (pc' := 167) rfl at_163 (by decide) (by decide) ?_
          show St p e below T27 (mkF m 167 #[sL i0, sS, sI i1, sI i2, sR b1, sR b3, sR b8, sR w0, sR b14, sR c21_0] [(vI 1)]) _
          exact retN X27 hx (t := .boolean) hret (by simp) (hb hby at_167) hr
  · have f6 : Exa Z T4.heap b3 z1 := (A3.keep Kq4)
    obtain ⟨_, T5, L5, ⟨c5_0, k5_1, rfl, N5q, Kq5, lo5_0, q5_0, q5_1, q5_2, q5_3, q5_4, q5_5⟩, X5, st5⟩ := cV X4 hx hZ (W := 0) hown (cw25 cx) (rm43 cx b3 O4 f6 q4_0 q4_1 q4_2 (Nat.le_trans (own_old_le O1) g3)) (rfl : T4.heap = T4.heap) f6 (g := (mkF m 27 #[sL i0, sS, sI i1, sI i2, sR b1, sR b3, sU, sU, sU, sU] [.null, (vR b3)])) rfl hml rfl (rest := []) rfl rfl rfl rfl (hb hby at_27) (by decide)
    have N5 := Fr.app N4 N5q
    have O5 : Old Z n0 T5.heap := O4.keep Kq5 (allS (Nat.le_trans (own_old_le O1) g3) all0)
    have K5 : Keep h0 T5.heap [] := K4.trans Kq5 (allS (Or.inr (Nat.le_trans K1.1 g3)) all0)
    obtain ⟨x33, hx33⟩ : ∃ z, (i2 &&& (2 : Int32)) = z := ⟨_, rfl⟩
    have rx33 : 0 ≤ x33.toInt ∧ x33.toInt ≤ 2 := hx33 ▸ (own_mask i2 (2 : Int32) (by decide) : 0 ≤ ((i2 &&& (2 : Int32))).toInt ∧ ((i2 &&& (2 : Int32))).toInt ≤ 2)
    have pre2 : ∀ t, St p e below T5 (mkF m 34 #[sL i0, sS, sI i1, sI i2, sR b1, sR b3, sU, sU, sU, sU] [(vI x33)]) t → St p e below s₁ g0 t := fun t kt => pre1 _ (by
        show St p e below T4 (mkF m 21 #[sL i0, sS, sI i1, sI i2, sR b1, sR b3, sU, sU, sU, sU] [(vI x20)]) _
        rw [hp0]
        show St p e below T4 (mkF m 21 #[sL i0, sS, sI i1, sI i2, sR b1, sR b3, sU, sU, sU, sU] [(vI 1)]) _
        refine wfn X4 hx hby rfl at_21 rfl ((if0 _ _).trans (feq (by decide : ¬ ((1 : Int32) = (0 : Int32)))).1) ?_
        refine waL X4 hx hby rfl at_24 rfl rfl ?_
        refine wan X4 hx hby rfl at_26 ?_
        refine st5 _ ?_
        refine XS.pop X5.here hx rfl (hb hby at_30) rfl rfl ?_
        show St p e below T5 (mkF m 31 #[sL i0, sS, sI i1, sI i2, sR b1, sR b3, sU, sU, sU, sU] []) _
        refine wil X5 hx hby rfl at_31 rfl ?_
        refine wic X5 hx hby rfl at_32 ?_
        refine Own.iand X5.here hx rfl (hb hby at_33) rfl hx33 ?_
        exact kt)
    rcases Decidable.em (x33 = (0 : Int32)) with hp1 | hp1
    · obtain ⟨T7, h7, b7, X7, e7, E7, A7, D7, g7, O7, K7, st7⟩ := own_newO X5 hx hZ hown (hw _ m9) (hw _ m10) (hw _ m11) (rfl : T5.heap = T5.heap) O5 K5 (g := (mkF m 46 #[sL i0, sS, sI i1, sI i2, sR b1, sR b3, sU, sU, sU, sU] [])) rfl (hb hby at_46) (by decide) (by decide)
      have F7_1 : Fld Z h7 b7 z9 "modCount" "I" (vI 0) := D7 (Or.inl (hw _ m29)) (ty := .int) (by decide)
      have F7_2 : Fld Z h7 b7 z1 z15 z3 .null := D7 (Or.inl (hw _ m32)) (ty := (.array (.object z4))) (by decide)
      have F7_3 : Fld Z h7 b7 z1 "size" "I" (vI 0) := D7 (Or.inl (hw _ m41)) (ty := .int) (by decide)
      obtain ⟨_, T8, L8, ⟨rfl, N8q, Kq8, q8_0, q8_1, q8_2⟩, X8, st8⟩ := cI X7 hx hZ (W := 1) hown (cw3 cx) (rm4 cx b7 O7 A7 F7_1 F7_2 F7_3 (Nat.le_trans (own_old_le O5) g7)) e7 (g := (mkF m 50 #[sL i0, sS, sI i1, sI i2, sR b1, sR b3, sU, sU, sU, sU] [(vR b7), (vR b7)])) rfl hml rfl (rest := [(vR b7)]) rfl rfl rfl rfl (hb hby at_50) (by decide)
      have N8 := Fr.app N5 N8q
      have O8 : Old Z n0 T8.heap := O7.keep Kq8 (allS (Nat.le_trans (own_old_le O5) g7) all0)
      have K8 : Keep h0 T8.heap [] := K7.trans Kq8 (allS (Or.inr (Nat.le_trans K5.1 g7)) all0)
      obtain ⟨x57, hx57⟩ : ∃ z, (i2 &&& (4 : Int32)) = z := ⟨_, rfl⟩
      have rx57 : 0 ≤ x57.toInt ∧ x57.toInt ≤ 4 := hx57 ▸ (own_mask i2 (4 : Int32) (by decide) : 0 ≤ ((i2 &&& (4 : Int32))).toInt ∧ ((i2 &&& (4 : Int32))).toInt ≤ 4)
      have pre3 : ∀ t, St p e below T8 (mkF m 58 #[sL i0, sS, sI i1, sI i2, sR b1, sR b3, sR b7, sU, sU, sU] [(vI x57)]) t → St p e below s₁ g0 t := fun t kt => pre2 _ (by
          show St p e below T5 (mkF m 34 #[sL i0, sS, sI i1, sI i2, sR b1, sR b3, sU, sU, sU, sU] [(vI x33)]) _
          rw [hp1]
          show St p e below T5 (mkF m 34 #[sL i0, sS, sI i1, sI i2, sR b1, sR b3, sU, sU, sU, sU] [(vI 0)]) _
          refine wfy X5 hx hby rfl (pc0 := 34) (pc' := 46) rfl at_34 rfl ((if0 _ _).trans (teq (by decide : (0 : Int32) = (0 : Int32))).1) (by decide) (by decide) ?_
          show St p e below T5 (mkF m 46 #[sL i0, sS, sI i1, sI i2, sR b1, sR b3, sU, sU, sU, sU] []) _
          refine st7 _ ?_
          refine wdu X7 hx hby rfl at_49 rfl rfl ?_
          refine st8 _ ?_
          refine waS X8 hx hby rfl at_53 rfl rfl (l' := #[sL i0, sS, sI i1, sI i2, sR b1, sR b3, sR b7, sU, sU, sU]) rfl ?_
          refine wil X8 hx hby rfl at_55 rfl ?_
          refine wic X8 hx hby rfl at_56 ?_
          refine Own.iand X8.here hx rfl (hb hby at_57) rfl hx57 ?_
          exact kt)
      rcases Decidable.em (x57 = (0 : Int32)) with hp2 | hp2
      · obtain ⟨x73, hx73⟩ : ∃ z, (i2 &&& (8 : Int32)) = z := ⟨_, rfl⟩
        have rx73 : 0 ≤ x73.toInt ∧ x73.toInt ≤ 8 := hx73 ▸ (own_mask i2 (8 : Int32) (by decide) : 0 ≤ ((i2 &&& (8 : Int32))).toInt ∧ ((i2 &&& (8 : Int32))).toInt ≤ 8)
        have pre4 : ∀ t, St p e below T8 (mkF m 74 #[sL i0, sS, sI i1, sI i2, sR b1, sR b3, sR b7, sU, sU, sU] [(vI x73)]) t → St p e below s₁ g0 t := fun t kt => pre3 _ (by
            show St p e below T8 (mkF m 58 #[sL i0, sS, sI i1, sI i2, sR b1, sR b3, sR b7, sU, sU, sU] [(vI x57)]) _
            rw [hp2]
            show St p e below T8 (mkF m 58 #[sL i0, sS, sI i1, sI i2, sR b1, sR b3, sR b7, sU, sU, sU] [(vI 0)]) _
            refine wfy X8 hx hby rfl (pc0 := 58) (pc' := 70) rfl at_58 rfl ((if0 _ _).trans (teq (by decide : (0 : Int32) = (0 : Int32))).1) (by decide) (by decide) ?_
            show St p e below T8 (mkF m 70 #[sL i0, sS, sI i1, sI i2, sR b1, sR b3, sR b7, sU, sU, sU] []) _
            refine wil X8 hx hby rfl at_70 rfl ?_
            refine wbp X8 hx hby rfl at_71 ?_
            refine Own.iand X8.here hx rfl (hb hby at_73) rfl hx73 ?_
            exact kt)
        rcases Decidable.em (x73 = (0 : Int32)) with hp3 | hp3
        · obtain ⟨T9, h9, b9, X9, e9, E9, A9, D9, g9, O9, K9, st9⟩ := own_newO X8 hx hZ hown (hw _ m63) (hw _ m64) (hw _ m65) (rfl : T8.heap = T8.heap) O8 K8 (g := (mkF m 86 #[sL i0, sS, sI i1, sI i2, sR b1, sR b3, sR b7, sN, sU, sU] [])) rfl (hb hby at_86) (by decide) (by decide)
          have F9_1 : Fld Z h9 b9 z0 "values" z6 .null := D9 (Or.inr (hw _ m152)) (ty := (.object z5)) (by decide)
          have F9_2 : Fld Z h9 b9 z0 "names" z6 .null := D9 (Or.inr (hw _ m154)) (ty := (.object z5)) (by decide)
          have F9_3 : Fld Z h9 b9 z0 "pageSize" "I" (vI 0) := D9 (Or.inr (hw _ m156)) (ty := .int) (by decide)
          have F9_4 : Fld Z h9 b9 z0 z16 z13 .null := D9 (Or.inr (hw _ m158)) (ty := (.object z7)) (by decide)
          have f11 : Fld Z h9 b7 z1 z15 z3 (vR w1) := (q8_1.ext E9)
          have f12 : Fld Z h9 b7 z1 "size" "I" (vI 0) := (q8_2.ext E9)
          have f13 : Exa Z h9 b7 z1 := ((A7.keep Kq8).ext E9)
          obtain ⟨_, T10, L10, ⟨c10_0, c10_1, rfl, N10q, Kq10, lo10_0, lo10_1, q10_0, q10_1, q10_2, q10_3, q10_4, q10_5, q10_6, q10_7, q10_8, q10_9, q10_10⟩, X10, st10⟩ := cI X9 hx hZ (W := 1) hown (cw13 cx) (rm15 cx i1 b9 b7 O9 A9 F9_1 F9_2 F9_3 F9_4 f11 f12 f13 (Nat.le_trans (own_old_le O8) g9)) e9 (g := (mkF m 96 #[sL i0, sS, sI i1, sI i2, sR b1, sR b3, sR b7, sN, sU, sU] [.null, (vI i1), .null, (vR b7), (vR b9), (vR b9)])) rfl hml rfl (rest := [(vR b9)]) rfl rfl rfl rfl (hb hby at_96) (by decide)
          have N10 := Fr.app N8 N10q
          have O10 : Old Z n0 T10.heap := O9.keep Kq10 (allS (Nat.le_trans (own_old_le O8) g9) all0)
          have K10 : Keep h0 T10.heap [] := K9.trans Kq10 (allS (Or.inr (Nat.le_trans K8.1 g9)) all0)
          have f15 : Exa Z T10.heap b9 z0 := (A9.keep Kq10)
          obtain ⟨_, T14, L14, ⟨c14_0, rfl, N14q, Kq14, lo14_0, q14_0, q14_1, q14_2, q14_3, q14_4, q14_5⟩, X14, st14⟩ := cS X10 hx hZ (W := 0) hown (cw18 cx) (rm19 cx i0 b1 b3 b9 i1 O10 q10_9 f15 q10_10) (rfl : T10.heap = T10.heap) (g := (mkF m 108 #[sL i0, sS, sI i1, sI i2, sR b1, sR b3, sR b7, sN, sR b9, sU] [(vR b9), (vL i0), (vR b3), (vR b1)])) rfl hml rfl (rest := []) rfl rfl rfl rfl (hb hby at_108) (by decide)
          have N14 := Fr.app N10 N14q
          have O14 : Old Z n0 T14.heap := O10.keep Kq14 all0
          have K14 : Keep h0 T14.heap [] := K10.trans Kq14 all0
          obtain ⟨_, T16, L16, ⟨rfl, N16q, e16⟩, X16, st16⟩ := cV X14 hx hZ (W := 0) hown (cw19 cx) (rm20 cx c14_0 b1 O14 q14_1) (rfl : T14.heap = T14.heap) q14_0 (g := (mkF m 115 #[sL i0, sS, sI i1, sI i2, sR b1, sR b3, sR b7, sN, sR b9, sR c14_0] [(vR c14_0)])) rfl hml rfl (rest := []) rfl rfl rfl rfl (hb hby at_115) (by decide)
          obtain ⟨_, T17, L17, ⟨rfl, N17q, e17⟩, X17, st17⟩ := cV X16 hx hZ (W := 0) hown (cw20 cx) (rm21 cx c14_0 b3 O14 q14_2) e16 q14_0 (g := (mkF m 125 #[sL i0, sS, sI i1, sI i2, sR b1, sR b3, sR b7, sN, sR b9, sR c14_0] [(vR c14_0)])) rfl hml rfl (rest := []) rfl rfl rfl rfl (hb hby at_125) (by decide)
          obtain ⟨_, T18, L18, ⟨rfl, N18q, e18⟩, X18, st18⟩ := cV X17 hx hZ (W := 0) hown (cw21 cx) (rm22 cx c14_0 i0 O14 q14_3) e17 q14_0 (g := (mkF m 135 #[sL i0, sS, sI i1, sI i2, sR b1, sR b3, sR b7, sN, sR b9, sR c14_0] [(vR c14_0)])) rfl hml rfl (rest := []) rfl rfl rfl rfl (hb hby at_135) (by decide)
          obtain ⟨_, T19, L19, ⟨rfl, N19q, e19⟩, X19, st19⟩ := cV X18 hx hZ (W := 0) hown (cw22 cx) (rm23 cx c14_0 i1 O14 q14_4) e18 q14_0 (g := (mkF m 145 #[sL i0, sS, sI i1, sI i2, sR b1, sR b3, sR b7, sN, sR b9, sR c14_0] [(vR c14_0)])) rfl hml rfl (rest := []) rfl rfl rfl rfl (hb hby at_145) (by decide)
          obtain ⟨_, T20, L20, ⟨rfl, N20q, e20⟩, X20, st20⟩ := cV X19 hx hZ (W := 0) hown (cw23 cx) (rm24 cx c14_0 O14 q14_5) e19 q14_0 (g := (mkF m 154 #[sL i0, sS, sI i1, sI i2, sR b1, sR b3, sR b7, sN, sR b9, sR c14_0] [(vR c14_0)])) rfl hml rfl (rest := []) rfl rfl rfl rfl (hb hby at_154) (by decide)
          refine own_end X20 hlk (v := some (vI 1)) (own_hv hret) (by decide) ⟨rfl, (Fr.app (Fr.app (Fr.app (Fr.app (Fr.app N14 N16q) N17q) N18q) N19q) N20q)⟩ fun fs hr => pre4 _ ?_
          show St p e below T8 (mkF m 74 #[sL i0, sS, sI i1, sI i2, sR b1, sR b3, sR b7, sU, sU, sU] [(vI x73)]) _
          rw [hp3]
          show St p e below T8 (mkF m 74 #[sL i0, sS, sI i1, sI i2, sR b1, sR b3, sR b7, sU, sU, sU] [(vI 0)]) _
          refine wfy X8 hx hby rfl (pc0 := 74) (pc' := 83) rfl at_74 rfl ((if0 _ _).trans (teq (by decide : (0 : Int32) = (0 : Int32))).1) (by decide) (by decide) ?_
          show St p e below T8 (mkF m 83 #[sL i0, sS, sI i1, sI i2, sR b1, sR b3, sR b7, sU, sU, sU] []) _
          refine wan X8 hx hby rfl at_83 ?_
          show St p e below T8 (mkF m 84 #[sL i0, sS, sI i1, sI i2, sR b1, sR b3, sR b7, sU, sU, sU] [.null]) _
          refine waS X8 hx hby rfl at_84 rfl rfl (l' := #[sL i0, sS, sI i1, sI i2, sR b1, sR b3, sR b7, sN, sU, sU]) rfl ?_
          refine st9 _ ?_
          refine wdu X9 hx hby rfl at_89 rfl rfl ?_
          refine waL X9 hx hby rfl at_90 rfl rfl ?_
          refine wan X9 hx hby rfl at_92 ?_
          refine wil X9 hx hby rfl at_93 rfl ?_
          refine waL X9 hx hby rfl at_94 rfl rfl ?_
          refine st10 _ ?_
          refine waS X10 hx hby rfl at_99 rfl rfl (l' := #[sL i0, sS, sI i1, sI i2, sR b1, sR b3, sR b7, sN, sR b9, sU]) rfl ?_
          refine waL X10 hx hby rfl at_101 rfl rfl ?_
          refine waL X10 hx hby rfl at_103 rfl rfl ?_
          refine XS.lloadN X10.here hx rfl (hb hby at_105) rfl ?_
          refine waL X10 hx hby rfl at_106 rfl rfl ?_
          refine st14 _ ?_
          refine waS X14 hx hby rfl at_111 rfl rfl (l' := #[sL i0, sS, sI i1, sI i2, sR b1, sR b3, sR b7, sN, sR b9, sR c14_0]) rfl ?_
          refine waL X14 hx hby rfl at_113 rfl rfl ?_
          show St p e below T14 (mkF m 115 #[sL i0, sS, sI i1, sI i2, sR b1, sR b3, sR b7, sN, sR b9, sR c14_0] [(vR c14_0)]) _
          refine st16 _ ?_
          refine waL X16 hx hby rfl at_118 rfl rfl ?_
          refine Jvm.RoadKit.acmp (g := (mkF m 120 #[sL i0, sS, sI i1, sI i2, sR b1, sR b3, sR b7, sN, sR b9, sR c14_0] [(vR b1), (vR b1)])) X16 hx rfl rfl rfl (pc0 := 120) (pc' := 123) (same := true) rfl (hb hby at_120) rfl (decide_eq_true rfl) (by decide) (by decide) ?_
          refine waL X16 hx hby rfl at_123 rfl rfl ?_
          refine st17 _ ?_
          refine waL X17 hx hby rfl at_128 rfl rfl ?_
          refine Jvm.RoadKit.acmp (g := (mkF m 130 #[sL i0, sS, sI i1, sI i2, sR b1, sR b3, sR b7, sN, sR b9, sR c14_0] [(vR b3), (vR b3)])) X17 hx rfl rfl rfl (pc0 := 130) (pc' := 133) (same := true) rfl (hb hby at_130) rfl (decide_eq_true rfl) (by decide) (by decide) ?_
          refine waL X17 hx hby rfl at_133 rfl rfl ?_
          refine st18 _ ?_
          refine XS.lloadN X18.here hx rfl (hb hby at_138) rfl ?_
          refine XS.lcmp X18.here hx rfl (hb hby at_139) rfl ?_
          refine wfn X18 hx hby rfl at_140 rfl ((if0 _ _).trans (teq ((lw_eq i0 i0).mpr (rfl : i0 = i0))).2) ?_
          refine waL X18 hx hby rfl at_143 rfl rfl ?_
          refine st19 _ ?_
          refine wil X19 hx hby rfl at_148 rfl ?_
          refine wcn X19 hx hby rfl at_149 rfl (teq (rfl : i1 = i1)).2 ?_
          show St p e below T19 (mkF m 152 #[sL i0, sS, sI i1, sI i2, sR b1, sR b3, sR b7, sN, sR b9, sR c14_0] []) _
          refine waL X19 hx hby rfl at_152 rfl rfl ?_
          refine st20 _ ?_
          refine waL X20 hx hby rfl at_157 rfl rfl ?_
          refine Jvm.RoadKit.acmp (g := (mkF m 159 #[sL i0, sS, sI i1, sI i2, sR b1, sR b3, sR b7, sN, sR b9, sR c14_0] [.null, .null])) X20 hx rfl rfl rfl (pc0 := 159) (pc' := 162) (same := true) rfl (hb hby at_159) rfl (decide_eq_true rfl) (by decide) (by decide) ?_
          refine wic X20 hx hby rfl at_162 ?_
          refine wgt X20 hx hby rfl (pc0 := 163) (pc' := 167) rfl at_163 (by decide) (by decide) ?_
          show St p e below T20 (mkF m 167 #[sL i0, sS, sI i1, sI i2, sR b1, sR b3, sR b7, sN, sR b9, sR c14_0] [(vI 1)]) _
          exact retN X20 hx (t := .boolean) hret (by simp) (hb hby at_167) hr
        · obtain ⟨T9, X9, e9, st9⟩ := getS2 X8 hx hZ hown (host := "") (Or.inl (hw _ m214)) Via.refl (rfl : T8.heap = T8.heap) (hS.1.ext O8.2) (g := (mkF m 77 #[sL i0, sS, sI i1, sI i2, sR b1, sR b3, sR b7, sU, sU, sU] [])) rfl (hb hby at_77)
          obtain ⟨T10, h10, b10, X10, e10, E10, A10, D10, g10, O10, K10, st10⟩ := own_newO X9 hx hZ hown (hw _ m63) (hw _ m64) (hw _ m65) e9 O8 K8 (g := (mkF m 86 #[sL i0, sS, sI i1, sI i2, sR b1, sR b3, sR b7, sR w0, sU, sU] [])) rfl (hb hby at_86) (by decide) (by decide)
          have F10_1 : Fld Z h10 b10 z0 "values" z6 .null := D10 (Or.inr (hw _ m152)) (ty := (.object z5)) (by decide)
          have F10_2 : Fld Z h10 b10 z0 "names" z6 .null := D10 (Or.inr (hw _ m154)) (ty := (.object z5)) (by decide)
          have F10_3 : Fld Z h10 b10 z0 "pageSize" "I" (vI 0) := D10 (Or.inr (hw _ m156)) (ty := .int) (by decide)
          have F10_4 : Fld Z h10 b10 z0 z16 z13 .null := D10 (Or.inr (hw _ m158)) (ty := (.object z7)) (by decide)
          have f12 : Fld Z h10 b7 z1 z15 z3 (vR w1) := (q8_1.ext E10)
          have f13 : Fld Z h10 b7 z1 "size" "I" (vI 0) := (q8_2.ext E10)
          have f14 : Exa Z h10 b7 z1 := ((A7.keep Kq8).ext E10)
          obtain ⟨_, T11, L11, ⟨c11_0, c11_1, rfl, N11q, Kq11, lo11_0, lo11_1, q11_0, q11_1, q11_2, q11_3, q11_4, q11_5, q11_6, q11_7, q11_8, q11_9, q11_10⟩, X11, st11⟩ := cI X10 hx hZ (W := 1) hown (cw13 cx) (rm25 cx i1 b10 b7 O10 A10 F10_1 F10_2 F10_3 F10_4 f12 f13 f14 (Nat.le_trans (own_old_le O8) g10)) e10 (g := (mkF m 96 #[sL i0, sS, sI i1, sI i2, sR b1, sR b3, sR b7, sR w0, sU, sU] [(vR w0), (vI i1), .null, (vR b7), (vR b10), (vR b10)])) rfl hml rfl (rest := [(vR b10)]) rfl rfl rfl rfl (hb hby at_96) (by decide)
          have N11 := Fr.app N8 N11q
          have O11 : Old Z n0 T11.heap := O10.keep Kq11 (allS (Nat.le_trans (own_old_le O8) g10) all0)
          have K11 : Keep h0 T11.heap [] := K10.trans Kq11 (allS (Or.inr (Nat.le_trans K8.1 g10)) all0)
          have f16 : Exa Z T11.heap b10 z0 := (A10.keep Kq11)
          obtain ⟨_, T15, L15, ⟨c15_0, rfl, N15q, Kq15, lo15_0, q15_0, q15_1, q15_2, q15_3, q15_4, q15_5⟩, X15, st15⟩ := cS X11 hx hZ (W := 0) hown (cw18 cx) (rm28 cx i0 b1 b3 b10 i1 O11 q11_9 f16 q11_10) (rfl : T11.heap = T11.heap) (g := (mkF m 108 #[sL i0, sS, sI i1, sI i2, sR b1, sR b3, sR b7, sR w0, sR b10, sU] [(vR b10), (vL i0), (vR b3), (vR b1)])) rfl hml rfl (rest := []) rfl rfl rfl rfl (hb hby at_108) (by decide)
          have N15 := Fr.app N11 N15q
          have O15 : Old Z n0 T15.heap := O11.keep Kq15 all0
          have K15 : Keep h0 T15.heap [] := K11.trans Kq15 all0
          obtain ⟨_, T17, L17, ⟨rfl, N17q, e17⟩, X17, st17⟩ := cV X15 hx hZ (W := 0) hown (cw19 cx) (rm20 cx c15_0 b1 O15 q15_1) (rfl : T15.heap = T15.heap) q15_0 (g := (mkF m 115 #[sL i0, sS, sI i1, sI i2, sR b1, sR b3, sR b7, sR w0, sR b10, sR c15_0] [(vR c15_0)])) rfl hml rfl (rest := []) rfl rfl rfl rfl (hb hby at_115) (by decide)
          obtain ⟨_, T18, L18, ⟨rfl, N18q, e18⟩, X18, st18⟩ := cV X17 hx hZ (W := 0) hown (cw20 cx) (rm21 cx c15_0 b3 O15 q15_2) e17 q15_0 (g := (mkF m 125 #[sL i0, sS, sI i1, sI i2, sR b1, sR b3, sR b7, sR w0, sR b10, sR c15_0] [(vR c15_0)])) rfl hml rfl (rest := []) rfl rfl rfl rfl (hb hby at_125) (by decide)
          obtain ⟨_, T19, L19, ⟨rfl, N19q, e19⟩, X19, st19⟩ := cV X18 hx hZ (W := 0) hown (cw21 cx) (rm22 cx c15_0 i0 O15 q15_3) e18 q15_0 (g := (mkF m 135 #[sL i0, sS, sI i1, sI i2, sR b1, sR b3, sR b7, sR w0, sR b10, sR c15_0] [(vR c15_0)])) rfl hml rfl (rest := []) rfl rfl rfl rfl (hb hby at_135) (by decide)
          obtain ⟨_, T20, L20, ⟨rfl, N20q, e20⟩, X20, st20⟩ := cV X19 hx hZ (W := 0) hown (cw22 cx) (rm23 cx c15_0 i1 O15 q15_4) e19 q15_0 (g := (mkF m 145 #[sL i0, sS, sI i1, sI i2, sR b1, sR b3, sR b7, sR w0, sR b10, sR c15_0] [(vR c15_0)])) rfl hml rfl (rest := []) rfl rfl rfl rfl (hb hby at_145) (by decide)
          obtain ⟨_, T21, L21, ⟨rfl, N21q, e21⟩, X21, st21⟩ := cV X20 hx hZ (W := 0) hown (cw23 cx) (rm29 cx c15_0 O15 q15_5) e20 q15_0 (g := (mkF m 154 #[sL i0, sS, sI i1, sI i2, sR b1, sR b3, sR b7, sR w0, sR b10, sR c15_0] [(vR c15_0)])) rfl hml rfl (rest := []) rfl rfl rfl rfl (hb hby at_154) (by decide)
          refine own_end X21 hlk (v := some (vI 1)) (own_hv hret) (by decide) ⟨rfl, (Fr.app (Fr.app (Fr.app (Fr.app (Fr.app N15 N17q) N18q) N19q) N20q) N21q)⟩ fun fs hr => pre4 _ ?_
          refine wfn X8 hx hby rfl at_74 rfl ((if0 _ _).trans (feq hp3).1) ?_
          refine st9 _ ?_
          refine wgt X9 hx hby rfl (pc0 := 80) (pc' := 84) rfl at_80 (by decide) (by decide) ?_
          show St p e below T9 (mkF m 84 #[sL i0, sS, sI i1, sI i2, sR b1, sR b3, sR b7, sU, sU, sU] [(vR w0)]) _
          refine waS X9 hx hby rfl at_84 rfl rfl (l' := #[sL i0, sS, sI i1, sI i2, sR b1, sR b3, sR b7, sR w0, sU, sU]) rfl ?_
          refine st10 _ ?_
          refine wdu X10 hx hby rfl at_89 rfl rfl ?_
          refine waL X10 hx hby rfl at_90 rfl rfl ?_
          refine wan X10 hx hby rfl at_92 ?_
          refine wil X10 hx hby rfl at_93 rfl ?_
          refine waL X10 hx hby rfl at_94 rfl rfl ?_
          refine st11 _ ?_
          refine waS X11 hx hby rfl at_99 rfl rfl (l' := #[sL i0, sS, sI i1, sI i2, sR b1, sR b3, sR b7, sR w0, sR b10, sU]) rfl ?_
          refine waL X11 hx hby rfl at_101 rfl rfl ?_
          refine waL X11 hx hby rfl at_103 rfl rfl ?_
          refine XS.lloadN X11.here hx rfl (hb hby at_105) rfl ?_
          refine waL X11 hx hby rfl at_106 rfl rfl ?_
          refine st15 _ ?_
          refine waS X15 hx hby rfl at_111 rfl rfl (l' := #[sL i0, sS, sI i1, sI i2, sR b1, sR b3, sR b7, sR w0, sR b10, sR c15_0]) rfl ?_
          refine waL X15 hx hby rfl at_113 rfl rfl ?_
          show St p e below T15 (mkF m 115 #[sL i0, sS, sI i1, sI i2, sR b1, sR b3, sR b7, sR w0, sR b10, sR c15_0] [(vR c15_0)]) _
          refine st17 _ ?_
          refine waL X17 hx hby rfl at_118 rfl rfl ?_
          refine Jvm.RoadKit.acmp (g := (mkF m 120 #[sL i0, sS, sI i1, sI i2, sR b1, sR b3, sR b7, sR w0, sR b10, sR c15_0] [(vR b1), (vR b1)])) X17 hx rfl rfl rfl (pc0 := 120) (pc' := 123) (same := true) rfl (hb hby at_120) rfl (decide_eq_true rfl) (by decide) (by decide) ?_
          refine waL X17 hx hby rfl at_123 rfl rfl ?_
          refine st18 _ ?_
          refine waL X18 hx hby rfl at_128 rfl rfl ?_
          refine Jvm.RoadKit.acmp (g := (mkF m 130 #[sL i0, sS, sI i1, sI i2, sR b1, sR b3, sR b7, sR w0, sR b10, sR c15_0] [(vR b3), (vR b3)])) X18 hx rfl rfl rfl (pc0 := 130) (pc' := 133) (same := true) rfl (hb hby at_130) rfl (decide_eq_true rfl) (by decide) (by decide) ?_
          refine waL X18 hx hby rfl at_133 rfl rfl ?_
          refine st19 _ ?_
          refine XS.lloadN X19.here hx rfl (hb hby at_138) rfl ?_
          refine XS.lcmp X19.here hx rfl (hb hby at_139) rfl ?_
          refine wfn X19 hx hby rfl at_140 rfl ((if0 _ _).trans (teq ((lw_eq i0 i0).mpr (rfl : i0 = i0))).2) ?_
          refine waL X19 hx hby rfl at_143 rfl rfl ?_
          refine st20 _ ?_
          refine wil X20 hx hby rfl at_148 rfl ?_
          refine wcn X20 hx hby rfl at_149 rfl (teq (rfl : i1 = i1)).2 ?_
          show St p e below T20 (mkF m 152 #[sL i0, sS, sI i1, sI i2, sR b1, sR b3, sR b7, sR w0, sR b10, sR c15_0] []) _
          refine waL X20 hx hby rfl at_152 rfl rfl ?_
          refine st21 _ ?_
          refine waL X21 hx hby rfl at_157 rfl rfl ?_
          refine Jvm.RoadKit.acmp (g := (mkF m 159 #[sL i0, sS, sI i1, sI i2, sR b1, sR b3, sR b7, sR w0, sR b10, sR c15_0] [(vR w0), (vR w0)])) X21 hx rfl rfl rfl (pc0 := 159) (pc' := 162) (same := true) rfl (hb hby at_159) rfl (decide_eq_true rfl) (by decide) (by decide) ?_
          refine wic X21 hx hby rfl at_162 ?_
          refine wgt X21 hx hby rfl (pc0 := 163) (pc' := 167) rfl at_163 (by decide) (by decide) ?_
          show St p e below T21 (mkF m 167 #[sL i0, sS, sI i1, sI i2, sR b1, sR b3, sR b7, sR w0, sR b10, sR c15_0] [(vI 1)]) _
          exact retN X21 hx (t := .boolean) hret (by simp) (hb hby at_167) hr
      · obtain ⟨T9, X9, e9, st9⟩ := getS2 X8 hx hZ hown (host := "") (Or.inl (hw _ m214)) Via.refl (rfl : T8.heap = T8.heap) (hS.1.ext O8.2) (g := (mkF m 63 #[sL i0, sS, sI i1, sI i2, sR b1, sR b3, sR b7, sU, sU, sU] [(vR b7)])) rfl (hb hby at_63)
        have f11 : Exa Z T8.heap b7 z1 := (A7.keep Kq8)
        obtain ⟨_, T10, L10, ⟨c10_0, k10_1, rfl, N10q, Kq10, lo10_0, q10_0, q10_1, q10_2, q10_3, q10_4, q10_5⟩, X10, st10⟩ := cV X9 hx hZ (W := 0) hown (cw25 cx) (rm34 cx b7 O8 f11 q8_0 q8_1 q8_2 (Nat.le_trans (own_old_le O5) g7)) e9 f11 (g := (mkF m 66 #[sL i0, sS, sI i1, sI i2, sR b1, sR b3, sR b7, sU, sU, sU] [(vR w0), (vR b7)])) rfl hml rfl (rest := []) rfl rfl rfl rfl (hb hby at_66) (by decide)
        have N10 := Fr.app N8 N10q
        have O10 : Old Z n0 T10.heap := O8.keep Kq10 (allS (Nat.le_trans (own_old_le O5) g7) all0)
        have K10 : Keep h0 T10.heap [] := K8.trans Kq10 (allS (Or.inr (Nat.le_trans K5.1 g7)) all0)
        obtain ⟨x73, hx73⟩ : ∃ z, (i2 &&& (8 : Int32)) = z := ⟨_, rfl⟩
        have rx73 : 0 ≤ x73.toInt ∧ x73.toInt ≤ 8 := hx73 ▸ (own_mask i2 (8 : Int32) (by decide) : 0 ≤ ((i2 &&& (8 : Int32))).toInt ∧ ((i2 &&& (8 : Int32))).toInt ≤ 8)
        have pre4 : ∀ t, St p e below T10 (mkF m 74 #[sL i0, sS, sI i1, sI i2, sR b1, sR b3, sR b7, sU, sU, sU] [(vI x73)]) t → St p e below s₁ g0 t := fun t kt => pre3 _ (by
            refine wfn X8 hx hby rfl at_58 rfl ((if0 _ _).trans (feq hp2).1) ?_
            refine waL X8 hx hby rfl at_61 rfl rfl ?_
            refine st9 _ ?_
            refine st10 _ ?_
            refine XS.pop X10.here hx rfl (hb hby at_69) rfl rfl ?_
            show St p e below T10 (mkF m 70 #[sL i0, sS, sI i1, sI i2, sR b1, sR b3, sR b7, sU, sU, sU] []) _
            refine wil X10 hx hby rfl at_70 rfl ?_
            refine wbp X10 hx hby rfl at_71 ?_
            refine Own.iand X10.here hx rfl (hb hby at_73) rfl hx73 ?_
            exact kt)
        rcases Decidable.em (x73 = (0 : Int32)) with hp3 | hp3
        · obtain ⟨T12, h12, b12, X12, e12, E12, A12, D12, g12, O12, K12, st12⟩ := own_newO X10 hx hZ hown (hw _ m63) (hw _ m64) (hw _ m65) (rfl : T10.heap = T10.heap) O10 K10 (g := (mkF m 86 #[sL i0, sS, sI i1, sI i2, sR b1, sR b3, sR b7, sN, sU, sU] [])) rfl (hb hby at_86) (by decide) (by decide)
          have F12_1 : Fld Z h12 b12 z0 "values" z6 .null := D12 (Or.inr (hw _ m152)) (ty := (.object z5)) (by decide)
          have F12_2 : Fld Z h12 b12 z0 "names" z6 .null := D12 (Or.inr (hw _ m154)) (ty := (.object z5)) (by decide)
          have F12_3 : Fld Z h12 b12 z0 "pageSize" "I" (vI 0) := D12 (Or.inr (hw _ m156)) (ty := .int) (by decide)
          have F12_4 : Fld Z h12 b12 z0 z16 z13 .null := D12 (Or.inr (hw _ m158)) (ty := (.object z7)) (by decide)
          have f14 : Fld Z h12 b7 z1 z15 z3 (vR c10_0) := (q10_4.ext E12)
          have f15 : Fld Z h12 b7 z1 "size" "I" (vI 1) := (q10_5.ext E12)
          have f16 : Exa Z h12 c10_0 z3 := (q10_2.ext E12)
          have f17 : Arv Z h12 c10_0 k10_1 (.object z4) (10 : Int32) [(vR w0), .null, .null, .null, .null, .null, .null, .null, .null, .null] .null := (q10_0.ext E12)
          have f18 : Exa Z h12 b7 z1 := ((f11.keep Kq10).ext E12)
          obtain ⟨_, T13, L13, ⟨c13_0, c13_1, c13_2, k13_3, rfl, N13q, Kq13, lo13_0, lo13_1, lo13_2, q13_0, q13_1, q13_2, q13_3, q13_4, q13_5, q13_6, q13_7, q13_8, q13_9, q13_10, q13_11, q13_12, q13_13⟩, X13, st13⟩ := cI X12 hx hZ (W := 1) hown (cw13 cx) (rm40 cx i1 b12 b7 c10_0 k10_1 O12 A12 F12_1 F12_2 F12_3 F12_4 f14 f15 f16 f17 f18 (Nat.le_trans (own_old_le O10) g12)) e12 (g := (mkF m 96 #[sL i0, sS, sI i1, sI i2, sR b1, sR b3, sR b7, sN, sU, sU] [.null, (vI i1), .null, (vR b7), (vR b12), (vR b12)])) rfl hml rfl (rest := [(vR b12)]) rfl rfl rfl rfl (hb hby at_96) (by decide)
          have N13 := Fr.app N10 N13q
          have O13 : Old Z n0 T13.heap := O12.keep Kq13 (allS (Nat.le_trans (own_old_le O10) g12) all0)
          have K13 : Keep h0 T13.heap [] := K12.trans Kq13 (allS (Or.inr (Nat.le_trans K10.1 g12)) all0)
          have f20 : Exa Z T13.heap b12 z0 := (A12.keep Kq13)
          obtain ⟨_, T19, L19, ⟨c19_0, rfl, N19q, Kq19, lo19_0, q19_0, q19_1, q19_2, q19_3, q19_4, q19_5⟩, X19, st19⟩ := cS X13 hx hZ (W := 0) hown (cw18 cx) (rm19 cx i0 b1 b3 b12 i1 O13 q13_12 f20 q13_13) (rfl : T13.heap = T13.heap) (g := (mkF m 108 #[sL i0, sS, sI i1, sI i2, sR b1, sR b3, sR b7, sN, sR b12, sU] [(vR b12), (vL i0), (vR b3), (vR b1)])) rfl hml rfl (rest := []) rfl rfl rfl rfl (hb hby at_108) (by decide)
          have N19 := Fr.app N13 N19q
          have O19 : Old Z n0 T19.heap := O13.keep Kq19 all0
          have K19 : Keep h0 T19.heap [] := K13.trans Kq19 all0
          obtain ⟨_, T21, L21, ⟨rfl, N21q, e21⟩, X21, st21⟩ := cV X19 hx hZ (W := 0) hown (cw19 cx) (rm20 cx c19_0 b1 O19 q19_1) (rfl : T19.heap = T19.heap) q19_0 (g := (mkF m 115 #[sL i0, sS, sI i1, sI i2, sR b1, sR b3, sR b7, sN, sR b12, sR c19_0] [(vR c19_0)])) rfl hml rfl (rest := []) rfl rfl rfl rfl (hb hby at_115) (by decide)
          obtain ⟨_, T22, L22, ⟨rfl, N22q, e22⟩, X22, st22⟩ := cV X21 hx hZ (W := 0) hown (cw20 cx) (rm21 cx c19_0 b3 O19 q19_2) e21 q19_0 (g := (mkF m 125 #[sL i0, sS, sI i1, sI i2, sR b1, sR b3, sR b7, sN, sR b12, sR c19_0] [(vR c19_0)])) rfl hml rfl (rest := []) rfl rfl rfl rfl (hb hby at_125) (by decide)
          obtain ⟨_, T23, L23, ⟨rfl, N23q, e23⟩, X23, st23⟩ := cV X22 hx hZ (W := 0) hown (cw21 cx) (rm22 cx c19_0 i0 O19 q19_3) e22 q19_0 (g := (mkF m 135 #[sL i0, sS, sI i1, sI i2, sR b1, sR b3, sR b7, sN, sR b12, sR c19_0] [(vR c19_0)])) rfl hml rfl (rest := []) rfl rfl rfl rfl (hb hby at_135) (by decide)
          obtain ⟨_, T24, L24, ⟨rfl, N24q, e24⟩, X24, st24⟩ := cV X23 hx hZ (W := 0) hown (cw22 cx) (rm23 cx c19_0 i1 O19 q19_4) e23 q19_0 (g := (mkF m 145 #[sL i0, sS, sI i1, sI i2, sR b1, sR b3, sR b7, sN, sR b12, sR c19_0] [(vR c19_0)])) rfl hml rfl (rest := []) rfl rfl rfl rfl (hb hby at_145) (by decide)
          obtain ⟨_, T25, L25, ⟨rfl, N25q, e25⟩, X25, st25⟩ := cV X24 hx hZ (W := 0) hown (cw23 cx) (rm24 cx c19_0 O19 q19_5) e24 q19_0 (g := (mkF m 154 #[sL i0, sS, sI i1, sI i2, sR b1, sR b3, sR b7, sN, sR b12, sR c19_0] [(vR c19_0)])) rfl hml rfl (rest := []) rfl rfl rfl rfl (hb hby at_154) (by decide)
          refine own_end X25 hlk (v := some (vI 1)) (own_hv hret) (by decide) ⟨rfl, (Fr.app (Fr.app (Fr.app (Fr.app (Fr.app N19 N21q) N22q) N23q) N24q) N25q)⟩ fun fs hr => pre4 _ ?_
          show St p e below T10 (mkF m 74 #[sL i0, sS, sI i1, sI i2, sR b1, sR b3, sR b7, sU, sU, sU] [(vI x73)]) _
          rw [hp3]
          show St p e below T10 (mkF m 74 #[sL i0, sS, sI i1, sI i2, sR b1, sR b3, sR b7, sU, sU, sU] [(vI 0)]) _
          refine wfy X10 hx hby rfl (pc0 := 74) (pc' := 83) rfl at_74 rfl ((if0 _ _).trans (teq (by decide : (0 : Int32) = (0 : Int32))).1) (by decide) (by decide) ?_
          show St p e below T10 (mkF m 83 #[sL i0, sS, sI i1, sI i2, sR b1, sR b3, sR b7, sU, sU, sU] []) _
          refine wan X10 hx hby rfl at_83 ?_
          show St p e below T10 (mkF m 84 #[sL i0, sS, sI i1, sI i2, sR b1, sR b3, sR b7, sU, sU, sU] [.null]) _
          refine waS X10 hx hby rfl at_84 rfl rfl (l' := #[sL i0, sS, sI i1, sI i2, sR b1, sR b3, sR b7, sN, sU, sU]) rfl ?_
          refine st12 _ ?_
          refine wdu X12 hx hby rfl at_89 rfl rfl ?_
          refine waL X12 hx hby rfl at_90 rfl rfl ?_
          refine wan X12 hx hby rfl at_92 ?_
          refine wil X12 hx hby rfl at_93 rfl ?_
          refine waL X12 hx hby rfl at_94 rfl rfl ?_
          refine st13 _ ?_
          refine waS X13 hx hby rfl at_99 rfl rfl (l' := #[sL i0, sS, sI i1, sI i2, sR b1, sR b3, sR b7, sN, sR b12, sU]) rfl ?_
          refine waL X13 hx hby rfl at_101 rfl rfl ?_
          refine waL X13 hx hby rfl at_103 rfl rfl ?_
          refine XS.lloadN X13.here hx rfl (hb hby at_105) rfl ?_
          refine waL X13 hx hby rfl at_106 rfl rfl ?_
          refine st19 _ ?_
          refine waS X19 hx hby rfl at_111 rfl rfl (l' := #[sL i0, sS, sI i1, sI i2, sR b1, sR b3, sR b7, sN, sR b12, sR c19_0]) rfl ?_
          refine waL X19 hx hby rfl at_113 rfl rfl ?_
          show St p e below T19 (mkF m 115 #[sL i0, sS, sI i1, sI i2, sR b1, sR b3, sR b7, sN, sR b12, sR c19_0] [(vR c19_0)]) _
          refine st21 _ ?_
          refine waL X21 hx hby rfl at_118 rfl rfl ?_
          refine Jvm.RoadKit.acmp (g := (mkF m 120 #[sL i0, sS, sI i1, sI i2, sR b1, sR b3, sR b7, sN, sR b12, sR c19_0] [(vR b1), (vR b1)])) X21 hx rfl rfl rfl (pc0 := 120) (pc' := 123) (same := true) rfl (hb hby at_120) rfl (decide_eq_true rfl) (by decide) (by decide) ?_
          refine waL X21 hx hby rfl at_123 rfl rfl ?_
          refine st22 _ ?_
          refine waL X22 hx hby rfl at_128 rfl rfl ?_
          refine Jvm.RoadKit.acmp (g := (mkF m 130 #[sL i0, sS, sI i1, sI i2, sR b1, sR b3, sR b7, sN, sR b12, sR c19_0] [(vR b3), (vR b3)])) X22 hx rfl rfl rfl (pc0 := 130) (pc' := 133) (same := true) rfl (hb hby at_130) rfl (decide_eq_true rfl) (by decide) (by decide) ?_
          refine waL X22 hx hby rfl at_133 rfl rfl ?_
          refine st23 _ ?_
          refine XS.lloadN X23.here hx rfl (hb hby at_138) rfl ?_
          refine XS.lcmp X23.here hx rfl (hb hby at_139) rfl ?_
          refine wfn X23 hx hby rfl at_140 rfl ((if0 _ _).trans (teq ((lw_eq i0 i0).mpr (rfl : i0 = i0))).2) ?_
          refine waL X23 hx hby rfl at_143 rfl rfl ?_
          refine st24 _ ?_
          refine wil X24 hx hby rfl at_148 rfl ?_
          refine wcn X24 hx hby rfl at_149 rfl (teq (rfl : i1 = i1)).2 ?_
          show St p e below T24 (mkF m 152 #[sL i0, sS, sI i1, sI i2, sR b1, sR b3, sR b7, sN, sR b12, sR c19_0] []) _
          refine waL X24 hx hby rfl at_152 rfl rfl ?_
          refine st25 _ ?_
          refine waL X25 hx hby rfl at_157 rfl rfl ?_
          refine Jvm.RoadKit.acmp (g := (mkF m 159 #[sL i0, sS, sI i1, sI i2, sR b1, sR b3, sR b7, sN, sR b12, sR c19_0] [.null, .null])) X25 hx rfl rfl rfl (pc0 := 159) (pc' := 162) (same := true) rfl (hb hby at_159) rfl (decide_eq_true rfl) (by decide) (by decide) ?_
          refine wic X25 hx hby rfl at_162 ?_
          refine wgt X25 hx hby rfl (pc0 := 163) (pc' := 167) rfl at_163 (by decide) (by decide) ?_
          show St p e below T25 (mkF m 167 #[sL i0, sS, sI i1, sI i2, sR b1, sR b3, sR b7, sN, sR b12, sR c19_0] [(vI 1)]) _
          exact retN X25 hx (t := .boolean) hret (by simp) (hb hby at_167) hr
        · obtain ⟨T12, X12, e12, st12⟩ := getS2 X10 hx hZ hown (host := "") (Or.inl (hw _ m214)) Via.refl (rfl : T10.heap = T10.heap) (hS.1.ext O10.2) (g := (mkF m 77 #[sL i0, sS, sI i1, sI i2, sR b1, sR b3, sR b7, sU, sU, sU] [])) rfl (hb hby at_77)
          obtain ⟨T13, h13, b13, X13, e13, E13, A13, D13, g13, O13, K13, st13⟩ := own_newO X12 hx hZ hown (hw _ m63) (hw _ m64) (hw _ m65) e12 O10 K10 (g := (mkF m 86 #[sL i0, sS, sI i1, sI i2, sR b1, sR b3, sR b7, sR w0, sU, sU] [])) rfl (hb hby at_86) (by decide) (by decide)
          have F13_1 : Fld Z h13 b13 z0 "values" z6 .null := D13 (Or.inr (hw _ m152)) (ty := (.object z5)) (by decide)
          have F13_2 : Fld Z h13 b13 z0 "names" z6 .null := D13 (Or.inr (hw _ m154)) (ty := (.object z5)) (by decide)
          have F13_3 : Fld Z h13 b13 z0 "pageSize" "I" (vI 0) := D13 (Or.inr (hw _ m156)) (ty := .int) (by decide)
          have F13_4 : Fld Z h13 b13 z0 z16 z13 .null := D13 (Or.inr (hw _ m158)) (ty := (.object z7)) (by decide)
          have f15 : Fld Z h13 b7 z1 z15 z3 (vR c10_0) := (q10_4.ext E13)
          have f16 : Fld Z h13 b7 z1 "size" "I" (vI 1) := (q10_5.ext E13)
          have f17 : Exa Z h13 c10_0 z3 := (q10_2.ext E13)
          have f18 : Arv Z h13 c10_0 k10_1 (.object z4) (10 : Int32) [(vR w0), .null, .null, .null, .null, .null, .null, .null, .null, .null] .null := (q10_0.ext E13)
          have f19 : Exa Z h13 b7 z1 := ((f11.keep Kq10).ext E13)
          obtain ⟨_, T14, L14, ⟨c14_0, c14_1, c14_2, k14_3, rfl, N14q, Kq14, lo14_0, lo14_1, lo14_2, q14_0, q14_1, q14_2, q14_3, q14_4, q14_5, q14_6, q14_7, q14_8, q14_9, q14_10, q14_11, q14_12, q14_13⟩, X14, st14⟩ := cI X13 hx hZ (W := 1) hown (cw13 cx) (rm41 cx i1 b13 b7 c10_0 k10_1 O13 A13 F13_1 F13_2 F13_3 F13_4 f15 f16 f17 f18 f19 (Nat.le_trans (own_old_le O10) g13)) e13 (g := (mkF m 96 #[sL i0, sS, sI i1, sI i2, sR b1, sR b3, sR b7, sR w0, sU, sU] [(vR w0), (vI i1), .null, (vR b7), (vR b13), (vR b13)])) rfl hml rfl (rest := [(vR b13)]) rfl rfl rfl rfl (hb hby at_96) (by decide)
          have N14 := Fr.app N10 N14q
          have O14 : Old Z n0 T14.heap := O13.keep Kq14 (allS (Nat.le_trans (own_old_le O10) g13) all0)
          have K14 : Keep h0 T14.heap [] := K13.trans Kq14 (allS (Or.inr (Nat.le_trans K10.1 g13)) all0)
          have f21 : Exa Z T14.heap b13 z0 := (A13.keep Kq14)
          obtain ⟨_, T20, L20, ⟨c20_0, rfl, N20q, Kq20, lo20_0, q20_0, q20_1, q20_2, q20_3, q20_4, q20_5⟩, X20, st20⟩ := cS X14 hx hZ (W := 0) hown (cw18 cx) (rm28 cx i0 b1 b3 b13 i1 O14 q14_12 f21 q14_13) (rfl : T14.heap = T14.heap) (g := (mkF m 108 #[sL i0, sS, sI i1, sI i2, sR b1, sR b3, sR b7, sR w0, sR b13, sU] [(vR b13), (vL i0), (vR b3), (vR b1)])) rfl hml rfl (rest := []) rfl rfl rfl rfl (hb hby at_108) (by decide)
          have N20 := Fr.app N14 N20q
          have O20 : Old Z n0 T20.heap := O14.keep Kq20 all0
          have K20 : Keep h0 T20.heap [] := K14.trans Kq20 all0
          obtain ⟨_, T22, L22, ⟨rfl, N22q, e22⟩, X22, st22⟩ := cV X20 hx hZ (W := 0) hown (cw19 cx) (rm20 cx c20_0 b1 O20 q20_1) (rfl : T20.heap = T20.heap) q20_0 (g := (mkF m 115 #[sL i0, sS, sI i1, sI i2, sR b1, sR b3, sR b7, sR w0, sR b13, sR c20_0] [(vR c20_0)])) rfl hml rfl (rest := []) rfl rfl rfl rfl (hb hby at_115) (by decide)
          obtain ⟨_, T23, L23, ⟨rfl, N23q, e23⟩, X23, st23⟩ := cV X22 hx hZ (W := 0) hown (cw20 cx) (rm21 cx c20_0 b3 O20 q20_2) e22 q20_0 (g := (mkF m 125 #[sL i0, sS, sI i1, sI i2, sR b1, sR b3, sR b7, sR w0, sR b13, sR c20_0] [(vR c20_0)])) rfl hml rfl (rest := []) rfl rfl rfl rfl (hb hby at_125) (by decide)
          obtain ⟨_, T24, L24, ⟨rfl, N24q, e24⟩, X24, st24⟩ := cV X23 hx hZ (W := 0) hown (cw21 cx) (rm22 cx c20_0 i0 O20 q20_3) e23 q20_0 (g := (mkF m 135 #[sL i0, sS, sI i1, sI i2, sR b1, sR b3, sR b7, sR w0, sR b13, sR c20_0] [(vR c20_0)])) rfl hml rfl (rest := []) rfl rfl rfl rfl (hb hby at_135) (by decide)
          obtain ⟨_, T25, L25, ⟨rfl, N25q, e25⟩, X25, st25⟩ := cV X24 hx hZ (W := 0) hown (cw22 cx) (rm23 cx c20_0 i1 O20 q20_4) e24 q20_0 (g := (mkF m 145 #[sL i0, sS, sI i1, sI i2, sR b1, sR b3, sR b7, sR w0, sR b13, sR c20_0] [(vR c20_0)])) rfl hml rfl (rest := []) rfl rfl rfl rfl (hb hby at_145) (by decide)
          obtain ⟨_, T26, L26, ⟨rfl, N26q, e26⟩, X26, st26⟩ := cV X25 hx hZ (W := 0) hown (cw23 cx) (rm29 cx c20_0 O20 q20_5) e25 q20_0 (g := (mkF m 154 #[sL i0, sS, sI i1, sI i2, sR b1, sR b3, sR b7, sR w0, sR b13, sR c20_0] [(vR c20_0)])) rfl hml rfl (rest := []) rfl rfl rfl rfl (hb hby at_154) (by decide)
          refine own_end X26 hlk (v := some (vI 1)) (own_hv hret) (by decide) ⟨rfl, (Fr.app (Fr.app (Fr.app (Fr.app (Fr.app N20 N22q) N23q) N24q) N25q) N26q)⟩ fun fs hr => pre4 _ ?_
          refine wfn X10 hx hby rfl at_74 rfl ((if0 _ _).trans (feq hp3).1) ?_
          refine st12 _ ?_
          refine wgt X12 hx hby rfl (pc0 := 80) (pc' := 84) rfl at_80 (by decide) (by decide) ?_
          show St p e below T12 (mkF m 84 #[sL i0, sS, sI i1, sI i2, sR b1, sR b3, sR b7, sU, sU, sU] [(vR w0)]) _
          refine waS X12 hx hby rfl at_84 rfl rfl (l' := #[sL i0, sS, sI i1, sI i2, sR b1, sR b3, sR b7, sR w0, sU, sU]) rfl ?_
          refine st13 _ ?_
          refine wdu X13 hx hby rfl at_89 rfl rfl ?_
          refine waL X13 hx hby rfl at_90 rfl rfl ?_
          refine wan X13 hx hby rfl at_92 ?_
          refine wil X13 hx hby rfl at_93 rfl ?_
          refine waL X13 hx hby rfl at_94 rfl rfl ?_
          refine st14 _ ?_
          refine waS X14 hx hby rfl at_99 rfl rfl (l' := #[sL i0, sS, sI i1, sI i2, sR b1, sR b3, sR b7, sR w0, sR b13, sU]) rfl ?_
          refine waL X14 hx hby rfl at_101 rfl rfl ?_
          refine waL X14 hx hby rfl at_103 rfl rfl ?_
          refine XS.lloadN X14.here hx rfl (hb hby at_105) rfl ?_
          refine waL X14 hx hby rfl at_106 rfl rfl ?_
          refine st20 _ ?_
          refine waS X20 hx hby rfl at_111 rfl rfl (l' := #[sL i0, sS, sI i1, sI i2, sR b1, sR b3, sR b7, sR w0, sR b13, sR c20_0]) rfl ?_
          refine waL X20 hx hby rfl at_113 rfl rfl ?_
          show St p e below T20 (mkF m 115 #[sL i0, sS, sI i1, sI i2, sR b1, sR b3, sR b7, sR w0, sR b13, sR c20_0] [(vR c20_0)]) _
          refine st22 _ ?_
          refine waL X22 hx hby rfl at_118 rfl rfl ?_
          refine Jvm.RoadKit.acmp (g := (mkF m 120 #[sL i0, sS, sI i1, sI i2, sR b1, sR b3, sR b7, sR w0, sR b13, sR c20_0] [(vR b1), (vR b1)])) X22 hx rfl rfl rfl (pc0 := 120) (pc' := 123) (same := true) rfl (hb hby at_120) rfl (decide_eq_true rfl) (by decide) (by decide) ?_
          refine waL X22 hx hby rfl at_123 rfl rfl ?_
          refine st23 _ ?_
          refine waL X23 hx hby rfl at_128 rfl rfl ?_
          refine Jvm.RoadKit.acmp (g := (mkF m 130 #[sL i0, sS, sI i1, sI i2, sR b1, sR b3, sR b7, sR w0, sR b13, sR c20_0] [(vR b3), (vR b3)])) X23 hx rfl rfl rfl (pc0 := 130) (pc' := 133) (same := true) rfl (hb hby at_130) rfl (decide_eq_true rfl) (by decide) (by decide) ?_
          refine waL X23 hx hby rfl at_133 rfl rfl ?_
          refine st24 _ ?_
          refine XS.lloadN X24.here hx rfl (hb hby at_138) rfl ?_
          refine XS.lcmp X24.here hx rfl (hb hby at_139) rfl ?_
          refine wfn X24 hx hby rfl at_140 rfl ((if0 _ _).trans (teq ((lw_eq i0 i0).mpr (rfl : i0 = i0))).2) ?_
          refine waL X24 hx hby rfl at_143 rfl rfl ?_
          refine st25 _ ?_
          refine wil X25 hx hby rfl at_148 rfl ?_
          refine wcn X25 hx hby rfl at_149 rfl (teq (rfl : i1 = i1)).2 ?_
          show St p e below T25 (mkF m 152 #[sL i0, sS, sI i1, sI i2, sR b1, sR b3, sR b7, sR w0, sR b13, sR c20_0] []) _
          refine waL X25 hx hby rfl at_152 rfl rfl ?_
          refine st26 _ ?_
          refine waL X26 hx hby rfl at_157 rfl rfl ?_
          refine Jvm.RoadKit.acmp (g := (mkF m 159 #[sL i0, sS, sI i1, sI i2, sR b1, sR b3, sR b7, sR w0, sR b13, sR c20_0] [(vR w0), (vR w0)])) X26 hx rfl rfl rfl (pc0 := 159) (pc' := 162) (same := true) rfl (hb hby at_159) rfl (decide_eq_true rfl) (by decide) (by decide) ?_
          refine wic X26 hx hby rfl at_162 ?_
          refine wgt X26 hx hby rfl (pc0 := 163) (pc' := 167) rfl at_163 (by decide) (by decide) ?_
          show St p e below T26 (mkF m 167 #[sL i0, sS, sI i1, sI i2, sR b1, sR b3, sR b7, sR w0, sR b13, sR c20_0] [(vI 1)]) _
          exact retN X26 hx (t := .boolean) hret (by simp) (hb hby at_167) hr
    · obtain ⟨T7, X7, e7, st7⟩ := getS2 X5 hx hZ hown (host := "") (Or.inl (hw _ m214)) Via.refl (rfl : T5.heap = T5.heap) (hS.1.ext O5.2) (g := (mkF m 39 #[sL i0, sS, sI i1, sI i2, sR b1, sR b3, sU, sU, sU, sU] [(vR b3)])) rfl (hb hby at_39)
      have f9 : Exa Z T5.heap b3 z1 := (f6.keep Kq5)
      have ne10 : b3 ≠ c5_0 := (Nat.ne_of_lt (Nat.lt_of_lt_of_le (Nat.lt_of_lt_of_le A3.lt Kq4.1) lo5_0))
      obtain ⟨_, T8, L8, ⟨rfl, N8q, Kq8, q8_0, q8_1, q8_2, q8_3⟩, X8, st8⟩ := cV X7 hx hZ (W := 0) hown (cw25 cx) (rm45 cx b3 c5_0 k5_1 O5 f9 q5_3 q5_4 q5_5 q5_0 (Nat.le_trans (own_old_le O1) g3) (Ne.symm ne10) q5_1 (Nat.le_trans (own_old_le O4) lo5_0)) e7 f9 (g := (mkF m 42 #[sL i0, sS, sI i1, sI i2, sR b1, sR b3, sU, sU, sU, sU] [(vR w0), (vR b3)])) rfl hml rfl (rest := []) rfl rfl rfl rfl (hb hby at_42) (by decide)
      have N8 := Fr.app N5 N8q
      have O8 : Old Z n0 T8.heap := O5.keep Kq8 (allS (Nat.le_trans (own_old_le O1) g3) (allS (Nat.le_trans (own_old_le O4) lo5_0) all0))
      have K8 : Keep h0 T8.heap [] := K5.trans Kq8 (allS (Or.inr (Nat.le_trans K1.1 g3)) (allS (Or.inr (Nat.le_trans K4.1 lo5_0)) all0))
      obtain ⟨T11, h11, b11, X11, e11, E11, A11, D11, g11, O11, K11, st11⟩ := own_newO X8 hx hZ hown (hw _ m9) (hw _ m10) (hw _ m11) (rfl : T8.heap = T8.heap) O8 K8 (g := (mkF m 46 #[sL i0, sS, sI i1, sI i2, sR b1, sR b3, sU, sU, sU, sU] [])) rfl (hb hby at_46) (by decide) (by decide)
      have F11_1 : Fld Z h11 b11 z9 "modCount" "I" (vI 0) := D11 (Or.inl (hw _ m29)) (ty := .int) (by decide)
      have F11_2 : Fld Z h11 b11 z1 z15 z3 .null := D11 (Or.inl (hw _ m32)) (ty := (.array (.object z4))) (by decide)
      have F11_3 : Fld Z h11 b11 z1 "size" "I" (vI 0) := D11 (Or.inl (hw _ m41)) (ty := .int) (by decide)
      obtain ⟨_, T12, L12, ⟨rfl, N12q, Kq12, q12_0, q12_1, q12_2⟩, X12, st12⟩ := cI X11 hx hZ (W := 1) hown (cw3 cx) (rm4 cx b11 O11 A11 F11_1 F11_2 F11_3 (Nat.le_trans (own_old_le O8) g11)) e11 (g := (mkF m 50 #[sL i0, sS, sI i1, sI i2, sR b1, sR b3, sU, sU, sU, sU] [(vR b11), (vR b11)])) rfl hml rfl (rest := [(vR b11)]) rfl rfl rfl rfl (hb hby at_50) (by decide)
      have N12 := Fr.app N8 N12q
      have O12 : Old Z n0 T12.heap := O11.keep Kq12 (allS (Nat.le_trans (own_old_le O8) g11) all0)
      have K12 : Keep h0 T12.heap [] := K11.trans Kq12 (allS (Or.inr (Nat.le_trans K8.1 g11)) all0)
      obtain ⟨x57, hx57⟩ : ∃ z, (i2 &&& (4 : Int32)) = z := ⟨_, rfl⟩
      have rx57 : 0 ≤ x57.toInt ∧ x57.toInt ≤ 4 := hx57 ▸ (own_mask i2 (4 : Int32) (by decide) : 0 ≤ ((i2 &&& (4 : Int32))).toInt ∧ ((i2 &&& (4 : Int32))).toInt ≤ 4)
      have pre3 : ∀ t, St p e below T12 (mkF m 58 #[sL i0, sS, sI i1, sI i2, sR b1, sR b3, sR b11, sU, sU, sU] [(vI x57)]) t → St p e below s₁ g0 t := fun t kt => pre2 _ (by
          refine wfn X5 hx hby rfl at_34 rfl ((if0 _ _).trans (feq hp1).1) ?_
          refine waL X5 hx hby rfl at_37 rfl rfl ?_
          refine st7 _ ?_
          refine st8 _ ?_
          refine XS.pop X8.here hx rfl (hb hby at_45) rfl rfl ?_
          show St p e below T8 (mkF m 46 #[sL i0, sS, sI i1, sI i2, sR b1, sR b3, sU, sU, sU, sU] []) _
          refine st11 _ ?_
          refine wdu X11 hx hby rfl at_49 rfl rfl ?_
          refine st12 _ ?_
          refine waS X12 hx hby rfl at_53 rfl rfl (l' := #[sL i0, sS, sI i1, sI i2, sR b1, sR b3, sR b11, sU, sU, sU]) rfl ?_
          refine wil X12 hx hby rfl at_55 rfl ?_
          refine wic X12 hx hby rfl at_56 ?_
          refine Own.iand X12.here hx rfl (hb hby at_57) rfl hx57 ?_
          exact kt)
      rcases Decidable.em (x57 = (0 : Int32)) with hp2 | hp2
      · obtain ⟨x73, hx73⟩ : ∃ z, (i2 &&& (8 : Int32)) = z := ⟨_, rfl⟩
        have rx73 : 0 ≤ x73.toInt ∧ x73.toInt ≤ 8 := hx73 ▸ (own_mask i2 (8 : Int32) (by decide) : 0 ≤ ((i2 &&& (8 : Int32))).toInt ∧ ((i2 &&& (8 : Int32))).toInt ≤ 8)
        have pre4 : ∀ t, St p e below T12 (mkF m 74 #[sL i0, sS, sI i1, sI i2, sR b1, sR b3, sR b11, sU, sU, sU] [(vI x73)]) t → St p e below s₁ g0 t := fun t kt => pre3 _ (by
            show St p e below T12 (mkF m 58 #[sL i0, sS, sI i1, sI i2, sR b1, sR b3, sR b11, sU, sU, sU] [(vI x57)]) _
            rw [hp2]
            show St p e below T12 (mkF m 58 #[sL i0, sS, sI i1, sI i2, sR b1, sR b3, sR b11, sU, sU, sU] [(vI 0)]) _
            refine wfy X12 hx hby rfl (pc0 := 58) (pc' := 70) rfl at_58 rfl ((if0 _ _).trans (teq (by decide : (0 : Int32) = (0 : Int32))).1) (by decide) (by decide) ?_
            show St p e below T12 (mkF m 70 #[sL i0, sS, sI i1, sI i2, sR b1, sR b3, sR b11, sU, sU, sU] []) _
            refine wil X12 hx hby rfl at_70 rfl ?_
            refine wbp X12 hx hby rfl at_71 ?_
            refine Own.iand X12.here hx rfl (hb hby at_73) rfl hx73 ?_
            exact kt)
        rcases Decidable.em (x73 = (0 : Int32)) with hp3 | hp3
        · obtain ⟨T13, h13, b13, X13, e13, E13, A13, D13, g13, O13, K13, st13⟩ := own_newO X12 hx hZ hown (hw _ m63) (hw _ m64) (hw _ m65) (rfl : T12.heap = T12.heap) O12 K12 (g := (mkF m 86 #[sL i0, sS, sI i1, sI i2, sR b1, sR b3, sR b11, sN, sU, sU] [])) rfl (hb hby at_86) (by decide) (by decide)
          have F13_1 : Fld Z h13 b13 z0 "values" z6 .null := D13 (Or.inr (hw _ m152)) (ty := (.object z5)) (by decide)
          have F13_2 : Fld Z h13 b13 z0 "names" z6 .null := D13 (Or.inr (hw _ m154)) (ty := (.object z5)) (by decide)
          have F13_3 : Fld Z h13 b13 z0 "pageSize" "I" (vI 0) := D13 (Or.inr (hw _ m156)) (ty := .int) (by decide)
          have F13_4 : Fld Z h13 b13 z0 z16 z13 .null := D13 (Or.inr (hw _ m158)) (ty := (.object z7)) (by decide)
          have f15 : Fld Z h13 b11 z1 z15 z3 (vR w1) := (q12_1.ext E13)
          have f16 : Fld Z h13 b11 z1 "size" "I" (vI 0) := (q12_2.ext E13)
          have f17 : Exa Z h13 b11 z1 := ((A11.keep Kq12).ext E13)
          obtain ⟨_, T14, L14, ⟨c14_0, c14_1, rfl, N14q, Kq14, lo14_0, lo14_1, q14_0, q14_1, q14_2, q14_3, q14_4, q14_5, q14_6, q14_7, q14_8, q14_9, q14_10⟩, X14, st14⟩ := cI X13 hx hZ (W := 1) hown (cw13 cx) (rm15 cx i1 b13 b11 O13 A13 F13_1 F13_2 F13_3 F13_4 f15 f16 f17 (Nat.le_trans (own_old_le O12) g13)) e13 (g := (mkF m 96 #[sL i0, sS, sI i1, sI i2, sR b1, sR b3, sR b11, sN, sU, sU] [.null, (vI i1), .null, (vR b11), (vR b13), (vR b13)])) rfl hml rfl (rest := [(vR b13)]) rfl rfl rfl rfl (hb hby at_96) (by decide)
          have N14 := Fr.app N12 N14q
          have O14 : Old Z n0 T14.heap := O13.keep Kq14 (allS (Nat.le_trans (own_old_le O12) g13) all0)
          have K14 : Keep h0 T14.heap [] := K13.trans Kq14 (allS (Or.inr (Nat.le_trans K12.1 g13)) all0)
          have f19 : Exa Z T14.heap b13 z0 := (A13.keep Kq14)
          obtain ⟨_, T18, L18, ⟨c18_0, rfl, N18q, Kq18, lo18_0, q18_0, q18_1, q18_2, q18_3, q18_4, q18_5⟩, X18, st18⟩ := cS X14 hx hZ (W := 0) hown (cw18 cx) (rm19 cx i0 b1 b3 b13 i1 O14 q14_9 f19 q14_10) (rfl : T14.heap = T14.heap) (g := (mkF m 108 #[sL i0, sS, sI i1, sI i2, sR b1, sR b3, sR b11, sN, sR b13, sU] [(vR b13), (vL i0), (vR b3), (vR b1)])) rfl hml rfl (rest := []) rfl rfl rfl rfl (hb hby at_108) (by decide)
          have N18 := Fr.app N14 N18q
          have O18 : Old Z n0 T18.heap := O14.keep Kq18 all0
          have K18 : Keep h0 T18.heap [] := K14.trans Kq18 all0
          obtain ⟨_, T20, L20, ⟨rfl, N20q, e20⟩, X20, st20⟩ := cV X18 hx hZ (W := 0) hown (cw19 cx) (rm20 cx c18_0 b1 O18 q18_1) (rfl : T18.heap = T18.heap) q18_0 (g := (mkF m 115 #[sL i0, sS, sI i1, sI i2, sR b1, sR b3, sR b11, sN, sR b13, sR c18_0] [(vR c18_0)])) rfl hml rfl (rest := []) rfl rfl rfl rfl (hb hby at_115) (by decide)
          obtain ⟨_, T21, L21, ⟨rfl, N21q, e21⟩, X21, st21⟩ := cV X20 hx hZ (W := 0) hown (cw20 cx) (rm21 cx c18_0 b3 O18 q18_2) e20 q18_0 (g := (mkF m 125 #[sL i0, sS, sI i1, sI i2, sR b1, sR b3, sR b11, sN, sR b13, sR c18_0] [(vR c18_0)])) rfl hml rfl (rest := []) rfl rfl rfl rfl (hb hby at_125) (by decide)
          obtain ⟨_, T22, L22, ⟨rfl, N22q, e22⟩, X22, st22⟩ := cV X21 hx hZ (W := 0) hown (cw21 cx) (rm22 cx c18_0 i0 O18 q18_3) e21 q18_0 (g := (mkF m 135 #[sL i0, sS, sI i1, sI i2, sR b1, sR b3, sR b11, sN, sR b13, sR c18_0] [(vR c18_0)])) rfl hml rfl (rest := []) rfl rfl rfl rfl (hb hby at_135) (by decide)
          obtain ⟨_, T23, L23, ⟨rfl, N23q, e23⟩, X23, st23⟩ := cV X22 hx hZ (W := 0) hown (cw22 cx) (rm23 cx c18_0 i1 O18 q18_4) e22 q18_0 (g := (mkF m 145 #[sL i0, sS, sI i1, sI i2, sR b1, sR b3, sR b11, sN, sR b13, sR c18_0] [(vR c18_0)])) rfl hml rfl (rest := []) rfl rfl rfl rfl (hb hby at_145) (by decide)
          obtain ⟨_, T24, L24, ⟨rfl, N24q, e24⟩, X24, st24⟩ := cV X23 hx hZ (W := 0) hown (cw23 cx) (rm24 cx c18_0 O18 q18_5) e23 q18_0 (g := (mkF m 154 #[sL i0, sS, sI i1, sI i2, sR b1, sR b3, sR b11, sN, sR b13, sR c18_0] [(vR c18_0)])) rfl hml rfl (rest := []) rfl rfl rfl rfl (hb hby at_154) (by decide)
          refine own_end X24 hlk (v := some (vI 1)) (own_hv hret) (by decide) ⟨rfl, (Fr.app (Fr.app (Fr.app (Fr.app (Fr.app N18 N20q) N21q) N22q) N23q) N24q)⟩ fun fs hr => pre4 _ ?_
          show St p e below T12 (mkF m 74 #[sL i0, sS, sI i1, sI i2, sR b1, sR b3, sR b11, sU, sU, sU] [(vI x73)]) _
          rw [hp3]
          show St p e below T12 (mkF m 74 #[sL i0, sS, sI i1, sI i2, sR b1, sR b3, sR b11, sU, sU, sU] [(vI 0)]) _
          refine wfy X12 hx hby rfl (pc0 := 74) (pc' := 83) rfl at_74 rfl ((if0 _ _).trans (teq (by decide : (0 : Int32) = (0 : Int32))).1) (by decide) (by decide) ?_
          show St p e below T12 (mkF m 83 #[sL i0, sS, sI i1, sI i2, sR b1, sR b3, sR b11, sU, sU, sU] []) _
          refine wan X12 hx hby rfl at_83 ?_
          show St p e below T12 (mkF m 84 #[sL i0, sS, sI i1, sI i2, sR b1, sR b3, sR b11, sU, sU, sU] [.null]) _
          refine waS X12 hx hby rfl at_84 rfl rfl (l' := #[sL i0, sS, sI i1, sI i2, sR b1, sR b3, sR b11, sN, sU, sU]) rfl ?_
          refine st13 _ ?_
          refine wdu X13 hx hby rfl at_89 rfl rfl ?_
          refine waL X13 hx hby rfl at_90 rfl rfl ?_
          refine wan X13 hx hby rfl at_92 ?_
          refine wil X13 hx hby rfl at_93 rfl ?_
          refine waL X13 hx hby rfl at_94 rfl rfl ?_
          refine st14 _ ?_
          refine waS X14 hx hby rfl at_99 rfl rfl (l' := #[sL i0, sS, sI i1, sI i2, sR b1, sR b3, sR b11, sN, sR b13, sU]) rfl ?_
          refine waL X14 hx hby rfl at_101 rfl rfl ?_
          refine waL X14 hx hby rfl at_103 rfl rfl ?_
          refine XS.lloadN X14.here hx rfl (hb hby at_105) rfl ?_
          refine waL X14 hx hby rfl at_106 rfl rfl ?_
          refine st18 _ ?_
          refine waS X18 hx hby rfl at_111 rfl rfl (l' := #[sL i0, sS, sI i1, sI i2, sR b1, sR b3, sR b11, sN, sR b13, sR c18_0]) rfl ?_
          refine waL X18 hx hby rfl at_113 rfl rfl ?_
          show St p e below T18 (mkF m 115 #[sL i0, sS, sI i1, sI i2, sR b1, sR b3, sR b11, sN, sR b13, sR c18_0] [(vR c18_0)]) _
          refine st20 _ ?_
          refine waL X20 hx hby rfl at_118 rfl rfl ?_
          refine Jvm.RoadKit.acmp (g := (mkF m 120 #[sL i0, sS, sI i1, sI i2, sR b1, sR b3, sR b11, sN, sR b13, sR c18_0] [(vR b1), (vR b1)])) X20 hx rfl rfl rfl (pc0 := 120) (pc' := 123) (same := true) rfl (hb hby at_120) rfl (decide_eq_true rfl) (by decide) (by decide) ?_
          refine waL X20 hx hby rfl at_123 rfl rfl ?_
          refine st21 _ ?_
          refine waL X21 hx hby rfl at_128 rfl rfl ?_
          refine Jvm.RoadKit.acmp (g := (mkF m 130 #[sL i0, sS, sI i1, sI i2, sR b1, sR b3, sR b11, sN, sR b13, sR c18_0] [(vR b3), (vR b3)])) X21 hx rfl rfl rfl (pc0 := 130) (pc' := 133) (same := true) rfl (hb hby at_130) rfl (decide_eq_true rfl) (by decide) (by decide) ?_
          refine waL X21 hx hby rfl at_133 rfl rfl ?_
          refine st22 _ ?_
          refine XS.lloadN X22.here hx rfl (hb hby at_138) rfl ?_
          refine XS.lcmp X22.here hx rfl (hb hby at_139) rfl ?_
          refine wfn X22 hx hby rfl at_140 rfl ((if0 _ _).trans (teq ((lw_eq i0 i0).mpr (rfl : i0 = i0))).2) ?_
          refine waL X22 hx hby rfl at_143 rfl rfl ?_
          refine st23 _ ?_
          refine wil X23 hx hby rfl at_148 rfl ?_
          refine wcn X23 hx hby rfl at_149 rfl (teq (rfl : i1 = i1)).2 ?_
          show St p e below T23 (mkF m 152 #[sL i0, sS, sI i1, sI i2, sR b1, sR b3, sR b11, sN, sR b13, sR c18_0] []) _
          refine waL X23 hx hby rfl at_152 rfl rfl ?_
          refine st24 _ ?_
          refine waL X24 hx hby rfl at_157 rfl rfl ?_
          refine Jvm.RoadKit.acmp (g := (mkF m 159 #[sL i0, sS, sI i1, sI i2, sR b1, sR b3, sR b11, sN, sR b13, sR c18_0] [.null, .null])) X24 hx rfl rfl rfl (pc0 := 159) (pc' := 162) (same := true) rfl (hb hby at_159) rfl (decide_eq_true rfl) (by decide) (by decide) ?_
          refine wic X24 hx hby rfl at_162 ?_
          refine wgt X24 hx hby rfl (pc0 := 163) (pc' := 167) rfl at_163 (by decide) (by decide) ?_
          show St p e below T24 (mkF m 167 #[sL i0, sS, sI i1, sI i2, sR b1, sR b3, sR b11, sN, sR b13, sR c18_0] [(vI 1)]) _
          exact retN X24 hx (t := .boolean) hret (by simp) (hb hby at_167) hr
        · obtain ⟨T13, X13, e13, st13⟩ := getS2 X12 hx hZ hown (host := "") (Or.inl (hw _ m214)) Via.refl (rfl : T12.heap = T12.heap) (hS.1.ext O12.2) (g := (mkF m 77 #[sL i0, sS, sI i1, sI i2, sR b1, sR b3, sR b11, sU, sU, sU] [])) rfl (hb hby at_77)
          obtain ⟨T14, h14, b14, X14, e14, E14, A14, D14, g14, O14, K14, st14⟩ := own_newO X13 hx hZ hown (hw _ m63) (hw _ m64) (hw _ m65) e13 O12 K12 (g := (mkF m 86 #[sL i0, sS, sI i1, sI i2, sR b1, sR b3, sR b11, sR w0, sU, sU] [])) rfl (hb hby at_86) (by decide) (by decide)
          have F14_1 : Fld Z h14 b14 z0 "values" z6 .null := D14 (Or.inr (hw _ m152)) (ty := (.object z5)) (by decide)
          have F14_2 : Fld Z h14 b14 z0 "names" z6 .null := D14 (Or.inr (hw _ m154)) (ty := (.object z5)) (by decide)
          have F14_3 : Fld Z h14 b14 z0 "pageSize" "I" (vI 0) := D14 (Or.inr (hw _ m156)) (ty := .int) (by decide)
          have F14_4 : Fld Z h14 b14 z0 z16 z13 .null := D14 (Or.inr (hw _ m158)) (ty := (.object z7)) (by decide)
          have f16 : Fld Z h14 b11 z1 z15 z3 (vR w1) := (q12_1.ext E14)
          have f17 : Fld Z h14 b11 z1 "size" "I" (vI 0) := (q12_2.ext E14)
          have f18 : Exa Z h14 b11 z1 := ((A11.keep Kq12).ext E14)
          obtain ⟨_, T15, L15, ⟨c15_0, c15_1, rfl, N15q, Kq15, lo15_0, lo15_1, q15_0, q15_1, q15_2, q15_3, q15_4, q15_5, q15_6, q15_7, q15_8, q15_9, q15_10⟩, X15, st15⟩ := cI X14 hx hZ (W := 1) hown (cw13 cx) (rm25 cx i1 b14 b11 O14 A14 F14_1 F14_2 F14_3 F14_4 f16 f17 f18 (Nat.le_trans (own_old_le O12) g14)) e14 (g := (mkF m 96 #[sL i0, sS, sI i1, sI i2, sR b1, sR b3, sR b11, sR w0, sU, sU] [(vR w0), (vI i1), .null, (vR b11), (vR b14), (vR b14)])) rfl hml rfl (rest := [(vR b14)]) rfl rfl rfl rfl (hb hby at_96) (by decide)
          have N15 := Fr.app N12 N15q
          have O15 : Old Z n0 T15.heap := O14.keep Kq15 (allS (Nat.le_trans (own_old_le O12) g14) all0)
          have K15 : Keep h0 T15.heap [] := K14.trans Kq15 (allS (Or.inr (Nat.le_trans K12.1 g14)) all0)
          have f20 : Exa Z T15.heap b14 z0 := (A14.keep Kq15)
          obtain ⟨_, T19, L19, ⟨c19_0, rfl, N19q, Kq19, lo19_0, q19_0, q19_1, q19_2, q19_3, q19_4, q19_5⟩, X19, st19⟩ := cS X15 hx hZ (W := 0) hown (cw18 cx) (rm28 cx i0 b1 b3 b14 i1 O15 q15_9 f20 q15_10) (rfl : T15.heap = T15.heap) (g := (mkF m 108 #[sL i0, sS, sI i1, sI i2, sR b1, sR b3, sR b11, sR w0, sR b14, sU] [(vR b14), (vL i0), (vR b3), (vR b1)])) rfl hml rfl (rest := []) rfl rfl rfl rfl (hb hby at_108) (by decide)
          have N19 := Fr.app N15 N19q
          have O19 : Old Z n0 T19.heap := O15.keep Kq19 all0
          have K19 : Keep h0 T19.heap [] := K15.trans Kq19 all0
          obtain ⟨_, T21, L21, ⟨rfl, N21q, e21⟩, X21, st21⟩ := cV X19 hx hZ (W := 0) hown (cw19 cx) (rm20 cx c19_0 b1 O19 q19_1) (rfl : T19.heap = T19.heap) q19_0 (g := (mkF m 115 #[sL i0, sS, sI i1, sI i2, sR b1, sR b3, sR b11, sR w0, sR b14, sR c19_0] [(vR c19_0)])) rfl hml rfl (rest := []) rfl rfl rfl rfl (hb hby at_115) (by decide)
          obtain ⟨_, T22, L22, ⟨rfl, N22q, e22⟩, X22, st22⟩ := cV X21 hx hZ (W := 0) hown (cw20 cx) (rm21 cx c19_0 b3 O19 q19_2) e21 q19_0 (g := (mkF m 125 #[sL i0, sS, sI i1, sI i2, sR b1, sR b3, sR b11, sR w0, sR b14, sR c19_0] [(vR c19_0)])) rfl hml rfl (rest := []) rfl rfl rfl rfl (hb hby at_125) (by decide)
          obtain ⟨_, T23, L23, ⟨rfl, N23q, e23⟩, X23, st23⟩ := cV X22 hx hZ (W := 0) hown (cw21 cx) (rm22 cx c19_0 i0 O19 q19_3) e22 q19_0 (g := (mkF m 135 #[sL i0, sS, sI i1, sI i2, sR b1, sR b3, sR b11, sR w0, sR b14, sR c19_0] [(vR c19_0)])) rfl hml rfl (rest := []) rfl rfl rfl rfl (hb hby at_135) (by decide)
          obtain ⟨_, T24, L24, ⟨rfl, N24q, e24⟩, X24, st24⟩ := cV X23 hx hZ (W := 0) hown (cw22 cx) (rm23 cx c19_0 i1 O19 q19_4) e23 q19_0 (g := (mkF m 145 #[sL i0, sS, sI i1, sI i2, sR b1, sR b3, sR b11, sR w0, sR b14, sR c19_0] [(vR c19_0)])) rfl hml rfl (rest := []) rfl rfl rfl rfl (hb hby at_145) (by decide)
          obtain ⟨_, T25, L25, ⟨rfl, N25q, e25⟩, X25, st25⟩ := cV X24 hx hZ (W := 0) hown (cw23 cx) (rm29 cx c19_0 O19 q19_5) e24 q19_0 (g := (mkF m 154 #[sL i0, sS, sI i1, sI i2, sR b1, sR b3, sR b11, sR w0, sR b14, sR c19_0] [(vR c19_0)])) rfl hml rfl (rest := []) rfl rfl rfl rfl (hb hby at_154) (by decide)
          refine own_end X25 hlk (v := some (vI 1)) (own_hv hret) (by decide) ⟨rfl, (Fr.app (Fr.app (Fr.app (Fr.app (Fr.app N19 N21q) N22q) N23q) N24q) N25q)⟩ fun fs hr => pre4 _ ?_
          refine wfn X12 hx hby rfl at_74 rfl ((if0 _ _).trans (feq hp3).1) ?_
          refine st13 _ ?_
          refine wgt X13 hx hby rfl (pc0 := 80) (pc' := 84) rfl at_80 (by decide) (by decide) ?_
          show St p e below T13 (mkF m 84 #[sL i0, sS, sI i1, sI i2, sR b1, sR b3, sR b11, sU, sU, sU] [(vR w0)]) _
          refine waS X13 hx hby rfl at_84 rfl rfl (l' := #[sL i0, sS, sI i1, sI i2, sR b1, sR b3, sR b11, sR w0, sU, sU]) rfl ?_
          refine st14 _ ?_
          refine wdu X14 hx hby rfl at_89 rfl rfl ?_
          refine waL X14 hx hby rfl at_90 rfl rfl ?_
          refine wan X14 hx hby rfl at_92 ?_
          refine wil X14 hx hby rfl at_93 rfl ?_
          refine waL X14 hx hby rfl at_94 rfl rfl ?_
          refine st15 _ ?_
          refine waS X15 hx hby rfl at_99 rfl rfl (l' := #[sL i0, sS, sI i1, sI i2, sR b1, sR b3, sR b11, sR w0, sR b14, sU]) rfl ?_
          refine waL X15 hx hby rfl at_101 rfl rfl ?_
          refine waL X15 hx hby rfl at_103 rfl rfl ?_
          refine XS.lloadN X15.here hx rfl (hb hby at_105) rfl ?_
          refine waL X15 hx hby rfl at_106 rfl rfl ?_
          refine st19 _ ?_
          refine waS X19 hx hby rfl at_111 rfl rfl (l' := #[sL i0, sS, sI i1, sI i2, sR b1, sR b3, sR b11, sR w0, sR b14, sR c19_0]) rfl ?_
          refine waL X19 hx hby rfl at_113 rfl rfl ?_
          show St p e below T19 (mkF m 115 #[sL i0, sS, sI i1, sI i2, sR b1, sR b3, sR b11, sR w0, sR b14, sR c19_0] [(vR c19_0)]) _
          refine st21 _ ?_
          refine waL X21 hx hby rfl at_118 rfl rfl ?_
          refine Jvm.RoadKit.acmp (g := (mkF m 120 #[sL i0, sS, sI i1, sI i2, sR b1, sR b3, sR b11, sR w0, sR b14, sR c19_0] [(vR b1), (vR b1)])) X21 hx rfl rfl rfl (pc0 := 120) (pc' := 123) (same := true) rfl (hb hby at_120) rfl (decide_eq_true rfl) (by decide) (by decide) ?_
          refine waL X21 hx hby rfl at_123 rfl rfl ?_
          refine st22 _ ?_
          refine waL X22 hx hby rfl at_128 rfl rfl ?_
          refine Jvm.RoadKit.acmp (g := (mkF m 130 #[sL i0, sS, sI i1, sI i2, sR b1, sR b3, sR b11, sR w0, sR b14, sR c19_0] [(vR b3), (vR b3)])) X22 hx rfl rfl rfl (pc0 := 130) (pc' := 133) (same := true) rfl (hb hby at_130) rfl (decide_eq_true rfl) (by decide) (by decide) ?_
          refine waL X22 hx hby rfl at_133 rfl rfl ?_
          refine st23 _ ?_
          refine XS.lloadN X23.here hx rfl (hb hby at_138) rfl ?_
          refine XS.lcmp X23.here hx rfl (hb hby at_139) rfl ?_
          refine wfn X23 hx hby rfl at_140 rfl ((if0 _ _).trans (teq ((lw_eq i0 i0).mpr (rfl : i0 = i0))).2) ?_
          refine waL X23 hx hby rfl at_143 rfl rfl ?_
          refine st24 _ ?_
          refine wil X24 hx hby rfl at_148 rfl ?_
          refine wcn X24 hx hby rfl at_149 rfl (teq (rfl : i1 = i1)).2 ?_
          show St p e below T24 (mkF m 152 #[sL i0, sS, sI i1, sI i2, sR b1, sR b3, sR b11, sR w0, sR b14, sR c19_0] []) _
          refine waL X24 hx hby rfl at_152 rfl rfl ?_
          refine st25 _ ?_
          refine waL X25 hx hby rfl at_157 rfl rfl ?_
          refine Jvm.RoadKit.acmp (g := (mkF m 159 #[sL i0, sS, sI i1, sI i2, sR b1, sR b3, sR b11, sR w0, sR b14, sR c19_0] [(vR w0), (vR w0)])) X25 hx rfl rfl rfl (pc0 := 159) (pc' := 162) (same := true) rfl (hb hby at_159) rfl (decide_eq_true rfl) (by decide) (by decide) ?_
          refine wic X25 hx hby rfl at_162 ?_
          refine wgt X25 hx hby rfl (pc0 := 163) (pc' := 167) rfl at_163 (by decide) (by decide) ?_
          show St p e below T25 (mkF m 167 #[sL i0, sS, sI i1, sI i2, sR b1, sR b3, sR b11, sR w0, sR b14, sR c19_0] [(vI 1)]) _
          exact retN X25 hx (t := .boolean) hret (by simp) (hb hby at_167) hr
      · obtain ⟨T13, X13, e13, st13⟩ := getS2 X12 hx hZ hown (host := "") (Or.inl (hw _ m214)) Via.refl (rfl : T12.heap = T12.heap) (hS.1.ext O12.2) (g := (mkF m 63 #[sL i0, sS, sI i1, sI i2, sR b1, sR b3, sR b11, sU, sU, sU] [(vR b11)])) rfl (hb hby at_63)
        have f15 : Exa Z T12.heap b11 z1 := (A11.keep Kq12)
        obtain ⟨_, T14, L14, ⟨c14_0, k14_1, rfl, N14q, Kq14, lo14_0, q14_0, q14_1, q14_2, q14_3, q14_4, q14_5⟩, X14, st14⟩ := cV X13 hx hZ (W := 0) hown (cw25 cx) (rm34 cx b11 O12 f15 q12_0 q12_1 q12_2 (Nat.le_trans (own_old_le O8) g11)) e13 f15 (g := (mkF m 66 #[sL i0, sS, sI i1, sI i2, sR b1, sR b3, sR b11, sU, sU, sU] [(vR w0), (vR b11)])) rfl hml rfl (rest := []) rfl rfl rfl rfl (hb hby at_66) (by decide)
        have N14 := Fr.app N12 N14q
        have O14 : Old Z n0 T14.heap := O12.keep Kq14 (allS (Nat.le_trans (own_old_le O8) g11) all0)
        have K14 : Keep h0 T14.heap [] := K12.trans Kq14 (allS (Or.inr (Nat.le_trans K8.1 g11)) all0)
        obtain ⟨x73, hx73⟩ : ∃ z, (i2 &&& (8 : Int32)) = z := ⟨_, rfl⟩
        have rx73 : 0 ≤ x73.toInt ∧ x73.toInt ≤ 8 := hx73 ▸ (own_mask i2 (8 : Int32) (by decide) : 0 ≤ ((i2 &&& (8 : Int32))).toInt ∧ ((i2 &&& (8 : Int32))).toInt ≤ 8)
        have pre4 : ∀ t, St p e below T14 (mkF m 74 #[sL i0, sS, sI i1, sI i2, sR b1, sR b3, sR b11, sU, sU, sU] [(vI x73)]) t → St p e below s₁ g0 t := fun t kt => pre3 _ (by
            refine wfn X12 hx hby rfl at_58 rfl ((if0 _ _).trans (feq hp2).1) ?_
            refine waL X12 hx hby rfl at_61 rfl rfl ?_
            refine st13 _ ?_
            refine st14 _ ?_
            refine XS.pop X14.here hx rfl (hb hby at_69) rfl rfl ?_
            show St p e below T14 (mkF m 70 #[sL i0, sS, sI i1, sI i2, sR b1, sR b3, sR b11, sU, sU, sU] []) _
            refine wil X14 hx hby rfl at_70 rfl ?_
            refine wbp X14 hx hby rfl at_71 ?_
            refine Own.iand X14.here hx rfl (hb hby at_73) rfl hx73 ?_
            exact kt)
        rcases Decidable.em (x73 = (0 : Int32)) with hp3 | hp3
        · obtain ⟨T16, h16, b16, X16, e16, E16, A16, D16, g16, O16, K16, st16⟩ := own_newO X14 hx hZ hown (hw _ m63) (hw _ m64) (hw _ m65) (rfl : T14.heap = T14.heap) O14 K14 (g := (mkF m 86 #[sL i0, sS, sI i1, sI i2, sR b1, sR b3, sR b11, sN, sU, sU] [])) rfl (hb hby at_86) (by decide) (by decide)
          have F16_1 : Fld Z h16 b16 z0 "values" z6 .null := D16 (Or.inr (hw _ m152)) (ty := (.object z5)) (by decide)
          have F16_2 : Fld Z h16 b16 z0 "names" z6 .null := D16 (Or.inr (hw _ m154)) (ty := (.object z5)) (by decide)
          have F16_3 : Fld Z h16 b16 z0 "pageSize" "I" (vI 0) := D16 (Or.inr (hw _ m156)) (ty := .int) (by decide)
          have F16_4 : Fld Z h16 b16 z0 z16 z13 .null := D16 (Or.inr (hw _ m158)) (ty := (.object z7)) (by decide)
          have f18 : Fld Z h16 b11 z1 z15 z3 (vR c14_0) := (q14_4.ext E16)
          have f19 : Fld Z h16 b11 z1 "size" "I" (vI 1) := (q14_5.ext E16)
          have f20 : Exa Z h16 c14_0 z3 := (q14_2.ext E16)
          have f21 : Arv Z h16 c14_0 k14_1 (.object z4) (10 : Int32) [(vR w0), .null, .null, .null, .null, .null, .null, .null, .null, .null] .null := (q14_0.ext E16)
          have f22 : Exa Z h16 b11 z1 := ((f15.keep Kq14).ext E16)
          obtain ⟨_, T17, L17, ⟨c17_0, c17_1, c17_2, k17_3, rfl, N17q, Kq17, lo17_0, lo17_1, lo17_2, q17_0, q17_1, q17_2, q17_3, q17_4, q17_5, q17_6, q17_7, q17_8, q17_9, q17_10, q17_11, q17_12, q17_13⟩, X17, st17⟩ := cI X16 hx hZ (W := 1) hown (cw13 cx) (rm40 cx i1 b16 b11 c14_0 k14_1 O16 A16 F16_1 F16_2 F16_3 F16_4 f18 f19 f20 f21 f22 (Nat.le_trans (own_old_le O14) g16)) e16 (g := (mkF m 96 #[sL i0, sS, sI i1, sI i2, sR b1, sR b3, sR b11, sN, sU, sU] [.null, (vI i1), .null, (vR b11), (vR b16), (vR b16)])) rfl hml rfl (rest := [(vR b16)]) rfl rfl rfl rfl (hb hby at_96) (by decide)
          have N17 := Fr.app N14 N17q
          have O17 : Old Z n0 T17.heap := O16.keep Kq17 (allS (Nat.le_trans (own_old_le O14) g16) all0)
          have K17 : Keep h0 T17.heap [] := K16.trans Kq17 (allS (Or.inr (Nat.le_trans K14.1 g16)) all0)
          have f24 : Exa Z T17.heap b16 z0 := (A16.keep Kq17)
          obtain ⟨_, T23, L23, ⟨c23_0, rfl, N23q, Kq23, lo23_0, q23_0, q23_1, q23_2, q23_3, q23_4, q23_5⟩, X23, st23⟩ := cS X17 hx hZ (W := 0) hown (cw18 cx) (rm19 cx i0 b1 b3 b16 i1 O17 q17_12 f24 q17_13) (rfl : T17.heap = T17.heap) (g := (mkF m 108 #[sL i0, sS, sI i1, sI i2, sR b1, sR b3, sR b11, sN, sR b16, sU] [(vR b16), (vL i0), (vR b3), (vR b1)])) rfl hml rfl (rest := []) rfl rfl rfl rfl (hb hby at_108) (by decide)
          have N23 := Fr.app N17 N23q
          have O23 : Old Z n0 T23.heap := O17.keep Kq23 all0
          have K23 : Keep h0 T23.heap [] := K17.trans Kq23 all0
          obtain ⟨_, T25, L25, ⟨rfl, N25q, e25⟩, X25, st25⟩ := cV X23 hx hZ (W := 0) hown (cw19 cx) (rm20 cx c23_0 b1 O23 q23_1) (rfl : T23.heap = T23.heap) q23_0 (g := (mkF m 115 #[sL i0, sS, sI i1, sI i2, sR b1, sR b3, sR b11, sN, sR b16, sR c23_0] [(vR c23_0)])) rfl hml rfl (rest := []) rfl rfl rfl rfl (hb hby at_115) (by decide)
          obtain ⟨_, T26, L26, ⟨rfl, N26q, e26⟩, X26, st26⟩ := cV X25 hx hZ (W := 0) hown (cw20 cx) (rm21 cx c23_0 b3 O23 q23_2) e25 q23_0 (g := (mkF m 125 #[sL i0, sS, sI i1, sI i2, sR b1, sR b3, sR b11, sN, sR b16, sR c23_0] [(vR c23_0)])) rfl hml rfl (rest := []) rfl rfl rfl rfl (hb hby at_125) (by decide)
          obtain ⟨_, T27, L27, ⟨rfl, N27q, e27⟩, X27, st27⟩ := cV X26 hx hZ (W := 0) hown (cw21 cx) (rm22 cx c23_0 i0 O23 q23_3) e26 q23_0 (g := (mkF m 135 #[sL i0, sS, sI i1, sI i2, sR b1, sR b3, sR b11, sN, sR b16, sR c23_0] [(vR c23_0)])) rfl hml rfl (rest := []) rfl rfl rfl rfl (hb hby at_135) (by decide)
          obtain ⟨_, T28, L28, ⟨rfl, N28q, e28⟩, X28, st28⟩ := cV X27 hx hZ (W := 0) hown (cw22 cx) (rm23 cx c23_0 i1 O23 q23_4) e27 q23_0 (g := (mkF m 145 #[sL i0, sS, sI i1, sI i2, sR b1, sR b3, sR b11, sN, sR b16, sR c23_0] [(vR c23_0)])) rfl hml rfl (rest := []) rfl rfl rfl rfl (hb hby at_145) (by decide)
          obtain ⟨_, T29, L29, ⟨rfl, N29q, e29⟩, X29, st29⟩ := cV X28 hx hZ (W := 0) hown (cw23 cx) (rm24 cx c23_0 O23 q23_5) e28 q23_0 (g := (mkF m 154 #[sL i0, sS, sI i1, sI i2, sR b1, sR b3, sR b11, sN, sR b16, sR c23_0] [(vR c23_0)])) rfl hml rfl (rest := []) rfl rfl rfl rfl (hb hby at_154) (by decide)
          refine own_end X29 hlk (v := some (vI 1)) (own_hv hret) (by decide) ⟨rfl, (Fr.app (Fr.app (Fr.app (Fr.app (Fr.app N23 N25q) N26q) N27q) N28q) N29q)⟩ fun fs hr => pre4 _ ?_
          show St p e below T14 (mkF m 74 #[sL i0, sS, sI i1, sI i2, sR b1, sR b3, sR b11, sU, sU, sU] [(vI x73)]) _
          rw [hp3]
          show St p e below T14 (mkF m 74 #[sL i0, sS, sI i1, sI i2, sR b1, sR b3, sR b11, sU, sU, sU] [(vI 0)]) _
          refine wfy X14 hx hby rfl (pc0 := 74) (pc' := 83) rfl at_74 rfl ((if0 _ _).trans (teq (by decide : (0 : Int32) = (0 : Int32))).1) (by decide) (by decide) ?_
          show St p e below T14 (mkF m 83 #[sL i0, sS, sI i1, sI i2, sR b1, sR b3, sR b11, sU, sU, sU] []) _
          refine wan X14 hx hby rfl at_83 ?_
          show St p e below T14 (mkF m 84 #[sL i0, sS, sI i1, sI i2, sR b1, sR b3, sR b11, sU, sU, sU] [.null]) _
          refine waS X14 hx hby rfl at_84 rfl rfl (l' := #[sL i0, sS, sI i1, sI i2, sR b1, sR b3, sR b11, sN, sU, sU]) rfl ?_
          refine st16 _ ?_
          refine wdu X16 hx hby rfl at_89 rfl rfl ?_
          refine waL X16 hx hby rfl at_90 rfl rfl ?_
          refine wan X16 hx hby rfl at_92 ?_
          refine wil X16 hx hby rfl at_93 rfl ?_
          refine waL X16 hx hby rfl at_94 rfl rfl ?_
          refine st17 _ ?_
          refine waS X17 hx hby rfl at_99 rfl rfl (l' := #[sL i0, sS, sI i1, sI i2, sR b1, sR b3, sR b11, sN, sR b16, sU]) rfl ?_
          refine waL X17 hx hby rfl at_101 rfl rfl ?_
          refine waL X17 hx hby rfl at_103 rfl rfl ?_
          refine XS.lloadN X17.here hx rfl (hb hby at_105) rfl ?_
          refine waL X17 hx hby rfl at_106 rfl rfl ?_
          refine st23 _ ?_
          refine waS X23 hx hby rfl at_111 rfl rfl (l' := #[sL i0, sS, sI i1, sI i2, sR b1, sR b3, sR b11, sN, sR b16, sR c23_0]) rfl ?_
          refine waL X23 hx hby rfl at_113 rfl rfl ?_
          show St p e below T23 (mkF m 115 #[sL i0, sS, sI i1, sI i2, sR b1, sR b3, sR b11, sN, sR b16, sR c23_0] [(vR c23_0)]) _
          refine st25 _ ?_
          refine waL X25 hx hby rfl at_118 rfl rfl ?_
          refine Jvm.RoadKit.acmp (g := (mkF m 120 #[sL i0, sS, sI i1, sI i2, sR b1, sR b3, sR b11, sN, sR b16, sR c23_0] [(vR b1), (vR b1)])) X25 hx rfl rfl rfl (pc0 := 120) (pc' := 123) (same := true) rfl (hb hby at_120) rfl (decide_eq_true rfl) (by decide) (by decide) ?_
          refine waL X25 hx hby rfl at_123 rfl rfl ?_
          refine st26 _ ?_
          refine waL X26 hx hby rfl at_128 rfl rfl ?_
          refine Jvm.RoadKit.acmp (g := (mkF m 130 #[sL i0, sS, sI i1, sI i2, sR b1, sR b3, sR b11, sN, sR b16, sR c23_0] [(vR b3), (vR b3)])) X26 hx rfl rfl rfl (pc0 := 130) (pc' := 133) (same := true) rfl (hb hby at_130) rfl (decide_eq_true rfl) (by decide) (by decide) ?_
          refine waL X26 hx hby rfl at_133 rfl rfl ?_
          refine st27 _ ?_
          refine XS.lloadN X27.here hx rfl (hb hby at_138) rfl ?_
          refine XS.lcmp X27.here hx rfl (hb hby at_139) rfl ?_
          refine wfn X27 hx hby rfl at_140 rfl ((if0 _ _).trans (teq ((lw_eq i0 i0).mpr (rfl : i0 = i0))).2) ?_
          refine waL X27 hx hby rfl at_143 rfl rfl ?_
          refine st28 _ ?_
          refine wil X28 hx hby rfl at_148 rfl ?_
          refine wcn X28 hx hby rfl at_149 rfl (teq (rfl : i1 = i1)).2 ?_
          show St p e below T28 (mkF m 152 #[sL i0, sS, sI i1, sI i2, sR b1, sR b3, sR b11, sN, sR b16, sR c23_0] []) _
          refine waL X28 hx hby rfl at_152 rfl rfl ?_
          refine st29 _ ?_
          refine waL X29 hx hby rfl at_157 rfl rfl ?_
          refine Jvm.RoadKit.acmp (g := (mkF m 159 #[sL i0, sS, sI i1, sI i2, sR b1, sR b3, sR b11, sN, sR b16, sR c23_0] [.null, .null])) X29 hx rfl rfl rfl (pc0 := 159) (pc' := 162) (same := true) rfl (hb hby at_159) rfl (decide_eq_true rfl) (by decide) (by decide) ?_
          refine wic X29 hx hby rfl at_162 ?_
          refine wgt X29 hx hby rfl (pc0 := 163) (pc' := 167) rfl at_163 (by decide) (by decide) ?_
          show St p e below T29 (mkF m 167 #[sL i0, sS, sI i1, sI i2, sR b1, sR b3, sR b11, sN, sR b16, sR c23_0] [(vI 1)]) _
          exact retN X29 hx (t := .boolean) hret (by simp) (hb hby at_167) hr
        · obtain ⟨T16, X16, e16, st16⟩ := getS2 X14 hx hZ hown (host := "") (Or.inl (hw _ m214)) Via.refl (rfl : T14.heap = T14.heap) (hS.1.ext O14.2) (g := (mkF m 77 #[sL i0, sS, sI i1, sI i2, sR b1, sR b3, sR b11, sU, sU, sU] [])) rfl (hb hby at_77)
          obtain ⟨T17, h17, b17, X17, e17, E17, A17, D17, g17, O17, K17, st17⟩ := own_newO X16 hx hZ hown (hw _ m63) (hw _ m64) (hw _ m65) e16 O14 K14 (g := (mkF m 86 #[sL i0, sS, sI i1, sI i2, sR b1, sR b3, sR b11, sR w0, sU, sU] [])) rfl (hb hby at_86) (by decide) (by decide)
          have F17_1 : Fld Z h17 b17 z0 "values" z6 .null := D17 (Or.inr (hw _ m152)) (ty := (.object z5)) (by decide)
          have F17_2 : Fld Z h17 b17 z0 "names" z6 .null := D17 (Or.inr (hw _ m154)) (ty := (.object z5)) (by decide)
          have F17_3 : Fld Z h17 b17 z0 "pageSize" "I" (vI 0) := D17 (Or.inr (hw _ m156)) (ty := .int) (by decide)
          have F17_4 : Fld Z h17 b17 z0 z16 z13 .null := D17 (Or.inr (hw _ m158)) (ty := (.object z7)) (by decide)
          have f19 : Fld Z h17 b11 z1 z15 z3 (vR c14_0) := (q14_4.ext E17)
          have f20 : Fld Z h17 b11 z1 "size" "I" (vI 1) := (q14_5.ext E17)
          have f21 : Exa Z h17 c14_0 z3 := (q14_2.ext E17)
          have f22 : Arv Z h17 c14_0 k14_1 (.object z4) (10 : Int32) [(vR w0), .null, .null, .null, .null, .null, .null, .null, .null, .null] .null := (q14_0.ext E17)
          have f23 : Exa Z h17 b11 z1 := ((f15.keep Kq14).ext E17)
          obtain ⟨_, T18, L18, ⟨c18_0, c18_1, c18_2, k18_3, rfl, N18q, Kq18, lo18_0, lo18_1, lo18_2, q18_0, q18_1, q18_2, q18_3, q18_4, q18_5, q18_6, q18_7, q18_8, q18_9, q18_10, q18_11, q18_12, q18_13⟩, X18, st18⟩ := cI X17 hx hZ (W := 1) hown (cw13 cx) (rm41 cx i1 b17 b11 c14_0 k14_1 O17 A17 F17_1 F17_2 F17_3 F17_4 f19 f20 f21 f22 f23 (Nat.le_trans (own_old_le O14) g17)) e17 (g := (mkF m 96 #[sL i0, sS, sI i1, sI i2, sR b1, sR b3, sR b11, sR w0, sU, sU] [(vR w0), (vI i1), .null, (vR b11), (vR b17), (vR b17)])) rfl hml rfl (rest := [(vR b17)]) rfl rfl rfl rfl (hb hby at_96) (by decide)
          have N18 := Fr.app N14 N18q
          have O18 : Old Z n0 T18.heap := O17.keep Kq18 (allS (Nat.le_trans (own_old_le O14) g17) all0)
          have K18 : Keep h0 T18.heap [] := K17.trans Kq18 (allS (Or.inr (Nat.le_trans K14.1 g17)) all0)
          have f25 : Exa Z T18.heap b17 z0 := (A17.keep Kq18)
          obtain ⟨_, T24, L24, ⟨c24_0, rfl, N24q, Kq24, lo24_0, q24_0, q24_1, q24_2, q24_3, q24_4, q24_5⟩, X24, st24⟩ := cS X18 hx hZ (W := 0) hown (cw18 cx) (rm28 cx i0 b1 b3 b17 i1 O18 q18_12 f25 q18_13) (rfl : T18.heap = T18.heap) (g := (mkF m 108 #[sL i0, sS, sI i1, sI i2, sR b1, sR b3, sR b11, sR w0, sR b17, sU] [(vR b17), (vL i0), (vR b3), (vR b1)])) rfl hml rfl (rest := []) rfl rfl rfl rfl (hb hby at_108) (by decide)
          have N24 := Fr.app N18 N24q
          have O24 : Old Z n0 T24.heap := O18.keep Kq24 all0
          have K24 : Keep h0 T24.heap [] := K18.trans Kq24 all0
          obtain ⟨_, T26, L26, ⟨rfl, N26q, e26⟩, X26, st26⟩ := cV X24 hx hZ (W := 0) hown (cw19 cx) (rm20 cx c24_0 b1 O24 q24_1) (rfl : T24.heap = T24.heap) q24_0 (g := (mkF m 115 #[sL i0, sS, sI i1, sI i2, sR b1, sR b3, sR b11, sR w0, sR b17, sR c24_0] [(vR c24_0)])) rfl hml rfl (rest := []) rfl rfl rfl rfl (hb hby at_115) (by decide)
          obtain ⟨_, T27, L27, ⟨rfl, N27q, e27⟩, X27, st27⟩ := cV X26 hx hZ (W := 0) hown (cw20 cx) (rm21 cx c24_0 b3 O24 q24_2) e26 q24_0 (g := (mkF m 125 #[sL i0, sS, sI i1, sI i2, sR b1, sR b3, sR b11, sR w0, sR b17, sR c24_0] [(vR c24_0)])) rfl hml rfl (rest := []) rfl rfl rfl rfl (hb hby at_125) (by decide)
          obtain ⟨_, T28, L28, ⟨rfl, N28q, e28⟩, X28, st28⟩ := cV X27 hx hZ (W := 0) hown (cw21 cx) (rm22 cx c24_0 i0 O24 q24_3) e27 q24_0 (g := (mkF m 135 #[sL i0, sS, sI i1, sI i2, sR b1, sR b3, sR b11, sR w0, sR b17, sR c24_0] [(vR c24_0)])) rfl hml rfl (rest := []) rfl rfl rfl rfl (hb hby at_135) (by decide)
          obtain ⟨_, T29, L29, ⟨rfl, N29q, e29⟩, X29, st29⟩ := cV X28 hx hZ (W := 0) hown (cw22 cx) (rm23 cx c24_0 i1 O24 q24_4) e28 q24_0 (g := (mkF m 145 #[sL i0, sS, sI i1, sI i2, sR b1, sR b3, sR b11, sR w0, sR b17, sR c24_0] [(vR c24_0)])) rfl hml rfl (rest := []) rfl rfl rfl rfl (hb hby at_145) (by decide)
          obtain ⟨_, T30, L30, ⟨rfl, N30q, e30⟩, X30, st30⟩ := cV X29 hx hZ (W := 0) hown (cw23 cx) (rm29 cx c24_0 O24 q24_5) e29 q24_0 (g := (mkF m 154 #[sL i0, sS, sI i1, sI i2, sR b1, sR b3, sR b11, sR w0, sR b17, sR c24_0] [(vR c24_0)])) rfl hml rfl (rest := []) rfl rfl rfl rfl (hb hby at_154) (by decide)
          refine own_end X30 hlk (v := some (vI 1)) (own_hv hret) (by decide) ⟨rfl, (Fr.app (Fr.app (Fr.app (Fr.app (Fr.app N24 N26q) N27q) N28q) N29q) N30q)⟩ fun fs hr => pre4 _ ?_
          refine wfn X14 hx hby rfl at_74 rfl ((if0 _ _).trans (feq hp3).1) ?_
          refine st16 _ ?_
          refine wgt X16 hx hby rfl (pc0 := 80) (pc' := 84) rfl at_80 (by decide) (by decide) ?_
          show St p e below T16 (mkF m 84 #[sL i0, sS, sI i1, sI i2, sR b1, sR b3, sR b11, sU, sU, sU] [(vR w0)]) _
          refine waS X16 hx hby rfl at_84 rfl rfl (l' := #[sL i0, sS, sI i1, sI i2, sR b1, sR b3, sR b11, sR w0, sU, sU]) rfl ?_
          refine st17 _ ?_
          refine wdu X17 hx hby rfl at_89 rfl rfl ?_
          refine waL X17 hx hby rfl at_90 rfl rfl ?_
          refine wan X17 hx hby rfl at_92 ?_
          refine wil X17 hx hby rfl at_93 rfl ?_
          refine waL X17 hx hby rfl at_94 rfl rfl ?_
          refine st18 _ ?_
          refine waS X18 hx hby rfl at_99 rfl rfl (l' := #[sL i0, sS, sI i1, sI i2, sR b1, sR b3, sR b11, sR w0, sR b17, sU]) rfl ?_
          refine waL X18 hx hby rfl at_101 rfl rfl ?_
          refine waL X18 hx hby rfl at_103 rfl rfl ?_
          refine XS.lloadN X18.here hx rfl (hb hby at_105) rfl ?_
          refine waL X18 hx hby rfl at_106 rfl rfl ?_
          refine st24 _ ?_
          refine waS X24 hx hby rfl at_111 rfl rfl (l' := #[sL i0, sS, sI i1, sI i2, sR b1, sR b3, sR b11, sR w0, sR b17, sR c24_0]) rfl ?_
          refine waL X24 hx hby rfl at_113 rfl rfl ?_
          show St p e below T24 (mkF m 115 #[sL i0, sS, sI i1, sI i2, sR b1, sR b3, sR b11, sR w0, sR b17, sR c24_0] [(vR c24_0)]) _
          refine st26 _ ?_
          refine waL X26 hx hby rfl at_118 rfl rfl ?_
          refine Jvm.RoadKit.acmp (g := (mkF m 120 #[sL i0, sS, sI i1, sI i2, sR b1, sR b3, sR b11, sR w0, sR b17, sR c24_0] [(vR b1), (vR b1)])) X26 hx rfl rfl rfl (pc0 := 120) (pc' := 123) (same := true) rfl (hb hby at_120) rfl (decide_eq_true rfl) (by decide) (by decide) ?_
          refine waL X26 hx hby rfl at_123 rfl rfl ?_
          refine st27 _ ?_
          refine waL X27 hx hby rfl at_128 rfl rfl ?_
          refine Jvm.RoadKit.acmp (g := (mkF m 130 #[sL i0, sS, sI i1, sI i2, sR b1, sR b3, sR b11, sR w0, sR b17, sR c24_0] [(vR b3), (vR b3)])) X27 hx rfl rfl rfl (pc0 := 130) (pc' := 133) (same := true) rfl (hb hby at_130) rfl (decide_eq_true rfl) (by decide) (by decide) ?_
          refine waL X27 hx hby rfl at_133 rfl rfl ?_
          refine st28 _ ?_
          refine XS.lloadN X28.here hx rfl (hb hby at_138) rfl ?_
          refine XS.lcmp X28.here hx rfl (hb hby at_139) rfl ?_
          refine wfn X28 hx hby rfl at_140 rfl ((if0 _ _).trans (teq ((lw_eq i0 i0).mpr (rfl : i0 = i0))).2) ?_
          refine waL X28 hx hby rfl at_143 rfl rfl ?_
          refine st29 _ ?_
          refine wil X29 hx hby rfl at_148 rfl ?_
          refine wcn X29 hx hby rfl at_149 rfl (teq (rfl : i1 = i1)).2 ?_
          show St p e below T29 (mkF m 152 #[sL i0, sS, sI i1, sI i2, sR b1, sR b3, sR b11, sR w0, sR b17, sR c24_0] []) _
          refine waL X29 hx hby rfl at_152 rfl rfl ?_
          refine st30 _ ?_
          refine waL X30 hx hby rfl at_157 rfl rfl ?_
          refine Jvm.RoadKit.acmp (g := (mkF m 159 #[sL i0, sS, sI i1, sI i2, sR b1, sR b3, sR b11, sR w0, sR b17, sR c24_0] [(vR w0), (vR w0)])) X30 hx rfl rfl rfl (pc0 := 159) (pc' := 162) (same := true) rfl (hb hby at_159) rfl (decide_eq_true rfl) (by decide) (by decide) ?_
          refine wic X30 hx hby rfl at_162 ?_
          refine wgt X30 hx hby rfl (pc0 := 163) (pc' := 167) rfl at_163 (by decide) (by decide) ?_
          show St p e below T30 (mkF m 167 #[sL i0, sS, sI i1, sI i2, sR b1, sR b3, sR b11, sR w0, sR b17, sR c24_0] [(vI 1)]) _
          exact retN X30 hx (t := .boolean) hret (by simp) (hb hby at_167) hr
theorem comes_1 {Post : Tables → Env → Array Value → State → Outcome → State → Prop} (hpost : ∀ tb e args s v u, (limb_1_1.after args s (.returned v) u = true ∧ limb_1_2.after args s (.returned v) u = true ∧ True) → FrameEnd s (.returned v) u (Jvm.fieldLocs frame_1_writes args s ++ Jvm.arrayLocs frame_1_arrays args s ++ Jvm.staticLocs frame_1_statics s) 32 192 → Post tb e args s (.returned v) u) :
    ArmFor flags0 classFile x code maxLocals ret World_1 tables_1 room_1 Calls_1 rest_1 Pre_1 Post := by
  intro l hfl _ _ p e ha hc hk s m args below hf hA hF happ hP
  obtain ⟨hcalls, hrest, hpre⟩ := hP
  obtain ⟨-, -, -, hnamed, -, -, -, hat⟩ := (Spec.applies_iff hf).mp happ
  obtain ⟨hg, hn⟩ := and_e (Cond.before_iff.mp (show (Jvm.Cond.and given_1 narrow_1).before args s = true from hpre))
  obtain ⟨g1a, g1b⟩ := and_e hg
  obtain ⟨g2a, g2b⟩ := and_e g1b
  obtain ⟨g3a, g3b⟩ := and_e g2b
  obtain ⟨v0, v1, v2, rfl⟩ : ∃ v0 v1 v2 : Value, args = #[v0, v1, v2] := by
    have hs : args.size = 3 := by simpa [Cond.value, given_1] using g1a
    obtain ⟨L⟩ := args
    match L, hs with
    | [v0, v1, v2], _ => exact ⟨v0, v1, v2, rfl⟩
  have hw := fun d (hd : d ∈ tables_1) => atoms_spec (ws := Jvm.Cond.code x code maxLocals ret :: tables_1) hat d (List.mem_cons_of_mem _ hd)
  have hfit : Fit s := fun {y c} hc i hi => by
    obtain ⟨ha, rfl⟩ := Array.getElem?_eq_some_iff.mp hc
    have q := List.all_eq_true.mp ((Array.all_eq_true_iff_forall_mem.mp hF) _ (Array.getElem_mem ha)) i (List.mem_range.mpr hi)
    simpa [Array.getElem?_eq_getElem hi] using q
  obtain ⟨hj, hown0⟩ := atoms_of _ (rest_1_c_eq ▸ (show rest_1_c.before _ s = true from hrest))
  obtain ⟨i0, ei0⟩ := isL_v g2a
  obtain rfl : v0 = (.long i0) := Option.some.inj ei0
  obtain ⟨i1, ei1⟩ := is_v g3a
  obtain rfl : v1 = (.int i1) := Option.some.inj ei1
  obtain ⟨i2, ei2⟩ := is_v g3b
  obtain rfl : v2 = (.int i2) := Option.some.inj ei2
  obtain ⟨w0, evw0⟩ := exa_v hn
  obtain ⟨w1, evw1⟩ := arr_v (Cond.before_iff.mp (hj _ (List.mem_of_getElem? (i := 6) rfl)))
  obtain ⟨clw1, Aw1⟩ := Arr.start evw1 (Cond.before_iff.mp (hj _ (List.mem_of_getElem? (i := 6) rfl)))
  have lw1 := own_len evw1 Aw1 (Cond.before_iff.mp (hj _ (List.mem_of_getElem? (i := 8) rfl)))
  obtain ⟨kw1, ekw1⟩ : ∃ z, z = clw1.cls := ⟨_, rfl⟩
  have Vw1 := Arv.start (dv := .null) hfit Aw1 lw1.1 lw1.2 (by decide) (vs := []) rfl trivial
  rw [← ekw1] at Vw1
  obtain ⟨w2, evw2⟩ := arr_v (Cond.before_iff.mp (hj _ (List.mem_of_getElem? (i := 3) rfl)))
  obtain ⟨clw2, Aw2⟩ := Arr.start evw2 (Cond.before_iff.mp (hj _ (List.mem_of_getElem? (i := 3) rfl)))
  have lw2 := own_len evw2 Aw2 (Cond.before_iff.mp (hj _ (List.mem_of_getElem? (i := 5) rfl)))
  obtain ⟨kw2, ekw2⟩ : ∃ z, z = clw2.cls := ⟨_, rfl⟩
  have Vw2 := Arv.start (dv := .null) hfit Aw2 lw2.1 lw2.2 (by decide) (vs := []) rfl trivial
  rw [← ekw2] at Vw2
  obtain ⟨cmr1, kmr1, mr1, hmr1⟩ := hcalls.1
  obtain ⟨cmr2, kmr2, mr2, hmr2⟩ := hcalls.2.1
  obtain ⟨cmr3, kmr3, mr3, hmr3⟩ := hcalls.2.2.1
  obtain ⟨cmr4, kmr4, mr4, hmr4⟩ := hcalls.2.2.2.1
  have hS : SF s w0 w1 kw1 w2 kw2 mr1 mr2 mr3 mr4 := ⟨Sta.start evw0 (Or.inr ⟨(hw _ m65), (hw _ m215)⟩), Exa.start evw0 hn, Sta.start evw1 (Or.inr ⟨(hw _ m11), (hj _ j2)⟩), Vw1, Exa.start evw1 (Cond.before_iff.mp (hj _ (List.mem_of_getElem? (i := 7) rfl))), Sta.start evw2 (Or.inl (hj _ j1)), Vw2, Exa.start evw2 (Cond.before_iff.mp (hj _ (List.mem_of_getElem? (i := 4) rfl))), ⟨cmr1, kmr1, hmr1⟩, ⟨cmr2, kmr2, hmr2⟩, ⟨cmr3, kmr3, hmr3⟩, ⟨cmr4, kmr4, hmr4⟩⟩
  obtain ⟨n, o, h1, h2, h3, _, L, rfl, ⟨rfl, N⟩, hq⟩ := rm0 (l := l) (Z := s) (a0 := _) ⟨hw, hj, hS⟩ tables_1 i0 i1 i2 s.heap s.heap.size (Old.start s) p e ha hc hk s m _ below hf ((Spec.applies_iff_loose hf).mp happ).1 ⟨rfl, State.Warmed39.refl s, rfl⟩ trivial
  refine ⟨n, _, h1, h2, h3, hpost _ _ _ _ _ _ ⟨Cond.after_iff.mpr rfl, Cond.after_iff.mpr (eq_i res_at (Term.int_eval (1)) rfl), trivial⟩ ⟨hq.1, hq.2.1, (hq.2.2.sift fun y hy => Or.inr (N y hy)).mono (by decide) (by decide)⟩⟩
theorem main_1_1 : Claimed_1_1 := comes_1 fun _ _ _ _ _ _ h hF => ⟨h.1, hF⟩
theorem main_1_2 : Claimed_1_2 := comes_1 fun _ _ _ _ _ _ h hF => ⟨h.2.1, hF⟩
end Jvm.Pilot.@@N@@
namespace Jvm.Pilot.@@N@@
open Jvm Jvm.ClassFile Sem Op Lib Jvm.Free Jvm.Stand Jvm.Pilot.@@N@@.Jvm.D
/-! MADE BY PROGRAM (witnessworld.py) out of the Statement's table words and the real class files: 34 classes; the members and pool entries that the words name. The judged class is class 1, her method 1. -/
namespace start1
open Jvm.ClassFile
def u (s : String) : CpInfo := .utf8 (stringToUtf16 s)
/-- a pool by its gaps: so many unusable entries, then the entry; so many at the end -/
def gap : Nat → List CpInfo → List CpInfo
  | 0, r => r
  | n + 1, r => .unusable :: gap n r
def poolList (es : List (Nat × CpInfo)) (last : Nat) : List CpInfo := es.foldr (fun e r => gap e.1 (e.2 :: r)) (gap last [])
def pool (es : List (Nat × CpInfo)) (last : Nat) : Array CpInfo := ⟨poolList es last⟩
def fileOf (pool : Array CpInfo) (this : Nat) (attrs : Array Attribute := #[]) (ms : Array MethodInfo := #[]) (fl : Nat := 33) (sup : Nat := 0) (ifs : Array Nat := #[]) (fds : Array FieldInfo := #[]) : ClassFile where
  minorVersion := 0
  majorVersion := 65
  constantPool := pool
  accessFlags := fl
  thisClass := this
  superClass := sup
  interfaces := ifs
  fields := fds
  methods := ms
  attributes := attrs
def plain (name : String) (sup : Option ClassId) : Class where
  name := name
  kind := .ordinary
  loader := none
  accessFlags := 33
  super := sup
  interfaces := #[]
  cf := none
  fields := #[]
  methods := #[]
  instanceTypes := #[]
  staticTypes := #[]
  resolved := #[]
  callSites := []
  init := .initialized
  statics := none
  mirror := none

def pool0 : Array CpInfo := pool [(5, u "<init>"), (0, u "()V"), (1, .class_ 10), (1, u "java/lang/Object"), (0, u "getClass"), (0, u "()Ljava/lang/Class;")] 111

def k0c0 : Code := { maxStack := 0, maxLocals := 1, code := object_method_1_code, exceptionTable := #[], attributes := #[] }
def k0m0 : Method := { name := "<init>", desc := "()V", sig := { parameters := [], returnType := none }, accessFlags := 1, code := some k0c0 }
def k0m1 : Method := { name := "getClass", desc := "()Ljava/lang/Class;", sig := { parameters := [], returnType := some (.object "java/lang/Class") }, accessFlags := 273, code := none }
/-- java/lang/Object -/
def k0 : Class := { plain "java/lang/Object" none with
  accessFlags := 33
  interfaces := #[]
  cf := some (fileOf pool0 8 #[] #[{ accessFlags := 1, nameIndex := 5, descriptorIndex := 6, attributes := #[] }, { accessFlags := 273, nameIndex := 11, descriptorIndex := 12, attributes := #[] }] 33 0 #[] #[])
  fields := #[]
  methods := #[k0m0, k0m1]
  instanceTypes := #[]
  staticTypes := #[]
  resolved := Array.replicate 124 none
  statics := none }

def pool1 : Array CpInfo := pool [(2, .class_ 4), (0, .nameAndType 5 6), (0, u "java/lang/Object"), (0, u "<init>"), (0, u "()V"), (0, .class_ 8), (0, u "com/example/key3/key3/cql/ClientState"), (0, .methodref 7 3), (0, .class_ 11), (0, u "java/util/ArrayList"), (0, .methodref 10 3), (0, .methodref 10 14), (0, .nameAndType 15 16), (0, u "add"), (0, u "(Ljava/lang/Object;)Z"), (0, .fieldref 18 19), (0, .class_ 20), (0, .nameAndType 21 22), (0, u "com/example/key3/key3/cql/Parameters"), (0, u "UNSET"), (0, u "Ljava/nio/ByteBuffer;"), (0, .methodref 18 24), (0, .nameAndType 5 25), (0, u "(Ljava/util/List;Ljava/util/List;ILjava/nio/ByteBuffer;)V"), (0, .methodref 27 28), (0, .class_ 29), (0, .nameAndType 30 31), (0, u "com/example/key3/key3/cql/Request"), (0, u "of"), (0, u "(Lcom/example/key3/key3/cql/ClientState;Ljava/util/List;JLcom/example/key3/key3/cql/Parameters;)Lcom/example/key3/key3/cql/Request;"), (0, .methodref 27 33), (0, .nameAndType 34 35), (0, u "state"), (0, u "()Lcom/example/key3/key3/cql/ClientState;"), (0, .methodref 27 37), (0, .nameAndType 38 39), (0, u "values"), (0, u "()Ljava/util/List;"), (0, .methodref 27 41), (0, .nameAndType 42 43), (0, u "now"), (0, u "()J"), (0, .methodref 27 45), (0, .nameAndType 46 47), (0, u "pageSize"), (0, u "()I"), (0, .methodref 27 49), (0, .nameAndType 50 51), (0, u "pagingState"), (0, u "()Ljava/nio/ByteBuffer;"), (0, .class_ 53), (0, u "com/example/key3/key3/cql/RequestOfPinLaw"), (2, u "law"), (0, u "(JII)Z")] 5

def k1m0 : Method := { name := "<init>", desc := "()V", sig := { parameters := [], returnType := none }, accessFlags := 1, code := none }
def k1c1 : Code := { maxStack := 6, maxLocals := 10, code := code, exceptionTable := #[], attributes := #[] }
def k1m1 : Method := { name := "law", desc := "(JII)Z", sig := { parameters := [.long, .int, .int], returnType := some .boolean }, accessFlags := 9, code := some k1c1 }
/-- com/example/key3/key3/cql/RequestOfPinLaw -/
def k1 : Class := { plain "com/example/key3/key3/cql/RequestOfPinLaw" (some 0) with
  accessFlags := 49
  interfaces := #[]
  cf := some (fileOf pool1 52 #[] #[{ accessFlags := 1, nameIndex := 5, descriptorIndex := 6, attributes := #[] }, { accessFlags := 9, nameIndex := 56, descriptorIndex := 57, attributes := #[] }] 49 2 #[] #[])
  fields := #[]
  methods := #[k1m0, k1m1]
  instanceTypes := #[]
  staticTypes := #[]
  resolved := Array.replicate 63 none
  statics := none }

def pool2 : Array CpInfo := pool [(1, .methodref 2 3), (0, .class_ 4), (0, .nameAndType 5 6), (0, u "java/lang/Object"), (0, u "<init>"), (0, u "()V"), (1, .class_ 10), (1, u "com/example/key3/key3/cql/ClientState"), (0, u "keyspace"), (0, u "Ljava/lang/String;")] 7

def k2c0 : Code := { maxStack := 1, maxLocals := 1, code := prog_40_method_1_code, exceptionTable := #[], attributes := #[] }
def k2m0 : Method := { name := "<init>", desc := "()V", sig := { parameters := [], returnType := none }, accessFlags := 1, code := some k2c0 }
/-- com/example/key3/key3/cql/ClientState -/
def k2 : Class := { plain "com/example/key3/key3/cql/ClientState" (some 0) with
  accessFlags := 49
  interfaces := #[]
  cf := some (fileOf pool2 8 #[] #[{ accessFlags := 1, nameIndex := 5, descriptorIndex := 6, attributes := #[] }] 49 2 #[] #[{ accessFlags := 2, nameIndex := 11, descriptorIndex := 12, attributes := #[] }])
  fields := #[{ name := "keyspace", type := (.object "java/lang/String"), accessFlags := 2, slot := 0, constantValue := 0 }]
  methods := #[k2m0]
  instanceTypes := #[(.object "java/lang/String")]
  staticTypes := #[]
  resolved := Array.replicate 20 none
  statics := none }

def pool3 : Array CpInfo := pool [(8, .class_ 10), (1, u "java/lang/Iterable"), (24, .class_ 36), (0, u "java/lang/Object")] 25

/-- java/lang/Iterable -/
def k3 : Class := { plain "java/lang/Iterable" (some 0) with
  accessFlags := 1537
  interfaces := #[]
  cf := some (fileOf pool3 8 #[] #[] 1537 35 #[] #[])
  fields := #[]
  methods := #[]
  instanceTypes := #[]
  staticTypes := #[]
  resolved := Array.replicate 62 none
  statics := none }

def pool4 : Array CpInfo := pool [(10, .class_ 12), (1, u "java/util/Collection"), (0, u "toArray"), (46, .class_ 61), (0, u "java/lang/Object"), (0, .class_ 63), (0, u "java/lang/Iterable"), (6, u "()[Ljava/lang/Object;")] 44

def k4m0 : Method := { name := "toArray", desc := "()[Ljava/lang/Object;", sig := { parameters := [], returnType := some (.array (.object "java/lang/Object")) }, accessFlags := 1025, code := none }
/-- java/util/Collection -/
def k4 : Class := { plain "java/util/Collection" (some 0) with
  accessFlags := 1537
  interfaces := #[3]
  cf := some (fileOf pool4 10 #[] #[{ accessFlags := 1025, nameIndex := 13, descriptorIndex := 70, attributes := #[] }] 1537 60 #[62] #[])
  fields := #[]
  methods := #[k4m0]
  instanceTypes := #[]
  staticTypes := #[]
  resolved := Array.replicate 115 none
  statics := none }

def pool5 : Array CpInfo := pool [(1, .methodref 2 3), (0, .class_ 4), (0, .nameAndType 5 6), (0, u "java/lang/Object"), (0, u "<init>"), (0, u "()V"), (1, .class_ 10), (1, u "java/util/AbstractCollection"), (66, .class_ 78), (0, u "java/util/Collection")] 81

def k5c0 : Code := { maxStack := 1, maxLocals := 1, code := jdk_22_method_1_code, exceptionTable := #[], attributes := #[] }
def k5m0 : Method := { name := "<init>", desc := "()V", sig := { parameters := [], returnType := none }, accessFlags := 4, code := some k5c0 }
/-- java/util/AbstractCollection -/
def k5 : Class := { plain "java/util/AbstractCollection" (some 0) with
  accessFlags := 1057
  interfaces := #[4]
  cf := some (fileOf pool5 8 #[] #[{ accessFlags := 4, nameIndex := 5, descriptorIndex := 6, attributes := #[] }] 1057 2 #[77] #[])
  fields := #[]
  methods := #[k5m0]
  instanceTypes := #[]
  staticTypes := #[]
  resolved := Array.replicate 160 none
  statics := none }

def pool6 : Array CpInfo := pool [(8, .class_ 10), (1, u "java/util/SequencedCollection"), (15, .class_ 27), (0, u "java/lang/Object"), (0, .class_ 29), (0, u "java/util/Collection")] 27

/-- java/util/SequencedCollection -/
def k6 : Class := { plain "java/util/SequencedCollection" (some 0) with
  accessFlags := 1537
  interfaces := #[4]
  cf := some (fileOf pool6 8 #[] #[] 1537 26 #[28] #[])
  fields := #[]
  methods := #[]
  instanceTypes := #[]
  staticTypes := #[]
  resolved := Array.replicate 57 none
  statics := none }

def pool7 : Array CpInfo := pool [(8, .class_ 10), (1, u "java/util/List"), (92, .class_ 104), (0, u "java/lang/Object"), (15, .class_ 121), (0, u "java/util/SequencedCollection")] 129

/-- java/util/List -/
def k7 : Class := { plain "java/util/List" (some 0) with
  accessFlags := 1537
  interfaces := #[6]
  cf := some (fileOf pool7 8 #[] #[] 1537 103 #[120] #[])
  fields := #[]
  methods := #[]
  instanceTypes := #[]
  staticTypes := #[]
  resolved := Array.replicate 251 none
  statics := none }

def pool8 : Array CpInfo := pool [(1, .methodref 2 3), (0, .class_ 4), (0, .nameAndType 5 6), (0, u "java/util/AbstractCollection"), (0, u "<init>"), (0, u "()V"), (0, .fieldref 8 9), (0, .class_ 10), (0, .nameAndType 11 12), (0, u "java/util/AbstractList"), (0, u "modCount"), (0, u "I"), (64, .class_ 78), (0, u "java/util/AbstractList$Itr"), (3, .class_ 83), (0, u "java/util/AbstractList$ListItr"), (9, .class_ 94), (0, u "java/util/AbstractList$RandomAccessSubList"), (3, .class_ 99), (0, u "java/util/AbstractList$SubList"), (33, .class_ 134), (0, u "java/util/List"), (73, .class_ 209), (0, u "java/util/AbstractList$SubList$1"), (0, .class_ 211), (0, u "java/util/AbstractList$RandomAccessSpliterator")] 6

def k8c0 : Code := { maxStack := 2, maxLocals := 1, code := jdk_39_method_1_code, exceptionTable := #[], attributes := #[] }
def k8m0 : Method := { name := "<init>", desc := "()V", sig := { parameters := [], returnType := none }, accessFlags := 4, code := some k8c0 }
/-- java/util/AbstractList -/
def k8 : Class := { plain "java/util/AbstractList" (some 5) with
  accessFlags := 1057
  interfaces := #[7]
  cf := some (fileOf pool8 8 #[.nestMembers #[93, 98, 208, 210, 82, 77]] #[{ accessFlags := 4, nameIndex := 5, descriptorIndex := 6, attributes := #[] }] 1057 2 #[133] #[{ accessFlags := 132, nameIndex := 11, descriptorIndex := 12, attributes := #[] }])
  fields := #[{ name := "modCount", type := .int, accessFlags := 132, slot := 0, constantValue := 0 }]
  methods := #[k8m0]
  instanceTypes := #[.int]
  staticTypes := #[]
  resolved := Array.replicate 218 none
  statics := none }

def pool9 : Array CpInfo := pool [(1, .class_ 2), (0, u "java/util/RandomAccess"), (0, .class_ 4), (0, u "java/lang/Object")] 2

/-- java/util/RandomAccess -/
def k9 : Class := { plain "java/util/RandomAccess" (some 0) with
  accessFlags := 1537
  interfaces := #[]
  cf := some (fileOf pool9 1 #[] #[] 1537 3 #[] #[])
  fields := #[]
  methods := #[]
  instanceTypes := #[]
  staticTypes := #[]
  resolved := Array.replicate 7 none
  statics := none }

def pool10 : Array CpInfo := pool [(1, .class_ 2), (0, u "java/lang/Cloneable"), (0, .class_ 4), (0, u "java/lang/Object")] 2

/-- java/lang/Cloneable -/
def k10 : Class := { plain "java/lang/Cloneable" (some 0) with
  accessFlags := 1537
  interfaces := #[]
  cf := some (fileOf pool10 1 #[] #[] 1537 3 #[] #[])
  fields := #[]
  methods := #[]
  instanceTypes := #[]
  staticTypes := #[]
  resolved := Array.replicate 7 none
  statics := none }

def pool11 : Array CpInfo := pool [(1, .class_ 2), (0, u "java/io/Serializable"), (0, .class_ 4), (0, u "java/lang/Object")] 2

/-- java/io/Serializable -/
def k11 : Class := { plain "java/io/Serializable" (some 0) with
  accessFlags := 1537
  interfaces := #[]
  cf := some (fileOf pool11 1 #[] #[] 1537 3 #[] #[])
  fields := #[]
  methods := #[]
  instanceTypes := #[]
  staticTypes := #[]
  resolved := Array.replicate 7 none
  statics := none }

def pool12 : Array CpInfo := pool [(1, .methodref 2 3), (0, .class_ 4), (0, .nameAndType 5 6), (0, u "java/util/AbstractList"), (0, u "<init>"), (0, u "()V"), (0, .class_ 8), (0, u "java/lang/Object"), (0, .fieldref 10 11), (0, .class_ 12), (0, .nameAndType 13 14), (0, u "java/util/ArrayList"), (0, u "elementData"), (0, u "[Ljava/lang/Object;"), (0, .fieldref 10 16), (0, .nameAndType 17 14), (0, u "EMPTY_ELEMENTDATA"), (21, .fieldref 10 40), (0, .nameAndType 41 14), (0, u "DEFAULTCAPACITY_EMPTY_ELEMENTDATA"), (0, .interfaceMethodref 43 44), (0, .class_ 45), (0, .nameAndType 46 47), (0, u "java/util/Collection"), (0, u "toArray"), (0, u "()[Ljava/lang/Object;"), (0, .fieldref 10 49), (0, .nameAndType 50 51), (0, u "size"), (0, u "I"), (0, .interfaceMethodref 43 53), (0, .nameAndType 54 55), (0, u "getClass"), (0, u "()Ljava/lang/Class;"), (2, .class_ 60), (1, u "java/util/Arrays"), (0, u "copyOf"), (1, .fieldref 10 64), (0, .nameAndType 65 51), (0, u "modCount"), (0, .methodref 58 67), (0, .nameAndType 61 68), (0, u "([Ljava/lang/Object;I)[Ljava/lang/Object;"), (0, .methodref 10 70), (0, .nameAndType 71 72), (0, u "grow"), (0, u "(I)[Ljava/lang/Object;"), (6, .methodref 80 81), (0, .class_ 82), (0, .nameAndType 83 84), (0, u "java/lang/Math"), (0, u "max"), (0, u "(II)I"), (11, u "(Ljava/lang/Object;)Z"), (32, .methodref 10 130), (0, .nameAndType 71 47), (0, .methodref 10 132), (0, .nameAndType 133 134), (0, u "add"), (0, u "(Ljava/lang/Object;[Ljava/lang/Object;I)V"), (13, .class_ 149), (0, u "java/util/List"), (112, .class_ 263), (0, u "java/util/ArrayList$ListItr"), (3, .class_ 268), (0, u "java/util/ArrayList$Itr"), (7, .class_ 277), (0, u "java/util/ArrayList$SubList"), (12, .class_ 291), (0, u "java/util/ArrayList$ArrayListSpliterator"), (37, .class_ 330), (0, u "java/util/RandomAccess"), (0, .class_ 332), (0, u "java/lang/Cloneable"), (0, .class_ 334), (0, u "java/io/Serializable"), (0, u "serialVersionUID"), (0, u "J"), (3, u "DEFAULT_CAPACITY"), (10, u "(Ljava/util/Collection;)V"), (148, .class_ 501), (0, u "java/util/ArrayList$SubList$2"), (0, .class_ 503), (0, u "java/util/ArrayList$SubList$1")] 5

def k12c0 : Code := { maxStack := 2, maxLocals := 1, code := jdk_38_method_2_code, exceptionTable := #[], attributes := #[] }
def k12m0 : Method := { name := "<init>", desc := "()V", sig := { parameters := [], returnType := none }, accessFlags := 1, code := some k12c0 }
def k12c1 : Code := { maxStack := 4, maxLocals := 3, code := jdk_38_method_3_code, exceptionTable := #[], attributes := #[] }
def k12m1 : Method := { name := "<init>", desc := "(Ljava/util/Collection;)V", sig := { parameters := [(.object "java/util/Collection")], returnType := none }, accessFlags := 1, code := some k12c1 }
def k12c2 : Code := { maxStack := 4, maxLocals := 4, code := jdk_38_method_6_code, exceptionTable := #[], attributes := #[] }
def k12m2 : Method := { name := "grow", desc := "(I)[Ljava/lang/Object;", sig := { parameters := [.int], returnType := some (.array (.object "java/lang/Object")) }, accessFlags := 2, code := some k12c2 }
def k12c3 : Code := { maxStack := 3, maxLocals := 1, code := jdk_38_method_7_code, exceptionTable := #[], attributes := #[] }
def k12m3 : Method := { name := "grow", desc := "()[Ljava/lang/Object;", sig := { parameters := [], returnType := some (.array (.object "java/lang/Object")) }, accessFlags := 2, code := some k12c3 }
def k12c4 : Code := { maxStack := 2, maxLocals := 1, code := jdk_38_method_16_code, exceptionTable := #[], attributes := #[] }
def k12m4 : Method := { name := "toArray", desc := "()[Ljava/lang/Object;", sig := { parameters := [], returnType := some (.array (.object "java/lang/Object")) }, accessFlags := 1, code := some k12c4 }
def k12c5 : Code := { maxStack := 3, maxLocals := 4, code := jdk_38_method_24_code, exceptionTable := #[], attributes := #[] }
def k12m5 : Method := { name := "add", desc := "(Ljava/lang/Object;[Ljava/lang/Object;I)V", sig := { parameters := [(.object "java/lang/Object"), (.array (.object "java/lang/Object")), .int], returnType := none }, accessFlags := 2, code := some k12c5 }
def k12c6 : Code := { maxStack := 4, maxLocals := 2, code := jdk_38_method_25_code, exceptionTable := #[], attributes := #[] }
def k12m6 : Method := { name := "add", desc := "(Ljava/lang/Object;)Z", sig := { parameters := [(.object "java/lang/Object")], returnType := some .boolean }, accessFlags := 1, code := some k12c6 }
/-- java/util/ArrayList -/
def k12 : Class := { plain "java/util/ArrayList" (some 8) with
  accessFlags := 33
  interfaces := #[7, 9, 10, 11]
  cf := some (fileOf pool12 10 #[.nestMembers #[290, 276, 500, 502, 262, 267]] #[{ accessFlags := 1, nameIndex := 5, descriptorIndex := 6, attributes := #[] }, { accessFlags := 1, nameIndex := 5, descriptorIndex := 351, attributes := #[] }, { accessFlags := 2, nameIndex := 71, descriptorIndex := 72, attributes := #[] }, { accessFlags := 2, nameIndex := 71, descriptorIndex := 47, attributes := #[] }, { accessFlags := 1, nameIndex := 46, descriptorIndex := 47, attributes := #[] }, { accessFlags := 2, nameIndex := 133, descriptorIndex := 134, attributes := #[] }, { accessFlags := 1, nameIndex := 133, descriptorIndex := 96, attributes := #[] }] 33 2 #[148, 329, 331, 333] #[{ accessFlags := 26, nameIndex := 335, descriptorIndex := 336, attributes := #[] }, { accessFlags := 26, nameIndex := 340, descriptorIndex := 51, attributes := #[] }, { accessFlags := 26, nameIndex := 17, descriptorIndex := 14, attributes := #[] }, { accessFlags := 26, nameIndex := 41, descriptorIndex := 14, attributes := #[] }, { accessFlags := 128, nameIndex := 13, descriptorIndex := 14, attributes := #[] }, { accessFlags := 2, nameIndex := 50, descriptorIndex := 51, attributes := #[] }])
  fields := #[{ name := "serialVersionUID", type := .long, accessFlags := 26, slot := 0, constantValue := 0 }, { name := "DEFAULT_CAPACITY", type := .int, accessFlags := 26, slot := 1, constantValue := 0 }, { name := "EMPTY_ELEMENTDATA", type := (.array (.object "java/lang/Object")), accessFlags := 26, slot := 2, constantValue := 0 }, { name := "DEFAULTCAPACITY_EMPTY_ELEMENTDATA", type := (.array (.object "java/lang/Object")), accessFlags := 26, slot := 3, constantValue := 0 }, { name := "elementData", type := (.array (.object "java/lang/Object")), accessFlags := 128, slot := 1, constantValue := 0 }, { name := "size", type := .int, accessFlags := 2, slot := 2, constantValue := 0 }]
  methods := #[k12m0, k12m1, k12m2, k12m3, k12m4, k12m5, k12m6]
  instanceTypes := #[.int, (.array (.object "java/lang/Object")), .int]
  staticTypes := #[.long, .int, (.array (.object "java/lang/Object")), (.array (.object "java/lang/Object"))]
  resolved := Array.replicate 509 none
  mirror := some 3
  statics := some 0 }

def pool13 : Array CpInfo := pool [(1, .class_ 2), (0, u "java/lang/Math"), (1, .class_ 6), (1, u "java/lang/Object"), (0, u "<init>"), (0, u "()V"), (89, .class_ 100), (1, u "java/lang/Math$RandomNumberGeneratorHolder"), (71, u "negativeZeroFloatBits"), (0, u "J"), (2, u "negativeZeroDoubleBits"), (21, u "max"), (2, u "min"), (43, u "$assertionsDisabled"), (0, u "Z"), (88, u "(II)I"), (2, u "twoToTheDoubleScaleDown"), (0, u "D"), (4, u "twoToTheDoubleScaleUp"), (9, u "E"), (3, u "PI"), (2, u "TAU"), (2, u "DEGREES_TO_RADIANS"), (0, u "RADIANS_TO_DEGREES")] 94

def k13m0 : Method := { name := "<init>", desc := "()V", sig := { parameters := [], returnType := none }, accessFlags := 2, code := none }
def k13c1 : Code := { maxStack := 2, maxLocals := 2, code := jdk_29_method_65_code, exceptionTable := #[], attributes := #[] }
def k13m1 : Method := { name := "max", desc := "(II)I", sig := { parameters := [.int, .int], returnType := some .int }, accessFlags := 9, code := some k13c1 }
def k13c2 : Code := { maxStack := 2, maxLocals := 2, code := jdk_29_method_69_code, exceptionTable := #[], attributes := #[] }
def k13m2 : Method := { name := "min", desc := "(II)I", sig := { parameters := [.int, .int], returnType := some .int }, accessFlags := 9, code := some k13c2 }
/-- java/lang/Math -/
def k13 : Class := { plain "java/lang/Math" (some 0) with
  accessFlags := 49
  interfaces := #[]
  cf := some (fileOf pool13 1 #[.nestMembers #[98]] #[{ accessFlags := 2, nameIndex := 7, descriptorIndex := 8, attributes := #[] }, { accessFlags := 9, nameIndex := 198, descriptorIndex := 335, attributes := #[] }, { accessFlags := 9, nameIndex := 201, descriptorIndex := 335, attributes := #[] }] 49 4 #[] #[{ accessFlags := 25, nameIndex := 354, descriptorIndex := 339, attributes := #[] }, { accessFlags := 25, nameIndex := 358, descriptorIndex := 339, attributes := #[] }, { accessFlags := 25, nameIndex := 361, descriptorIndex := 339, attributes := #[] }, { accessFlags := 26, nameIndex := 364, descriptorIndex := 339, attributes := #[] }, { accessFlags := 26, nameIndex := 365, descriptorIndex := 339, attributes := #[] }, { accessFlags := 26, nameIndex := 172, descriptorIndex := 173, attributes := #[] }, { accessFlags := 26, nameIndex := 176, descriptorIndex := 173, attributes := #[] }, { accessFlags := 8, nameIndex := 344, descriptorIndex := 339, attributes := #[] }, { accessFlags := 8, nameIndex := 338, descriptorIndex := 339, attributes := #[] }, { accessFlags := 4120, nameIndex := 245, descriptorIndex := 246, attributes := #[] }])
  fields := #[{ name := "E", type := .double, accessFlags := 25, slot := 0, constantValue := 0 }, { name := "PI", type := .double, accessFlags := 25, slot := 1, constantValue := 0 }, { name := "TAU", type := .double, accessFlags := 25, slot := 2, constantValue := 0 }, { name := "DEGREES_TO_RADIANS", type := .double, accessFlags := 26, slot := 3, constantValue := 0 }, { name := "RADIANS_TO_DEGREES", type := .double, accessFlags := 26, slot := 4, constantValue := 0 }, { name := "negativeZeroFloatBits", type := .long, accessFlags := 26, slot := 5, constantValue := 0 }, { name := "negativeZeroDoubleBits", type := .long, accessFlags := 26, slot := 6, constantValue := 0 }, { name := "twoToTheDoubleScaleUp", type := .double, accessFlags := 8, slot := 7, constantValue := 0 }, { name := "twoToTheDoubleScaleDown", type := .double, accessFlags := 8, slot := 8, constantValue := 0 }, { name := "$assertionsDisabled", type := .boolean, accessFlags := 4120, slot := 9, constantValue := 0 }]
  methods := #[k13m0, k13m1, k13m2]
  instanceTypes := #[]
  staticTypes := #[.double, .double, .double, .double, .double, .long, .long, .double, .double, .boolean]
  resolved := Array.replicate 460 none
  statics := none }

def pool14 : Array CpInfo := pool [(1, .methodref 2 3), (0, .class_ 4), (0, .nameAndType 5 6), (0, u "java/lang/Object"), (0, u "<init>"), (0, u "()V"), (0, .class_ 8), (0, u "java/lang/Record")] 13

def k14c0 : Code := { maxStack := 1, maxLocals := 1, code := jdk_30_method_1_code, exceptionTable := #[], attributes := #[] }
def k14m0 : Method := { name := "<init>", desc := "()V", sig := { parameters := [], returnType := none }, accessFlags := 4, code := some k14c0 }
/-- java/lang/Record -/
def k14 : Class := { plain "java/lang/Record" (some 0) with
  accessFlags := 1057
  interfaces := #[]
  cf := some (fileOf pool14 7 #[] #[{ accessFlags := 4, nameIndex := 5, descriptorIndex := 6, attributes := #[] }] 1057 2 #[] #[])
  fields := #[]
  methods := #[k14m0]
  instanceTypes := #[]
  staticTypes := #[]
  resolved := Array.replicate 22 none
  statics := none }

def pool15 : Array CpInfo := pool [(1, .methodref 2 3), (0, .class_ 4), (0, .nameAndType 5 6), (0, u "java/lang/Record"), (0, u "<init>"), (0, u "()V"), (0, .class_ 8), (0, u "java/util/ArrayList"), (0, .methodref 7 10), (0, .nameAndType 5 11), (0, u "(Ljava/util/Collection;)V"), (0, .methodref 13 14), (0, .class_ 15), (0, .nameAndType 16 17), (0, u "java/util/Collections"), (0, u "unmodifiableList"), (0, u "(Ljava/util/List;)Ljava/util/List;"), (9, u "()I"), (9, .fieldref 38 39), (0, .class_ 40), (0, .nameAndType 41 42), (0, u "com/example/key3/key3/cql/Parameters"), (0, u "values"), (0, u "Ljava/util/List;"), (0, .fieldref 38 44), (0, .nameAndType 45 42), (0, u "names"), (0, .fieldref 38 47), (0, .nameAndType 48 49), (0, u "pageSize"), (0, u "I"), (0, .fieldref 38 51), (0, .nameAndType 52 53), (0, u "pagingState"), (0, u "Ljava/nio/ByteBuffer;"), (2, u "(Ljava/util/List;Ljava/util/List;ILjava/nio/ByteBuffer;)V"), (78, u "()Ljava/nio/ByteBuffer;"), (2, u "UNSET"), (6, u "NONE"), (0, u "Lcom/example/key3/key3/cql/Parameters;")] 54

def k15c0 : Code := { maxStack := 4, maxLocals := 5, code := prog_44_method_1_code, exceptionTable := #[], attributes := #[] }
def k15m0 : Method := { name := "<init>", desc := "(Ljava/util/List;Ljava/util/List;ILjava/nio/ByteBuffer;)V", sig := { parameters := [(.object "java/util/List"), (.object "java/util/List"), .int, (.object "java/nio/ByteBuffer")], returnType := none }, accessFlags := 1, code := some k15c0 }
def k15c1 : Code := { maxStack := 1, maxLocals := 1, code := prog_44_method_10_code, exceptionTable := #[], attributes := #[] }
def k15m1 : Method := { name := "pageSize", desc := "()I", sig := { parameters := [], returnType := some .int }, accessFlags := 1, code := some k15c1 }
def k15c2 : Code := { maxStack := 1, maxLocals := 1, code := prog_44_method_11_code, exceptionTable := #[], attributes := #[] }
def k15m2 : Method := { name := "pagingState", desc := "()Ljava/nio/ByteBuffer;", sig := { parameters := [], returnType := some (.object "java/nio/ByteBuffer") }, accessFlags := 1, code := some k15c2 }
/-- com/example/key3/key3/cql/Parameters -/
def k15 : Class := { plain "com/example/key3/key3/cql/Parameters" (some 14) with
  accessFlags := 49
  interfaces := #[]
  cf := some (fileOf pool15 38 #[] #[{ accessFlags := 1, nameIndex := 5, descriptorIndex := 56, attributes := #[] }, { accessFlags := 1, nameIndex := 48, descriptorIndex := 27, attributes := #[] }, { accessFlags := 1, nameIndex := 52, descriptorIndex := 135, attributes := #[] }] 49 2 #[] #[{ accessFlags := 18, nameIndex := 41, descriptorIndex := 42, attributes := #[] }, { accessFlags := 18, nameIndex := 45, descriptorIndex := 42, attributes := #[] }, { accessFlags := 18, nameIndex := 48, descriptorIndex := 49, attributes := #[] }, { accessFlags := 18, nameIndex := 52, descriptorIndex := 53, attributes := #[] }, { accessFlags := 25, nameIndex := 138, descriptorIndex := 53, attributes := #[] }, { accessFlags := 25, nameIndex := 145, descriptorIndex := 146, attributes := #[] }])
  fields := #[{ name := "values", type := (.object "java/util/List"), accessFlags := 18, slot := 0, constantValue := 0 }, { name := "names", type := (.object "java/util/List"), accessFlags := 18, slot := 1, constantValue := 0 }, { name := "pageSize", type := .int, accessFlags := 18, slot := 2, constantValue := 0 }, { name := "pagingState", type := (.object "java/nio/ByteBuffer"), accessFlags := 18, slot := 3, constantValue := 0 }, { name := "UNSET", type := (.object "java/nio/ByteBuffer"), accessFlags := 25, slot := 0, constantValue := 0 }, { name := "NONE", type := (.object "com/example/key3/key3/cql/Parameters"), accessFlags := 25, slot := 1, constantValue := 0 }]
  methods := #[k15m0, k15m1, k15m2]
  instanceTypes := #[(.object "java/util/List"), (.object "java/util/List"), .int, (.object "java/nio/ByteBuffer")]
  staticTypes := #[(.object "java/nio/ByteBuffer"), (.object "com/example/key3/key3/cql/Parameters")]
  resolved := Array.replicate 201 none
  statics := some 1 }

def pool16 : Array CpInfo := pool [(2, .class_ 4), (1, u "java/lang/Object"), (0, u "<init>"), (0, u "()V"), (7, .class_ 16), (1, u "java/util/Arrays"), (57, .class_ 76), (1, u "java/util/Arrays$NaturalOrder"), (9, .methodref 2 87), (0, .nameAndType 88 89), (0, u "getClass"), (0, u "()Ljava/lang/Class;"), (20, .class_ 111), (0, u "[Ljava/lang/Object;"), (1, .class_ 115), (1, u "java/util/Arrays$LegacyMergeSort"), (1, u "Z"), (32, .methodref 151 152), (0, .class_ 153), (0, .nameAndType 154 155), (0, u "java/lang/System"), (0, u "arraycopy"), (0, u "(Ljava/lang/Object;ILjava/lang/Object;II)V"), (144, .methodref 14 301), (0, .nameAndType 302 303), (0, u "copyOf"), (0, u "([Ljava/lang/Object;ILjava/lang/Class;)[Ljava/lang/Object;"), (0, .methodref 305 306), (0, .class_ 307), (0, .nameAndType 308 309), (0, u "java/lang/Math"), (0, u "min"), (0, u "(II)I"), (65, .class_ 376), (0, u "java/util/Arrays$ArrayList"), (68, u "$assertionsDisabled"), (269, u "MIN_ARRAY_SORT_GRAN"), (0, u "I"), (2, u "INSERTIONSORT_THRESHOLD"), (140, u "([Ljava/lang/Object;I)[Ljava/lang/Object;"), (114, .class_ 976), (0, u "java/util/Arrays$ArrayItr")] 52

def k16m0 : Method := { name := "<init>", desc := "()V", sig := { parameters := [], returnType := none }, accessFlags := 2, code := none }
def k16c1 : Code := { maxStack := 3, maxLocals := 2, code := jdk_65_method_119_code, exceptionTable := #[], attributes := #[] }
def k16m1 : Method := { name := "copyOf", desc := "([Ljava/lang/Object;I)[Ljava/lang/Object;", sig := { parameters := [(.array (.object "java/lang/Object")), .int], returnType := some (.array (.object "java/lang/Object")) }, accessFlags := 9, code := some k16c1 }
def k16c2 : Code := { maxStack := 6, maxLocals := 4, code := jdk_65_method_120_code, exceptionTable := #[], attributes := #[] }
def k16m2 : Method := { name := "copyOf", desc := "([Ljava/lang/Object;ILjava/lang/Class;)[Ljava/lang/Object;", sig := { parameters := [(.array (.object "java/lang/Object")), .int, (.object "java/lang/Class")], returnType := some (.array (.object "java/lang/Object")) }, accessFlags := 9, code := some k16c2 }
/-- java/util/Arrays -/
def k16 : Class := { plain "java/util/Arrays" (some 0) with
  accessFlags := 49
  interfaces := #[]
  cf := some (fileOf pool16 14 #[.nestMembers #[975, 375, 113, 74]] #[{ accessFlags := 2, nameIndex := 5, descriptorIndex := 6, attributes := #[] }, { accessFlags := 9, nameIndex := 302, descriptorIndex := 860, attributes := #[] }, { accessFlags := 9, nameIndex := 302, descriptorIndex := 303, attributes := #[] }] 49 2 #[] #[{ accessFlags := 26, nameIndex := 715, descriptorIndex := 716, attributes := #[] }, { accessFlags := 26, nameIndex := 719, descriptorIndex := 716, attributes := #[] }, { accessFlags := 4120, nameIndex := 445, descriptorIndex := 117, attributes := #[] }])
  fields := #[{ name := "MIN_ARRAY_SORT_GRAN", type := .int, accessFlags := 26, slot := 0, constantValue := 0 }, { name := "INSERTIONSORT_THRESHOLD", type := .int, accessFlags := 26, slot := 1, constantValue := 0 }, { name := "$assertionsDisabled", type := .boolean, accessFlags := 4120, slot := 2, constantValue := 0 }]
  methods := #[k16m0, k16m1, k16m2]
  instanceTypes := #[]
  staticTypes := #[.int, .int, .boolean]
  resolved := Array.replicate 1029 none
  statics := none }

def pool17 : Array CpInfo := pool [(2, .class_ 4), (1, u "java/lang/Object"), (0, u "<init>"), (0, u "()V"), (1, .class_ 10), (1, u "java/lang/System"), (0, u "allowSecurityManager"), (0, u "I"), (16, u "cons"), (0, u "Ljava/io/Console;"), (77, .class_ 110), (1, u "java/lang/System$CallersHolder"), (43, u "initialErrStream"), (0, u "Ljava/io/PrintStream;"), (19, u "security"), (0, u "Ljava/lang/SecurityManager;"), (31, .class_ 209), (0, u "java/lang/System$1"), (7, u "props"), (0, u "Ljava/util/Properties;"), (2, u "lineSeparator"), (0, u "Ljava/lang/String;"), (96, .class_ 321), (1, u "java/lang/System$LoggerFinder"), (5, .class_ 328), (0, u "java/lang/System$Logger"), (67, u "err"), (2, u "out"), (91, u "notSupportedJnuEncoding"), (15, u "in"), (17, u "initialIn"), (0, u "Ljava/io/InputStream;"), (35, u "bootLayer"), (0, u "Ljava/lang/ModuleLayer;"), (99, .class_ 664), (0, u "java/lang/System$2"), (9, u "NEVER"), (2, u "MAYBE"), (49, u "arraycopy"), (0, u "(Ljava/lang/Object;ILjava/lang/Object;II)V"), (72, .class_ 802), (0, u "java/lang/System$Logger$Level")] 31

def k17m0 : Method := { name := "<init>", desc := "()V", sig := { parameters := [], returnType := none }, accessFlags := 2, code := none }
def k17m1 : Method := { name := "arraycopy", desc := "(Ljava/lang/Object;ILjava/lang/Object;II)V", sig := { parameters := [(.object "java/lang/Object"), .int, (.object "java/lang/Object"), .int, .int], returnType := none }, accessFlags := 265, code := none }
/-- java/lang/System -/
def k17 : Class := { plain "java/lang/System" (some 0) with
  accessFlags := 49
  interfaces := #[]
  cf := some (fileOf pool17 8 #[.nestMembers #[319, 327, 801, 108, 663, 208]] #[{ accessFlags := 2, nameIndex := 5, descriptorIndex := 6, attributes := #[] }, { accessFlags := 265, nameIndex := 727, descriptorIndex := 728, attributes := #[] }] 49 2 #[] #[{ accessFlags := 25, nameIndex := 507, descriptorIndex := 526, attributes := #[] }, { accessFlags := 25, nameIndex := 399, descriptorIndex := 155, attributes := #[] }, { accessFlags := 25, nameIndex := 396, descriptorIndex := 155, attributes := #[] }, { accessFlags := 10, nameIndex := 525, descriptorIndex := 526, attributes := #[] }, { accessFlags := 26, nameIndex := 674, descriptorIndex := 12, attributes := #[] }, { accessFlags := 26, nameIndex := 677, descriptorIndex := 12, attributes := #[] }, { accessFlags := 10, nameIndex := 11, descriptorIndex := 12, attributes := #[] }, { accessFlags := 74, nameIndex := 175, descriptorIndex := 176, attributes := #[] }, { accessFlags := 10, nameIndex := 491, descriptorIndex := 222, attributes := #[] }, { accessFlags := 74, nameIndex := 29, descriptorIndex := 30, attributes := #[] }, { accessFlags := 74, nameIndex := 154, descriptorIndex := 155, attributes := #[] }, { accessFlags := 10, nameIndex := 217, descriptorIndex := 218, attributes := #[] }, { accessFlags := 10, nameIndex := 221, descriptorIndex := 222, attributes := #[] }, { accessFlags := 8, nameIndex := 562, descriptorIndex := 563, attributes := #[] }])
  fields := #[{ name := "in", type := (.object "java/io/InputStream"), accessFlags := 25, slot := 0, constantValue := 0 }, { name := "out", type := (.object "java/io/PrintStream"), accessFlags := 25, slot := 1, constantValue := 0 }, { name := "err", type := (.object "java/io/PrintStream"), accessFlags := 25, slot := 2, constantValue := 0 }, { name := "initialIn", type := (.object "java/io/InputStream"), accessFlags := 10, slot := 3, constantValue := 0 }, { name := "NEVER", type := .int, accessFlags := 26, slot := 4, constantValue := 0 }, { name := "MAYBE", type := .int, accessFlags := 26, slot := 5, constantValue := 0 }, { name := "allowSecurityManager", type := .int, accessFlags := 10, slot := 6, constantValue := 0 }, { name := "security", type := (.object "java/lang/SecurityManager"), accessFlags := 74, slot := 7, constantValue := 0 }, { name := "notSupportedJnuEncoding", type := (.object "java/lang/String"), accessFlags := 10, slot := 8, constantValue := 0 }, { name := "cons", type := (.object "java/io/Console"), accessFlags := 74, slot := 9, constantValue := 0 }, { name := "initialErrStream", type := (.object "java/io/PrintStream"), accessFlags := 74, slot := 10, constantValue := 0 }, { name := "props", type := (.object "java/util/Properties"), accessFlags := 10, slot := 11, constantValue := 0 }, { name := "lineSeparator", type := (.object "java/lang/String"), accessFlags := 10, slot := 12, constantValue := 0 }, { name := "bootLayer", type := (.object "java/lang/ModuleLayer"), accessFlags := 8, slot := 13, constantValue := 0 }]
  methods := #[k17m0, k17m1]
  instanceTypes := #[]
  staticTypes := #[(.object "java/io/InputStream"), (.object "java/io/PrintStream"), (.object "java/io/PrintStream"), (.object "java/io/InputStream"), .int, .int, .int, (.object "java/lang/SecurityManager"), (.object "java/lang/String"), (.object "java/io/Console"), (.object "java/io/PrintStream"), (.object "java/util/Properties"), (.object "java/lang/String"), (.object "java/lang/ModuleLayer")]
  resolved := Array.replicate 834 none
  statics := none }

def pool18 : Array CpInfo := pool [(2, .class_ 4), (1, u "java/lang/Object"), (0, u "<init>"), (0, u "()V"), (1, .class_ 10), (1, u "java/util/List"), (2, .class_ 14), (0, u "java/util/RandomAccess"), (4, .class_ 20), (0, u "java/util/Collections"), (63, u "r"), (0, u "Ljava/util/Random;"), (67, u "(Ljava/util/List;)V"), (9, .nameAndType 164 165), (0, u "getClass"), (0, u "()Ljava/lang/Class;"), (0, .class_ 167), (0, u "java/util/Collections$UnmodifiableCollection"), (6, .class_ 175), (0, u "java/util/Collections$UnmodifiableSequencedCollection"), (6, .class_ 183), (0, u "java/util/Collections$UnmodifiableSet"), (6, .class_ 191), (0, u "java/util/Collections$UnmodifiableSequencedSet"), (6, .class_ 199), (0, u "java/util/Collections$UnmodifiableSortedSet"), (6, .class_ 207), (0, u "java/util/Collections$UnmodifiableNavigableSet"), (3, .interfaceMethodref 8 163), (0, .class_ 213), (0, u "java/util/Collections$UnmodifiableList"), (0, .interfaceMethodref 8 163), (0, .class_ 216), (0, u "java/util/Collections$UnmodifiableRandomAccessList"), (0, .methodref 215 218), (0, .nameAndType 5 153), (4, .class_ 224), (0, u "java/util/Collections$UnmodifiableMap"), (6, .class_ 232), (0, u "java/util/Collections$UnmodifiableSequencedMap"), (4, .class_ 238), (0, u "java/util/Collections$UnmodifiableSortedMap"), (6, .class_ 246), (0, u "java/util/Collections$UnmodifiableNavigableMap"), (3, .class_ 251), (0, u "java/util/Collections$SynchronizedCollection"), (4, .class_ 257), (0, u "java/util/Collections$SynchronizedSet"), (4, .class_ 263), (0, u "java/util/Collections$SynchronizedSortedSet"), (1, .class_ 266), (0, u "java/util/Collections$SynchronizedNavigableSet"), (1, .class_ 269), (0, u "java/util/Collections$SynchronizedRandomAccessList"), (1, .class_ 272), (0, u "java/util/Collections$SynchronizedList"), (5, .class_ 279), (0, u "java/util/Collections$SynchronizedMap"), (1, .class_ 282), (0, u "java/util/Collections$SynchronizedSortedMap"), (1, .class_ 285), (0, u "java/util/Collections$SynchronizedNavigableMap"), (1, .class_ 288), (0, u "java/util/Collections$CheckedCollection"), (11, .class_ 301), (0, u "java/util/Collections$CheckedQueue"), (3, .class_ 306), (0, u "java/util/Collections$CheckedSet"), (3, .class_ 311), (0, u "java/util/Collections$CheckedSortedSet"), (3, .class_ 316), (0, u "java/util/Collections$CheckedNavigableSet"), (3, .class_ 321), (0, u "java/util/Collections$CheckedRandomAccessList"), (3, .class_ 326), (0, u "java/util/Collections$CheckedList"), (1, .class_ 329), (0, u "java/util/Collections$CheckedMap"), (3, .class_ 334), (0, u "java/util/Collections$CheckedSortedMap"), (3, .class_ 339), (0, u "java/util/Collections$CheckedNavigableMap"), (4, .class_ 346), (1, u "java/util/Collections$EmptyIterator"), (3, .class_ 352), (1, u "java/util/Collections$EmptyListIterator"), (2, .class_ 357), (1, u "java/util/Collections$EmptyEnumeration"), (4, u "EMPTY_SET"), (0, u "Ljava/util/Set;"), (6, u "EMPTY_LIST"), (0, u "Ljava/util/List;"), (2, u "EMPTY_MAP"), (0, u "Ljava/util/Map;"), (4, .class_ 381), (0, u "java/util/Collections$SingletonSet"), (2, .class_ 385), (0, u "java/util/Collections$1"), (1, .class_ 388), (0, u "java/util/Collections$2"), (1, .class_ 391), (0, u "java/util/Collections$SingletonList"), (1, .class_ 394), (0, u "java/util/Collections$SingletonMap"), (22, .class_ 418), (0, u "java/util/Collections$CopiesList"), (4, .class_ 425), (1, u "java/util/Collections$ReverseComparator"), (8, .class_ 435), (0, u "java/util/Collections$ReverseComparator2"), (6, .class_ 443), (0, u "java/util/Collections$3"), (25, .class_ 470), (0, u "java/util/Collections$SetFromMap"), (2, .class_ 474), (0, u "java/util/Collections$SequencedSetFromMap"), (3, .class_ 479), (0, u "java/util/Collections$AsLIFOQueue"), (11, .class_ 492), (0, u "java/util/Collections$EmptySet"), (1, .class_ 495), (0, u "java/util/Collections$EmptyList"), (1, .class_ 498), (0, u "java/util/Collections$EmptyMap"), (1, u "BINARYSEARCH_THRESHOLD"), (0, u "I"), (2, u "REVERSE_THRESHOLD"), (1, u "SHUFFLE_THRESHOLD"), (1, u "FILL_THRESHOLD"), (1, u "ROTATE_THRESHOLD"), (1, u "COPY_THRESHOLD"), (1, u "REPLACEALL_THRESHOLD"), (1, u "INDEXOFSUBLIST_THRESHOLD"), (129, u "unmodifiableList"), (0, u "(Ljava/util/List;)Ljava/util/List;"), (202, .class_ 851), (0, u "java/util/Collections$CheckedMap$CheckedEntrySet"), (0, .class_ 853), (0, u "java/util/Collections$CheckedMap$CheckedEntrySet$CheckedEntry"), (0, .class_ 855), (0, u "java/util/Collections$CheckedMap$CheckedEntrySet$1"), (0, .class_ 857), (0, u "java/util/Collections$CheckedList$1"), (0, .class_ 859), (0, u "java/util/Collections$CheckedCollection$1"), (0, .class_ 861), (0, u "java/util/Collections$UnmodifiableNavigableMap$EmptyNavigableMap"), (0, .class_ 863), (0, u "java/util/Collections$UnmodifiableMap$UnmodifiableEntrySet"), (0, .class_ 865), (0, u "java/util/Collections$UnmodifiableMap$UnmodifiableEntrySet$UnmodifiableEntry"), (0, .class_ 867), (0, u "java/util/Collections$UnmodifiableMap$UnmodifiableEntrySet$UnmodifiableEntrySetSpliterator"), (0, .class_ 869), (0, u "java/util/Collections$UnmodifiableMap$UnmodifiableEntrySet$1"), (0, .class_ 871), (0, u "java/util/Collections$UnmodifiableList$1"), (0, .class_ 873), (0, u "java/util/Collections$UnmodifiableNavigableSet$EmptyNavigableSet"), (0, .class_ 875), (0, u "java/util/Collections$UnmodifiableCollection$1")] 57

def k18m0 : Method := { name := "<init>", desc := "()V", sig := { parameters := [], returnType := none }, accessFlags := 2, code := none }
def k18c1 : Code := { maxStack := 3, maxLocals := 1, code := jdk_79_method_35_code, exceptionTable := #[], attributes := #[] }
def k18m1 : Method := { name := "unmodifiableList", desc := "(Ljava/util/List;)Ljava/util/List;", sig := { parameters := [(.object "java/util/List")], returnType := some (.object "java/util/List") }, accessFlags := 9, code := some k18c1 }
/-- java/util/Collections -/
def k18 : Class := { plain "java/util/Collections" (some 0) with
  accessFlags := 33
  interfaces := #[]
  cf := some (fileOf pool18 19 #[.nestMembers #[478, 473, 469, 434, 423, 417, 393, 390, 380, 497, 494, 491, 355, 350, 344, 338, 333, 328, 850, 852, 854, 320, 325, 856, 315, 310, 305, 300, 287, 858, 284, 281, 278, 268, 271, 265, 262, 256, 250, 245, 860, 237, 231, 223, 862, 864, 866, 868, 215, 212, 870, 206, 872, 198, 190, 182, 174, 166, 874, 442, 387, 384]] #[{ accessFlags := 2, nameIndex := 5, descriptorIndex := 6, attributes := #[] }, { accessFlags := 9, nameIndex := 646, descriptorIndex := 647, attributes := #[] }] 33 2 #[] #[{ accessFlags := 26, nameIndex := 500, descriptorIndex := 501, attributes := #[] }, { accessFlags := 26, nameIndex := 504, descriptorIndex := 501, attributes := #[] }, { accessFlags := 26, nameIndex := 506, descriptorIndex := 501, attributes := #[] }, { accessFlags := 26, nameIndex := 508, descriptorIndex := 501, attributes := #[] }, { accessFlags := 26, nameIndex := 510, descriptorIndex := 501, attributes := #[] }, { accessFlags := 26, nameIndex := 512, descriptorIndex := 501, attributes := #[] }, { accessFlags := 26, nameIndex := 514, descriptorIndex := 501, attributes := #[] }, { accessFlags := 26, nameIndex := 516, descriptorIndex := 501, attributes := #[] }, { accessFlags := 10, nameIndex := 84, descriptorIndex := 85, attributes := #[] }, { accessFlags := 25, nameIndex := 362, descriptorIndex := 363, attributes := #[] }, { accessFlags := 25, nameIndex := 370, descriptorIndex := 371, attributes := #[] }, { accessFlags := 25, nameIndex := 374, descriptorIndex := 375, attributes := #[] }])
  fields := #[{ name := "BINARYSEARCH_THRESHOLD", type := .int, accessFlags := 26, slot := 0, constantValue := 0 }, { name := "REVERSE_THRESHOLD", type := .int, accessFlags := 26, slot := 1, constantValue := 0 }, { name := "SHUFFLE_THRESHOLD", type := .int, accessFlags := 26, slot := 2, constantValue := 0 }, { name := "FILL_THRESHOLD", type := .int, accessFlags := 26, slot := 3, constantValue := 0 }, { name := "ROTATE_THRESHOLD", type := .int, accessFlags := 26, slot := 4, constantValue := 0 }, { name := "COPY_THRESHOLD", type := .int, accessFlags := 26, slot := 5, constantValue := 0 }, { name := "REPLACEALL_THRESHOLD", type := .int, accessFlags := 26, slot := 6, constantValue := 0 }, { name := "INDEXOFSUBLIST_THRESHOLD", type := .int, accessFlags := 26, slot := 7, constantValue := 0 }, { name := "r", type := (.object "java/util/Random"), accessFlags := 10, slot := 8, constantValue := 0 }, { name := "EMPTY_SET", type := (.object "java/util/Set"), accessFlags := 25, slot := 9, constantValue := 0 }, { name := "EMPTY_LIST", type := (.object "java/util/List"), accessFlags := 25, slot := 10, constantValue := 0 }, { name := "EMPTY_MAP", type := (.object "java/util/Map"), accessFlags := 25, slot := 11, constantValue := 0 }]
  methods := #[k18m0, k18m1]
  instanceTypes := #[]
  staticTypes := #[.int, .int, .int, .int, .int, .int, .int, .int, (.object "java/util/Random"), (.object "java/util/Set"), (.object "java/util/List"), (.object "java/util/Map")]
  resolved := Array.replicate 933 none
  statics := none }

def pool19 : Array CpInfo := pool [(1, .methodref 2 3), (0, .class_ 4), (0, .nameAndType 5 6), (0, u "java/lang/Object"), (0, u "<init>"), (0, u "()V"), (3, .fieldref 11 12), (0, .class_ 13), (0, .nameAndType 14 15), (0, u "java/util/Collections$UnmodifiableCollection"), (0, u "c"), (0, u "Ljava/util/Collection;"), (1, .class_ 19), (1, u "java/util/Collection"), (51, .class_ 72), (0, u "java/io/Serializable"), (0, u "serialVersionUID"), (0, u "J"), (5, u "(Ljava/util/Collection;)V"), (51, .class_ 133), (0, u "java/util/Collections")] 2

def k19c0 : Code := { maxStack := 2, maxLocals := 2, code := jdk_119_method_1_code, exceptionTable := #[], attributes := #[] }
def k19m0 : Method := { name := "<init>", desc := "(Ljava/util/Collection;)V", sig := { parameters := [(.object "java/util/Collection")], returnType := none }, accessFlags := 0, code := some k19c0 }
/-- java/util/Collections$UnmodifiableCollection -/
def k19 : Class := { plain "java/util/Collections$UnmodifiableCollection" (some 0) with
  accessFlags := 32
  interfaces := #[4, 11]
  cf := some (fileOf pool19 11 #[.nestHost 132] #[{ accessFlags := 0, nameIndex := 5, descriptorIndex := 80, attributes := #[] }] 32 2 #[17, 71] #[{ accessFlags := 26, nameIndex := 73, descriptorIndex := 74, attributes := #[] }, { accessFlags := 16, nameIndex := 14, descriptorIndex := 15, attributes := #[] }])
  fields := #[{ name := "serialVersionUID", type := .long, accessFlags := 26, slot := 0, constantValue := 0 }, { name := "c", type := (.object "java/util/Collection"), accessFlags := 16, slot := 0, constantValue := 0 }]
  methods := #[k19m0]
  instanceTypes := #[(.object "java/util/Collection")]
  staticTypes := #[.long]
  resolved := Array.replicate 136 none
  statics := none }

def pool20 : Array CpInfo := pool [(1, .methodref 2 3), (0, .class_ 4), (0, .nameAndType 5 6), (0, u "java/util/Collections$UnmodifiableCollection"), (0, u "<init>"), (0, u "(Ljava/util/Collection;)V"), (0, .fieldref 8 9), (0, .class_ 10), (0, .nameAndType 11 12), (0, u "java/util/Collections$UnmodifiableList"), (0, u "list"), (0, u "Ljava/util/List;"), (1, .class_ 16), (1, u "java/util/List"), (37, u "(Ljava/util/List;)V"), (5, u "serialVersionUID"), (0, u "J"), (59, .class_ 122), (0, u "java/util/Collections")] 4

def k20c0 : Code := { maxStack := 2, maxLocals := 2, code := jdk_120_method_1_code, exceptionTable := #[], attributes := #[] }
def k20m0 : Method := { name := "<init>", desc := "(Ljava/util/List;)V", sig := { parameters := [(.object "java/util/List")], returnType := none }, accessFlags := 0, code := some k20c0 }
/-- java/util/Collections$UnmodifiableList -/
def k20 : Class := { plain "java/util/Collections$UnmodifiableList" (some 19) with
  accessFlags := 32
  interfaces := #[7]
  cf := some (fileOf pool20 8 #[.nestHost 121] #[{ accessFlags := 0, nameIndex := 5, descriptorIndex := 54, attributes := #[] }] 32 2 #[14] #[{ accessFlags := 26, nameIndex := 60, descriptorIndex := 61, attributes := #[] }, { accessFlags := 16, nameIndex := 11, descriptorIndex := 12, attributes := #[] }])
  fields := #[{ name := "serialVersionUID", type := .long, accessFlags := 26, slot := 0, constantValue := 0 }, { name := "list", type := (.object "java/util/List"), accessFlags := 16, slot := 1, constantValue := 0 }]
  methods := #[k20m0]
  instanceTypes := #[(.object "java/util/Collection"), (.object "java/util/List")]
  staticTypes := #[.long]
  resolved := Array.replicate 127 none
  mirror := some 4
  statics := none }

def pool21 : Array CpInfo := pool [(1, .methodref 2 3), (0, .class_ 4), (0, .nameAndType 5 6), (0, u "java/util/Collections$UnmodifiableList"), (0, u "<init>"), (0, u "(Ljava/util/List;)V"), (0, .class_ 8), (0, u "java/util/Collections$UnmodifiableRandomAccessList"), (11, .class_ 21), (0, u "java/util/RandomAccess"), (0, u "serialVersionUID"), (0, u "J"), (23, .class_ 48), (0, u "java/util/Collections")] 3

def k21c0 : Code := { maxStack := 2, maxLocals := 2, code := jdk_121_method_1_code, exceptionTable := #[], attributes := #[] }
def k21m0 : Method := { name := "<init>", desc := "(Ljava/util/List;)V", sig := { parameters := [(.object "java/util/List")], returnType := none }, accessFlags := 0, code := some k21c0 }
/-- java/util/Collections$UnmodifiableRandomAccessList -/
def k21 : Class := { plain "java/util/Collections$UnmodifiableRandomAccessList" (some 20) with
  accessFlags := 32
  interfaces := #[9]
  cf := some (fileOf pool21 7 #[.nestHost 47] #[{ accessFlags := 0, nameIndex := 5, descriptorIndex := 6, attributes := #[] }] 32 2 #[20] #[{ accessFlags := 26, nameIndex := 22, descriptorIndex := 23, attributes := #[] }])
  fields := #[{ name := "serialVersionUID", type := .long, accessFlags := 26, slot := 0, constantValue := 0 }]
  methods := #[k21m0]
  instanceTypes := #[(.object "java/util/Collection"), (.object "java/util/List")]
  staticTypes := #[.long]
  resolved := Array.replicate 52 none
  mirror := some 5
  statics := none }

def pool22 : Array CpInfo := pool [(1, .methodref 2 3), (0, .class_ 4), (0, .nameAndType 5 6), (0, u "java/lang/Record"), (0, u "<init>"), (0, u "()V"), (0, .fieldref 8 9), (0, .class_ 10), (0, .nameAndType 11 12), (0, u "com/example/key3/key3/cql/Request"), (0, u "state"), (0, u "Lcom/example/key3/key3/cql/ClientState;"), (0, .fieldref 8 14), (0, .nameAndType 15 16), (0, u "values"), (0, u "Ljava/util/List;"), (0, .fieldref 8 18), (0, .nameAndType 19 20), (0, u "now"), (0, u "J"), (0, .fieldref 8 22), (0, .nameAndType 23 24), (0, u "pageSize"), (0, u "I"), (0, .fieldref 8 26), (0, .nameAndType 27 28), (0, u "pagingState"), (0, u "Ljava/nio/ByteBuffer;"), (0, .methodref 30 31), (0, .class_ 32), (0, .nameAndType 23 33), (0, u "com/example/key3/key3/cql/Parameters"), (0, u "()I"), (0, .methodref 30 35), (0, .nameAndType 27 36), (0, u "()Ljava/nio/ByteBuffer;"), (0, .methodref 8 38), (0, .nameAndType 5 39), (0, u "(Lcom/example/key3/key3/cql/ClientState;Ljava/util/List;JILjava/nio/ByteBuffer;)V"), (18, u "of"), (0, u "(Lcom/example/key3/key3/cql/ClientState;Ljava/util/List;JLcom/example/key3/key3/cql/Parameters;)Lcom/example/key3/key3/cql/Request;"), (3, u "()Lcom/example/key3/key3/cql/ClientState;"), (0, u "()Ljava/util/List;"), (1, u "()J")] 24

def k22c0 : Code := { maxStack := 3, maxLocals := 7, code := prog_49_method_1_code, exceptionTable := #[], attributes := #[] }
def k22m0 : Method := { name := "<init>", desc := "(Lcom/example/key3/key3/cql/ClientState;Ljava/util/List;JILjava/nio/ByteBuffer;)V", sig := { parameters := [(.object "com/example/key3/key3/cql/ClientState"), (.object "java/util/List"), .long, .int, (.object "java/nio/ByteBuffer")], returnType := none }, accessFlags := 0, code := some k22c0 }
def k22c1 : Code := { maxStack := 8, maxLocals := 5, code := prog_49_method_2_code, exceptionTable := #[], attributes := #[] }
def k22m1 : Method := { name := "of", desc := "(Lcom/example/key3/key3/cql/ClientState;Ljava/util/List;JLcom/example/key3/key3/cql/Parameters;)Lcom/example/key3/key3/cql/Request;", sig := { parameters := [(.object "com/example/key3/key3/cql/ClientState"), (.object "java/util/List"), .long, (.object "com/example/key3/key3/cql/Parameters")], returnType := some (.object "com/example/key3/key3/cql/Request") }, accessFlags := 8, code := some k22c1 }
def k22c2 : Code := { maxStack := 1, maxLocals := 1, code := prog_49_method_6_code, exceptionTable := #[], attributes := #[] }
def k22m2 : Method := { name := "state", desc := "()Lcom/example/key3/key3/cql/ClientState;", sig := { parameters := [], returnType := some (.object "com/example/key3/key3/cql/ClientState") }, accessFlags := 1, code := some k22c2 }
def k22c3 : Code := { maxStack := 1, maxLocals := 1, code := prog_49_method_7_code, exceptionTable := #[], attributes := #[] }
def k22m3 : Method := { name := "values", desc := "()Ljava/util/List;", sig := { parameters := [], returnType := some (.object "java/util/List") }, accessFlags := 1, code := some k22c3 }
def k22c4 : Code := { maxStack := 2, maxLocals := 1, code := prog_49_method_8_code, exceptionTable := #[], attributes := #[] }
def k22m4 : Method := { name := "now", desc := "()J", sig := { parameters := [], returnType := some .long }, accessFlags := 1, code := some k22c4 }
def k22c5 : Code := { maxStack := 1, maxLocals := 1, code := prog_49_method_9_code, exceptionTable := #[], attributes := #[] }
def k22m5 : Method := { name := "pageSize", desc := "()I", sig := { parameters := [], returnType := some .int }, accessFlags := 1, code := some k22c5 }
def k22c6 : Code := { maxStack := 1, maxLocals := 1, code := prog_49_method_10_code, exceptionTable := #[], attributes := #[] }
def k22m6 : Method := { name := "pagingState", desc := "()Ljava/nio/ByteBuffer;", sig := { parameters := [], returnType := some (.object "java/nio/ByteBuffer") }, accessFlags := 1, code := some k22c6 }
/-- com/example/key3/key3/cql/Request -/
def k22 : Class := { plain "com/example/key3/key3/cql/Request" (some 14) with
  accessFlags := 48
  interfaces := #[]
  cf := some (fileOf pool22 8 #[] #[{ accessFlags := 0, nameIndex := 5, descriptorIndex := 39, attributes := #[] }, { accessFlags := 8, nameIndex := 58, descriptorIndex := 59, attributes := #[] }, { accessFlags := 1, nameIndex := 11, descriptorIndex := 63, attributes := #[] }, { accessFlags := 1, nameIndex := 15, descriptorIndex := 64, attributes := #[] }, { accessFlags := 1, nameIndex := 19, descriptorIndex := 66, attributes := #[] }, { accessFlags := 1, nameIndex := 23, descriptorIndex := 33, attributes := #[] }, { accessFlags := 1, nameIndex := 27, descriptorIndex := 36, attributes := #[] }] 48 2 #[] #[{ accessFlags := 18, nameIndex := 11, descriptorIndex := 12, attributes := #[] }, { accessFlags := 18, nameIndex := 15, descriptorIndex := 16, attributes := #[] }, { accessFlags := 18, nameIndex := 19, descriptorIndex := 20, attributes := #[] }, { accessFlags := 18, nameIndex := 23, descriptorIndex := 24, attributes := #[] }, { accessFlags := 18, nameIndex := 27, descriptorIndex := 28, attributes := #[] }])
  fields := #[{ name := "state", type := (.object "com/example/key3/key3/cql/ClientState"), accessFlags := 18, slot := 0, constantValue := 0 }, { name := "values", type := (.object "java/util/List"), accessFlags := 18, slot := 1, constantValue := 0 }, { name := "now", type := .long, accessFlags := 18, slot := 2, constantValue := 0 }, { name := "pageSize", type := .int, accessFlags := 18, slot := 3, constantValue := 0 }, { name := "pagingState", type := (.object "java/nio/ByteBuffer"), accessFlags := 18, slot := 4, constantValue := 0 }]
  methods := #[k22m0, k22m1, k22m2, k22m3, k22m4, k22m5, k22m6]
  instanceTypes := #[(.object "com/example/key3/key3/cql/ClientState"), (.object "java/util/List"), .long, .int, (.object "java/nio/ByteBuffer")]
  staticTypes := #[]
  resolved := Array.replicate 91 none
  statics := none }

def pool23 : Array CpInfo := pool [(4, .class_ 6), (1, u "java/lang/Object"), (3, .class_ 12), (1, u "java/nio/Buffer"), (0, u "mark"), (0, u "I"), (2, u "position"), (2, u "address"), (0, u "J"), (2, u "capacity"), (2, u "segment"), (0, u "Ljava/lang/foreign/MemorySegment;"), (6, u "limit"), (32, u "$assertionsDisabled"), (0, u "Z"), (42, u "IOOBE_FORMATTER"), (0, u "Ljava/util/function/BiFunction;"), (34, u "UNSAFE"), (0, u "Ljdk/internal/misc/Unsafe;"), (8, u "SCOPED_MEMORY_ACCESS"), (0, u "Ljdk/internal/misc/ScopedMemoryAccess;"), (0, .class_ 161), (0, u "java/nio/Buffer$1"), (5, .class_ 168), (0, u "java/nio/Buffer$2"), (7, u "SPLITERATOR_CHARACTERISTICS")] 79

/-- java/nio/Buffer -/
def k23 : Class := { plain "java/nio/Buffer" (some 0) with
  accessFlags := 1057
  interfaces := #[]
  cf := some (fileOf pool23 10 #[.nestMembers #[167, 160]] #[] 1057 4 #[] #[{ accessFlags := 24, nameIndex := 148, descriptorIndex := 149, attributes := #[] }, { accessFlags := 24, nameIndex := 158, descriptorIndex := 159, attributes := #[] }, { accessFlags := 24, nameIndex := 176, descriptorIndex := 14, attributes := #[] }, { accessFlags := 2, nameIndex := 13, descriptorIndex := 14, attributes := #[] }, { accessFlags := 2, nameIndex := 17, descriptorIndex := 14, attributes := #[] }, { accessFlags := 2, nameIndex := 35, descriptorIndex := 14, attributes := #[] }, { accessFlags := 18, nameIndex := 24, descriptorIndex := 14, attributes := #[] }, { accessFlags := 0, nameIndex := 20, descriptorIndex := 21, attributes := #[] }, { accessFlags := 16, nameIndex := 27, descriptorIndex := 28, attributes := #[] }, { accessFlags := 26, nameIndex := 112, descriptorIndex := 113, attributes := #[] }, { accessFlags := 4120, nameIndex := 68, descriptorIndex := 69, attributes := #[] }])
  fields := #[{ name := "UNSAFE", type := (.object "jdk/internal/misc/Unsafe"), accessFlags := 24, slot := 0, constantValue := 0 }, { name := "SCOPED_MEMORY_ACCESS", type := (.object "jdk/internal/misc/ScopedMemoryAccess"), accessFlags := 24, slot := 1, constantValue := 0 }, { name := "SPLITERATOR_CHARACTERISTICS", type := .int, accessFlags := 24, slot := 2, constantValue := 0 }, { name := "mark", type := .int, accessFlags := 2, slot := 0, constantValue := 0 }, { name := "position", type := .int, accessFlags := 2, slot := 1, constantValue := 0 }, { name := "limit", type := .int, accessFlags := 2, slot := 2, constantValue := 0 }, { name := "capacity", type := .int, accessFlags := 18, slot := 3, constantValue := 0 }, { name := "address", type := .long, accessFlags := 0, slot := 4, constantValue := 0 }, { name := "segment", type := (.object "java/lang/foreign/MemorySegment"), accessFlags := 16, slot := 5, constantValue := 0 }, { name := "IOOBE_FORMATTER", type := (.object "java/util/function/BiFunction"), accessFlags := 26, slot := 3, constantValue := 0 }, { name := "$assertionsDisabled", type := .boolean, accessFlags := 4120, slot := 4, constantValue := 0 }]
  methods := #[]
  instanceTypes := #[.int, .int, .int, .int, .long, (.object "java/lang/foreign/MemorySegment")]
  staticTypes := #[(.object "jdk/internal/misc/Unsafe"), (.object "jdk/internal/misc/ScopedMemoryAccess"), .int, (.object "java/util/function/BiFunction"), .boolean]
  resolved := Array.replicate 256 none
  statics := none }

def pool24 : Array CpInfo := pool [(1, .class_ 2), (0, u "java/lang/Comparable"), (0, .class_ 4), (0, u "java/lang/Object")] 7

/-- java/lang/Comparable -/
def k24 : Class := { plain "java/lang/Comparable" (some 0) with
  accessFlags := 1537
  interfaces := #[]
  cf := some (fileOf pool24 1 #[] #[] 1537 3 #[] #[])
  fields := #[]
  methods := #[]
  instanceTypes := #[]
  staticTypes := #[]
  resolved := Array.replicate 12 none
  statics := none }

def pool25 : Array CpInfo := pool [(2, .class_ 4), (1, u "java/nio/Buffer"), (3, .class_ 10), (1, u "java/nio/ByteBuffer"), (0, u "bigEndian"), (0, u "Z"), (12, u "nativeByteOrder"), (2, u "hb"), (0, u "[B"), (2, u "offset"), (0, u "I"), (69, u "J"), (2, u "ARRAY_BASE_OFFSET"), (33, u "isReadOnly"), (13, u "$assertionsDisabled"), (158, .class_ 314), (0, u "java/lang/Comparable")] 131

/-- java/nio/ByteBuffer -/
def k25 : Class := { plain "java/nio/ByteBuffer" (some 23) with
  accessFlags := 1057
  interfaces := #[24]
  cf := some (fileOf pool25 8 #[] #[] 1057 2 #[313] #[{ accessFlags := 26, nameIndex := 106, descriptorIndex := 103, attributes := #[] }, { accessFlags := 16, nameIndex := 28, descriptorIndex := 29, attributes := #[] }, { accessFlags := 16, nameIndex := 32, descriptorIndex := 33, attributes := #[] }, { accessFlags := 0, nameIndex := 140, descriptorIndex := 12, attributes := #[] }, { accessFlags := 0, nameIndex := 11, descriptorIndex := 12, attributes := #[] }, { accessFlags := 0, nameIndex := 25, descriptorIndex := 12, attributes := #[] }, { accessFlags := 4120, nameIndex := 154, descriptorIndex := 12, attributes := #[] }])
  fields := #[{ name := "ARRAY_BASE_OFFSET", type := .long, accessFlags := 26, slot := 0, constantValue := 0 }, { name := "hb", type := (.array .byte), accessFlags := 16, slot := 6, constantValue := 0 }, { name := "offset", type := .int, accessFlags := 16, slot := 7, constantValue := 0 }, { name := "isReadOnly", type := .boolean, accessFlags := 0, slot := 8, constantValue := 0 }, { name := "bigEndian", type := .boolean, accessFlags := 0, slot := 9, constantValue := 0 }, { name := "nativeByteOrder", type := .boolean, accessFlags := 0, slot := 10, constantValue := 0 }, { name := "$assertionsDisabled", type := .boolean, accessFlags := 4120, slot := 1, constantValue := 0 }]
  methods := #[]
  instanceTypes := #[.int, .int, .int, .int, .long, (.object "java/lang/foreign/MemorySegment"), (.array .byte), .int, .boolean, .boolean, .boolean]
  staticTypes := #[.long, .boolean]
  resolved := Array.replicate 446 none
  statics := none }

def pool26 : Array CpInfo := pool [(2, .class_ 4), (1, u "java/nio/ByteBuffer"), (3, .class_ 10), (1, u "java/nio/HeapByteBuffer"), (0, u "ARRAY_BASE_OFFSET"), (0, u "J"), (5, u "ARRAY_INDEX_SCALE"), (79, u "$assertionsDisabled"), (0, u "Z")] 260

/-- java/nio/HeapByteBuffer -/
def k26 : Class := { plain "java/nio/HeapByteBuffer" (some 25) with
  accessFlags := 32
  interfaces := #[]
  cf := some (fileOf pool26 8 #[] #[] 32 2 #[] #[{ accessFlags := 26, nameIndex := 11, descriptorIndex := 12, attributes := #[] }, { accessFlags := 26, nameIndex := 18, descriptorIndex := 12, attributes := #[] }, { accessFlags := 4120, nameIndex := 98, descriptorIndex := 99, attributes := #[] }])
  fields := #[{ name := "ARRAY_BASE_OFFSET", type := .long, accessFlags := 26, slot := 0, constantValue := 0 }, { name := "ARRAY_INDEX_SCALE", type := .long, accessFlags := 26, slot := 1, constantValue := 0 }, { name := "$assertionsDisabled", type := .boolean, accessFlags := 4120, slot := 2, constantValue := 0 }]
  methods := #[]
  instanceTypes := #[.int, .int, .int, .int, .long, (.object "java/lang/foreign/MemorySegment"), (.array .byte), .int, .boolean, .boolean, .boolean]
  staticTypes := #[.long, .long, .boolean]
  resolved := Array.replicate 360 none
  statics := none }

def pool27 : Array CpInfo := pool [(2, .class_ 4), (1, u "java/nio/HeapByteBuffer"), (3, .class_ 10), (1, u "java/nio/HeapByteBufferR")] 188

/-- java/nio/HeapByteBufferR -/
def k27 : Class := { plain "java/nio/HeapByteBufferR" (some 26) with
  accessFlags := 48
  interfaces := #[]
  cf := some (fileOf pool27 8 #[] #[] 48 2 #[] #[])
  fields := #[]
  methods := #[]
  instanceTypes := #[.int, .int, .int, .int, .long, (.object "java/lang/foreign/MemorySegment"), (.array .byte), .int, .boolean, .boolean, .boolean]
  staticTypes := #[]
  resolved := Array.replicate 199 none
  statics := none }

def pool28 : Array CpInfo := pool [(1, u "java/lang/Class"), (0, .class_ 1), (0, u "java/lang/Object"), (0, .class_ 3)] 3

/-- java/lang/Class -/
def k28 : Class := { plain "java/lang/Class" (some 0) with
  accessFlags := 49
  interfaces := #[]
  cf := some (fileOf pool28 2 #[] #[] 49 4 #[] #[])
  fields := #[]
  methods := #[]
  instanceTypes := #[]
  staticTypes := #[]
  resolved := Array.replicate 8 none
  statics := none }

/-- the primitive byte -/
def k29 : Class := { plain "byte" none with kind := .primitive 'B', accessFlags := 0x411 }
/-- [B -/
def k30 : Class := { plain "[B" (some 0) with kind := .array 29 .byte, interfaces := #[10, 11], accessFlags := 1041 }

/-- the primitive int -/
def k31 : Class := { plain "int" none with kind := .primitive 'I', accessFlags := 0x411 }
/-- [I -/
def k32 : Class := { plain "[I" (some 0) with kind := .array 31 .int, interfaces := #[10, 11], accessFlags := 1041 }

/-- [Ljava/lang/Object; -/
def k33 : Class := { plain "[Ljava/lang/Object;" (some 0) with kind := .array 0 (.object "java/lang/Object"), interfaces := #[10, 11], accessFlags := 1041, mirror := some 2 }

def heap : Heap := #[{ cls := 12, slots := #[.long 0, .int 0, .ref 7, .ref 6], vm := .statics 12 },
  { cls := 15, slots := #[.ref 8, .null], vm := .statics 15 },
  { cls := 28, slots := #[], vm := .mirror 33 },
  { cls := 28, slots := #[], vm := .mirror 12 },
  { cls := 28, slots := #[], vm := .mirror 20 },
  { cls := 28, slots := #[], vm := .mirror 21 },
  { cls := 33, slots := #[], vm := .none },
  { cls := 33, slots := #[], vm := .none },
  { cls := 27, slots := #[.int 0, .int 0, .int 0, .int 0, .long 0, .null, .null, .int 0, .int 0, .int 0, .int 0], vm := .none }]
def classes : Array Class := #[k0, k1, k2, k3, k4, k5, k6, k7, k8, k9, k10, k11, k12, k13, k14, k15, k16, k17, k18, k19, k20, k21, k22, k23, k24, k25, k26, k27, k28, k29, k30, k31, k32, k33]
def interned : List (Array UInt16 × Addr) := []
def slotsUsed : Nat := 17
def theMethod : MethodId := ⟨1, 1⟩
def args0 : Array Value := #[.long 5, .int 5, .int 5]
def aboutOver (below : List Frame) : State where
  vm := { classes := classes, interned := interned.toArray }
  heap := heap
  slotsUsed := slotsUsed
  threads := #[{ frames := .invoking theMethod args0 :: below }]
def below0 : List Frame := [.native { method := ⟨0, 0⟩, args := #[] }]
def about1 : State := aboutOver below0
def p0 : Program := .bare "" "" ""
def e0 : Env := launch0.env 0 0 0
theorem w_frames : about1.frames = Frame.invoking theMethod args0 :: below0 := rfl
set_option maxRecDepth 65536 in
theorem w_args : argsFit about1.vm theMethod args0 = true := by decide +kernel
set_option maxRecDepth 65536 in
theorem w_heap : heapFits about1 = true := by decide +kernel
set_option maxRecDepth 65536 in
theorem w_runnable : about1.curStatus? = some .runnable := by decide +kernel
set_option maxRecDepth 65536 in
theorem w_alone : about1.alone = true := by decide +kernel
set_option maxRecDepth 65536 in
theorem w_named : about1.methodNamed? x = some theMethod := by decide +kernel
set_option maxRecDepth 65536 in
theorem w_hears : about1.hears theMethod below0 = true := by decide +kernel
set_option maxRecDepth 65536 in
theorem w_ripe : about1.ripe theMethod args0 below0 = true := by decide +kernel
theorem w_running : about1.status = .running := rfl
set_option maxRecDepth 65536 in
theorem w_room : about1.hasRoom e0.platform room_1 = true :=
  launch0.hasRoom_least _ room_1 (by decide +kernel) (by decide +kernel) (by decide +kernel) (by decide +kernel) (by decide +kernel) (by decide +kernel)
theorem allAtoms_all (ts : List Jvm.Cond) (a : Array Jvm.Value) (st : Jvm.State) : (allAtoms ts).before a st = ts.all (fun c => c.before a st) := by
  induction ts with
  | nil => rfl
  | cons c t ih =>
    show (Jvm.Cond.and c (allAtoms t)).before a st = _
    rw [Jvm.Cond.before_and, ih, List.all_cons]
def words1 : List Jvm.Cond := Jvm.Cond.code x code maxLocals ret :: tables_1
/-- a 'code' word, met by the world's own term for the bytes: nothing is compared byte by byte -/
theorem code_word {y : MethodName} {bytes : ByteArray} {mx : Nat} {rt : Option FieldType} {a : Array Value} {s : State} {m : MethodId} {meth : Method} {c : Code} (h1 : s.methodNamed? y = some m) (h2 : s.vm.method? m = some meth) (h3 : meth.code = some c) (h4 : c.code = bytes)
    (h5 : (c.maxLocals == mx && c.exceptionTable.isEmpty && decide (c.maxStack ≤ mostOperands) && decide (meth.sig.returnType = rt) && !meth.locks && decide (parseMethodDescriptor y.desc = some meth.sig)) = true) : (Jvm.Cond.code y bytes mx rt).before a s = true := by
  simp only [Bool.and_eq_true, beq_iff_eq, Bool.not_eq_true', decide_eq_true_eq] at h5
  obtain ⟨⟨⟨⟨⟨g1, g2⟩, g3⟩, g4⟩, g5⟩, g6⟩ := h5
  simp [Cond.before, Cond.holds, Cond.value, h1, h2, h3, h4, g1, g2, g3, g4, g5, g6]
def isCode : Jvm.Cond → Bool
  | .code _ _ _ _ => true
  | _ => false
theorem all_split {L : List Jvm.Cond} {P : Jvm.Cond → Bool} (h1 : L.all (fun c => isCode c || P c) = true) (h2 : ∀ c ∈ L.filter isCode, P c = true) : L.all P = true := by
  refine List.all_eq_true.mpr fun c hc => ?_
  have h := List.all_eq_true.mp h1 c hc
  rcases Bool.eq_false_or_eq_true (isCode c) with hi | hi
  · exact h2 c (List.mem_filter.mpr ⟨hc, hi⟩)
  · simpa [hi] using h
set_option maxRecDepth 65536 in
theorem w_c0 : (Jvm.Cond.code x code maxLocals ret).before args0 about1 = true := code_word (m := ⟨1, 1⟩) (meth := k1m1) (c := k1c1) (by decide +kernel) rfl rfl rfl (by decide +kernel)
set_option maxRecDepth 65536 in
theorem w_c1 : (Jvm.Cond.code ({ cls := "com/example/key3/key3/cql/ClientState", name := "<init>", desc := "()V" } : Jvm.MethodName) prog_40_method_1_code (1 : Nat) (Option.none : Option Jvm.ClassFile.FieldType)).before args0 about1 = true := code_word (m := ⟨2, 0⟩) (meth := k2m0) (c := k2c0) (by decide +kernel) rfl rfl rfl (by decide +kernel)
set_option maxRecDepth 65536 in
theorem w_c2 : (Jvm.Cond.code ({ cls := "java/lang/Object", name := "<init>", desc := "()V" } : Jvm.MethodName) object_method_1_code (1 : Nat) (Option.none : Option Jvm.ClassFile.FieldType)).before args0 about1 = true := code_word (m := ⟨0, 0⟩) (meth := k0m0) (c := k0c0) (by decide +kernel) rfl rfl rfl (by decide +kernel)
set_option maxRecDepth 65536 in
theorem w_c3 : (Jvm.Cond.code ({ cls := "java/util/ArrayList", name := "<init>", desc := "()V" } : Jvm.MethodName) jdk_38_method_2_code (1 : Nat) (Option.none : Option Jvm.ClassFile.FieldType)).before args0 about1 = true := code_word (m := ⟨12, 0⟩) (meth := k12m0) (c := k12c0) (by decide +kernel) rfl rfl rfl (by decide +kernel)
set_option maxRecDepth 65536 in
theorem w_c4 : (Jvm.Cond.code ({ cls := "java/util/AbstractList", name := "<init>", desc := "()V" } : Jvm.MethodName) jdk_39_method_1_code (1 : Nat) (Option.none : Option Jvm.ClassFile.FieldType)).before args0 about1 = true := code_word (m := ⟨8, 0⟩) (meth := k8m0) (c := k8c0) (by decide +kernel) rfl rfl rfl (by decide +kernel)
set_option maxRecDepth 65536 in
theorem w_c5 : (Jvm.Cond.code ({ cls := "java/util/AbstractCollection", name := "<init>", desc := "()V" } : Jvm.MethodName) jdk_22_method_1_code (1 : Nat) (Option.none : Option Jvm.ClassFile.FieldType)).before args0 about1 = true := code_word (m := ⟨5, 0⟩) (meth := k5m0) (c := k5c0) (by decide +kernel) rfl rfl rfl (by decide +kernel)
set_option maxRecDepth 65536 in
theorem w_c6 : (Jvm.Cond.code ({ cls := "java/util/ArrayList", name := "add", desc := "(Ljava/lang/Object;)Z" } : Jvm.MethodName) jdk_38_method_25_code (2 : Nat) (Option.some Jvm.ClassFile.FieldType.boolean)).before args0 about1 = true := code_word (m := ⟨12, 6⟩) (meth := k12m6) (c := k12c6) (by decide +kernel) rfl rfl rfl (by decide +kernel)
set_option maxRecDepth 65536 in
theorem w_c7 : (Jvm.Cond.code ({ cls := "java/util/ArrayList", name := "add", desc := "(Ljava/lang/Object;[Ljava/lang/Object;I)V" } : Jvm.MethodName) jdk_38_method_24_code (4 : Nat) (Option.none : Option Jvm.ClassFile.FieldType)).before args0 about1 = true := code_word (m := ⟨12, 5⟩) (meth := k12m5) (c := k12c5) (by decide +kernel) rfl rfl rfl (by decide +kernel)
set_option maxRecDepth 65536 in
theorem w_c8 : (Jvm.Cond.code ({ cls := "java/util/ArrayList", name := "grow", desc := "()[Ljava/lang/Object;" } : Jvm.MethodName) jdk_38_method_7_code (1 : Nat) (Option.some (Jvm.ClassFile.FieldType.array (Jvm.ClassFile.FieldType.object "java/lang/Object")))).before args0 about1 = true := code_word (m := ⟨12, 3⟩) (meth := k12m3) (c := k12c3) (by decide +kernel) rfl rfl rfl (by decide +kernel)
set_option maxRecDepth 65536 in
theorem w_c9 : (Jvm.Cond.code ({ cls := "java/util/ArrayList", name := "grow", desc := "(I)[Ljava/lang/Object;" } : Jvm.MethodName) jdk_38_method_6_code (4 : Nat) (Option.some (Jvm.ClassFile.FieldType.array (Jvm.ClassFile.FieldType.object "java/lang/Object")))).before args0 about1 = true := code_word (m := ⟨12, 2⟩) (meth := k12m2) (c := k12c2) (by decide +kernel) rfl rfl rfl (by decide +kernel)
set_option maxRecDepth 65536 in
theorem w_c10 : (Jvm.Cond.code ({ cls := "java/lang/Math", name := "max", desc := "(II)I" } : Jvm.MethodName) jdk_29_method_65_code (2 : Nat) (Option.some Jvm.ClassFile.FieldType.int)).before args0 about1 = true := code_word (m := ⟨13, 1⟩) (meth := k13m1) (c := k13c1) (by decide +kernel) rfl rfl rfl (by decide +kernel)
set_option maxRecDepth 65536 in
theorem w_c11 : (Jvm.Cond.code ({ cls := "com/example/key3/key3/cql/Parameters", name := "<init>", desc := "(Ljava/util/List;Ljava/util/List;ILjava/nio/ByteBuffer;)V" } : Jvm.MethodName) prog_44_method_1_code (5 : Nat) (Option.none : Option Jvm.ClassFile.FieldType)).before args0 about1 = true := code_word (m := ⟨15, 0⟩) (meth := k15m0) (c := k15c0) (by decide +kernel) rfl rfl rfl (by decide +kernel)
set_option maxRecDepth 65536 in
theorem w_c12 : (Jvm.Cond.code ({ cls := "java/lang/Record", name := "<init>", desc := "()V" } : Jvm.MethodName) jdk_30_method_1_code (1 : Nat) (Option.none : Option Jvm.ClassFile.FieldType)).before args0 about1 = true := code_word (m := ⟨14, 0⟩) (meth := k14m0) (c := k14c0) (by decide +kernel) rfl rfl rfl (by decide +kernel)
set_option maxRecDepth 65536 in
theorem w_c13 : (Jvm.Cond.code ({ cls := "java/util/ArrayList", name := "<init>", desc := "(Ljava/util/Collection;)V" } : Jvm.MethodName) jdk_38_method_3_code (3 : Nat) (Option.none : Option Jvm.ClassFile.FieldType)).before args0 about1 = true := code_word (m := ⟨12, 1⟩) (meth := k12m1) (c := k12c1) (by decide +kernel) rfl rfl rfl (by decide +kernel)
set_option maxRecDepth 65536 in
theorem w_c14 : (Jvm.Cond.code ({ cls := "java/util/ArrayList", name := "toArray", desc := "()[Ljava/lang/Object;" } : Jvm.MethodName) jdk_38_method_16_code (1 : Nat) (Option.some (Jvm.ClassFile.FieldType.array (Jvm.ClassFile.FieldType.object "java/lang/Object")))).before args0 about1 = true := code_word (m := ⟨12, 4⟩) (meth := k12m4) (c := k12c4) (by decide +kernel) rfl rfl rfl (by decide +kernel)
set_option maxRecDepth 65536 in
theorem w_c15 : (Jvm.Cond.code ({ cls := "java/util/Arrays", name := "copyOf", desc := "([Ljava/lang/Object;I)[Ljava/lang/Object;" } : Jvm.MethodName) jdk_65_method_119_code (2 : Nat) (Option.some (Jvm.ClassFile.FieldType.array (Jvm.ClassFile.FieldType.object "java/lang/Object")))).before args0 about1 = true := code_word (m := ⟨16, 1⟩) (meth := k16m1) (c := k16c1) (by decide +kernel) rfl rfl rfl (by decide +kernel)
set_option maxRecDepth 65536 in
theorem w_c16 : (Jvm.Cond.code ({ cls := "java/util/Arrays", name := "copyOf", desc := "([Ljava/lang/Object;ILjava/lang/Class;)[Ljava/lang/Object;" } : Jvm.MethodName) jdk_65_method_120_code (4 : Nat) (Option.some (Jvm.ClassFile.FieldType.array (Jvm.ClassFile.FieldType.object "java/lang/Object")))).before args0 about1 = true := code_word (m := ⟨16, 2⟩) (meth := k16m2) (c := k16c2) (by decide +kernel) rfl rfl rfl (by decide +kernel)
set_option maxRecDepth 65536 in
theorem w_c17 : (Jvm.Cond.code ({ cls := "java/lang/Math", name := "min", desc := "(II)I" } : Jvm.MethodName) jdk_29_method_69_code (2 : Nat) (Option.some Jvm.ClassFile.FieldType.int)).before args0 about1 = true := code_word (m := ⟨13, 2⟩) (meth := k13m2) (c := k13c2) (by decide +kernel) rfl rfl rfl (by decide +kernel)
set_option maxRecDepth 65536 in
theorem w_c18 : (Jvm.Cond.code ({ cls := "java/util/Collections", name := "unmodifiableList", desc := "(Ljava/util/List;)Ljava/util/List;" } : Jvm.MethodName) jdk_79_method_35_code (1 : Nat) (Option.some (Jvm.ClassFile.FieldType.object "java/util/List"))).before args0 about1 = true := code_word (m := ⟨18, 1⟩) (meth := k18m1) (c := k18c1) (by decide +kernel) rfl rfl rfl (by decide +kernel)
set_option maxRecDepth 65536 in
theorem w_c19 : (Jvm.Cond.code ({ cls := "java/util/Collections$UnmodifiableRandomAccessList", name := "<init>", desc := "(Ljava/util/List;)V" } : Jvm.MethodName) jdk_121_method_1_code (2 : Nat) (Option.none : Option Jvm.ClassFile.FieldType)).before args0 about1 = true := code_word (m := ⟨21, 0⟩) (meth := k21m0) (c := k21c0) (by decide +kernel) rfl rfl rfl (by decide +kernel)
set_option maxRecDepth 65536 in
theorem w_c20 : (Jvm.Cond.code ({ cls := "java/util/Collections$UnmodifiableList", name := "<init>", desc := "(Ljava/util/List;)V" } : Jvm.MethodName) jdk_120_method_1_code (2 : Nat) (Option.none : Option Jvm.ClassFile.FieldType)).before args0 about1 = true := code_word (m := ⟨20, 0⟩) (meth := k20m0) (c := k20c0) (by decide +kernel) rfl rfl rfl (by decide +kernel)
set_option maxRecDepth 65536 in
theorem w_c21 : (Jvm.Cond.code ({ cls := "java/util/Collections$UnmodifiableCollection", name := "<init>", desc := "(Ljava/util/Collection;)V" } : Jvm.MethodName) jdk_119_method_1_code (2 : Nat) (Option.none : Option Jvm.ClassFile.FieldType)).before args0 about1 = true := code_word (m := ⟨19, 0⟩) (meth := k19m0) (c := k19c0) (by decide +kernel) rfl rfl rfl (by decide +kernel)
set_option maxRecDepth 65536 in
theorem w_c22 : (Jvm.Cond.code ({ cls := "com/example/key3/key3/cql/Request", name := "of", desc := "(Lcom/example/key3/key3/cql/ClientState;Ljava/util/List;JLcom/example/key3/key3/cql/Parameters;)Lcom/example/key3/key3/cql/Request;" } : Jvm.MethodName) prog_49_method_2_code (5 : Nat) (Option.some (Jvm.ClassFile.FieldType.object "com/example/key3/key3/cql/Request"))).before args0 about1 = true := code_word (m := ⟨22, 1⟩) (meth := k22m1) (c := k22c1) (by decide +kernel) rfl rfl rfl (by decide +kernel)
set_option maxRecDepth 65536 in
theorem w_c23 : (Jvm.Cond.code ({ cls := "com/example/key3/key3/cql/Parameters", name := "pageSize", desc := "()I" } : Jvm.MethodName) prog_44_method_10_code (1 : Nat) (Option.some Jvm.ClassFile.FieldType.int)).before args0 about1 = true := code_word (m := ⟨15, 1⟩) (meth := k15m1) (c := k15c1) (by decide +kernel) rfl rfl rfl (by decide +kernel)
set_option maxRecDepth 65536 in
theorem w_c24 : (Jvm.Cond.code ({ cls := "com/example/key3/key3/cql/Parameters", name := "pagingState", desc := "()Ljava/nio/ByteBuffer;" } : Jvm.MethodName) prog_44_method_11_code (1 : Nat) (Option.some (Jvm.ClassFile.FieldType.object "java/nio/ByteBuffer"))).before args0 about1 = true := code_word (m := ⟨15, 2⟩) (meth := k15m2) (c := k15c2) (by decide +kernel) rfl rfl rfl (by decide +kernel)
set_option maxRecDepth 65536 in
theorem w_c25 : (Jvm.Cond.code ({ cls := "com/example/key3/key3/cql/Request", name := "<init>", desc := "(Lcom/example/key3/key3/cql/ClientState;Ljava/util/List;JILjava/nio/ByteBuffer;)V" } : Jvm.MethodName) prog_49_method_1_code (7 : Nat) (Option.none : Option Jvm.ClassFile.FieldType)).before args0 about1 = true := code_word (m := ⟨22, 0⟩) (meth := k22m0) (c := k22c0) (by decide +kernel) rfl rfl rfl (by decide +kernel)
set_option maxRecDepth 65536 in
theorem w_c26 : (Jvm.Cond.code ({ cls := "com/example/key3/key3/cql/Request", name := "state", desc := "()Lcom/example/key3/key3/cql/ClientState;" } : Jvm.MethodName) prog_49_method_6_code (1 : Nat) (Option.some (Jvm.ClassFile.FieldType.object "com/example/key3/key3/cql/ClientState"))).before args0 about1 = true := code_word (m := ⟨22, 2⟩) (meth := k22m2) (c := k22c2) (by decide +kernel) rfl rfl rfl (by decide +kernel)
set_option maxRecDepth 65536 in
theorem w_c27 : (Jvm.Cond.code ({ cls := "com/example/key3/key3/cql/Request", name := "values", desc := "()Ljava/util/List;" } : Jvm.MethodName) prog_49_method_7_code (1 : Nat) (Option.some (Jvm.ClassFile.FieldType.object "java/util/List"))).before args0 about1 = true := code_word (m := ⟨22, 3⟩) (meth := k22m3) (c := k22c3) (by decide +kernel) rfl rfl rfl (by decide +kernel)
set_option maxRecDepth 65536 in
theorem w_c28 : (Jvm.Cond.code ({ cls := "com/example/key3/key3/cql/Request", name := "now", desc := "()J" } : Jvm.MethodName) prog_49_method_8_code (1 : Nat) (Option.some Jvm.ClassFile.FieldType.long)).before args0 about1 = true := code_word (m := ⟨22, 4⟩) (meth := k22m4) (c := k22c4) (by decide +kernel) rfl rfl rfl (by decide +kernel)
set_option maxRecDepth 65536 in
theorem w_c29 : (Jvm.Cond.code ({ cls := "com/example/key3/key3/cql/Request", name := "pageSize", desc := "()I" } : Jvm.MethodName) prog_49_method_9_code (1 : Nat) (Option.some Jvm.ClassFile.FieldType.int)).before args0 about1 = true := code_word (m := ⟨22, 5⟩) (meth := k22m5) (c := k22c5) (by decide +kernel) rfl rfl rfl (by decide +kernel)
set_option maxRecDepth 65536 in
theorem w_c30 : (Jvm.Cond.code ({ cls := "com/example/key3/key3/cql/Request", name := "pagingState", desc := "()Ljava/nio/ByteBuffer;" } : Jvm.MethodName) prog_49_method_10_code (1 : Nat) (Option.some (Jvm.ClassFile.FieldType.object "java/nio/ByteBuffer"))).before args0 about1 = true := code_word (m := ⟨22, 6⟩) (meth := k22m6) (c := k22c6) (by decide +kernel) rfl rfl rfl (by decide +kernel)
def codes1 : List Jvm.Cond := [Jvm.Cond.code x code maxLocals ret, Jvm.Cond.code ({ cls := "com/example/key3/key3/cql/ClientState", name := "<init>", desc := "()V" } : Jvm.MethodName) prog_40_method_1_code (1 : Nat) (Option.none : Option Jvm.ClassFile.FieldType), Jvm.Cond.code ({ cls := "java/lang/Object", name := "<init>", desc := "()V" } : Jvm.MethodName) object_method_1_code (1 : Nat) (Option.none : Option Jvm.ClassFile.FieldType), Jvm.Cond.code ({ cls := "java/util/ArrayList", name := "<init>", desc := "()V" } : Jvm.MethodName) jdk_38_method_2_code (1 : Nat) (Option.none : Option Jvm.ClassFile.FieldType), Jvm.Cond.code ({ cls := "java/util/AbstractList", name := "<init>", desc := "()V" } : Jvm.MethodName) jdk_39_method_1_code (1 : Nat) (Option.none : Option Jvm.ClassFile.FieldType), Jvm.Cond.code ({ cls := "java/util/AbstractCollection", name := "<init>", desc := "()V" } : Jvm.MethodName) jdk_22_method_1_code (1 : Nat) (Option.none : Option Jvm.ClassFile.FieldType), Jvm.Cond.code ({ cls := "java/util/ArrayList", name := "add", desc := "(Ljava/lang/Object;)Z" } : Jvm.MethodName) jdk_38_method_25_code (2 : Nat) (Option.some Jvm.ClassFile.FieldType.boolean), Jvm.Cond.code ({ cls := "java/util/ArrayList", name := "add", desc := "(Ljava/lang/Object;[Ljava/lang/Object;I)V" } : Jvm.MethodName) jdk_38_method_24_code (4 : Nat) (Option.none : Option Jvm.ClassFile.FieldType), Jvm.Cond.code ({ cls := "java/util/ArrayList", name := "grow", desc := "()[Ljava/lang/Object;" } : Jvm.MethodName) jdk_38_method_7_code (1 : Nat) (Option.some (Jvm.ClassFile.FieldType.array (Jvm.ClassFile.FieldType.object "java/lang/Object"))), Jvm.Cond.code ({ cls := "java/util/ArrayList", name := "grow", desc := "(I)[Ljava/lang/Object;" } : Jvm.MethodName) jdk_38_method_6_code (4 : Nat) (Option.some (Jvm.ClassFile.FieldType.array (Jvm.ClassFile.FieldType.object "java/lang/Object"))), Jvm.Cond.code ({ cls := "java/lang/Math", name := "max", desc := "(II)I" } : Jvm.MethodName) jdk_29_method_65_code (2 : Nat) (Option.some Jvm.ClassFile.FieldType.int), Jvm.Cond.code ({ cls := "com/example/key3/key3/cql/Parameters", name := "<init>", desc := "(Ljava/util/List;Ljava/util/List;ILjava/nio/ByteBuffer;)V" } : Jvm.MethodName) prog_44_method_1_code (5 : Nat) (Option.none : Option Jvm.ClassFile.FieldType), Jvm.Cond.code ({ cls := "java/lang/Record", name := "<init>", desc := "()V" } : Jvm.MethodName) jdk_30_method_1_code (1 : Nat) (Option.none : Option Jvm.ClassFile.FieldType), Jvm.Cond.code ({ cls := "java/util/ArrayList", name := "<init>", desc := "(Ljava/util/Collection;)V" } : Jvm.MethodName) jdk_38_method_3_code (3 : Nat) (Option.none : Option Jvm.ClassFile.FieldType), Jvm.Cond.code ({ cls := "java/util/ArrayList", name := "toArray", desc := "()[Ljava/lang/Object;" } : Jvm.MethodName) jdk_38_method_16_code (1 : Nat) (Option.some (Jvm.ClassFile.FieldType.array (Jvm.ClassFile.FieldType.object "java/lang/Object"))), Jvm.Cond.code ({ cls := "java/util/Arrays", name := "copyOf", desc := "([Ljava/lang/Object;I)[Ljava/lang/Object;" } : Jvm.MethodName) jdk_65_method_119_code (2 : Nat) (Option.some (Jvm.ClassFile.FieldType.array (Jvm.ClassFile.FieldType.object "java/lang/Object"))), Jvm.Cond.code ({ cls := "java/util/Arrays", name := "copyOf", desc := "([Ljava/lang/Object;ILjava/lang/Class;)[Ljava/lang/Object;" } : Jvm.MethodName) jdk_65_method_120_code (4 : Nat) (Option.some (Jvm.ClassFile.FieldType.array (Jvm.ClassFile.FieldType.object "java/lang/Object"))), Jvm.Cond.code ({ cls := "java/lang/Math", name := "min", desc := "(II)I" } : Jvm.MethodName) jdk_29_method_69_code (2 : Nat) (Option.some Jvm.ClassFile.FieldType.int), Jvm.Cond.code ({ cls := "java/util/Collections", name := "unmodifiableList", desc := "(Ljava/util/List;)Ljava/util/List;" } : Jvm.MethodName) jdk_79_method_35_code (1 : Nat) (Option.some (Jvm.ClassFile.FieldType.object "java/util/List")), Jvm.Cond.code ({ cls := "java/util/Collections$UnmodifiableRandomAccessList", name := "<init>", desc := "(Ljava/util/List;)V" } : Jvm.MethodName) jdk_121_method_1_code (2 : Nat) (Option.none : Option Jvm.ClassFile.FieldType), Jvm.Cond.code ({ cls := "java/util/Collections$UnmodifiableList", name := "<init>", desc := "(Ljava/util/List;)V" } : Jvm.MethodName) jdk_120_method_1_code (2 : Nat) (Option.none : Option Jvm.ClassFile.FieldType), Jvm.Cond.code ({ cls := "java/util/Collections$UnmodifiableCollection", name := "<init>", desc := "(Ljava/util/Collection;)V" } : Jvm.MethodName) jdk_119_method_1_code (2 : Nat) (Option.none : Option Jvm.ClassFile.FieldType), Jvm.Cond.code ({ cls := "com/example/key3/key3/cql/Request", name := "of", desc := "(Lcom/example/key3/key3/cql/ClientState;Ljava/util/List;JLcom/example/key3/key3/cql/Parameters;)Lcom/example/key3/key3/cql/Request;" } : Jvm.MethodName) prog_49_method_2_code (5 : Nat) (Option.some (Jvm.ClassFile.FieldType.object "com/example/key3/key3/cql/Request")), Jvm.Cond.code ({ cls := "com/example/key3/key3/cql/Parameters", name := "pageSize", desc := "()I" } : Jvm.MethodName) prog_44_method_10_code (1 : Nat) (Option.some Jvm.ClassFile.FieldType.int), Jvm.Cond.code ({ cls := "com/example/key3/key3/cql/Parameters", name := "pagingState", desc := "()Ljava/nio/ByteBuffer;" } : Jvm.MethodName) prog_44_method_11_code (1 : Nat) (Option.some (Jvm.ClassFile.FieldType.object "java/nio/ByteBuffer")), Jvm.Cond.code ({ cls := "com/example/key3/key3/cql/Request", name := "<init>", desc := "(Lcom/example/key3/key3/cql/ClientState;Ljava/util/List;JILjava/nio/ByteBuffer;)V" } : Jvm.MethodName) prog_49_method_1_code (7 : Nat) (Option.none : Option Jvm.ClassFile.FieldType), Jvm.Cond.code ({ cls := "com/example/key3/key3/cql/Request", name := "state", desc := "()Lcom/example/key3/key3/cql/ClientState;" } : Jvm.MethodName) prog_49_method_6_code (1 : Nat) (Option.some (Jvm.ClassFile.FieldType.object "com/example/key3/key3/cql/ClientState")), Jvm.Cond.code ({ cls := "com/example/key3/key3/cql/Request", name := "values", desc := "()Ljava/util/List;" } : Jvm.MethodName) prog_49_method_7_code (1 : Nat) (Option.some (Jvm.ClassFile.FieldType.object "java/util/List")), Jvm.Cond.code ({ cls := "com/example/key3/key3/cql/Request", name := "now", desc := "()J" } : Jvm.MethodName) prog_49_method_8_code (1 : Nat) (Option.some Jvm.ClassFile.FieldType.long), Jvm.Cond.code ({ cls := "com/example/key3/key3/cql/Request", name := "pageSize", desc := "()I" } : Jvm.MethodName) prog_49_method_9_code (1 : Nat) (Option.some Jvm.ClassFile.FieldType.int), Jvm.Cond.code ({ cls := "com/example/key3/key3/cql/Request", name := "pagingState", desc := "()Ljava/nio/ByteBuffer;" } : Jvm.MethodName) prog_49_method_10_code (1 : Nat) (Option.some (Jvm.ClassFile.FieldType.object "java/nio/ByteBuffer"))]
set_option maxRecDepth 65536 in
theorem codes_eq : words1.filter isCode = codes1 := rfl
theorem w_codes : ∀ c ∈ words1.filter isCode, c.before args0 about1 = true := by
  rw [codes_eq]
  intro c hc
  simp only [codes1, List.mem_cons, List.not_mem_nil, or_false] at hc
  rcases hc with rfl | rfl | rfl | rfl | rfl | rfl | rfl | rfl | rfl | rfl | rfl | rfl | rfl | rfl | rfl | rfl | rfl | rfl | rfl | rfl | rfl | rfl | rfl | rfl | rfl | rfl | rfl | rfl | rfl | rfl | rfl
  · exact w_c0
  · exact w_c1
  · exact w_c2
  · exact w_c3
  · exact w_c4
  · exact w_c5
  · exact w_c6
  · exact w_c7
  · exact w_c8
  · exact w_c9
  · exact w_c10
  · exact w_c11
  · exact w_c12
  · exact w_c13
  · exact w_c14
  · exact w_c15
  · exact w_c16
  · exact w_c17
  · exact w_c18
  · exact w_c19
  · exact w_c20
  · exact w_c21
  · exact w_c22
  · exact w_c23
  · exact w_c24
  · exact w_c25
  · exact w_c26
  · exact w_c27
  · exact w_c28
  · exact w_c29
  · exact w_c30
set_option maxRecDepth 65536 in
theorem w_t1 : (words1.take 24).all (fun c => isCode c || c.before args0 about1) = true := by decide +kernel
set_option maxRecDepth 65536 in
theorem w_t2 : ((words1.drop 24).take 24).all (fun c => isCode c || c.before args0 about1) = true := by decide +kernel
set_option maxRecDepth 65536 in
theorem w_t3 : (((words1.drop 24).drop 24).take 24).all (fun c => isCode c || c.before args0 about1) = true := by decide +kernel
set_option maxRecDepth 65536 in
theorem w_t4 : ((((words1.drop 24).drop 24).drop 24).take 24).all (fun c => isCode c || c.before args0 about1) = true := by decide +kernel
set_option maxRecDepth 65536 in
theorem w_t5 : (((((words1.drop 24).drop 24).drop 24).drop 24).take 24).all (fun c => isCode c || c.before args0 about1) = true := by decide +kernel
set_option maxRecDepth 65536 in
theorem w_t6 : ((((((words1.drop 24).drop 24).drop 24).drop 24).drop 24).take 24).all (fun c => isCode c || c.before args0 about1) = true := by decide +kernel
set_option maxRecDepth 65536 in
theorem w_t7 : (((((((words1.drop 24).drop 24).drop 24).drop 24).drop 24).drop 24).take 24).all (fun c => isCode c || c.before args0 about1) = true := by decide +kernel
set_option maxRecDepth 65536 in
theorem w_t8 : ((((((((words1.drop 24).drop 24).drop 24).drop 24).drop 24).drop 24).drop 24).take 24).all (fun c => isCode c || c.before args0 about1) = true := by decide +kernel
set_option maxRecDepth 65536 in
theorem w_t9 : (((((((((words1.drop 24).drop 24).drop 24).drop 24).drop 24).drop 24).drop 24).drop 24).take 24).all (fun c => isCode c || c.before args0 about1) = true := by decide +kernel
set_option maxRecDepth 65536 in
theorem w_t10 : (((((((((words1.drop 24).drop 24).drop 24).drop 24).drop 24).drop 24).drop 24).drop 24).drop 24).all (fun c => isCode c || c.before args0 about1) = true := by decide +kernel
theorem w_tables : (allAtoms (Jvm.Cond.code x code maxLocals ret :: tables_1)).before args0 about1 = true := by
  rw [allAtoms_all]
  show words1.all (fun c => c.before args0 about1) = true
  refine all_split ?_ w_codes
  rw [← List.take_append_drop 24 words1, List.all_append, w_t1, ← List.take_append_drop 24 (words1.drop 24), List.all_append, w_t2, ← List.take_append_drop 24 ((words1.drop 24).drop 24), List.all_append, w_t3, ← List.take_append_drop 24 (((words1.drop 24).drop 24).drop 24), List.all_append, w_t4, ← List.take_append_drop 24 ((((words1.drop 24).drop 24).drop 24).drop 24), List.all_append, w_t5, ← List.take_append_drop 24 (((((words1.drop 24).drop 24).drop 24).drop 24).drop 24), List.all_append, w_t6, ← List.take_append_drop 24 ((((((words1.drop 24).drop 24).drop 24).drop 24).drop 24).drop 24), List.all_append, w_t7, ← List.take_append_drop 24 (((((((words1.drop 24).drop 24).drop 24).drop 24).drop 24).drop 24).drop 24), List.all_append, w_t8, ← List.take_append_drop 24 ((((((((words1.drop 24).drop 24).drop 24).drop 24).drop 24).drop 24).drop 24).drop 24), List.all_append, w_t9, w_t10]
  rfl
set_option maxRecDepth 65536 in
theorem w_rest : rest_1_c.before args0 about1 = true := by decide +kernel
set_option maxRecDepth 65536 in
theorem w_case : (Jvm.Cond.and given_1 narrow_1).before args0 about1 = true := by decide +kernel
theorem w_applies : (headSpec (Jvm.Cond.code x code maxLocals ret :: tables_1) room_1).applies x e0.platform about1 = true :=
  (Spec.applies_iff w_frames).mpr ⟨w_running, w_runnable, w_alone, w_named, w_hears, w_ripe, w_room, w_tables⟩
theorem atStart : AtStart classFile x code maxLocals ret World_1 tables_1 room_1 Calls_1 rest_1 Pre_1 launch0 p0 e0 about1 theMethod args0 below0 :=
  ⟨lists_1, trivial, launch0.admits_env _ _ _, launch0.least_env, fairChoices_fair.cas, fairChoices_fair.clock, w_frames, w_args, w_heap, w_applies, ⟨⟨33, k33, 2, by decide +kernel, rfl, rfl, _, rfl, rfl⟩, ⟨⟨12, k12, 3, by decide +kernel, rfl, rfl, _, rfl, rfl⟩, ⟨⟨20, k20, 4, by decide +kernel, rfl, rfl, _, rfl, rfl⟩, ⟨⟨21, k21, 5, by decide +kernel, rfl, rfl, _, rfl, rfl⟩, trivial⟩⟩⟩⟩, w_rest, w_case⟩
end start1
theorem witness_1 : WitnessClaimed_1 := ⟨start1.p0, start1.e0, start1.about1, start1.theMethod, start1.args0, start1.below0, start1.atStart⟩
end Jvm.Pilot.@@N@@
