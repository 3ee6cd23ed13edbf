import JvmDerived
import JvmDerived.Pilot.@@N@@Statement
import JvmDerived.Pilot.@@N@@Code
set_option linter.unusedVariables false
set_option linter.unusedSimpArgs false
set_option maxRecDepth 65536
set_option maxHeartbeats 40000000
namespace Jvm.Pilot.@@N@@
open Jvm Jvm.ClassFile Sem Op Lib Jvm.Free Jvm.Stand Jvm.LawKit Jvm.RoadKit Bundle Jvm.Pilot.@@N@@.Jvm.D
abbrev vI (x : Int32) : Value := .int x
abbrev vR (x : Addr) : Value := .ref x
abbrev sI (x : Int32) : Slot := .val (.int x)
abbrev sR (x : Addr) : Slot := .val (.ref x)
abbrev sU : Slot := .unset
abbrev sN : Slot := .val .null
abbrev St (p : Program) (e : Env) (below : List Frame) (T : State) (g : JFrame) (t : State) : Prop := Steps p.tables e below (T.setTop g) t
abbrev Ct (l : Launch) (Z : State) (y : MethodName) (bytes : ByteArray) (maxL : Nat) (ret : Option FieldType) (rm : Room) (as' : Array Value) (h : Heap) (Q : Option Value → Heap → List Loc → Prop) : Prop :=
  MetFree l y (head1 [Jvm.Cond.code y bytes maxL ret] rm) (fun a U => a = as' ∧ Z.Warmed39 U.vm ∧ U.heap = h) (fun _ _ _ _ _ => True) (fun _ U o U' => ∃ v L, o = .returned v ∧ Q v U'.heap L ∧ FrameEnd U o U' L rm.cells rm.slots)
abbrev CtW (EL : List (String × Nat)) (sx : List Addr) (l : Launch) (Z : State) (y : MethodName) (bytes : ByteArray) (maxL : Nat) (ret : Option FieldType) (rm : Room) (as' : Array Value) (h : Heap) (Q : Option Value → Heap → List Loc → Prop) : Prop :=
  MetFree l y (head1 [Jvm.Cond.code y bytes maxL ret] rm) (fun a U => a = as' ∧ Z.Warmed39 U.vm ∧ U.heap = h ∧ CHv Z EL U.vm h ∧ ∀ x ∈ sx, Safe Z EL U.vm h x) (fun _ _ _ _ _ => True) (fun _ U o U' => ∃ v L, o = .returned v ∧ Q v U'.heap L ∧ CHr Z EL U.vm U.heap U'.vm U'.heap ∧ ReturnedEndW U o U' L rm.cells rm.slots)
abbrev End (p : Program) (e : Env) (s : State) (below : List Frame) (rm : Room) (Q : Option Value → Heap → List Loc → Prop) (S : State) : Prop :=
  ∃ s₂ o, Steps p.tables e below S s₂ ∧ s₂.status = .running ∧ Ended s₂ below o ∧ ∃ v L, o = .returned v ∧ Q v s₂.heap L ∧ FrameEnd s o s₂ L rm.cells rm.slots
abbrev EndW (EL : List (String × Nat)) (Z : State) (p : Program) (e : Env) (s : State) (below : List Frame) (rm : Room) (Q : Option Value → Heap → List Loc → Prop) (S : State) : Prop :=
  ∃ s₂ o, Steps p.tables e below S s₂ ∧ s₂.status = .running ∧ Ended s₂ below o ∧ ∃ v L, o = .returned v ∧ Q v s₂.heap L ∧ CHr Z EL s.vm s.heap s₂.vm s₂.heap ∧ ReturnedEndW s o s₂ L rm.cells rm.slots
theorem own_bd {l : Launch} {Z : State} {y : MethodName} {bytes : ByteArray} {maxL : Nat} {ret : Option FieldType} {rm : Room} {as' : Array Value} {h0 : Heap} {Q : Option Value → Heap → List Loc → Prop} {L0 : Array Slot} (hp : plainFor y = true) (ef : ∀ m, entryFrame m as' maxL = mkF m 0 L0 [])
    (H : ∀ (p : Program) (e : Env) (s : State) (m : MethodId) (below : List Frame) (meth : Method) (c : Code) (s₁ : State), meth.sig.returnType = ret → meth.locks = false → Z.Warmed39 s.vm → p.tables.exec = Jvm.exec → c.code = bytes → c.maxLocals = maxL → s.vm.findClass y.cls = some m.cls → meth.name = y.name → Stand p l e rm s m as' below meth c s₁ [] 0 0 → s₁.heap = h0 → End p e s below rm Q (s₁.setTop (mkF m 0 L0 []))) : Ct l Z y bytes maxL ret rm as' h0 Q := by
  refine MetFree.of_bodySF hp hisR ?_
  intro p e s m args below meth c s₁ Bd hml hP hK
  obtain ⟨rfl, hZ, hh⟩ := hP
  obtain ⟨s₂, o, h1, r⟩ := H p e s m below meth c s₁ Bd.returns Bd.notSynchronized hZ Bd.exec Bd.bytes hml (findClass_of_methodNamed Bd.named) (name_of_methodNamed Bd.named Bd.method).1 (Stand.of_body Bd) (by rw [← hh, Bd.state]; rfl)
  exact ⟨s₂, o, castTop (ef m) h1, r⟩
theorem own_via {p : Program} {e : Env} {below : List Frame} {S S' : State} {F' : State → Outcome → Prop} (h : ∀ t, Steps p.tables e below S' t → Steps p.tables e below S t) (H : ∃ s₂, ∃ o, Steps p.tables e below S' s₂ ∧ F' s₂ o) : ∃ s₂, ∃ o, Steps p.tables e below S s₂ ∧ F' s₂ o := by
  obtain ⟨s₂, o, h1, r⟩ := H
  exact ⟨s₂, o, h _ h1, r⟩
theorem own_bdW {EL : List (String × Nat)} {sx : List Addr} {l : Launch} {Z : State} {y : MethodName} {bytes : ByteArray} {maxL : Nat} {ret : Option FieldType} {rm : Room} {as' : Array Value} {h0 : Heap} {Q : Option Value → Heap → List Loc → Prop} {L0 : Array Slot} (hp : plainFor y = true) (ef : ∀ m, entryFrame m as' maxL = mkF m 0 L0 [])
    (H : ∀ (p : Program) (e : Env) (s : State) (m : MethodId) (below : List Frame) (meth : Method) (c : Code) (s₁ : State), meth.sig.returnType = ret → meth.locks = false → Z.Warmed39 s.vm → p.tables.exec = Jvm.exec → c.code = bytes → c.maxLocals = maxL → s.vm.findClass y.cls = some m.cls → meth.name = y.name → Stand p l e rm (s.setVm s.vm) m as' below meth c s₁ [] 0 0 → s₁.heap = h0 → s.heap = h0 → CHr Z EL s.vm h0 s.vm h0 → (∀ x ∈ sx, Safe Z EL s.vm h0 x) → s.Since s.vm h0.size → EndW EL Z p e s below rm Q (s₁.setTop (mkF m 0 L0 []))) : CtW EL sx l Z y bytes maxL ret rm as' h0 Q := by
  refine MetFree.of_bodySF hp hisR ?_
  intro p e s m args below meth c s₁ Bd hml hP hK
  obtain ⟨rfl, hZ, hh, H0, hsx⟩ := hP
  obtain ⟨s₂, o, h1, r⟩ := H p e s m below meth c s₁ Bd.returns Bd.notSynchronized hZ Bd.exec Bd.bytes hml (findClass_of_methodNamed Bd.named) (name_of_methodNamed Bd.named Bd.method).1 (Stand.of_body Bd) (by rw [← hh, Bd.state]; rfl) hh (CHr.refl H0) hsx ((State.WarmedH.refl s).since _)
  exact ⟨s₂, o, castTop (ef m) h1, r⟩
theorem own_end {p : Program} {l : Launch} {e : Env} {R : Room} {s : State} {m : MethodId} {args : Array Value} {below : List Frame} {meth : Method} {c : Code} {T : State} {L : List Loc} {cells slots : Nat} (X : Stand p l e R s m args below meth c T L cells slots) (hlk : meth.locks = false) {v : Option Value} (hv : meth.sig.returnType = none → v = none) (hfit : cells ≤ R.cells ∧ slots ≤ R.slots) {Q : Option Value → Heap → List Loc → Prop} (hq : Q v T.heap L) {S : State}
    (hs : ∀ fs, (∀ (f : JFrame) (acts : List Action), f.method = m → f.locked = none → f.entered = [] → (doReturn e (T.setTop f) acts v).1 = T.setFrames fs) → Steps p.tables e below S (T.setFrames fs)) : End p e s below R Q S := by
  obtain ⟨fs, hr, hrun, hended, hW, hsame⟩ := X.leave hv
  exact ⟨_, _, hs fs hr, hrun, hended, _, _, rfl, hq, ⟨_, rfl⟩, hW, hsame.mono hfit.1 hfit.2⟩
section OwnSteps
variable {tb : Tables} [Ours tb] {e : Env} {below : List Frame} {T target : State} {m : MethodId} {c : Code} {g : JFrame} {rest : List Value}
theorem Own.iadd (h : At T m c below) (hx : tb.exec = Jvm.exec) (hg : g.method = m) {x : Int32} {y : Int32} {z : Int32} (hd : decode c.code g.pc = .ok (.iadd, 1)) (hs : g.stack = .int y :: .int x :: rest) (hz : (x + y) = z)
    (hr : Steps tb e below (T.setTop { g with pc := g.pc + 1, stack := .int z :: rest }) target) : Steps tb e below (T.setTop g) target := XS.iadd h hx hg hd hs (by rw [show (x + y) = z from hz]; exact hr)
theorem Own.isub (h : At T m c below) (hx : tb.exec = Jvm.exec) (hg : g.method = m) {x : Int32} {y : Int32} {z : Int32} (hd : decode c.code g.pc = .ok (.isub, 1)) (hs : g.stack = .int y :: .int x :: rest) (hz : (x - y) = z)
    (hr : Steps tb e below (T.setTop { g with pc := g.pc + 1, stack := .int z :: rest }) target) : Steps tb e below (T.setTop g) target := XS.isub h hx hg hd hs (by rw [show (x - y) = z from hz]; exact hr)
theorem Own.iand (h : At T m c below) (hx : tb.exec = Jvm.exec) (hg : g.method = m) {x : Int32} {y : Int32} {z : Int32} (hd : decode c.code g.pc = .ok (.iand, 1)) (hs : g.stack = .int y :: .int x :: rest) (hz : (x &&& y) = z)
    (hr : Steps tb e below (T.setTop { g with pc := g.pc + 1, stack := .int z :: rest }) target) : Steps tb e below (T.setTop g) target := XS.iand h hx hg hd hs (by rw [show (x &&& y) = z from hz]; exact hr)
theorem Own.ishr (h : At T m c below) (hx : tb.exec = Jvm.exec) (hg : g.method = m) {x : Int32} {y : Int32} {z : Int32} (hd : decode c.code g.pc = .ok (.ishr, 1)) (hs : g.stack = .int y :: .int x :: rest) (hz : (x >>> (y &&& 31)) = z)
    (hr : Steps tb e below (T.setTop { g with pc := g.pc + 1, stack := .int z :: rest }) target) : Steps tb e below (T.setTop g) target := XS.ishr h hx hg hd hs (by rw [show (x >>> (y &&& 31)) = z from hz]; exact hr)
theorem Own.iushr (h : At T m c below) (hx : tb.exec = Jvm.exec) (hg : g.method = m) {x : Int32} {y : Int32} {z : Int32} (hd : decode c.code g.pc = .ok (.iushr, 1)) (hs : g.stack = .int y :: .int x :: rest) (hz : ((x.toUInt32 >>> (y &&& 31).toUInt32).toInt32) = z)
    (hr : Steps tb e below (T.setTop { g with pc := g.pc + 1, stack := .int z :: rest }) target) : Steps tb e below (T.setTop g) target := XS.iushr h hx hg hd hs (by rw [show ((x.toUInt32 >>> (y &&& 31).toUInt32).toInt32) = z from hz]; exact hr)
theorem Own.i2b (h : At T m c below) (hx : tb.exec = Jvm.exec) (hg : g.method = m) {x : Int32} {z : Int32} (hd : decode c.code g.pc = .ok (.i2b, 1)) (hs : g.stack = .int x :: rest) (hz : (x.toInt8.toInt32) = z)
    (hr : Steps tb e below (T.setTop { g with pc := g.pc + 1, stack := .int z :: rest }) target) : Steps tb e below (T.setTop g) target := XS.i2b h hx hg hd hs (by rw [show (x.toInt8.toInt32) = z from hz]; exact hr)
theorem Own.i2c (h : At T m c below) (hx : tb.exec = Jvm.exec) (hg : g.method = m) {x : Int32} {z : Int32} (hd : decode c.code g.pc = .ok (.i2c, 1)) (hs : g.stack = .int x :: rest) (hz : (x.toUInt32.toUInt16.toUInt32.toInt32) = z)
    (hr : Steps tb e below (T.setTop { g with pc := g.pc + 1, stack := .int z :: rest }) target) : Steps tb e below (T.setTop g) target := XS.i2c h hx hg hd hs (by rw [show (x.toUInt32.toUInt16.toUInt32.toInt32) = z from hz]; exact hr)
theorem Own.iinc (h : At T m c below) (hx : tb.exec = Jvm.exec) (hg : g.method = m) {k : Nat} {cst : Int} {x z : Int32} {l' : Array Slot} (hd : decode c.code g.pc = .ok (.iinc k cst, 3)) (hl : g.locals[k]? = some (.val (.int x))) (hz : x + Int32.ofInt cst = z) (hl' : storeLocals g.locals k (.int z) = some l')
    (hr : Steps tb e below (T.setTop { g with pc := g.pc + 3, locals := l' }) target) : Steps tb e below (T.setTop g) target := XS.iinc h hx hg hd hl (by rw [hz]; exact hl') hr
theorem Own.iload (h : At T m c below) (hx : tb.exec = Jvm.exec) (hg : g.method = m) {k : Nat} {v z : Int32} (hd : decode c.code g.pc = .ok (.iload k, 2)) (hl : g.locals[k]? = some (.val (.int v))) (hz : v = z)
    (hr : Steps tb e below (T.setTop { g with pc := g.pc + 2, stack := .int z :: g.stack }) target) : Steps tb e below (T.setTop g) target := XS.iload h hx hg hd hl (by rw [hz]; exact hr)
end OwnSteps
theorem own_irem {p : Program} {l : Launch} {e : Env} {R : Room} {s : State} {m : MethodId} {args : Array Value} {below : List Frame} {meth : Method} {c : Code} {T : State} {locs : List Loc} {cells slots : Nat} {g : JFrame} {target : State} (X : Stand p l e R s m args below meth c T locs cells slots) (hx : p.tables.exec = Jvm.exec) (hg : g.method = m) {x y z : Int32} {rest : List Value} (hd : decode c.code g.pc = .ok (.irem, 1)) (hs : g.stack = .int y :: .int x :: rest) (hy : y ≠ 0) (hz : x % y = z)
    (hr : Steps p.tables e below (T.setTop { g with pc := g.pc + 1, stack := .int z :: rest }) target) : Steps p.tables e below (T.setTop g) target := iremM X hx hg hd hs hy (by rw [hz]; exact hr)
section OwnCalls
variable {p : Program} {l : Launch} {e : Env} {R : Room} {s : State} {m : MethodId} {args : Array Value} {below : List Frame} {meth : Method} {c : Code} {T : State} {locs : List Loc} {cells slots : Nat} {Z : State} {a0 : Array Value} {h : Heap}
theorem own_callS (X : Stand p l e R s m args below meth c T locs cells slots) (hx : p.tables.exec = Jvm.exec) (hZ : Z.Warmed39 s.vm) {own : String} {index W maxL : Nat} {y : MethodName} {bytes : ByteArray} {ret : Option FieldType} {rm : Room} {as' : Array Value} {Q : Option Value → Heap → List Loc → Prop}
    (hown : s.vm.findClass own = some m.cls) (w1 : (Jvm.Cond.methodLink own index y).before a0 Z = true) (w2 : (Jvm.Cond.static y).before a0 Z = true) (w3 : (Jvm.Cond.initialized y.cls).before a0 Z = true) (w4 : (Jvm.Cond.code y bytes maxL ret).before a0 Z = true) (hy : y.cls ≠ "java/lang/invoke/MethodHandle" ∧ y.cls ≠ "java/lang/invoke/VarHandle")
    (hM : MetFree l y (head1 [Jvm.Cond.code y bytes maxL ret] rm) (fun a U => a = as' ∧ Z.Warmed39 U.vm ∧ U.heap = h) (fun _ _ _ _ _ => True) (fun _ U o U' => ∃ v L, o = .returned v ∧ Q v U'.heap L ∧ FrameEnd U o U' L rm.cells rm.slots)) (eT : T.heap = h)
    {g : JFrame} (hg : g.method = m) {ml : Nat} (hml : c.maxLocals = ml) (hsz : g.locals.size = ml) {rest : List Value} (hlen : ∀ sig, parseMethodDescriptor y.desc = some sig → (as'.toList).length = sig.parameters.length) (hstack : g.stack = (as'.toList).reverse ++ rest) (has : (as'.toList).toArray = as') (hW : 2 * g.monitorRoom + (rest.map fun v => v.category).sum = W)
    (hdg : decode c.code g.pc = .ok (.invokestatic index, 3)) (hfit : (rm.frames + 1 ≤ R.frames ∧ W + (maxL + 11) + rm.locals ≤ R.locals) ∧ cells + rm.cells ≤ R.cells ∧ slots + rm.slots ≤ R.slots) :
    ∃ (v : Option Value) (T' : State) (L : List Loc), Q v T'.heap L ∧ Stand p l e R s m args below meth c T' (locs ++ L) (cells + rm.cells) (slots + rm.slots) ∧ ∀ target, Steps p.tables e below (T'.setTop { g with pc := g.pc + 3, stack := v.toList ++ rest }) target → Steps p.tables e below (T.setTop g) target := by
  obtain ⟨v, _, ⟨T', L', c', s'⟩, -, X', ⟨L, hq, e1, e2, e3⟩, st⟩ := Jvm.LawKit.callS X hx hown (mvT hZ w1) (mvT hZ w2) (mvT hZ w3) (mvT hZ w4) hy (backOf (W := W) hM hZ w4 w3 hfit.1.1 hfit.1.2) hg (hsz.trans hml.symm) hlen hstack (Nat.le_of_eq hW) hdg (fun _ _ => ⟨has, eT, hfit.2.1, hfit.2.2⟩)
  subst e1 e2 e3
  exact ⟨v, T', L, hq, X', st⟩
theorem own_special (X : Stand p l e R s m args below meth c T locs cells slots) (hx : p.tables.exec = Jvm.exec) (hZ : Z.Warmed39 s.vm) {own : String} {index W maxL : Nat} {y : MethodName} {bytes : ByteArray} {rm : Room} {as' : Array Value} {Q : Option Value → Heap → List Loc → Prop} (hy1 : y.name = "<init>")
    (hown : s.vm.findClass own = some m.cls) (w1 : (Jvm.Cond.methodLink own index y).before a0 Z = true) (w2 : (Jvm.Cond.instanceMethod y).before a0 Z = true) (w3 : (Jvm.Cond.initialized y.cls).before a0 Z = true) (w4 : (Jvm.Cond.code y bytes maxL none).before a0 Z = true) (hy : y.cls ≠ "java/lang/invoke/MethodHandle" ∧ y.cls ≠ "java/lang/invoke/VarHandle")
    (hM : MetFree l y (head1 [Jvm.Cond.code y bytes maxL none] rm) (fun a U => a = as' ∧ Z.Warmed39 U.vm ∧ U.heap = h) (fun _ _ _ _ _ => True) (fun _ U o U' => ∃ v L, o = .returned v ∧ Q v U'.heap L ∧ FrameEnd U o U' L rm.cells rm.slots)) (eT : T.heap = h)
    {g : JFrame} (hg : g.method = m) {ml : Nat} (hml : c.maxLocals = ml) (hsz : g.locals.size = ml) {a : Addr} {rest : List Value} (hlen : ∀ sig, parseMethodDescriptor y.desc = some sig → (as'.toList.tail).length = sig.parameters.length) (hstack : g.stack = (as'.toList.tail).reverse ++ .ref a :: rest) (has : (.ref a :: as'.toList.tail).toArray = as') (hW : 2 * g.monitorRoom + (rest.map fun v => v.category).sum = W)
    (hdg : decode c.code g.pc = .ok (.invokespecial index, 3)) (hfit : (rm.frames + 1 ≤ R.frames ∧ W + (maxL + 11) + rm.locals ≤ R.locals) ∧ cells + rm.cells ≤ R.cells ∧ slots + rm.slots ≤ R.slots) :
    ∃ (v : Option Value) (T' : State) (L : List Loc), Q v T'.heap L ∧ Stand p l e R s m args below meth c T' (locs ++ L) (cells + rm.cells) (slots + rm.slots) ∧ ∀ target, Steps p.tables e below (T'.setTop { g with pc := g.pc + 3, stack := v.toList ++ rest }) target → Steps p.tables e below (T.setTop g) target := by
  obtain ⟨v, _, ⟨T', L', c', s'⟩, -, X', ⟨L, hq, e1, e2, e3⟩, st⟩ := X.specialBack hx hy1 hown (mvT hZ w1) (mvT hZ w2) (mvT hZ w4) hy (backOf (W := W) hM hZ w4 w3 hfit.1.1 hfit.1.2) hg (hsz.trans hml.symm) (Steps.refl _) hlen hstack (Nat.le_of_eq hW) hdg (fun _ _ => ⟨has, eT, hfit.2.1, hfit.2.2⟩)
  subst e1 e2 e3
  exact ⟨v, T', L, hq, X', fun _ k => st.trans k⟩
theorem own_virtual (X : Stand p l e R s m args below meth c T locs cells slots) (hx : p.tables.exec = Jvm.exec) (hZ : Z.Warmed39 s.vm) {own C : String} {index W maxL : Nat} {y z : MethodName} {bytes : ByteArray} {ret : Option FieldType} {rm : Room} {as' : Array Value} {Q : Option Value → Heap → List Loc → Prop}
    (hown : s.vm.findClass own = some m.cls) (w1 : (Jvm.Cond.methodLink own index y).before a0 Z = true) (w2 : (Jvm.Cond.declares y).before a0 Z = true) (nf : NotFace s y) (w5 : (Jvm.Cond.selects C y z).before a0 Z = true) (w6 : (Jvm.Cond.instanceMethod z).before a0 Z = true) (w3 : (Jvm.Cond.initialized z.cls).before a0 Z = true) (w4 : (Jvm.Cond.code z bytes maxL ret).before a0 Z = true) (hy : y.cls ≠ "java/lang/invoke/MethodHandle" ∧ y.cls ≠ "java/lang/invoke/VarHandle")
    (hM : MetFree l z (head1 [Jvm.Cond.code z bytes maxL ret] rm) (fun a U => a = as' ∧ Z.Warmed39 U.vm ∧ U.heap = h) (fun _ _ _ _ _ => True) (fun _ U o U' => ∃ v L, o = .returned v ∧ Q v U'.heap L ∧ FrameEnd U o U' L rm.cells rm.slots)) (eT : T.heap = h) {b : Addr} (E : Exa Z h b C)
    {g : JFrame} (hg : g.method = m) {ml : Nat} (hml : c.maxLocals = ml) (hsz : g.locals.size = ml) {rest : List Value} (hlen : ∀ sig, parseMethodDescriptor y.desc = some sig → (as'.toList.tail).length = sig.parameters.length) (hstack : g.stack = (as'.toList.tail).reverse ++ .ref b :: rest) (has : (.ref b :: as'.toList.tail).toArray = as') (hW : 2 * g.monitorRoom + (rest.map fun v => v.category).sum = W)
    (hdg : decode c.code g.pc = .ok (.invokevirtual index, 3)) (hfit : (rm.frames + 1 ≤ R.frames ∧ W + (maxL + 11) + rm.locals ≤ R.locals) ∧ cells + rm.cells ≤ R.cells ∧ slots + rm.slots ≤ R.slots) :
    ∃ (v : Option Value) (T' : State) (L : List Loc), Q v T'.heap L ∧ Stand p l e R s m args below meth c T' (locs ++ L) (cells + rm.cells) (slots + rm.slots) ∧ ∀ target, Steps p.tables e below (T'.setTop { g with pc := g.pc + 3, stack := v.toList ++ rest }) target → Steps p.tables e below (T.setTop g) target := by
  obtain ⟨cB, kB, qa, qb, qc⟩ := isOf hZ eT E
  obtain ⟨v, _, ⟨T', L', c', s'⟩, -, X', ⟨L, hq, e1, e2, e3⟩, st⟩ := X.virtualBack hx hown (mvT hZ w1) (mvT hZ w2) nf (mvT hZ w5) (mvT hZ w6) hy (backOf (W := W) hM hZ w4 w3 hfit.1.1 hfit.1.2) qa qc hg (hsz.trans hml.symm) (Steps.refl _) hlen hstack (Nat.le_of_eq hW) hdg (fun _ _ => ⟨has, eT, hfit.2.1, hfit.2.2⟩)
  subst e1 e2 e3
  exact ⟨v, T', L, hq, X', fun _ k => st.trans k⟩
end OwnCalls
section OwnHeap
variable {p : Program} {l : Launch} {e : Env} {R : Room} {s : State} {m : MethodId} {args : Array Value} {below : List Frame} {meth : Method} {c : Code} {T : State} {locs : List Loc} {cells slots : Nat} {Z : State} {a0 : Array Value} {h h0 : Heap} {n0 : Nat} {ws : List Addr}
theorem own_newO (X : Stand p l e R s m args below meth c T locs cells slots) (hx : p.tables.exec = Jvm.exec) (hZ : Z.Warmed39 s.vm) {own C : String} {index n : Nat} (hown : s.vm.findClass own = some m.cls) (w : (Jvm.Cond.classLink own index C).before a0 Z = true) (wi : (Jvm.Cond.instantiable C n).before a0 Z = true) (wz : (Jvm.Cond.initialized C).before a0 Z = true) (eT : T.heap = h) (O : Old Z n0 h) (K : Keep h0 h ws)
    {g : JFrame} (hg : g.method = m) (hd : decode c.code g.pc = .ok (.new index, 3)) (hc : cells + 1 ≤ R.cells) (hl : slots + n ≤ R.slots) :
    ∃ (T' : State) (h' : Heap) (b : Addr), Stand p l e R s m args below meth c T' locs (cells + 1) (slots + n) ∧ T'.heap = h' ∧ Ext h h' ∧ Exa Z h' b C ∧ (∀ {O nm d : String} {ty : FieldType}, Laid Z a0 C O nm d → parseFieldDescriptor d = some ty → Fld Z h' b O nm d (defaultValue ty)) ∧ h.size ≤ b ∧ Old Z n0 h' ∧ Keep h0 h' ws ∧
      ∀ target, Steps p.tables e below (T'.setTop { g with pc := g.pc + 3, stack := .ref b :: g.stack }) target → Steps p.tables e below (T.setTop g) target := by
  obtain ⟨T', h', X', e', E', A', D', -, st⟩ := newO X hx hZ hown w wi wz eT hg hd hc hl
  exact ⟨T', h', h.size, X', e', E', A', D', Nat.le_refl _, O.ext E', K.ext E', st⟩
theorem own_newP (X : Stand p l e R s m args below meth c T locs cells slots) (hx : p.tables.exec = Jvm.exec) (hZ : Z.Warmed39 s.vm) {aty : ArrayType} {ty : FieldType} {dv : Value} {vs : List Value} {cap : Nat} (hty : newarray.typeOf aty = ty) (hdv : defaultValue ty = dv) (hvs : List.replicate cap dv = vs) (w : (Jvm.Cond.arrayClass ty).before a0 Z = true) (eT : T.heap = h) (O : Old Z n0 h) (K : Keep h0 h ws) {g : JFrame} (hg : g.method = m) (hd : decode c.code g.pc = .ok (.newarray aty, 2)) {n : Int32} {rest : List Value} (hs : g.stack = .int n :: rest)
    (hn : ¬ n < 0) (hcap : n.toNatClampNeg ≤ cap) (hb : cap * 8 ≤ 536870912) (hc : cells + 1 ≤ R.cells) (hl : slots + cap ≤ R.slots) :
    ∃ (T' : State) (h' : Heap) (k : ClassId) (b : Addr), Stand p l e R s m args below meth c T' locs (cells + 1) (slots + cap) ∧ T'.heap = h' ∧ Ext h h' ∧ Arv Z h' b k ty n vs dv ∧ h.size ≤ b ∧ Old Z n0 h' ∧ Keep h0 h' ws ∧
      ∀ target, Steps p.tables e below (T'.setTop { g with pc := g.pc + 2, stack := .ref b :: rest }) target → Steps p.tables e below (T.setTop g) target := by
  subst hty hdv hvs
  obtain ⟨T', h', k, X', e', E', A', st⟩ := newP X hx hZ w eT hg hd hs hn hcap hb hc hl
  exact ⟨T', h', k, h.size, X', e', E', (Arv.new A' hn).pad (pad_rep [] _ cap), Nat.le_refl _, O.ext E', K.ext E', st⟩
theorem own_put (X : Stand p l e R s m args below meth c T locs cells slots) (hx : p.tables.exec = Jvm.exec) (hZ : Z.Warmed39 s.vm) {own R0 Ow n d host C : String} {index kk : Nat} {ty : FieldType} (hown : s.vm.findClass own = some m.cls) (w : (Jvm.Cond.fieldLink own index R0 n d).before a0 Z = true ∨ (Jvm.Cond.fieldLinkNest own index R0 n d host).before a0 Z = true) (via : Via Z R0 Ow n d)
    (eT : T.heap = h) (O : Old Z n0 h) (K : Keep h0 h ws) (N : Fr n0 locs) {a : Addr} (qn : n0 ≤ a) (qk : a ∈ ws ∨ h0.size ≤ a) {v old : Value} (F : Fld Z h a Ow n d old) (E : Exa Z h a C) (L : (Jvm.Cond.lays C Ow n d).before a0 Z = true ∨ ((Jvm.Cond.laysFinal C Ow n d).before a0 Z = true ∧ own = Ow ∧ meth.name = "<init>")) (wi : (Jvm.Cond.instantiable C kk).before a0 Z = true)
    (hty : parseFieldDescriptor d = some ty) (hn : narrow ty v = v) (hf : fits ty v = true) {g : JFrame} (hg : g.method = m) {rest : List Value} (hs : g.stack = v :: .ref a :: rest) (hd : decode c.code g.pc = .ok (.putfield index, 3)) :
    ∃ (T' : State) (h' : Heap) (L' : List Loc), Stand p l e R s m args below meth c T' L' cells slots ∧ T'.heap = h' ∧ Wr h h' a (Jvm.RoadKit.slotOf Z Ow n d) v ∧ Fld Z h' a Ow n d v ∧ Old Z n0 h' ∧ Keep h0 h' ws ∧ Fr n0 L' ∧ ∀ target, Steps p.tables e below (T'.setTop { g with pc := g.pc + 3, stack := rest }) target → Steps p.tables e below (T.setTop g) target := by
  obtain ⟨T', h', X', e', W', st⟩ := putF X hx hZ hown w via eT F E L wi hty hn hf hg hs hd
  exact ⟨T', h', _, X', e', W', F.same W', O.wr W' qn, K.wr W' qk, Fr.snoc X' N qn, st⟩
theorem own_putN (X : Stand p l e R s m args below meth c T locs cells slots) (hx : p.tables.exec = Jvm.exec) (hZ : Z.Warmed39 s.vm) {own R0 Ow n d C : String} {index kk : Nat} {ty : FieldType} (hown : s.vm.findClass own = some m.cls) (w : (Jvm.Cond.fieldLink own index R0 n d).before a0 Z = true) (via : Via Z R0 Ow n d)
    (eT : T.heap = h) (O : Old Z n0 h) (K : Keep h0 h ws) (N : Fr n0 locs) {a : Addr} (qn : n0 ≤ a) (qk : a ∈ ws ∨ h0.size ≤ a) {v v' old : Value} (F : Fld Z h a Ow n d old) (E : Exa Z h a C) (L : (Jvm.Cond.lays C Ow n d).before a0 Z = true ∨ ((Jvm.Cond.laysFinal C Ow n d).before a0 Z = true ∧ own = Ow ∧ meth.name = "<init>")) (wi : (Jvm.Cond.instantiable C kk).before a0 Z = true)
    (hty : parseFieldDescriptor d = some ty) (hn : narrow ty v = v') (hf : fits ty v' = true) {g : JFrame} (hg : g.method = m) {rest : List Value} (hs : g.stack = v :: .ref a :: rest) (hd : decode c.code g.pc = .ok (.putfield index, 3)) :
    ∃ (T' : State) (h' : Heap) (L' : List Loc), Stand p l e R s m args below meth c T' L' cells slots ∧ T'.heap = h' ∧ Wr h h' a (Jvm.RoadKit.slotOf Z Ow n d) v' ∧ Fld Z h' a Ow n d v' ∧ Old Z n0 h' ∧ Keep h0 h' ws ∧ Fr n0 L' ∧ ∀ target, Steps p.tables e below (T'.setTop { g with pc := g.pc + 3, stack := rest }) target → Steps p.tables e below (T.setTop g) target := by
  obtain ⟨T', h', X', e', W', st⟩ := putFN X hx hZ hown w via eT F E L wi hty hn hf hg hs hd
  exact ⟨T', h', _, X', e', W', F.same W', O.wr W' qn, K.wr W' qk, Fr.snoc X' N qn, st⟩
theorem own_stC (X : Stand p l e R s m args below meth c T locs cells slots) (hx : p.tables.exec = Jvm.exec) (hZ : Z.Warmed39 s.vm) (eT : T.heap = h) {a : Addr} {k : ClassId} {n : Int32} {vs vs' : List Value} {dv : Value} (V : Arv Z h a k .char n vs dv) (O : Old Z n0 h) (K : Keep h0 h ws) (N : Fr n0 locs) (qn : n0 ≤ a) (qk : a ∈ ws ∨ h0.size ≤ a) {j : Int32} (i : Nat) (hj : ((¬ j < 0 ∧ j < n) ∧ j.toNatClampNeg = i)) (hi : i < vs.length) {x : Int32} {v : Value} (hv : (.int (nar .char x) : Value) = v) (hvs : vs.set i v = vs')
    {g : JFrame} (hg : g.method = m) {rest : List Value} (hs : g.stack = .int x :: .int j :: .ref a :: rest) (hd : decode c.code g.pc = .ok (.castore, 1)) :
    ∃ (T' : State) (h' : Heap) (L' : List Loc), Stand p l e R s m args below meth c T' L' cells slots ∧ T'.heap = h' ∧ Wr h h' a j.toNatClampNeg v ∧ Arv Z h' a k .char n vs' dv ∧ Old Z n0 h' ∧ Keep h0 h' ws ∧ Fr n0 L' ∧ ∀ target, Steps p.tables e below (T'.setTop { g with pc := g.pc + 1, stack := rest }) target → Steps p.tables e below (T.setTop g) target := by
  subst hv hvs
  obtain ⟨cl, Ar, q, Sz, Ng, Hs, Gt⟩ := V
  obtain ⟨T', h', X', e', W', st⟩ := stC X hx hZ eT Ar (j := j) (inb_of Sz hj.1) hg hs hd
  exact ⟨T', h', _, X', e', W', Arv.set Ar q Sz Ng Hs Gt (fits_nar_char _) W' i hj.2 hi, O.wr W' qn, K.wr W' qk, Fr.snoc X' N qn, st⟩
theorem own_stB (X : Stand p l e R s m args below meth c T locs cells slots) (hx : p.tables.exec = Jvm.exec) (hZ : Z.Warmed39 s.vm) (eT : T.heap = h) {a : Addr} {k : ClassId} {n : Int32} {vs vs' : List Value} {dv : Value} (V : Arv Z h a k .byte n vs dv) (O : Old Z n0 h) (K : Keep h0 h ws) (N : Fr n0 locs) (qn : n0 ≤ a) (qk : a ∈ ws ∨ h0.size ≤ a) {j : Int32} (i : Nat) (hj : ((¬ j < 0 ∧ j < n) ∧ j.toNatClampNeg = i)) (hi : i < vs.length) {x : Int32} {v : Value} (hv : (.int (nar .byte x) : Value) = v) (hvs : vs.set i v = vs')
    {g : JFrame} (hg : g.method = m) {rest : List Value} (hs : g.stack = .int x :: .int j :: .ref a :: rest) (hd : decode c.code g.pc = .ok (.bastore, 1)) :
    ∃ (T' : State) (h' : Heap) (L' : List Loc), Stand p l e R s m args below meth c T' L' cells slots ∧ T'.heap = h' ∧ Wr h h' a j.toNatClampNeg v ∧ Arv Z h' a k .byte n vs' dv ∧ Old Z n0 h' ∧ Keep h0 h' ws ∧ Fr n0 L' ∧ ∀ target, Steps p.tables e below (T'.setTop { g with pc := g.pc + 1, stack := rest }) target → Steps p.tables e below (T.setTop g) target := by
  subst hv hvs
  obtain ⟨cl, Ar, q, Sz, Ng, Hs, Gt⟩ := V
  obtain ⟨T', h', X', e', W', st⟩ := stB X hx hZ eT Ar (j := j) (inb_of Sz hj.1) hg hs hd
  exact ⟨T', h', _, X', e', W', Arv.set Ar q Sz Ng Hs Gt (fits_nar_byte _) W' i hj.2 hi, O.wr W' qn, K.wr W' qk, Fr.snoc X' N qn, st⟩
theorem own_caload (X : Stand p l e R s m args below meth c T locs cells slots) (hx : p.tables.exec = Jvm.exec) (hZ : Z.Warmed39 s.vm) (eT : T.heap = h) {a : Addr} {k : ClassId} {n : Int32} {vs : List Value} {dv : Value} (V : Arv Z h a k .char n vs dv) {j : Int32} (hj : ¬ j < 0 ∧ j < n) {v : Value} (hv : vs.getD j.toNatClampNeg dv = v)
    {g : JFrame} (hg : g.method = m) {rest : List Value} (hs : g.stack = .int j :: .ref a :: rest) (hd : decode c.code g.pc = .ok (.caload, 1)) {target : State} (hr : Steps p.tables e below (T.setTop { g with pc := g.pc + 1, stack := v :: rest }) target) : Steps p.tables e below (T.setTop g) target := by
  obtain ⟨cl, Ar, q, Sz, Ng, Hs, Gt⟩ := V
  exact X.caload hx (by rw [eT]; exact Ar.1) (State.isArrayOf_alike hZ.alike Ar.2.1) Ar.2.2 (inb_of Sz hj) (Hs.at (inb_of Sz hj) hv) hg hs hd _ hr
theorem own_baloadB (X : Stand p l e R s m args below meth c T locs cells slots) (hx : p.tables.exec = Jvm.exec) (hZ : Z.Warmed39 s.vm) (eT : T.heap = h) {a : Addr} {k : ClassId} {n : Int32} {vs : List Value} {dv : Value} (V : Arv Z h a k .byte n vs dv) {j : Int32} (hj : ¬ j < 0 ∧ j < n) {v : Value} (hv : vs.getD j.toNatClampNeg dv = v)
    {g : JFrame} (hg : g.method = m) {rest : List Value} (hs : g.stack = .int j :: .ref a :: rest) (hd : decode c.code g.pc = .ok (.baload, 1)) {target : State} (hr : Steps p.tables e below (T.setTop { g with pc := g.pc + 1, stack := v :: rest }) target) : Steps p.tables e below (T.setTop g) target := by
  obtain ⟨cl, Ar, q, Sz, Ng, Hs, Gt⟩ := V
  exact X.baloadBytes hx (by rw [eT]; exact Ar.1) (State.isArrayOf_alike hZ.alike Ar.2.1) Ar.2.2 (inb_of Sz hj) (Hs.at (inb_of Sz hj) hv) hg hs hd _ hr
theorem own_alen (X : Stand p l e R s m args below meth c T locs cells slots) (hx : p.tables.exec = Jvm.exec) (hZ : Z.Warmed39 s.vm) (eT : T.heap = h) {a : Addr} {k : ClassId} {ty : FieldType} {n : Int32} {vs : List Value} {dv : Value} (V : Arv Z h a k ty n vs dv)
    {g : JFrame} (hg : g.method = m) {rest : List Value} (hs : g.stack = .ref a :: rest) (hd : decode c.code g.pc = .ok (.arraylength, 1)) {target : State} (hr : Steps p.tables e below (T.setTop { g with pc := g.pc + 1, stack := .int n :: rest }) target) : Steps p.tables e below (T.setTop g) target := by
  obtain ⟨cl, Ar, q, Sz, Ng, Hs, Gt⟩ := V
  exact X.arraylength hx (by rw [eT]; exact Ar.1) (State.isArrayOf_alike hZ.alike Ar.2.1) hg hs hd _ (by rw [len_of Sz Ng]; exact hr)
end OwnHeap
section OwnWide
variable {p : Program} {l : Launch} {e : Env} {R : Room} {s : State} {m : MethodId} {args : Array Value} {below : List Frame} {meth : Method} {c : Code} {T : State} {locs : List Loc} {cells slots : Nat} {Z : State} {a0 : Array Value} {h : Heap} {vm0 : Vm} {EL : List (String × Nat)} {sx : List Addr}
theorem own_backS {y : MethodName} {bytes : ByteArray} {maxL : Nat} {ret : Option FieldType} {rm : Room} {len W : Nat} {as' : Array Value} {Q : Option Value → Heap → List Loc → Prop}
    (hM : MetFree l y (head1 [Jvm.Cond.code y bytes maxL ret] rm) (fun a U => a = as' ∧ Z.Warmed39 U.vm ∧ U.heap = h ∧ CHv Z EL U.vm h ∧ ∀ x ∈ sx, Safe Z EL U.vm h x) (fun _ _ _ _ _ => True) (fun _ U o U' => ∃ v L, o = .returned v ∧ Q v U'.heap L ∧ CHr Z EL U.vm U.heap U'.vm U'.heap ∧ ReturnedEndW U o U' L rm.cells rm.slots))
    (hZ : Z.Warmed39 (s.setVm vm0).vm) (wc : (Jvm.Cond.code y bytes maxL ret).before a0 Z = true) (wz : (Jvm.Cond.initialized y.cls).before a0 Z = true) (hf : rm.frames + 1 ≤ R.frames) (hl : W + (maxL + 11) + rm.locals ≤ R.locals) (hEL : EW Z a0 EL) (H : CHv Z EL vm0 h) (hsx : ∀ x ∈ sx, x < h.size ∧ Safe Z EL vm0 h x) :
    BackS l R p e below (s.setVm vm0) args y len W (fun A a => a = as' ∧ A.U.heap = h ∧ A.cells + rm.cells ≤ R.cells ∧ A.slots + rm.slots ≤ R.slots)
      (fun A _ v B => ∃ L, Q v B.U.heap L ∧ B.locs = A.locs ++ L ∧ B.cells = A.cells + rm.cells ∧ B.slots = A.slots + rm.slots ∧ CHr Z EL vm0 h B.U.vm B.U.heap) :=
  BackS.of_freeW (bytes := bytes) (maxL := maxL) (ret := ret) (E := fun _ first o t L k n => k = rm.cells ∧ n = rm.slots ∧ (∃ v, o = .returned v ∧ Q v t.heap L) ∧ CHr Z EL first.vm first.heap t.vm t.heap) hM hf hl
    (fun m meth c A a Y hp => have hU : Z.Warmed39 A.U.vm := wtrans (s := s.setVm vm0) hZ Y.warmed
      ⟨by show (Jvm.Cond.and _ .tt).before a A.U = true; rw [Cond.before_and, mv hU wc]; rfl, mv hU wc, mv hU wz, hp.2.2.1, hp.2.2.2⟩)
    (fun m meth c A a g mk Y hp => ⟨hp.1, wtrans (s := s.setVm vm0) hZ Y.warmed, hp.2.1, (CHv.at Y hZ hEL H).1, fun x hx => (CHv.at Y hZ hEL H).safe (hsx x hx).1 (hsx x hx).2⟩) (fun _ _ _ _ _ _ _ _ _ => trivial)
    (fun _ _ _ _ ⟨v, L, h1, h2, h3, h4⟩ => ⟨L, _, _, h4, rfl, rfl, ⟨v, h1, h2⟩, h3⟩)
    (fun m meth c A a g mk v t L k n Y hp _ _ ⟨e1, e2, ⟨v', e3, e4⟩, e5⟩ => by
      cases e3; subst e1 e2
      refine ⟨L, e4, rfl, rfl, rfl, (CHv.at Y hZ hEL H).trans ?_⟩
      rw [← hp.2.1]; exact e5)
theorem own_callSW (X : Stand p l e R (s.setVm vm0) m args below meth c T locs cells slots) (hx : p.tables.exec = Jvm.exec) (hZ : Z.Warmed39 (s.setVm vm0).vm) {own : String} {index W maxL : Nat} {y : MethodName} {bytes : ByteArray} {ret : Option FieldType} {rm : Room} {as' : Array Value} {Q : Option Value → Heap → List Loc → Prop}
    (hown : (s.setVm vm0).vm.findClass own = some m.cls) (w1 : (Jvm.Cond.methodLink own index y).before a0 Z = true) (w2 : (Jvm.Cond.static y).before a0 Z = true) (w3 : (Jvm.Cond.initialized y.cls).before a0 Z = true) (w4 : (Jvm.Cond.code y bytes maxL ret).before a0 Z = true) (hy : y.cls ≠ "java/lang/invoke/MethodHandle" ∧ y.cls ≠ "java/lang/invoke/VarHandle")
    (hM : MetFree l y (head1 [Jvm.Cond.code y bytes maxL ret] rm) (fun a U => a = as' ∧ Z.Warmed39 U.vm ∧ U.heap = h ∧ CHv Z EL U.vm h ∧ ∀ x ∈ sx, Safe Z EL U.vm h x) (fun _ _ _ _ _ => True) (fun _ U o U' => ∃ v L, o = .returned v ∧ Q v U'.heap L ∧ CHr Z EL U.vm U.heap U'.vm U'.heap ∧ ReturnedEndW U o U' L rm.cells rm.slots)) (eT : T.heap = h) {k0 : Nat} (hS : s.Since vm0 k0) (hk : k0 ≤ h.size) (hEL : EW Z a0 EL) (H : CHv Z EL vm0 h) (hsx : ∀ x ∈ sx, x < h.size ∧ Safe Z EL vm0 h x)
    {g : JFrame} (hg : g.method = m) {ml : Nat} (hml : c.maxLocals = ml) (hsz : g.locals.size = ml) {rest : List Value} (hlen : ∀ sig, parseMethodDescriptor y.desc = some sig → (as'.toList).length = sig.parameters.length) (hstack : g.stack = (as'.toList).reverse ++ rest) (has : (as'.toList).toArray = as') (hW : 2 * g.monitorRoom + (rest.map fun v => v.category).sum = W)
    (hdg : decode c.code g.pc = .ok (.invokestatic index, 3)) (hfit : (rm.frames + 1 ≤ R.frames ∧ W + (maxL + 11) + rm.locals ≤ R.locals) ∧ cells + rm.cells ≤ R.cells ∧ slots + rm.slots ≤ R.slots) :
    ∃ (v : Option Value) (T' : State) (L : List Loc), Q v T'.heap L ∧ s.Since T'.vm T'.heap.size ∧ Z.Warmed39 (s.setVm T'.vm).vm ∧ (s.setVm T'.vm).vm.findClass own = some m.cls ∧ CHr Z EL vm0 h T'.vm T'.heap ∧ Stand p l e R (s.setVm T'.vm) m args below meth c T' (locs ++ L) (cells + rm.cells) (slots + rm.slots) ∧ ∀ target, Steps p.tables e below (T'.setTop { g with pc := g.pc + 3, stack := v.toList ++ rest }) target → Steps p.tables e below (T.setTop g) target := by
  obtain ⟨v, _, ⟨T', L', c', s'⟩, -, X', hS2, hgr, ⟨L, hq, e1, e2, e3, hC⟩, st⟩ := callSS X hx hown (mvT hZ w1) (mvT hZ w2) (mvT hZ w3) (mvT hZ w4) hy (own_backS (W := W) hM hZ w4 w3 hfit.1.1 hfit.1.2 hEL H hsx) hg (hsz.trans hml.symm) hlen hstack (Nat.le_of_eq hW) hdg (fun _ _ => ⟨has, eT, hfit.2.1, hfit.2.2⟩)
  subst e1 e2 e3
  have hr := rebS (n1 := T.heap.size) hS (by rw [eT]; exact hk) X' hS2 hgr hZ hown
  exact ⟨v, T', L, hq, hr.2.1, hr.2.2.1, hr.2.2.2, hC, hr.1, fun _ k => st.trans k⟩
theorem own_specialW (X : Stand p l e R (s.setVm vm0) m args below meth c T locs cells slots) (hx : p.tables.exec = Jvm.exec) (hZ : Z.Warmed39 (s.setVm vm0).vm) {own : String} {index W maxL : Nat} {y : MethodName} {bytes : ByteArray} {rm : Room} {as' : Array Value} {Q : Option Value → Heap → List Loc → Prop} (hy1 : y.name = "<init>")
    (hown : (s.setVm vm0).vm.findClass own = some m.cls) (w1 : (Jvm.Cond.methodLink own index y).before a0 Z = true) (w2 : (Jvm.Cond.instanceMethod y).before a0 Z = true) (w3 : (Jvm.Cond.initialized y.cls).before a0 Z = true) (w4 : (Jvm.Cond.code y bytes maxL none).before a0 Z = true) (hy : y.cls ≠ "java/lang/invoke/MethodHandle" ∧ y.cls ≠ "java/lang/invoke/VarHandle")
    (hM : MetFree l y (head1 [Jvm.Cond.code y bytes maxL none] rm) (fun a U => a = as' ∧ Z.Warmed39 U.vm ∧ U.heap = h ∧ CHv Z EL U.vm h ∧ ∀ x ∈ sx, Safe Z EL U.vm h x) (fun _ _ _ _ _ => True) (fun _ U o U' => ∃ v L, o = .returned v ∧ Q v U'.heap L ∧ CHr Z EL U.vm U.heap U'.vm U'.heap ∧ ReturnedEndW U o U' L rm.cells rm.slots)) (eT : T.heap = h) {k0 : Nat} (hS : s.Since vm0 k0) (hk : k0 ≤ h.size) (hEL : EW Z a0 EL) (H : CHv Z EL vm0 h) (hsx : ∀ x ∈ sx, x < h.size ∧ Safe Z EL vm0 h x)
    {g : JFrame} (hg : g.method = m) {ml : Nat} (hml : c.maxLocals = ml) (hsz : g.locals.size = ml) {a : Addr} {rest : List Value} (hlen : ∀ sig, parseMethodDescriptor y.desc = some sig → (as'.toList.tail).length = sig.parameters.length) (hstack : g.stack = (as'.toList.tail).reverse ++ .ref a :: rest) (has : (.ref a :: as'.toList.tail).toArray = as') (hW : 2 * g.monitorRoom + (rest.map fun v => v.category).sum = W)
    (hdg : decode c.code g.pc = .ok (.invokespecial index, 3)) (hfit : (rm.frames + 1 ≤ R.frames ∧ W + (maxL + 11) + rm.locals ≤ R.locals) ∧ cells + rm.cells ≤ R.cells ∧ slots + rm.slots ≤ R.slots) :
    ∃ (v : Option Value) (T' : State) (L : List Loc), Q v T'.heap L ∧ s.Since T'.vm T'.heap.size ∧ Z.Warmed39 (s.setVm T'.vm).vm ∧ (s.setVm T'.vm).vm.findClass own = some m.cls ∧ CHr Z EL vm0 h T'.vm T'.heap ∧ Stand p l e R (s.setVm T'.vm) m args below meth c T' (locs ++ L) (cells + rm.cells) (slots + rm.slots) ∧ ∀ target, Steps p.tables e below (T'.setTop { g with pc := g.pc + 3, stack := v.toList ++ rest }) target → Steps p.tables e below (T.setTop g) target := by
  obtain ⟨v, _, ⟨T', L', c', s'⟩, -, X', hS2, hgr, ⟨L, hq, e1, e2, e3, hC⟩, st⟩ := X.specialBackS hx hy1 hown (mvT hZ w1) (mvT hZ w2) (mvT hZ w4) hy (own_backS (W := W) hM hZ w4 w3 hfit.1.1 hfit.1.2 hEL H hsx) hg (hsz.trans hml.symm) (Steps.refl _) hlen hstack (Nat.le_of_eq hW) hdg (fun _ _ => ⟨has, eT, hfit.2.1, hfit.2.2⟩)
  subst e1 e2 e3
  have hr := rebS (n1 := T.heap.size) hS (by rw [eT]; exact hk) X' hS2 hgr hZ hown
  exact ⟨v, T', L, hq, hr.2.1, hr.2.2.1, hr.2.2.2, hC, hr.1, fun _ k => st.trans k⟩
theorem own_virtualW (X : Stand p l e R (s.setVm vm0) m args below meth c T locs cells slots) (hx : p.tables.exec = Jvm.exec) (hZ : Z.Warmed39 (s.setVm vm0).vm) {own C : String} {index W maxL : Nat} {y z : MethodName} {bytes : ByteArray} {ret : Option FieldType} {rm : Room} {as' : Array Value} {Q : Option Value → Heap → List Loc → Prop}
    (hown : (s.setVm vm0).vm.findClass own = some m.cls) (w1 : (Jvm.Cond.methodLink own index y).before a0 Z = true) (w2 : (Jvm.Cond.declares y).before a0 Z = true) (nf : NotFace (s.setVm vm0) y) (w5 : (Jvm.Cond.selects C y z).before a0 Z = true) (w6 : (Jvm.Cond.instanceMethod z).before a0 Z = true) (w3 : (Jvm.Cond.initialized z.cls).before a0 Z = true) (w4 : (Jvm.Cond.code z bytes maxL ret).before a0 Z = true) (hy : y.cls ≠ "java/lang/invoke/MethodHandle" ∧ y.cls ≠ "java/lang/invoke/VarHandle")
    (hM : MetFree l z (head1 [Jvm.Cond.code z bytes maxL ret] rm) (fun a U => a = as' ∧ Z.Warmed39 U.vm ∧ U.heap = h ∧ CHv Z EL U.vm h ∧ ∀ x ∈ sx, Safe Z EL U.vm h x) (fun _ _ _ _ _ => True) (fun _ U o U' => ∃ v L, o = .returned v ∧ Q v U'.heap L ∧ CHr Z EL U.vm U.heap U'.vm U'.heap ∧ ReturnedEndW U o U' L rm.cells rm.slots)) (eT : T.heap = h) {k0 : Nat} (hS : s.Since vm0 k0) (hk : k0 ≤ h.size) (hEL : EW Z a0 EL) (H : CHv Z EL vm0 h) (hsx : ∀ x ∈ sx, x < h.size ∧ Safe Z EL vm0 h x) {b : Addr} (E : Exa Z h b C)
    {g : JFrame} (hg : g.method = m) {ml : Nat} (hml : c.maxLocals = ml) (hsz : g.locals.size = ml) {rest : List Value} (hlen : ∀ sig, parseMethodDescriptor y.desc = some sig → (as'.toList.tail).length = sig.parameters.length) (hstack : g.stack = (as'.toList.tail).reverse ++ .ref b :: rest) (has : (.ref b :: as'.toList.tail).toArray = as') (hW : 2 * g.monitorRoom + (rest.map fun v => v.category).sum = W)
    (hdg : decode c.code g.pc = .ok (.invokevirtual index, 3)) (hfit : (rm.frames + 1 ≤ R.frames ∧ W + (maxL + 11) + rm.locals ≤ R.locals) ∧ cells + rm.cells ≤ R.cells ∧ slots + rm.slots ≤ R.slots) :
    ∃ (v : Option Value) (T' : State) (L : List Loc), Q v T'.heap L ∧ s.Since T'.vm T'.heap.size ∧ Z.Warmed39 (s.setVm T'.vm).vm ∧ (s.setVm T'.vm).vm.findClass own = some m.cls ∧ CHr Z EL vm0 h T'.vm T'.heap ∧ Stand p l e R (s.setVm T'.vm) m args below meth c T' (locs ++ L) (cells + rm.cells) (slots + rm.slots) ∧ ∀ target, Steps p.tables e below (T'.setTop { g with pc := g.pc + 3, stack := v.toList ++ rest }) target → Steps p.tables e below (T.setTop g) target := by
  obtain ⟨cB, kB, qa, qb, qc⟩ := isOf hZ eT E
  obtain ⟨v, _, ⟨T', L', c', s'⟩, -, X', hS2, hgr, ⟨L, hq, e1, e2, e3, hC⟩, st⟩ := X.virtualBackS hx hown (mvT hZ w1) (mvT hZ w2) nf (mvT hZ w5) (mvT hZ w6) hy (own_backS (W := W) hM hZ w4 w3 hfit.1.1 hfit.1.2 hEL H hsx) qa qc hg (hsz.trans hml.symm) (Steps.refl _) hlen hstack (Nat.le_of_eq hW) hdg (fun _ _ => ⟨has, eT, hfit.2.1, hfit.2.2⟩)
  subst e1 e2 e3
  have hr := rebS (n1 := T.heap.size) hS (by rw [eT]; exact hk) X' hS2 hgr hZ hown
  exact ⟨v, T', L, hq, hr.2.1, hr.2.2.1, hr.2.2.2, hC, hr.1, fun _ k => st.trans k⟩
theorem own_endW (X : Stand p l e R (s.setVm vm0) m args below meth c T locs cells slots) (hlk : meth.locks = false) {v : Option Value} (hv : meth.sig.returnType = none → v = none) {k0 : Nat} (hS : s.Since vm0 k0) (hk : k0 ≤ h.size) (hfit : cells ≤ R.cells ∧ slots ≤ R.slots) {h0 : Heap} (hh : s.heap = h0) (eT : T.heap = h) (C : CHr Z EL s.vm h0 vm0 h) (hZ : Z.Warmed39 vm0) (hEL : EW Z a0 EL) {Q : Option Value → Heap → List Loc → Prop} (hq : Q v T.heap locs) {S : State}
    (hs : ∀ fs, (∀ (f : JFrame) (acts : List Action), f.method = m → f.locked = none → f.entered = [] → (doReturn e (T.setTop f) acts v).1 = T.setFrames fs) → Steps p.tables e below S (T.setFrames fs)) : EndW EL Z p e s below R Q S := by
  subst hh eT
  obtain ⟨fs, hr, hrun, hended, hRW⟩ := X.leaveW hS hk hv
  have hC : CHr Z EL s.vm s.heap T.vm T.heap := C.trans (CHv.at X hZ hEL C.1)
  exact ⟨_, _, hs fs hr, hrun, hended, _, _, rfl, hq, hC, hRW.1, hRW.2.1, hRW.2.2.1, hRW.2.2.2.mono hfit.1 hfit.2⟩
theorem own_sx0 : ∀ x ∈ ([] : List Addr), x < h.size ∧ Safe Z EL vm0 h x := fun _ q => nomatch q
theorem own_sxS {y : Addr} {L : List Addr} (q : y < h.size) (r : Safe Z EL vm0 h y) (n : ∀ x ∈ L, x < h.size ∧ Safe Z EL vm0 h x) : ∀ x ∈ y :: L, x < h.size ∧ Safe Z EL vm0 h x := fun x z => (List.mem_cons.mp z).elim (fun u => u ▸ ⟨q, r⟩) (n x)
end OwnWide
section OwnSites
variable {p : Program} {l : Launch} {e : Env} {R : Room} {s : State} {m : MethodId} {args : Array Value} {below : List Frame} {meth : Method} {c : Code} {T : State} {locs : List Loc} {cells slots : Nat} {Z : State} {a0 : Array Value} {h : Heap} {own C : String} {index W maxL : Nat} {y : MethodName} {bytes : ByteArray} {ret : Option FieldType} {ps : List FieldType} {r : Option FieldType} {rm : Room} {as' : Array Value} {Q : Option Value → Heap → List Loc → Prop}
abbrev WS (Z : State) (a0 : Array Value) (own : String) (index : Nat) (y : MethodName) (bytes : ByteArray) (maxL : Nat) (ret : Option FieldType) (ps : List FieldType) (r : Option FieldType) : Prop := (Jvm.Cond.methodLink own index y).before a0 Z = true ∧ (Jvm.Cond.static y).before a0 Z = true ∧ (Jvm.Cond.initialized y.cls).before a0 Z = true ∧ (Jvm.Cond.code y bytes maxL ret).before a0 Z = true ∧ (y.cls ≠ "java/lang/invoke/MethodHandle" ∧ y.cls ≠ "java/lang/invoke/VarHandle") ∧ parseMethodDescriptor y.desc = some ⟨ps, r⟩
abbrev WI (Z : State) (a0 : Array Value) (own : String) (index : Nat) (y : MethodName) (bytes : ByteArray) (maxL : Nat) (ps : List FieldType) : Prop := (Jvm.Cond.methodLink own index y).before a0 Z = true ∧ (Jvm.Cond.instanceMethod y).before a0 Z = true ∧ (Jvm.Cond.initialized y.cls).before a0 Z = true ∧ (Jvm.Cond.code y bytes maxL none).before a0 Z = true ∧ (y.cls ≠ "java/lang/invoke/MethodHandle" ∧ y.cls ≠ "java/lang/invoke/VarHandle") ∧ parseMethodDescriptor y.desc = some ⟨ps, none⟩ ∧ y.name = "<init>"
abbrev WV (Z : State) (a0 : Array Value) (own : String) (index : Nat) (C : String) (y : MethodName) (bytes : ByteArray) (maxL : Nat) (ret : Option FieldType) (ps : List FieldType) (r : Option FieldType) : Prop := (Jvm.Cond.methodLink own index y).before a0 Z = true ∧ (Jvm.Cond.declares y).before a0 Z = true ∧ (Jvm.Cond.selects C y y).before a0 Z = true ∧ (Jvm.Cond.instanceMethod y).before a0 Z = true ∧ (Jvm.Cond.initialized y.cls).before a0 Z = true ∧ (Jvm.Cond.code y bytes maxL ret).before a0 Z = true ∧ (y.cls ≠ "java/lang/invoke/MethodHandle" ∧ y.cls ≠ "java/lang/invoke/VarHandle") ∧ parseMethodDescriptor y.desc = some ⟨ps, r⟩
theorem cS (X : Stand p l e R s m args below meth c T locs cells slots) (hx : p.tables.exec = Jvm.exec) (hZ : Z.Warmed39 s.vm) (hown : s.vm.findClass own = some m.cls) (w : WS Z a0 own index y bytes maxL ret ps r) (hM : Ct l Z y bytes maxL ret rm as' h Q) (eT : T.heap = h) {g : JFrame} (hg : g.method = m) {ml : Nat} (hml : c.maxLocals = ml) (hsz : g.locals.size = ml) {rest : List Value} (hlen : (as'.toList).length = ps.length) (hstack : g.stack = (as'.toList).reverse ++ rest) (has : (as'.toList).toArray = as') (hW : 2 * g.monitorRoom + (rest.map fun v => v.category).sum = W) (hdg : decode c.code g.pc = .ok (.invokestatic index, 3)) (hfit : (rm.frames + 1 ≤ R.frames ∧ W + (maxL + 11) + rm.locals ≤ R.locals) ∧ cells + rm.cells ≤ R.cells ∧ slots + rm.slots ≤ R.slots) :
    ∃ (v : Option Value) (T' : State) (L : List Loc), Q v T'.heap L ∧ Stand p l e R s m args below meth c T' (locs ++ L) (cells + rm.cells) (slots + rm.slots) ∧ ∀ target, Steps p.tables e below (T'.setTop { g with pc := g.pc + 3, stack := v.toList ++ rest }) target → Steps p.tables e below (T.setTop g) target :=
  own_callS X hx hZ hown w.1 w.2.1 w.2.2.1 w.2.2.2.1 w.2.2.2.2.1 hM eT hg hml hsz (lenOf w.2.2.2.2.2 hlen) hstack has hW hdg hfit
theorem cI (X : Stand p l e R s m args below meth c T locs cells slots) (hx : p.tables.exec = Jvm.exec) (hZ : Z.Warmed39 s.vm) (hown : s.vm.findClass own = some m.cls) (w : WI Z a0 own index y bytes maxL ps) (hM : Ct l Z y bytes maxL none rm as' h Q) (eT : T.heap = h) {b : Addr} {g : JFrame} (hg : g.method = m) {ml : Nat} (hml : c.maxLocals = ml) (hsz : g.locals.size = ml) {rest : List Value} (hlen : (as'.toList.tail).length = ps.length) (hstack : g.stack = (as'.toList.tail).reverse ++ .ref b :: rest) (has : (.ref b :: as'.toList.tail).toArray = as') (hW : 2 * g.monitorRoom + (rest.map fun v => v.category).sum = W) (hdg : decode c.code g.pc = .ok (.invokespecial index, 3)) (hfit : (rm.frames + 1 ≤ R.frames ∧ W + (maxL + 11) + rm.locals ≤ R.locals) ∧ cells + rm.cells ≤ R.cells ∧ slots + rm.slots ≤ R.slots) :
    ∃ (v : Option Value) (T' : State) (L : List Loc), Q v T'.heap L ∧ Stand p l e R s m args below meth c T' (locs ++ L) (cells + rm.cells) (slots + rm.slots) ∧ ∀ target, Steps p.tables e below (T'.setTop { g with pc := g.pc + 3, stack := v.toList ++ rest }) target → Steps p.tables e below (T.setTop g) target :=
  own_special X hx hZ w.2.2.2.2.2.2 hown w.1 w.2.1 w.2.2.1 w.2.2.2.1 w.2.2.2.2.1 hM eT hg hml hsz (lenOf w.2.2.2.2.2.1 hlen) hstack has hW hdg hfit
theorem cV (X : Stand p l e R s m args below meth c T locs cells slots) (hx : p.tables.exec = Jvm.exec) (hZ : Z.Warmed39 s.vm) (hown : s.vm.findClass own = some m.cls) (w : WV Z a0 own index C y bytes maxL ret ps r) (hM : Ct l Z y bytes maxL ret rm as' h Q) (eT : T.heap = h) {b : Addr} (E : Exa Z h b C) {g : JFrame} (hg : g.method = m) {ml : Nat} (hml : c.maxLocals = ml) (hsz : g.locals.size = ml) {rest : List Value} (hlen : (as'.toList.tail).length = ps.length) (hstack : g.stack = (as'.toList.tail).reverse ++ .ref b :: rest) (has : (.ref b :: as'.toList.tail).toArray = as') (hW : 2 * g.monitorRoom + (rest.map fun v => v.category).sum = W) (hdg : decode c.code g.pc = .ok (.invokevirtual index, 3)) (hfit : (rm.frames + 1 ≤ R.frames ∧ W + (maxL + 11) + rm.locals ≤ R.locals) ∧ cells + rm.cells ≤ R.cells ∧ slots + rm.slots ≤ R.slots) :
    ∃ (v : Option Value) (T' : State) (L : List Loc), Q v T'.heap L ∧ Stand p l e R s m args below meth c T' (locs ++ L) (cells + rm.cells) (slots + rm.slots) ∧ ∀ target, Steps p.tables e below (T'.setTop { g with pc := g.pc + 3, stack := v.toList ++ rest }) target → Steps p.tables e below (T.setTop g) target :=
  own_virtual X hx hZ hown w.1 w.2.1 (notFace_of_selects (args := #[]) (mvT hZ w.2.2.1)) w.2.2.1 w.2.2.2.1 w.2.2.2.2.1 w.2.2.2.2.2.1 w.2.2.2.2.2.2.1 hM eT E hg hml hsz (lenOf w.2.2.2.2.2.2.2 hlen) hstack has hW hdg hfit
theorem cSW {vm0 : Vm} {EL : List (String × Nat)} {sx : List Addr} (X : Stand p l e R (s.setVm vm0) m args below meth c T locs cells slots) (hx : p.tables.exec = Jvm.exec) (hZ : Z.Warmed39 (s.setVm vm0).vm) (hown : (s.setVm vm0).vm.findClass own = some m.cls) (w : WS Z a0 own index y bytes maxL ret ps r) (hM : CtW EL sx l Z y bytes maxL ret rm as' h Q) (eT : T.heap = h) {k0 : Nat} (hS : s.Since vm0 k0) (hk : k0 ≤ h.size) (hEL : EW Z a0 EL) (H : CHv Z EL vm0 h) (hsx : ∀ x ∈ sx, x < h.size ∧ Safe Z EL vm0 h x) {g : JFrame} (hg : g.method = m) {ml : Nat} (hml : c.maxLocals = ml) (hsz : g.locals.size = ml) {rest : List Value} (hlen : (as'.toList).length = ps.length) (hstack : g.stack = (as'.toList).reverse ++ rest) (has : (as'.toList).toArray = as') (hW : 2 * g.monitorRoom + (rest.map fun v => v.category).sum = W) (hdg : decode c.code g.pc = .ok (.invokestatic index, 3)) (hfit : (rm.frames + 1 ≤ R.frames ∧ W + (maxL + 11) + rm.locals ≤ R.locals) ∧ cells + rm.cells ≤ R.cells ∧ slots + rm.slots ≤ R.slots) :
    ∃ (v : Option Value) (T' : State) (L : List Loc), Q v T'.heap L ∧ s.Since T'.vm T'.heap.size ∧ Z.Warmed39 (s.setVm T'.vm).vm ∧ (s.setVm T'.vm).vm.findClass own = some m.cls ∧ CHr Z EL vm0 h T'.vm T'.heap ∧ Stand p l e R (s.setVm T'.vm) m args below meth c T' (locs ++ L) (cells + rm.cells) (slots + rm.slots) ∧ ∀ target, Steps p.tables e below (T'.setTop { g with pc := g.pc + 3, stack := v.toList ++ rest }) target → Steps p.tables e below (T.setTop g) target :=
  own_callSW X hx hZ hown w.1 w.2.1 w.2.2.1 w.2.2.2.1 w.2.2.2.2.1 hM eT hS hk hEL H hsx hg hml hsz (lenOf w.2.2.2.2.2 hlen) hstack has hW hdg hfit
theorem cIW {vm0 : Vm} {EL : List (String × Nat)} {sx : List Addr} (X : Stand p l e R (s.setVm vm0) m args below meth c T locs cells slots) (hx : p.tables.exec = Jvm.exec) (hZ : Z.Warmed39 (s.setVm vm0).vm) (hown : (s.setVm vm0).vm.findClass own = some m.cls) (w : WI Z a0 own index y bytes maxL ps) (hM : CtW EL sx l Z y bytes maxL none rm as' h Q) (eT : T.heap = h) {k0 : Nat} (hS : s.Since vm0 k0) (hk : k0 ≤ h.size) (hEL : EW Z a0 EL) (H : CHv Z EL vm0 h) (hsx : ∀ x ∈ sx, x < h.size ∧ Safe Z EL vm0 h x) {b : Addr} {g : JFrame} (hg : g.method = m) {ml : Nat} (hml : c.maxLocals = ml) (hsz : g.locals.size = ml) {rest : List Value} (hlen : (as'.toList.tail).length = ps.length) (hstack : g.stack = (as'.toList.tail).reverse ++ .ref b :: rest) (has : (.ref b :: as'.toList.tail).toArray = as') (hW : 2 * g.monitorRoom + (rest.map fun v => v.category).sum = W) (hdg : decode c.code g.pc = .ok (.invokespecial index, 3)) (hfit : (rm.frames + 1 ≤ R.frames ∧ W + (maxL + 11) + rm.locals ≤ R.locals) ∧ cells + rm.cells ≤ R.cells ∧ slots + rm.slots ≤ R.slots) :
    ∃ (v : Option Value) (T' : State) (L : List Loc), Q v T'.heap L ∧ s.Since T'.vm T'.heap.size ∧ Z.Warmed39 (s.setVm T'.vm).vm ∧ (s.setVm T'.vm).vm.findClass own = some m.cls ∧ CHr Z EL vm0 h T'.vm T'.heap ∧ Stand p l e R (s.setVm T'.vm) m args below meth c T' (locs ++ L) (cells + rm.cells) (slots + rm.slots) ∧ ∀ target, Steps p.tables e below (T'.setTop { g with pc := g.pc + 3, stack := v.toList ++ rest }) target → Steps p.tables e below (T.setTop g) target :=
  own_specialW X hx hZ w.2.2.2.2.2.2 hown w.1 w.2.1 w.2.2.1 w.2.2.2.1 w.2.2.2.2.1 hM eT hS hk hEL H hsx hg hml hsz (lenOf w.2.2.2.2.2.1 hlen) hstack has hW hdg hfit
theorem cVW {vm0 : Vm} {EL : List (String × Nat)} {sx : List Addr} (X : Stand p l e R (s.setVm vm0) m args below meth c T locs cells slots) (hx : p.tables.exec = Jvm.exec) (hZ : Z.Warmed39 (s.setVm vm0).vm) (hown : (s.setVm vm0).vm.findClass own = some m.cls) (w : WV Z a0 own index C y bytes maxL ret ps r) (hM : CtW EL sx l Z y bytes maxL ret rm as' h Q) (eT : T.heap = h) {k0 : Nat} (hS : s.Since vm0 k0) (hk : k0 ≤ h.size) (hEL : EW Z a0 EL) (H : CHv Z EL vm0 h) (hsx : ∀ x ∈ sx, x < h.size ∧ Safe Z EL vm0 h x) {b : Addr} (E : Exa Z h b C) {g : JFrame} (hg : g.method = m) {ml : Nat} (hml : c.maxLocals = ml) (hsz : g.locals.size = ml) {rest : List Value} (hlen : (as'.toList.tail).length = ps.length) (hstack : g.stack = (as'.toList.tail).reverse ++ .ref b :: rest) (has : (.ref b :: as'.toList.tail).toArray = as') (hW : 2 * g.monitorRoom + (rest.map fun v => v.category).sum = W) (hdg : decode c.code g.pc = .ok (.invokevirtual index, 3)) (hfit : (rm.frames + 1 ≤ R.frames ∧ W + (maxL + 11) + rm.locals ≤ R.locals) ∧ cells + rm.cells ≤ R.cells ∧ slots + rm.slots ≤ R.slots) :
    ∃ (v : Option Value) (T' : State) (L : List Loc), Q v T'.heap L ∧ s.Since T'.vm T'.heap.size ∧ Z.Warmed39 (s.setVm T'.vm).vm ∧ (s.setVm T'.vm).vm.findClass own = some m.cls ∧ CHr Z EL vm0 h T'.vm T'.heap ∧ Stand p l e R (s.setVm T'.vm) m args below meth c T' (locs ++ L) (cells + rm.cells) (slots + rm.slots) ∧ ∀ target, Steps p.tables e below (T'.setTop { g with pc := g.pc + 3, stack := v.toList ++ rest }) target → Steps p.tables e below (T.setTop g) target :=
  own_virtualW X hx hZ hown w.1 w.2.1 (notFace_of_selects (args := #[]) (mvT hZ w.2.2.1)) w.2.2.1 w.2.2.2.1 w.2.2.2.2.1 w.2.2.2.2.2.1 w.2.2.2.2.2.2.1 hM eT hS hk hEL H hsx E hg hml hsz (lenOf w.2.2.2.2.2.2.2 hlen) hstack has hW hdg hfit
end OwnSites
theorem own_irr (x : Int32) : ¬ (x < x) := Int32.lt_irrefl
theorem own_old_le {Z : State} {n0 : Nat} {h : Heap} (O : Old Z n0 h) : n0 ≤ h.size := O.1 ▸ O.2.1
theorem own_rng (x : Int32) : -2147483648 ≤ x.toInt ∧ x.toInt ≤ 2147483647 := by have := rng32 x; omega
theorem own_mask (x m : Int32) {n : Int} (h : m.toInt = n ∧ 0 ≤ n) : 0 ≤ (x &&& m).toInt ∧ (x &&& m).toInt ≤ n := by have := c_and x m (by omega); omega
theorem own_rem (x y : Int32) (d : Int) {lo hi l h : Int} (hy : y.toInt = d ∧ 0 < d) (hx : lo ≤ x.toInt ∧ x.toInt ≤ hi) (q : (0 ≤ lo ∧ l = 0 ∧ d - 1 ≤ h) ∨ (l = -(d - 1) ∧ h = d - 1)) : l ≤ (x % y).toInt ∧ (x % y).toInt ≤ h := by
  have := c_iremV x y
  rcases Int.lt_or_le x.toInt 0 with g | g
  · have := this.2 g (by omega); omega
  · have := this.1 g (by omega); omega
theorem own_ltF {x y : Int32} (h : ¬ (x.toInt < y.toInt)) : ¬ (x < y) := fun q => h (Int32.lt_iff_toInt_lt.mp q)
theorem own_retN {p : Program} {l : Launch} {e : Env} {R : Room} {s : State} {m : MethodId} {args : Array Value} {below : List Frame} {meth : Method} {c : Code} {T : State} {locs : List Loc} {cells slots : Nat} (X : Stand p l e R s m args below meth c T locs cells slots) (hx : p.tables.exec = Jvm.exec) {pc : Nat} {Ls : Array Slot} {z z' : Int32} {t : FieldType} {rest : List Value} (hret : meth.sig.returnType = some t) (ht : t = .boolean ∨ t = .byte ∨ t = .char ∨ t = .short)
    (hd : decode c.code pc = .ok (.ireturn, 1)) (hz : nar t z = z') {fs : List Frame} (hl : ∀ (f : JFrame) (acts : List Action), f.method = m → f.locked = none → f.entered = [] → (doReturn e (T.setTop f) acts (some (.int z'))).1 = T.setFrames fs) : Steps p.tables e below (T.setTop (mkF m pc Ls (.int z :: rest))) (T.setFrames fs) := retN X hx hret ht hd (by rw [hz]; exact hl)
theorem own_hv {meth : Method} {t : FieldType} {v : Option Value} (hret : meth.sig.returnType = some t) : meth.sig.returnType = none → v = none := fun h => by rw [hret] at h; cases h
theorem own_narC {x : Int32} (h1 : ¬ (x < (0 : Int32))) (h2 : ¬ ((65535 : Int32) < x)) : nar .char x = x := Int32.toInt_inj.mp (by
  have a1 := fun q => h1 (Int32.lt_iff_toInt_lt.mpr q); have a2 := fun q => h2 (Int32.lt_iff_toInt_lt.mpr q); have c1 : (0 : Int32).toInt = 0 := by decide
  have c2 : (65535 : Int32).toInt = 65535 := by decide
  rw [c1] at a1; rw [c2] at a2
  have b1 : ¬ (x.toInt < 0) := a1
  have b2 : ¬ (65535 < x.toInt) := a2
  have := c_i2c x; show x.toUInt32.toUInt16.toUInt32.toInt32.toInt = x.toInt; omega)
theorem own_narB {x : Int32} (h1 : ¬ (x < (-128 : Int32))) (h2 : ¬ ((127 : Int32) < x)) : nar .byte x = x := Int32.toInt_inj.mp (by
  have a1 := fun q => h1 (Int32.lt_iff_toInt_lt.mpr q); have a2 := fun q => h2 (Int32.lt_iff_toInt_lt.mpr q); have c1 : (-128 : Int32).toInt = -128 := by decide
  have c2 : (127 : Int32).toInt = 127 := by decide
  rw [c1] at a1; rw [c2] at a2
  have b1 : ¬ (x.toInt < -128) := a1
  have b2 : ¬ (127 < x.toInt) := a2
  have := c_i2b x; show x.toInt8.toInt32.toInt = x.toInt; omega)
theorem own_i2c {x : Int32} (h1 : ¬ (x < (0 : Int32))) (h2 : ¬ ((65535 : Int32) < x)) : x.toUInt32.toUInt16.toUInt32.toInt32 = x := own_narC h1 h2
theorem own_i2b {x : Int32} (h1 : ¬ (x < (-128 : Int32))) (h2 : ¬ ((127 : Int32) < x)) : x.toInt8.toInt32 = x := own_narB h1 h2
theorem own_rg {x : Int32} {lo hi : Int32} {l h : Int} (h1 : ¬ (x < lo)) (h2 : ¬ (hi < x)) (e : lo.toInt = l ∧ hi.toInt = h) : l ≤ x.toInt ∧ x.toInt ≤ h := by
  have a1 : ¬ (x.toInt < lo.toInt) := fun q => h1 (Int32.lt_iff_toInt_lt.mpr q)
  have a2 : ¬ (hi.toInt < x.toInt) := fun q => h2 (Int32.lt_iff_toInt_lt.mpr q)
  omega
theorem own_b255 {x : Int32} (h1 : ¬ (x < (0 : Int32))) (h2 : ¬ ((255 : Int32) < x)) : x.toInt8.toInt32 &&& (255 : Int32) = x := Int32.toInt_inj.mp (by
  have a := own_rg h1 h2 (l := 0) (h := 255) (by decide)
  have b := c_i2b x
  have c : (x.toInt8.toInt32 &&& (255 : Int32)).toInt = x.toInt8.toInt32.toInt % ((2 ^ 8 : Nat) : Int) := c_mask _ _ 8 (by decide) (by decide)
  rw [c]; omega)
theorem own_binj {x y : Int32} (h1 : ¬ (x < (0 : Int32))) (h2 : ¬ ((255 : Int32) < x)) (h3 : ¬ (y < (0 : Int32))) (h4 : ¬ ((255 : Int32) < y)) : x.toInt8.toInt32 = y.toInt8.toInt32 ↔ x = y := by
  refine ⟨fun q => ?_, fun q => q ▸ rfl⟩
  have a := own_b255 h1 h2
  have b := own_b255 h3 h4
  rw [q] at a
  exact a.symm.trans b
theorem own_blit {x z w : Int32} (h1 : ¬ (x < (0 : Int32))) (h2 : ¬ ((255 : Int32) < x)) (e : w.toInt8.toInt32 = z ∧ ¬ (w < (0 : Int32)) ∧ ¬ ((255 : Int32) < w)) : x.toInt8.toInt32 = z ↔ x = w := by rw [← e.1]; exact own_binj h1 h2 e.2.1 e.2.2
theorem own_not {Z : State} {args : Array Value} {t : Term} {x z : Int32} (ev : t.eval args Z none [] Z = some (.int x)) (h : (Jvm.Cond.not (Jvm.Cond.eq t (Term.int z))).value args Z none Z [] = some true) : ¬ (x = z) := gotF (Cond.eq_ints ev (Term.int_eval z)) (not_v h)
theorem own_ltF' {x y : Int32} (h : ¬ (x < y)) : ¬ (x.toInt < y.toInt) := fun q => h (Int32.lt_iff_toInt_lt.mpr q)
theorem own_eqT' {x y : Int32} (h : x = y) : x.toInt = y.toInt := h ▸ rfl
section OwnShort
variable {p : Program} {l : Launch} {e : Env} {R : Room} {s : State} {m : MethodId} {args : Array Value} {below : List Frame} {meth : Method} {c : Code} {T : State} {locs : List Loc} {cells slots : Nat} {g : JFrame} {code : ByteArray} {target : State}
theorem wal (X : Stand p l e R s m args below meth c T locs cells slots) (hx : p.tables.exec = Jvm.exec) (hby : c.code = code) (hg : g.method = m) {k : Fin 4} {v : Value} (hd : decode code g.pc = .ok (.aload_n k, 1)) (hl : g.locals[k.val]? = some (.val v)) (hv : v.isRef = true) (hr : Steps p.tables e below (T.setTop { g with pc := g.pc + 1, stack := v :: g.stack }) target) : Steps p.tables e below (T.setTop g) target := XS.aloadN X.here hx hg (hb hby hd) hl hv hr
theorem waL (X : Stand p l e R s m args below meth c T locs cells slots) (hx : p.tables.exec = Jvm.exec) (hby : c.code = code) (hg : g.method = m) {k : Nat} {v : Value} (hd : decode code g.pc = .ok (.aload k, 2)) (hl : g.locals[k]? = some (.val v)) (hv : v.isRef = true) (hr : Steps p.tables e below (T.setTop { g with pc := g.pc + 2, stack := v :: g.stack }) target) : Steps p.tables e below (T.setTop g) target := XS.aload X.here hx hg (hb hby hd) hl hv hr
theorem wil (X : Stand p l e R s m args below meth c T locs cells slots) (hx : p.tables.exec = Jvm.exec) (hby : c.code = code) (hg : g.method = m) {k : Fin 4} {v : Int32} (hd : decode code g.pc = .ok (.iload_n k, 1)) (hl : g.locals[k.val]? = some (.val (.int v))) (hr : Steps p.tables e below (T.setTop { g with pc := g.pc + 1, stack := .int v :: g.stack }) target) : Steps p.tables e below (T.setTop g) target := XS.iloadN X.here hx hg (hb hby hd) hl hr
theorem wiL (X : Stand p l e R s m args below meth c T locs cells slots) (hx : p.tables.exec = Jvm.exec) (hby : c.code = code) (hg : g.method = m) {k : Nat} {v : Int32} (hd : decode code g.pc = .ok (.iload k, 2)) (hl : g.locals[k]? = some (.val (.int v))) (hr : Steps p.tables e below (T.setTop { g with pc := g.pc + 2, stack := .int v :: g.stack }) target) : Steps p.tables e below (T.setTop g) target := XS.iload X.here hx hg (hb hby hd) hl hr
theorem wic (X : Stand p l e R s m args below meth c T locs cells slots) (hx : p.tables.exec = Jvm.exec) (hby : c.code = code) (hg : g.method = m) {i : Int} (hd : decode code g.pc = .ok (.iconst i, 1)) (hr : Steps p.tables e below (T.setTop { g with pc := g.pc + 1, stack := .int (Int32.ofInt i) :: g.stack }) target) : Steps p.tables e below (T.setTop g) target := XS.iconst X.here hx hg (hb hby hd) hr
theorem wbp (X : Stand p l e R s m args below meth c T locs cells slots) (hx : p.tables.exec = Jvm.exec) (hby : c.code = code) (hg : g.method = m) {i : Int} (hd : decode code g.pc = .ok (.bipush i, 2)) (hr : Steps p.tables e below (T.setTop { g with pc := g.pc + 2, stack := .int (Int8.ofInt i).toInt32 :: g.stack }) target) : Steps p.tables e below (T.setTop g) target := XS.bipush X.here hx hg (hb hby hd) hr
theorem wsp (X : Stand p l e R s m args below meth c T locs cells slots) (hx : p.tables.exec = Jvm.exec) (hby : c.code = code) (hg : g.method = m) {i : Int} (hd : decode code g.pc = .ok (.sipush i, 3)) (hr : Steps p.tables e below (T.setTop { g with pc := g.pc + 3, stack := .int (Int16.ofInt i).toInt32 :: g.stack }) target) : Steps p.tables e below (T.setTop g) target := XS.sipush X.here hx hg (hb hby hd) hr
theorem wdu (X : Stand p l e R s m args below meth c T locs cells slots) (hx : p.tables.exec = Jvm.exec) (hby : c.code = code) (hg : g.method = m) {x : Value} {rest : List Value} (hd : decode code g.pc = .ok (.dup, 1)) (hs : g.stack = x :: rest) (hc : x.category = 1) (hr : Steps p.tables e below (T.setTop { g with pc := g.pc + 1, stack := x :: x :: rest }) target) : Steps p.tables e below (T.setTop g) target := XS.dup X.here hx hg (hb hby hd) hs hc hr
theorem was (X : Stand p l e R s m args below meth c T locs cells slots) (hx : p.tables.exec = Jvm.exec) (hby : c.code = code) (hg : g.method = m) {k : Fin 4} {x : Value} {rest : List Value} {l' : Array Slot} (hd : decode code g.pc = .ok (.astore_n k, 1)) (hs : g.stack = x :: rest) (hv : x.isRef = true) (hl : storeLocals g.locals k.val x = some l') (hr : Steps p.tables e below (T.setTop { g with pc := g.pc + 1, stack := rest, locals := l' }) target) : Steps p.tables e below (T.setTop g) target := XS.astoreN X.here hx hg (hb hby hd) hs hv hl hr
theorem waS (X : Stand p l e R s m args below meth c T locs cells slots) (hx : p.tables.exec = Jvm.exec) (hby : c.code = code) (hg : g.method = m) {k : Nat} {x : Value} {rest : List Value} {l' : Array Slot} (hd : decode code g.pc = .ok (.astore k, 2)) (hs : g.stack = x :: rest) (hv : x.isRef = true) (hl : storeLocals g.locals k x = some l') (hr : Steps p.tables e below (T.setTop { g with pc := g.pc + 2, stack := rest, locals := l' }) target) : Steps p.tables e below (T.setTop g) target := XS.astore X.here hx hg (hb hby hd) hs hv hl hr
theorem wis (X : Stand p l e R s m args below meth c T locs cells slots) (hx : p.tables.exec = Jvm.exec) (hby : c.code = code) (hg : g.method = m) {k : Fin 4} {x : Int32} {rest : List Value} {l' : Array Slot} (hd : decode code g.pc = .ok (.istore_n k, 1)) (hs : g.stack = .int x :: rest) (hl : storeLocals g.locals k.val (.int x) = some l') (hr : Steps p.tables e below (T.setTop { g with pc := g.pc + 1, stack := rest, locals := l' }) target) : Steps p.tables e below (T.setTop g) target := XS.istoreN X.here hx hg (hb hby hd) hs hl hr
theorem wiS (X : Stand p l e R s m args below meth c T locs cells slots) (hx : p.tables.exec = Jvm.exec) (hby : c.code = code) (hg : g.method = m) {k : Nat} {x : Int32} {rest : List Value} {l' : Array Slot} (hd : decode code g.pc = .ok (.istore k, 2)) (hs : g.stack = .int x :: rest) (hl : storeLocals g.locals k (.int x) = some l') (hr : Steps p.tables e below (T.setTop { g with pc := g.pc + 2, stack := rest, locals := l' }) target) : Steps p.tables e below (T.setTop g) target := XS.istore X.here hx hg (hb hby hd) hs hl hr
theorem wgt (X : Stand p l e R s m args below meth c T locs cells slots) (hx : p.tables.exec = Jvm.exec) (hby : c.code = code) (hg : g.method = m) {o : Int} {pc0 pc' : Nat} (hpc : g.pc = pc0) (hd : decode code g.pc = .ok (.goto o, 3)) (ho : 0 ≤ (pc0 : Int) + o) (hp : ((pc0 : Int) + o).toNat = pc') (hr : Steps p.tables e below (T.setTop { g with pc := pc' }) target) : Steps p.tables e below (T.setTop g) target := XS.goto X.here hx hg hpc (hb hby hd) ho hp hr
theorem wfy (X : Stand p l e R s m args below meth c T locs cells slots) (hx : p.tables.exec = Jvm.exec) (hby : c.code = code) (hg : g.method = m) {cd : ClassFile.Cond} {x : Int32} {rest : List Value} {o : Int} {pc0 pc' : Nat} (hpc : g.pc = pc0) (hd : decode code g.pc = .ok (.ifCond cd o, 3)) (hs : g.stack = .int x :: rest) (hc : ifCond.holds cd x = true) (ho : 0 ≤ (pc0 : Int) + o) (hp : ((pc0 : Int) + o).toNat = pc') (hr : Steps p.tables e below (T.setTop { g with pc := pc', stack := rest }) target) : Steps p.tables e below (T.setTop g) target := XS.ifYes X.here hx hg hpc (hb hby hd) hs hc ho hp hr
theorem wfn (X : Stand p l e R s m args below meth c T locs cells slots) (hx : p.tables.exec = Jvm.exec) (hby : c.code = code) (hg : g.method = m) {cd : ClassFile.Cond} {o : Int} {x : Int32} {rest : List Value} (hd : decode code g.pc = .ok (.ifCond cd o, 3)) (hs : g.stack = .int x :: rest) (hc : ifCond.holds cd x = false) (hr : Steps p.tables e below (T.setTop { g with pc := g.pc + 3, stack := rest }) target) : Steps p.tables e below (T.setTop g) target := XS.ifNo X.here hx hg (hb hby hd) hs hc hr
theorem wcy (X : Stand p l e R s m args below meth c T locs cells slots) (hx : p.tables.exec = Jvm.exec) (hby : c.code = code) (hg : g.method = m) {cd : ClassFile.Cond} {x y : Int32} {rest : List Value} {o : Int} {pc0 pc' : Nat} (hpc : g.pc = pc0) (hd : decode code g.pc = .ok (.if_icmp cd o, 3)) (hs : g.stack = .int y :: .int x :: rest) (hc : if_icmp.holds cd x y = true) (ho : 0 ≤ (pc0 : Int) + o) (hp : ((pc0 : Int) + o).toNat = pc') (hr : Steps p.tables e below (T.setTop { g with pc := pc', stack := rest }) target) : Steps p.tables e below (T.setTop g) target := XS.icmpYes X.here hx hg hpc (hb hby hd) hs hc ho hp hr
theorem wcn (X : Stand p l e R s m args below meth c T locs cells slots) (hx : p.tables.exec = Jvm.exec) (hby : c.code = code) (hg : g.method = m) {cd : ClassFile.Cond} {o : Int} {x y : Int32} {rest : List Value} (hd : decode code g.pc = .ok (.if_icmp cd o, 3)) (hs : g.stack = .int y :: .int x :: rest) (hc : if_icmp.holds cd x y = false) (hr : Steps p.tables e below (T.setTop { g with pc := g.pc + 3, stack := rest }) target) : Steps p.tables e below (T.setTop g) target := XS.icmpNo X.here hx hg (hb hby hd) hs hc hr
theorem wan (X : Stand p l e R s m args below meth c T locs cells slots) (hx : p.tables.exec = Jvm.exec) (hby : c.code = code) (hg : g.method = m) (hd : decode code g.pc = .ok (.aconst_null, 1)) (hr : Steps p.tables e below (T.setTop { g with pc := g.pc + 1, stack := .null :: g.stack }) target) : Steps p.tables e below (T.setTop g) target := XS.aconstNull X.here hx hg (hb hby hd) hr
theorem wnn (X : Stand p l e R s m args below meth c T locs cells slots) (hx : p.tables.exec = Jvm.exec) (hby : c.code = code) (hg : g.method = m) {o : Int} {b : Addr} {rest : List Value} (hd : decode code g.pc = .ok (.ifnull o, 3)) (hs : g.stack = .ref b :: rest) (hr : Steps p.tables e below (T.setTop { g with pc := g.pc + 3, stack := rest }) target) : Steps p.tables e below (T.setTop g) target := XS.ifnullNo X.here hx hg (hb hby hd) hs hr
end OwnShort
abbrev z0 : String := "java/lang/String"
abbrev z1 : String := "com/example/faultscope/faultscope/bpmn/BpmnDocumentLocalPartPinLaw"
abbrev z2 : String := "java/lang/StringLatin1"
abbrev z3 : String := "com/example/faultscope/faultscope/bpmn/BpmnDocument"
abbrev z4 : String := "lastIndexOf"
abbrev z5 : String := "(Ljava/lang/String;)Ljava/lang/String;"
abbrev z6 : String := "java/lang/StringUTF16"
abbrev z7 : String := "java/util/Arrays"
abbrev z8 : String := "(II)Ljava/lang/String;"
abbrev z9 : String := "(I)Ljava/lang/String;"
abbrev z10 : String := "jdk/internal/util/Preconditions"
abbrev z11 : String := "([BII)Ljava/lang/String;"
abbrev z12 : String := "(I[C)Ljava/lang/String;"
abbrev z13 : String := "([CIILjava/lang/Void;)V"
abbrev z14 : String := "copyOfRangeByte"
abbrev z15 : String := "copyOfRange"
def SF (Z : State) (w0 : Int32) (w1 : Value) : Prop := Sta Z Z.heap z0 "COMPACT_STRINGS" "Z" (.int w0) ∧ ¬ (w0 = (0 : Int32)) ∧ Sta Z Z.heap z10 "SIOOBE_FORMATTER" "Ljava/util/function/BiFunction;" w1 ∧ w1.isRef = true
theorem d1_0 : decode method_3_code 0 = .ok (.iload_n 0, 1) := by decide +kernel
theorem d1_1 : decode method_3_code 1 = .ok (.sipush 256, 3) := by decide +kernel
theorem d1_4 : decode method_3_code 4 = .ok (.iand, 1) := by decide +kernel
theorem d1_5 : decode method_3_code 5 = .ok (.ifCond .eq 6, 3) := by decide +kernel
theorem d1_11 : decode method_3_code 11 = .ok (.iload_n 0, 1) := by decide +kernel
theorem d1_12 : decode method_3_code 12 = .ok (.sipush 255, 3) := by decide +kernel
theorem d1_15 : decode method_3_code 15 = .ok (.iand, 1) := by decide +kernel
theorem d1_16 : decode method_3_code 16 = .ok (.i2c, 1) := by decide +kernel
theorem d1_17 : decode method_3_code 17 = .ok (.ireturn, 1) := by decide +kernel
theorem d1_8 : decode method_3_code 8 = .ok (.bipush 58, 2) := by decide +kernel
theorem d1_10 : decode method_3_code 10 = .ok (.ireturn, 1) := by decide +kernel
theorem pn11 : plainName z1 = true := by first | (simp [plainName, overriddenIn]; done) | decide +kernel
theorem ef12 (m : MethodId) (x0 : Int32) : entryFrame m #[(.int x0)] 1 = mkF m 0 #[.val (.int x0)] [] := by first | (simp [entryFrame, mkF, argsToLocals, Value.category]; done) | rfl
theorem m0 : (Jvm.Cond.constant z1 (7 : Nat) (2147483647 : Int32)) ∈ tables_1 := List.mem_of_getElem? (i := 0) rfl
theorem m1 : (Jvm.Cond.arrayClass FieldType.char) ∈ tables_1 := List.mem_of_getElem? (i := 1) rfl
theorem m2 : (Jvm.Cond.methodLink z1 (8 : Nat) (⟨z1, "ch", "(I)C"⟩ : MethodName)) ∈ tables_1 := List.mem_of_getElem? (i := 2) rfl
theorem m5 : (Jvm.Cond.code (⟨z1, "ch", "(I)C"⟩ : MethodName) method_3_code (1 : Nat) (Option.some FieldType.char)) ∈ tables_1 := List.mem_of_getElem? (i := 5) rfl
theorem m3 : (Jvm.Cond.static (⟨z1, "ch", "(I)C"⟩ : MethodName)) ∈ tables_1 := List.mem_of_getElem? (i := 3) rfl
theorem m4 : (Jvm.Cond.initialized z1) ∈ tables_1 := List.mem_of_getElem? (i := 4) rfl
theorem pd19 : parseMethodDescriptor "(I)C" = some ⟨[.int], some .char⟩ := by decide +kernel
theorem m6 : (Jvm.Cond.methodLink z1 (14 : Nat) (⟨z1, "make", z12⟩ : MethodName)) ∈ tables_1 := List.mem_of_getElem? (i := 6) rfl
theorem d2_0 : decode method_4_code 0 = .ok (.iload_n 0, 1) := by decide +kernel
theorem d2_1 : decode method_4_code 1 = .ok (.ifCond .ne 14, 3) := by decide +kernel
theorem en_23 (t : Int32) (q : (0 ≤ t.toInt ∧ t.toInt ≤ 4)) : t = (0 : Int32) ∨ t = (1 : Int32) ∨ t = (2 : Int32) ∨ t = (3 : Int32) ∨ t = (4 : Int32) := by
  have q' : t.toInt = 0 ∨ t.toInt = 1 ∨ t.toInt = 2 ∨ t.toInt = 3 ∨ t.toInt = 4 := by omega
  rcases q' with r | r | r | r | r
  · exact Or.inl (Int32.toInt_inj.mp (r.trans (by decide)))
  · exact Or.inr (Or.inl (Int32.toInt_inj.mp (r.trans (by decide))))
  · exact Or.inr (Or.inr (Or.inl (Int32.toInt_inj.mp (r.trans (by decide)))))
  · exact Or.inr (Or.inr (Or.inr (Or.inl (Int32.toInt_inj.mp (r.trans (by decide))))))
  · exact Or.inr (Or.inr (Or.inr (Or.inr ((Int32.toInt_inj.mp (r.trans (by decide)))))))
theorem d2_4 : decode method_4_code 4 = .ok (.new 25, 3) := by decide +kernel
theorem m9 : (Jvm.Cond.classLink z1 (25 : Nat) z0) ∈ tables_1 := List.mem_of_getElem? (i := 9) rfl
theorem m10 : (Jvm.Cond.instantiable z0 (4 : Nat)) ∈ tables_1 := List.mem_of_getElem? (i := 10) rfl
theorem m11 : (Jvm.Cond.initialized z0) ∈ tables_1 := List.mem_of_getElem? (i := 11) rfl
theorem m24 : (Jvm.Cond.laysFinal z0 z0 "value" "[B") ∈ tables_1 := List.mem_of_getElem? (i := 24) rfl
theorem m25 : (Jvm.Cond.laysFinal z0 z0 "coder" "B") ∈ tables_1 := List.mem_of_getElem? (i := 25) rfl
theorem d2_7 : decode method_4_code 7 = .ok (.dup, 1) := by decide +kernel
theorem d2_8 : decode method_4_code 8 = .ok (.iconst 0, 1) := by decide +kernel
theorem d2_9 : decode method_4_code 9 = .ok (.newarray .char, 2) := by decide +kernel
theorem d2_11 : decode method_4_code 11 = .ok (.invokespecial 33, 3) := by decide +kernel
theorem m12 : (Jvm.Cond.methodLink z1 (33 : Nat) (⟨z0, "<init>", "([C)V"⟩ : MethodName)) ∈ tables_1 := List.mem_of_getElem? (i := 12) rfl
theorem d3_0 : decode jdk_42_method_3_code 0 = .ok (.aload_n 0, 1) := by decide +kernel
theorem d3_1 : decode jdk_42_method_3_code 1 = .ok (.aload_n 1, 1) := by decide +kernel
theorem d3_2 : decode jdk_42_method_3_code 2 = .ok (.iconst 0, 1) := by decide +kernel
theorem d3_3 : decode jdk_42_method_3_code 3 = .ok (.aload_n 1, 1) := by decide +kernel
theorem d3_4 : decode jdk_42_method_3_code 4 = .ok (.arraylength, 1) := by decide +kernel
theorem d3_5 : decode jdk_42_method_3_code 5 = .ok (.aconst_null, 1) := by decide +kernel
theorem d3_6 : decode jdk_42_method_3_code 6 = .ok (.invokespecial 27, 3) := by decide +kernel
theorem m15 : (Jvm.Cond.methodLink z0 (27 : Nat) (⟨z0, "<init>", z13⟩ : MethodName)) ∈ tables_1 := List.mem_of_getElem? (i := 15) rfl
theorem d4_0 : decode jdk_42_method_149_code 0 = .ok (.aload_n 0, 1) := by decide +kernel
theorem d4_1 : decode jdk_42_method_149_code 1 = .ok (.invokespecial 1, 3) := by decide +kernel
theorem m19 : (Jvm.Cond.methodLink z0 (1 : Nat) (⟨"java/lang/Object", "<init>", "()V"⟩ : MethodName)) ∈ tables_1 := List.mem_of_getElem? (i := 19) rfl
theorem m21 : (Jvm.Cond.code (⟨"java/lang/Object", "<init>", "()V"⟩ : MethodName) object_method_1_code (1 : Nat) (Option.none : Option Jvm.ClassFile.FieldType)) ∈ tables_1 := List.mem_of_getElem? (i := 21) rfl
theorem m20 : (Jvm.Cond.instanceMethod (⟨"java/lang/Object", "<init>", "()V"⟩ : MethodName)) ∈ tables_1 := List.mem_of_getElem? (i := 20) rfl
theorem d4_4 : decode jdk_42_method_149_code 4 = .ok (.iload_n 3, 1) := by decide +kernel
theorem d4_5 : decode jdk_42_method_149_code 5 = .ok (.ifCond .ne 22, 3) := by decide +kernel
theorem d4_8 : decode jdk_42_method_149_code 8 = .ok (.aload_n 0, 1) := by decide +kernel
theorem d4_9 : decode jdk_42_method_149_code 9 = .ok (.ldc 7, 2) := by decide +kernel
theorem m22 : (Jvm.Cond.stringLink z0 (7 : Nat) "") ∈ tables_1 := List.mem_of_getElem? (i := 22) rfl
theorem d4_11 : decode jdk_42_method_149_code 11 = .ok (.getfield 9, 3) := by decide +kernel
theorem m28 : (Jvm.Cond.fieldLink z0 (9 : Nat) z0 "value" "[B") ∈ tables_1 := List.mem_of_getElem? (i := 28) rfl
theorem d4_14 : decode jdk_42_method_149_code 14 = .ok (.putfield 9, 3) := by decide +kernel
theorem d4_17 : decode jdk_42_method_149_code 17 = .ok (.aload_n 0, 1) := by decide +kernel
theorem d4_18 : decode jdk_42_method_149_code 18 = .ok (.ldc 7, 2) := by decide +kernel
theorem d4_20 : decode jdk_42_method_149_code 20 = .ok (.getfield 15, 3) := by decide +kernel
theorem m29 : (Jvm.Cond.fieldLink z0 (15 : Nat) z0 "coder" "B") ∈ tables_1 := List.mem_of_getElem? (i := 29) rfl
theorem d4_23 : decode jdk_42_method_149_code 23 = .ok (.putfield 15, 3) := by decide +kernel
theorem d4_26 : decode jdk_42_method_149_code 26 = .ok (.return_, 1) := by decide +kernel
theorem ef62 (m : MethodId) (x0 : Addr) (x1 : Addr) (x2 : Int32) (x3 : Int32) : entryFrame m #[(.ref x0), (.ref x1), (.int x2), (.int x3), .null] 6 = mkF m 0 #[.val (.ref x0), .val (.ref x1), .val (.int x2), .val (.int x3), sN, .unset] [] := by first | (simp [entryFrame, mkF, argsToLocals, Value.category]; done) | rfl
theorem pn63 : plainName z0 = true := by first | (simp [plainName, overriddenIn]; done) | decide +kernel
theorem m18 : (Jvm.Cond.code (⟨z0, "<init>", z13⟩ : MethodName) jdk_42_method_149_code (6 : Nat) (Option.none : Option Jvm.ClassFile.FieldType)) ∈ tables_1 := List.mem_of_getElem? (i := 18) rfl
theorem pd65 : parseMethodDescriptor z13 = some ⟨[(.array .char), .int, .int, (.object "java/lang/Void")], none⟩ := by decide +kernel
theorem m16 : (Jvm.Cond.instanceMethod (⟨z0, "<init>", z13⟩ : MethodName)) ∈ tables_1 := List.mem_of_getElem? (i := 16) rfl
theorem d3_9 : decode jdk_42_method_3_code 9 = .ok (.return_, 1) := by decide +kernel
theorem ef68 (m : MethodId) (x0 : Addr) (x1 : Addr) : entryFrame m #[(.ref x0), (.ref x1)] 2 = mkF m 0 #[.val (.ref x0), .val (.ref x1)] [] := by first | (simp [entryFrame, mkF, argsToLocals, Value.category]; done) | rfl
theorem m14 : (Jvm.Cond.code (⟨z0, "<init>", "([C)V"⟩ : MethodName) jdk_42_method_3_code (2 : Nat) (Option.none : Option Jvm.ClassFile.FieldType)) ∈ tables_1 := List.mem_of_getElem? (i := 14) rfl
theorem pd70 : parseMethodDescriptor "([C)V" = some ⟨[(.array .char)], none⟩ := by decide +kernel
theorem m13 : (Jvm.Cond.instanceMethod (⟨z0, "<init>", "([C)V"⟩ : MethodName)) ∈ tables_1 := List.mem_of_getElem? (i := 13) rfl
theorem d2_14 : decode method_4_code 14 = .ok (.areturn, 1) := by decide +kernel
theorem ef73 (m : MethodId) (x0 : Int32) (x1 : Addr) : entryFrame m #[(.int x0), (.ref x1)] 2 = mkF m 0 #[.val (.int x0), .val (.ref x1)] [] := by first | (simp [entryFrame, mkF, argsToLocals, Value.category]; done) | rfl
theorem m8 : (Jvm.Cond.code (⟨z1, "make", z12⟩ : MethodName) method_4_code (2 : Nat) (Option.some (FieldType.object z0))) ∈ tables_1 := List.mem_of_getElem? (i := 8) rfl
theorem pd75 : parseMethodDescriptor z12 = some ⟨[.int, (.array .char)], some (.object z0)⟩ := by decide +kernel
theorem m7 : (Jvm.Cond.static (⟨z1, "make", z12⟩ : MethodName)) ∈ tables_1 := List.mem_of_getElem? (i := 7) rfl
theorem m30 : (Jvm.Cond.methodLink z1 (18 : Nat) (⟨z3, "localPart", z5⟩ : MethodName)) ∈ tables_1 := List.mem_of_getElem? (i := 30) rfl
theorem d6_0 : decode prog_13_method_17_code 0 = .ok (.aload_n 0, 1) := by decide +kernel
theorem d6_1 : decode prog_13_method_17_code 1 = .ok (.aload_n 0, 1) := by decide +kernel
theorem d6_2 : decode prog_13_method_17_code 2 = .ok (.bipush 58, 2) := by decide +kernel
theorem d6_4 : decode prog_13_method_17_code 4 = .ok (.invokevirtual 381, 3) := by decide +kernel
theorem m34 : (Jvm.Cond.methodLink z3 (381 : Nat) (⟨z0, z4, "(I)I"⟩ : MethodName)) ∈ tables_1 := List.mem_of_getElem? (i := 34) rfl
theorem m37 : (Jvm.Cond.selects z0 (⟨z0, z4, "(I)I"⟩ : MethodName) (⟨z0, z4, "(I)I"⟩ : MethodName)) ∈ tables_1 := List.mem_of_getElem? (i := 37) rfl
theorem d7_0 : decode jdk_42_method_82_code 0 = .ok (.aload_n 0, 1) := by decide +kernel
theorem d7_1 : decode jdk_42_method_82_code 1 = .ok (.iload_n 1, 1) := by decide +kernel
theorem d7_2 : decode jdk_42_method_82_code 2 = .ok (.aload_n 0, 1) := by decide +kernel
theorem d7_3 : decode jdk_42_method_82_code 3 = .ok (.invokevirtual 505, 3) := by decide +kernel
theorem m39 : (Jvm.Cond.methodLink z0 (505 : Nat) (⟨z0, "length", "()I"⟩ : MethodName)) ∈ tables_1 := List.mem_of_getElem? (i := 39) rfl
theorem m42 : (Jvm.Cond.selects z0 (⟨z0, "length", "()I"⟩ : MethodName) (⟨z0, "length", "()I"⟩ : MethodName)) ∈ tables_1 := List.mem_of_getElem? (i := 42) rfl
theorem d8_0 : decode jdk_42_method_54_code 0 = .ok (.aload_n 0, 1) := by decide +kernel
theorem d8_1 : decode jdk_42_method_54_code 1 = .ok (.getfield 9, 3) := by decide +kernel
theorem d8_4 : decode jdk_42_method_54_code 4 = .ok (.arraylength, 1) := by decide +kernel
theorem d8_5 : decode jdk_42_method_54_code 5 = .ok (.aload_n 0, 1) := by decide +kernel
theorem d8_6 : decode jdk_42_method_54_code 6 = .ok (.invokevirtual 335, 3) := by decide +kernel
theorem m44 : (Jvm.Cond.methodLink z0 (335 : Nat) (⟨z0, "coder", "()B"⟩ : MethodName)) ∈ tables_1 := List.mem_of_getElem? (i := 44) rfl
theorem m47 : (Jvm.Cond.selects z0 (⟨z0, "coder", "()B"⟩ : MethodName) (⟨z0, "coder", "()B"⟩ : MethodName)) ∈ tables_1 := List.mem_of_getElem? (i := 47) rfl
theorem d9_0 : decode jdk_42_method_152_code 0 = .ok (.getstatic 38, 3) := by decide +kernel
theorem m49 : (Jvm.Cond.fieldLink z0 (38 : Nat) z0 "COMPACT_STRINGS" "Z") ∈ tables_1 := List.mem_of_getElem? (i := 49) rfl
theorem d9_3 : decode jdk_42_method_152_code 3 = .ok (.ifCond .eq 10, 3) := by decide +kernel
theorem d9_6 : decode jdk_42_method_152_code 6 = .ok (.aload_n 0, 1) := by decide +kernel
theorem d9_7 : decode jdk_42_method_152_code 7 = .ok (.getfield 15, 3) := by decide +kernel
theorem d9_10 : decode jdk_42_method_152_code 10 = .ok (.goto 4, 3) := by decide +kernel
theorem d9_14 : decode jdk_42_method_152_code 14 = .ok (.ireturn, 1) := by decide +kernel
theorem ef104 (m : MethodId) (x0 : Addr) : entryFrame m #[(.ref x0)] 1 = mkF m 0 #[.val (.ref x0)] [] := by first | (simp [entryFrame, mkF, argsToLocals, Value.category]; done) | rfl
theorem m48 : (Jvm.Cond.code (⟨z0, "coder", "()B"⟩ : MethodName) jdk_42_method_152_code (1 : Nat) (Option.some FieldType.byte)) ∈ tables_1 := List.mem_of_getElem? (i := 48) rfl
theorem pd106 : parseMethodDescriptor "()B" = some ⟨[], some .byte⟩ := by decide +kernel
theorem m45 : (Jvm.Cond.declares (⟨z0, "coder", "()B"⟩ : MethodName)) ∈ tables_1 := List.mem_of_getElem? (i := 45) rfl
theorem m46 : (Jvm.Cond.instanceMethod (⟨z0, "coder", "()B"⟩ : MethodName)) ∈ tables_1 := List.mem_of_getElem? (i := 46) rfl
theorem d8_9 : decode jdk_42_method_54_code 9 = .ok (.ishr, 1) := by decide +kernel
theorem d8_10 : decode jdk_42_method_54_code 10 = .ok (.ireturn, 1) := by decide +kernel
theorem m43 : (Jvm.Cond.code (⟨z0, "length", "()I"⟩ : MethodName) jdk_42_method_54_code (1 : Nat) (Option.some FieldType.int)) ∈ tables_1 := List.mem_of_getElem? (i := 43) rfl
theorem pd112 : parseMethodDescriptor "()I" = some ⟨[], some .int⟩ := by decide +kernel
theorem m40 : (Jvm.Cond.declares (⟨z0, "length", "()I"⟩ : MethodName)) ∈ tables_1 := List.mem_of_getElem? (i := 40) rfl
theorem m41 : (Jvm.Cond.instanceMethod (⟨z0, "length", "()I"⟩ : MethodName)) ∈ tables_1 := List.mem_of_getElem? (i := 41) rfl
theorem d7_6 : decode jdk_42_method_82_code 6 = .ok (.iconst 1, 1) := by decide +kernel
theorem d7_7 : decode jdk_42_method_82_code 7 = .ok (.isub, 1) := by decide +kernel
theorem d7_8 : decode jdk_42_method_82_code 8 = .ok (.invokevirtual 641, 3) := by decide +kernel
theorem m50 : (Jvm.Cond.methodLink z0 (641 : Nat) (⟨z0, z4, "(II)I"⟩ : MethodName)) ∈ tables_1 := List.mem_of_getElem? (i := 50) rfl
theorem m53 : (Jvm.Cond.selects z0 (⟨z0, z4, "(II)I"⟩ : MethodName) (⟨z0, z4, "(II)I"⟩ : MethodName)) ∈ tables_1 := List.mem_of_getElem? (i := 53) rfl
theorem d10_0 : decode jdk_42_method_83_code 0 = .ok (.aload_n 0, 1) := by decide +kernel
theorem d10_1 : decode jdk_42_method_83_code 1 = .ok (.invokevirtual 492, 3) := by decide +kernel
theorem m55 : (Jvm.Cond.methodLink z0 (492 : Nat) (⟨z0, "isLatin1", "()Z"⟩ : MethodName)) ∈ tables_1 := List.mem_of_getElem? (i := 55) rfl
theorem m58 : (Jvm.Cond.selects z0 (⟨z0, "isLatin1", "()Z"⟩ : MethodName) (⟨z0, "isLatin1", "()Z"⟩ : MethodName)) ∈ tables_1 := List.mem_of_getElem? (i := 58) rfl
theorem d11_0 : decode jdk_42_method_154_code 0 = .ok (.getstatic 38, 3) := by decide +kernel
theorem d11_3 : decode jdk_42_method_154_code 3 = .ok (.ifCond .eq 14, 3) := by decide +kernel
theorem d11_6 : decode jdk_42_method_154_code 6 = .ok (.aload_n 0, 1) := by decide +kernel
theorem d11_7 : decode jdk_42_method_154_code 7 = .ok (.getfield 15, 3) := by decide +kernel
theorem d11_10 : decode jdk_42_method_154_code 10 = .ok (.ifCond .ne 7, 3) := by decide +kernel
theorem d11_13 : decode jdk_42_method_154_code 13 = .ok (.iconst 1, 1) := by decide +kernel
theorem d11_14 : decode jdk_42_method_154_code 14 = .ok (.goto 4, 3) := by decide +kernel
theorem d11_18 : decode jdk_42_method_154_code 18 = .ok (.ireturn, 1) := by decide +kernel
theorem m59 : (Jvm.Cond.code (⟨z0, "isLatin1", "()Z"⟩ : MethodName) jdk_42_method_154_code (1 : Nat) (Option.some FieldType.boolean)) ∈ tables_1 := List.mem_of_getElem? (i := 59) rfl
theorem pd133 : parseMethodDescriptor "()Z" = some ⟨[], some .boolean⟩ := by decide +kernel
theorem m56 : (Jvm.Cond.declares (⟨z0, "isLatin1", "()Z"⟩ : MethodName)) ∈ tables_1 := List.mem_of_getElem? (i := 56) rfl
theorem m57 : (Jvm.Cond.instanceMethod (⟨z0, "isLatin1", "()Z"⟩ : MethodName)) ∈ tables_1 := List.mem_of_getElem? (i := 57) rfl
theorem d10_4 : decode jdk_42_method_83_code 4 = .ok (.ifCond .eq 15, 3) := by decide +kernel
theorem d10_7 : decode jdk_42_method_83_code 7 = .ok (.aload_n 0, 1) := by decide +kernel
theorem d10_8 : decode jdk_42_method_83_code 8 = .ok (.getfield 9, 3) := by decide +kernel
theorem d10_11 : decode jdk_42_method_83_code 11 = .ok (.iload_n 1, 1) := by decide +kernel
theorem d10_12 : decode jdk_42_method_83_code 12 = .ok (.iload_n 2, 1) := by decide +kernel
theorem d10_13 : decode jdk_42_method_83_code 13 = .ok (.invokestatic 644, 3) := by decide +kernel
theorem m60 : (Jvm.Cond.methodLink z0 (644 : Nat) (⟨z2, z4, "([BII)I"⟩ : MethodName)) ∈ tables_1 := List.mem_of_getElem? (i := 60) rfl
theorem d12_0 : decode jdk_43_method_27_code 0 = .ok (.iload_n 1, 1) := by decide +kernel
theorem d12_1 : decode jdk_43_method_27_code 1 = .ok (.invokestatic 88, 3) := by decide +kernel
theorem m64 : (Jvm.Cond.methodLink z2 (88 : Nat) (⟨z2, "canEncode", "(I)Z"⟩ : MethodName)) ∈ tables_1 := List.mem_of_getElem? (i := 64) rfl
theorem d13_0 : decode jdk_43_method_4_code 0 = .ok (.iload_n 0, 1) := by decide +kernel
theorem d13_1 : decode jdk_43_method_4_code 1 = .ok (.ifCond .lt 14, 3) := by decide +kernel
theorem d13_4 : decode jdk_43_method_4_code 4 = .ok (.iload_n 0, 1) := by decide +kernel
theorem d13_5 : decode jdk_43_method_4_code 5 = .ok (.sipush 255, 3) := by decide +kernel
theorem d13_8 : decode jdk_43_method_4_code 8 = .ok (.if_icmp .gt 7, 3) := by decide +kernel
theorem d13_11 : decode jdk_43_method_4_code 11 = .ok (.iconst 1, 1) := by decide +kernel
theorem d13_12 : decode jdk_43_method_4_code 12 = .ok (.goto 4, 3) := by decide +kernel
theorem d13_16 : decode jdk_43_method_4_code 16 = .ok (.ireturn, 1) := by decide +kernel
theorem pn154 : plainName z2 = true := by first | (simp [plainName, overriddenIn]; done) | decide +kernel
theorem m66 : (Jvm.Cond.code (⟨z2, "canEncode", "(I)Z"⟩ : MethodName) jdk_43_method_4_code (1 : Nat) (Option.some FieldType.boolean)) ∈ tables_1 := List.mem_of_getElem? (i := 66) rfl
theorem m62 : (Jvm.Cond.initialized z2) ∈ tables_1 := List.mem_of_getElem? (i := 62) rfl
theorem pd157 : parseMethodDescriptor "(I)Z" = some ⟨[.int], some .boolean⟩ := by decide +kernel
theorem m65 : (Jvm.Cond.static (⟨z2, "canEncode", "(I)Z"⟩ : MethodName)) ∈ tables_1 := List.mem_of_getElem? (i := 65) rfl
theorem d12_4 : decode jdk_43_method_27_code 4 = .ok (.ifCond .ne 5, 3) := by decide +kernel
theorem d12_9 : decode jdk_43_method_27_code 9 = .ok (.iload_n 2, 1) := by decide +kernel
theorem d12_10 : decode jdk_43_method_27_code 10 = .ok (.aload_n 0, 1) := by decide +kernel
theorem d12_11 : decode jdk_43_method_27_code 11 = .ok (.arraylength, 1) := by decide +kernel
theorem d12_12 : decode jdk_43_method_27_code 12 = .ok (.iconst 1, 1) := by decide +kernel
theorem d12_13 : decode jdk_43_method_27_code 13 = .ok (.isub, 1) := by decide +kernel
theorem d12_14 : decode jdk_43_method_27_code 14 = .ok (.invokestatic 38, 3) := by decide +kernel
theorem m67 : (Jvm.Cond.methodLink z2 (38 : Nat) (⟨"java/lang/Math", "min", "(II)I"⟩ : MethodName)) ∈ tables_1 := List.mem_of_getElem? (i := 67) rfl
theorem d14_0 : decode jdk_29_method_69_code 0 = .ok (.iload_n 0, 1) := by decide +kernel
theorem d14_1 : decode jdk_29_method_69_code 1 = .ok (.iload_n 1, 1) := by decide +kernel
theorem d14_2 : decode jdk_29_method_69_code 2 = .ok (.if_icmp .gt 7, 3) := by decide +kernel
theorem d14_5 : decode jdk_29_method_69_code 5 = .ok (.iload_n 0, 1) := by decide +kernel
theorem d14_6 : decode jdk_29_method_69_code 6 = .ok (.goto 4, 3) := by decide +kernel
theorem d14_10 : decode jdk_29_method_69_code 10 = .ok (.ireturn, 1) := by decide +kernel
theorem ef173 (m : MethodId) (x0 : Int32) (x1 : Int32) : entryFrame m #[(.int x0), (.int x1)] 2 = mkF m 0 #[.val (.int x0), .val (.int x1)] [] := by first | (simp [entryFrame, mkF, argsToLocals, Value.category]; done) | rfl
theorem m70 : (Jvm.Cond.code (⟨"java/lang/Math", "min", "(II)I"⟩ : MethodName) jdk_29_method_69_code (2 : Nat) (Option.some FieldType.int)) ∈ tables_1 := List.mem_of_getElem? (i := 70) rfl
theorem m69 : (Jvm.Cond.initialized "java/lang/Math") ∈ tables_1 := List.mem_of_getElem? (i := 69) rfl
theorem pd176 : parseMethodDescriptor "(II)I" = some ⟨[.int, .int], some .int⟩ := by decide +kernel
theorem m68 : (Jvm.Cond.static (⟨"java/lang/Math", "min", "(II)I"⟩ : MethodName)) ∈ tables_1 := List.mem_of_getElem? (i := 68) rfl
theorem d12_17 : decode jdk_43_method_27_code 17 = .ok (.istore_n 3, 1) := by decide +kernel
theorem d12_18 : decode jdk_43_method_27_code 18 = .ok (.iload_n 3, 1) := by decide +kernel
theorem d12_19 : decode jdk_43_method_27_code 19 = .ok (.ifCond .lt 19, 3) := by decide +kernel
theorem d12_38 : decode jdk_43_method_27_code 38 = .ok (.iconst (-1), 1) := by decide +kernel
theorem d12_39 : decode jdk_43_method_27_code 39 = .ok (.ireturn, 1) := by decide +kernel
theorem ef183 (m : MethodId) (x0 : Addr) (x1 : Int32) (x2 : Int32) : entryFrame m #[(.ref x0), (.int x1), (.int x2)] 4 = mkF m 0 #[.val (.ref x0), .val (.int x1), .val (.int x2), .unset] [] := by first | (simp [entryFrame, mkF, argsToLocals, Value.category]; done) | rfl
theorem m63 : (Jvm.Cond.code (⟨z2, z4, "([BII)I"⟩ : MethodName) jdk_43_method_27_code (4 : Nat) (Option.some FieldType.int)) ∈ tables_1 := List.mem_of_getElem? (i := 63) rfl
theorem pd185 : parseMethodDescriptor "([BII)I" = some ⟨[(.array .byte), .int, .int], some .int⟩ := by decide +kernel
theorem m61 : (Jvm.Cond.static (⟨z2, z4, "([BII)I"⟩ : MethodName)) ∈ tables_1 := List.mem_of_getElem? (i := 61) rfl
theorem d10_16 : decode jdk_42_method_83_code 16 = .ok (.goto 12, 3) := by decide +kernel
theorem d10_28 : decode jdk_42_method_83_code 28 = .ok (.ireturn, 1) := by decide +kernel
theorem ef189 (m : MethodId) (x0 : Addr) (x1 : Int32) (x2 : Int32) : entryFrame m #[(.ref x0), (.int x1), (.int x2)] 3 = mkF m 0 #[.val (.ref x0), .val (.int x1), .val (.int x2)] [] := by first | (simp [entryFrame, mkF, argsToLocals, Value.category]; done) | rfl
theorem m54 : (Jvm.Cond.code (⟨z0, z4, "(II)I"⟩ : MethodName) jdk_42_method_83_code (3 : Nat) (Option.some FieldType.int)) ∈ tables_1 := List.mem_of_getElem? (i := 54) rfl
theorem m51 : (Jvm.Cond.declares (⟨z0, z4, "(II)I"⟩ : MethodName)) ∈ tables_1 := List.mem_of_getElem? (i := 51) rfl
theorem m52 : (Jvm.Cond.instanceMethod (⟨z0, z4, "(II)I"⟩ : MethodName)) ∈ tables_1 := List.mem_of_getElem? (i := 52) rfl
theorem d7_11 : decode jdk_42_method_82_code 11 = .ok (.ireturn, 1) := by decide +kernel
theorem ef194 (m : MethodId) (x0 : Addr) (x1 : Int32) : entryFrame m #[(.ref x0), (.int x1)] 2 = mkF m 0 #[.val (.ref x0), .val (.int x1)] [] := by first | (simp [entryFrame, mkF, argsToLocals, Value.category]; done) | rfl
theorem m38 : (Jvm.Cond.code (⟨z0, z4, "(I)I"⟩ : MethodName) jdk_42_method_82_code (2 : Nat) (Option.some FieldType.int)) ∈ tables_1 := List.mem_of_getElem? (i := 38) rfl
theorem pd196 : parseMethodDescriptor "(I)I" = some ⟨[.int], some .int⟩ := by decide +kernel
theorem m35 : (Jvm.Cond.declares (⟨z0, z4, "(I)I"⟩ : MethodName)) ∈ tables_1 := List.mem_of_getElem? (i := 35) rfl
theorem m36 : (Jvm.Cond.instanceMethod (⟨z0, z4, "(I)I"⟩ : MethodName)) ∈ tables_1 := List.mem_of_getElem? (i := 36) rfl
theorem d6_7 : decode prog_13_method_17_code 7 = .ok (.iconst 1, 1) := by decide +kernel
theorem d6_8 : decode prog_13_method_17_code 8 = .ok (.iadd, 1) := by decide +kernel
theorem d6_9 : decode prog_13_method_17_code 9 = .ok (.invokevirtual 385, 3) := by decide +kernel
theorem m71 : (Jvm.Cond.methodLink z3 (385 : Nat) (⟨z0, "substring", z9⟩ : MethodName)) ∈ tables_1 := List.mem_of_getElem? (i := 71) rfl
theorem m74 : (Jvm.Cond.selects z0 (⟨z0, "substring", z9⟩ : MethodName) (⟨z0, "substring", z9⟩ : MethodName)) ∈ tables_1 := List.mem_of_getElem? (i := 74) rfl
theorem d15_0 : decode jdk_42_method_91_code 0 = .ok (.aload_n 0, 1) := by decide +kernel
theorem d15_1 : decode jdk_42_method_91_code 1 = .ok (.iload_n 1, 1) := by decide +kernel
theorem d15_2 : decode jdk_42_method_91_code 2 = .ok (.aload_n 0, 1) := by decide +kernel
theorem d15_3 : decode jdk_42_method_91_code 3 = .ok (.invokevirtual 505, 3) := by decide +kernel
theorem d15_6 : decode jdk_42_method_91_code 6 = .ok (.invokevirtual 681, 3) := by decide +kernel
theorem m76 : (Jvm.Cond.methodLink z0 (681 : Nat) (⟨z0, "substring", z8⟩ : MethodName)) ∈ tables_1 := List.mem_of_getElem? (i := 76) rfl
theorem m79 : (Jvm.Cond.selects z0 (⟨z0, "substring", z8⟩ : MethodName) (⟨z0, "substring", z8⟩ : MethodName)) ∈ tables_1 := List.mem_of_getElem? (i := 79) rfl
theorem d16_0 : decode jdk_42_method_92_code 0 = .ok (.aload_n 0, 1) := by decide +kernel
theorem d16_1 : decode jdk_42_method_92_code 1 = .ok (.invokevirtual 505, 3) := by decide +kernel
theorem d16_4 : decode jdk_42_method_92_code 4 = .ok (.istore_n 3, 1) := by decide +kernel
theorem d16_5 : decode jdk_42_method_92_code 5 = .ok (.iload_n 1, 1) := by decide +kernel
theorem d16_6 : decode jdk_42_method_92_code 6 = .ok (.iload_n 2, 1) := by decide +kernel
theorem d16_7 : decode jdk_42_method_92_code 7 = .ok (.iload_n 3, 1) := by decide +kernel
theorem d16_8 : decode jdk_42_method_92_code 8 = .ok (.invokestatic 521, 3) := by decide +kernel
theorem m81 : (Jvm.Cond.methodLink z0 (521 : Nat) (⟨z0, "checkBoundsBeginEnd", "(III)V"⟩ : MethodName)) ∈ tables_1 := List.mem_of_getElem? (i := 81) rfl
theorem d17_0 : decode jdk_42_method_158_code 0 = .ok (.iload_n 0, 1) := by decide +kernel
theorem d17_1 : decode jdk_42_method_158_code 1 = .ok (.iload_n 1, 1) := by decide +kernel
theorem d17_2 : decode jdk_42_method_158_code 2 = .ok (.iload_n 2, 1) := by decide +kernel
theorem d17_3 : decode jdk_42_method_158_code 3 = .ok (.getstatic 1053, 3) := by decide +kernel
theorem m84 : (Jvm.Cond.fieldLink z0 (1053 : Nat) z10 "SIOOBE_FORMATTER" "Ljava/util/function/BiFunction;") ∈ tables_1 := List.mem_of_getElem? (i := 84) rfl
theorem d17_6 : decode jdk_42_method_158_code 6 = .ok (.invokestatic 1062, 3) := by decide +kernel
theorem m86 : (Jvm.Cond.methodLink z0 (1062 : Nat) (⟨z10, "checkFromToIndex", "(IIILjava/util/function/BiFunction;)I"⟩ : MethodName)) ∈ tables_1 := List.mem_of_getElem? (i := 86) rfl
theorem d18_0 : decode jdk_41_method_12_code 0 = .ok (.iload_n 0, 1) := by decide +kernel
theorem d18_1 : decode jdk_41_method_12_code 1 = .ok (.ifCond .lt 13, 3) := by decide +kernel
theorem d18_4 : decode jdk_41_method_12_code 4 = .ok (.iload_n 0, 1) := by decide +kernel
theorem d18_5 : decode jdk_41_method_12_code 5 = .ok (.iload_n 1, 1) := by decide +kernel
theorem d18_6 : decode jdk_41_method_12_code 6 = .ok (.if_icmp .gt 8, 3) := by decide +kernel
theorem d18_9 : decode jdk_41_method_12_code 9 = .ok (.iload_n 1, 1) := by decide +kernel
theorem d18_10 : decode jdk_41_method_12_code 10 = .ok (.iload_n 2, 1) := by decide +kernel
theorem d18_11 : decode jdk_41_method_12_code 11 = .ok (.if_icmp .le 11, 3) := by decide +kernel
theorem d18_22 : decode jdk_41_method_12_code 22 = .ok (.iload_n 0, 1) := by decide +kernel
theorem d18_23 : decode jdk_41_method_12_code 23 = .ok (.ireturn, 1) := by decide +kernel
theorem ef236 (m : MethodId) (x0 : Int32) (x1 : Int32) (x2 : Int32) (x3 : Value) (hx3 : x3.isRef = true) : entryFrame m #[(.int x0), (.int x1), (.int x2), x3] 4 = mkF m 0 #[.val (.int x0), .val (.int x1), .val (.int x2), .val x3] [] := by rcases ref_cases hx3 with rfl | ⟨q3, rfl⟩ <;> rfl
theorem pn237 : plainName z10 = true := by first | (simp [plainName, overriddenIn]; done) | decide +kernel
theorem m88 : (Jvm.Cond.code (⟨z10, "checkFromToIndex", "(IIILjava/util/function/BiFunction;)I"⟩ : MethodName) jdk_41_method_12_code (4 : Nat) (Option.some FieldType.int)) ∈ tables_1 := List.mem_of_getElem? (i := 88) rfl
theorem m85 : (Jvm.Cond.initialized z10) ∈ tables_1 := List.mem_of_getElem? (i := 85) rfl
theorem pd240 : parseMethodDescriptor "(IIILjava/util/function/BiFunction;)I" = some ⟨[.int, .int, .int, (.object "java/util/function/BiFunction")], some .int⟩ := by decide +kernel
theorem m87 : (Jvm.Cond.static (⟨z10, "checkFromToIndex", "(IIILjava/util/function/BiFunction;)I"⟩ : MethodName)) ∈ tables_1 := List.mem_of_getElem? (i := 87) rfl
theorem d17_9 : decode jdk_42_method_158_code 9 = .ok (.pop, 1) := by decide +kernel
theorem d17_10 : decode jdk_42_method_158_code 10 = .ok (.return_, 1) := by decide +kernel
theorem ef244 (m : MethodId) (x0 : Int32) (x1 : Int32) (x2 : Int32) : entryFrame m #[(.int x0), (.int x1), (.int x2)] 3 = mkF m 0 #[.val (.int x0), .val (.int x1), .val (.int x2)] [] := by first | (simp [entryFrame, mkF, argsToLocals, Value.category]; done) | rfl
theorem m83 : (Jvm.Cond.code (⟨z0, "checkBoundsBeginEnd", "(III)V"⟩ : MethodName) jdk_42_method_158_code (3 : Nat) (Option.none : Option Jvm.ClassFile.FieldType)) ∈ tables_1 := List.mem_of_getElem? (i := 83) rfl
theorem pd246 : parseMethodDescriptor "(III)V" = some ⟨[.int, .int, .int], none⟩ := by decide +kernel
theorem m82 : (Jvm.Cond.static (⟨z0, "checkBoundsBeginEnd", "(III)V"⟩ : MethodName)) ∈ tables_1 := List.mem_of_getElem? (i := 82) rfl
theorem d16_11 : decode jdk_42_method_92_code 11 = .ok (.iload_n 1, 1) := by decide +kernel
theorem d16_12 : decode jdk_42_method_92_code 12 = .ok (.ifCond .ne 10, 3) := by decide +kernel
theorem d16_15 : decode jdk_42_method_92_code 15 = .ok (.iload_n 2, 1) := by decide +kernel
theorem d16_16 : decode jdk_42_method_92_code 16 = .ok (.iload_n 3, 1) := by decide +kernel
theorem d16_17 : decode jdk_42_method_92_code 17 = .ok (.if_icmp .ne 5, 3) := by decide +kernel
theorem d16_20 : decode jdk_42_method_92_code 20 = .ok (.aload_n 0, 1) := by decide +kernel
theorem d16_21 : decode jdk_42_method_92_code 21 = .ok (.areturn, 1) := by decide +kernel
theorem ef255 (m : MethodId) (x0 : Addr) (x1 : Int32) (x2 : Int32) : entryFrame m #[(.ref x0), (.int x1), (.int x2)] 5 = mkF m 0 #[.val (.ref x0), .val (.int x1), .val (.int x2), .unset, .unset] [] := by first | (simp [entryFrame, mkF, argsToLocals, Value.category]; done) | rfl
theorem m80 : (Jvm.Cond.code (⟨z0, "substring", z8⟩ : MethodName) jdk_42_method_92_code (5 : Nat) (Option.some (FieldType.object z0))) ∈ tables_1 := List.mem_of_getElem? (i := 80) rfl
theorem pd257 : parseMethodDescriptor z8 = some ⟨[.int, .int], some (.object z0)⟩ := by decide +kernel
theorem m77 : (Jvm.Cond.declares (⟨z0, "substring", z8⟩ : MethodName)) ∈ tables_1 := List.mem_of_getElem? (i := 77) rfl
theorem m78 : (Jvm.Cond.instanceMethod (⟨z0, "substring", z8⟩ : MethodName)) ∈ tables_1 := List.mem_of_getElem? (i := 78) rfl
theorem d15_9 : decode jdk_42_method_91_code 9 = .ok (.areturn, 1) := by decide +kernel
theorem m75 : (Jvm.Cond.code (⟨z0, "substring", z9⟩ : MethodName) jdk_42_method_91_code (2 : Nat) (Option.some (FieldType.object z0))) ∈ tables_1 := List.mem_of_getElem? (i := 75) rfl
theorem pd262 : parseMethodDescriptor z9 = some ⟨[.int], some (.object z0)⟩ := by decide +kernel
theorem m72 : (Jvm.Cond.declares (⟨z0, "substring", z9⟩ : MethodName)) ∈ tables_1 := List.mem_of_getElem? (i := 72) rfl
theorem m73 : (Jvm.Cond.instanceMethod (⟨z0, "substring", z9⟩ : MethodName)) ∈ tables_1 := List.mem_of_getElem? (i := 73) rfl
theorem d6_12 : decode prog_13_method_17_code 12 = .ok (.areturn, 1) := by decide +kernel
theorem pn266 : plainName z3 = true := by first | (simp [plainName, overriddenIn]; done) | decide +kernel
theorem m33 : (Jvm.Cond.code (⟨z3, "localPart", z5⟩ : MethodName) prog_13_method_17_code (1 : Nat) (Option.some (FieldType.object z0))) ∈ tables_1 := List.mem_of_getElem? (i := 33) rfl
theorem m32 : (Jvm.Cond.initialized z3) ∈ tables_1 := List.mem_of_getElem? (i := 32) rfl
theorem pd269 : parseMethodDescriptor z5 = some ⟨[(.object z0)], some (.object z0)⟩ := by decide +kernel
theorem m31 : (Jvm.Cond.static (⟨z3, "localPart", z5⟩ : MethodName)) ∈ tables_1 := List.mem_of_getElem? (i := 31) rfl
theorem m89 : (Jvm.Cond.methodLink z1 (24 : Nat) (⟨z0, "length", "()I"⟩ : MethodName)) ∈ tables_1 := List.mem_of_getElem? (i := 89) rfl
theorem d2_15 : decode method_4_code 15 = .ok (.iload_n 0, 1) := by decide +kernel
theorem d2_16 : decode method_4_code 16 = .ok (.iconst 1, 1) := by decide +kernel
theorem d2_17 : decode method_4_code 17 = .ok (.if_icmp .ne 20, 3) := by decide +kernel
theorem d2_20 : decode method_4_code 20 = .ok (.new 25, 3) := by decide +kernel
theorem d2_23 : decode method_4_code 23 = .ok (.dup, 1) := by decide +kernel
theorem d2_24 : decode method_4_code 24 = .ok (.iconst 1, 1) := by decide +kernel
theorem d2_25 : decode method_4_code 25 = .ok (.newarray .char, 2) := by decide +kernel
theorem d2_27 : decode method_4_code 27 = .ok (.dup, 1) := by decide +kernel
theorem d2_28 : decode method_4_code 28 = .ok (.iconst 0, 1) := by decide +kernel
theorem d2_29 : decode method_4_code 29 = .ok (.aload_n 1, 1) := by decide +kernel
theorem d2_30 : decode method_4_code 30 = .ok (.iconst 0, 1) := by decide +kernel
theorem d2_31 : decode method_4_code 31 = .ok (.caload, 1) := by decide +kernel
theorem d2_32 : decode method_4_code 32 = .ok (.castore, 1) := by decide +kernel
theorem d2_33 : decode method_4_code 33 = .ok (.invokespecial 33, 3) := by decide +kernel
theorem d4_27 : decode jdk_42_method_149_code 27 = .ok (.getstatic 38, 3) := by decide +kernel
theorem d4_30 : decode jdk_42_method_149_code 30 = .ok (.ifCond .eq 28, 3) := by decide +kernel
theorem d4_33 : decode jdk_42_method_149_code 33 = .ok (.aload_n 1, 1) := by decide +kernel
theorem d4_34 : decode jdk_42_method_149_code 34 = .ok (.iload_n 2, 1) := by decide +kernel
theorem d4_35 : decode jdk_42_method_149_code 35 = .ok (.iload_n 3, 1) := by decide +kernel
theorem d4_36 : decode jdk_42_method_149_code 36 = .ok (.invokestatic 177, 3) := by decide +kernel
theorem m90 : (Jvm.Cond.methodLink z0 (177 : Nat) (⟨z6, "compress", "([CII)[B"⟩ : MethodName)) ∈ tables_1 := List.mem_of_getElem? (i := 90) rfl
theorem d19_0 : decode jdk_52_method_16_code 0 = .ok (.iload_n 2, 1) := by decide +kernel
theorem d19_1 : decode jdk_52_method_16_code 1 = .ok (.newarray .byte, 2) := by decide +kernel
theorem m23 : (Jvm.Cond.arrayClass FieldType.byte) ∈ tables_1 := List.mem_of_getElem? (i := 23) rfl
theorem d19_3 : decode jdk_52_method_16_code 3 = .ok (.astore_n 3, 1) := by decide +kernel
theorem d19_4 : decode jdk_52_method_16_code 4 = .ok (.aload_n 0, 1) := by decide +kernel
theorem d19_5 : decode jdk_52_method_16_code 5 = .ok (.iload_n 1, 1) := by decide +kernel
theorem d19_6 : decode jdk_52_method_16_code 6 = .ok (.aload_n 3, 1) := by decide +kernel
theorem d19_7 : decode jdk_52_method_16_code 7 = .ok (.iconst 0, 1) := by decide +kernel
theorem d19_8 : decode jdk_52_method_16_code 8 = .ok (.iload_n 2, 1) := by decide +kernel
theorem d19_9 : decode jdk_52_method_16_code 9 = .ok (.invokestatic 115, 3) := by decide +kernel
theorem m94 : (Jvm.Cond.methodLink z6 (115 : Nat) (⟨z6, "compress", "([CI[BII)I"⟩ : MethodName)) ∈ tables_1 := List.mem_of_getElem? (i := 94) rfl
theorem d20_0 : decode jdk_52_method_21_code 0 = .ok (.iconst 0, 1) := by decide +kernel
theorem d20_1 : decode jdk_52_method_21_code 1 = .ok (.istore 5, 2) := by decide +kernel
theorem d20_3 : decode jdk_52_method_21_code 3 = .ok (.iload 5, 2) := by decide +kernel
theorem d20_5 : decode jdk_52_method_21_code 5 = .ok (.iload 4, 2) := by decide +kernel
theorem d20_7 : decode jdk_52_method_21_code 7 = .ok (.if_icmp .ge 37, 3) := by decide +kernel
theorem d20_10 : decode jdk_52_method_21_code 10 = .ok (.aload_n 0, 1) := by decide +kernel
theorem d20_11 : decode jdk_52_method_21_code 11 = .ok (.iload_n 1, 1) := by decide +kernel
theorem d20_12 : decode jdk_52_method_21_code 12 = .ok (.caload, 1) := by decide +kernel
theorem d20_13 : decode jdk_52_method_21_code 13 = .ok (.istore 6, 2) := by decide +kernel
theorem d20_15 : decode jdk_52_method_21_code 15 = .ok (.iload 6, 2) := by decide +kernel
theorem d20_17 : decode jdk_52_method_21_code 17 = .ok (.sipush 255, 3) := by decide +kernel
theorem d20_20 : decode jdk_52_method_21_code 20 = .ok (.if_icmp .le 6, 3) := by decide +kernel
theorem d20_26 : decode jdk_52_method_21_code 26 = .ok (.aload_n 2, 1) := by decide +kernel
theorem d20_27 : decode jdk_52_method_21_code 27 = .ok (.iload_n 3, 1) := by decide +kernel
theorem d20_28 : decode jdk_52_method_21_code 28 = .ok (.iload 6, 2) := by decide +kernel
theorem d20_30 : decode jdk_52_method_21_code 30 = .ok (.i2b, 1) := by decide +kernel
theorem d20_31 : decode jdk_52_method_21_code 31 = .ok (.bastore, 1) := by decide +kernel
theorem d20_32 : decode jdk_52_method_21_code 32 = .ok (.iinc 1 1, 3) := by decide +kernel
theorem d20_35 : decode jdk_52_method_21_code 35 = .ok (.iinc 3 1, 3) := by decide +kernel
theorem d20_38 : decode jdk_52_method_21_code 38 = .ok (.iinc 5 1, 3) := by decide +kernel
theorem d20_41 : decode jdk_52_method_21_code 41 = .ok (.goto (-38), 3) := by decide +kernel
theorem d20_44 : decode jdk_52_method_21_code 44 = .ok (.iload 4, 2) := by decide +kernel
theorem d20_46 : decode jdk_52_method_21_code 46 = .ok (.ireturn, 1) := by decide +kernel
theorem ef327 (m : MethodId) (x0 : Addr) (x1 : Int32) (x2 : Addr) (x3 : Int32) (x4 : Int32) : entryFrame m #[(.ref x0), (.int x1), (.ref x2), (.int x3), (.int x4)] 7 = mkF m 0 #[.val (.ref x0), .val (.int x1), .val (.ref x2), .val (.int x3), .val (.int x4), .unset, .unset] [] := by first | (simp [entryFrame, mkF, argsToLocals, Value.category]; done) | rfl
theorem pn328 : plainName z6 = true := by first | (simp [plainName, overriddenIn]; done) | decide +kernel
theorem m96 : (Jvm.Cond.code (⟨z6, "compress", "([CI[BII)I"⟩ : MethodName) jdk_52_method_21_code (7 : Nat) (Option.some FieldType.int)) ∈ tables_1 := List.mem_of_getElem? (i := 96) rfl
theorem m92 : (Jvm.Cond.initialized z6) ∈ tables_1 := List.mem_of_getElem? (i := 92) rfl
theorem pd331 : parseMethodDescriptor "([CI[BII)I" = some ⟨[(.array .char), .int, (.array .byte), .int, .int], some .int⟩ := by decide +kernel
theorem m95 : (Jvm.Cond.static (⟨z6, "compress", "([CI[BII)I"⟩ : MethodName)) ∈ tables_1 := List.mem_of_getElem? (i := 95) rfl
theorem d19_12 : decode jdk_52_method_16_code 12 = .ok (.istore 4, 2) := by decide +kernel
theorem d19_14 : decode jdk_52_method_16_code 14 = .ok (.iload 4, 2) := by decide +kernel
theorem d19_16 : decode jdk_52_method_16_code 16 = .ok (.iload_n 2, 1) := by decide +kernel
theorem d19_17 : decode jdk_52_method_16_code 17 = .ok (.if_icmp .eq 40, 3) := by decide +kernel
theorem d19_57 : decode jdk_52_method_16_code 57 = .ok (.aload_n 3, 1) := by decide +kernel
theorem d19_58 : decode jdk_52_method_16_code 58 = .ok (.areturn, 1) := by decide +kernel
theorem ef339 (m : MethodId) (x0 : Addr) (x1 : Int32) (x2 : Int32) : entryFrame m #[(.ref x0), (.int x1), (.int x2)] 6 = mkF m 0 #[.val (.ref x0), .val (.int x1), .val (.int x2), .unset, .unset, .unset] [] := by first | (simp [entryFrame, mkF, argsToLocals, Value.category]; done) | rfl
theorem m93 : (Jvm.Cond.code (⟨z6, "compress", "([CII)[B"⟩ : MethodName) jdk_52_method_16_code (6 : Nat) (Option.some (FieldType.array FieldType.byte))) ∈ tables_1 := List.mem_of_getElem? (i := 93) rfl
theorem pd341 : parseMethodDescriptor "([CII)[B" = some ⟨[(.array .char), .int, .int], some (.array .byte)⟩ := by decide +kernel
theorem m91 : (Jvm.Cond.static (⟨z6, "compress", "([CII)[B"⟩ : MethodName)) ∈ tables_1 := List.mem_of_getElem? (i := 91) rfl
theorem d4_39 : decode jdk_42_method_149_code 39 = .ok (.astore 5, 2) := by decide +kernel
theorem d4_41 : decode jdk_42_method_149_code 41 = .ok (.aload_n 0, 1) := by decide +kernel
theorem d4_42 : decode jdk_42_method_149_code 42 = .ok (.aload 5, 2) := by decide +kernel
theorem d4_44 : decode jdk_42_method_149_code 44 = .ok (.iload_n 3, 1) := by decide +kernel
theorem d4_45 : decode jdk_42_method_149_code 45 = .ok (.invokestatic 47, 3) := by decide +kernel
theorem m97 : (Jvm.Cond.methodLink z0 (47 : Nat) (⟨z6, "coderFromArrayLen", "([BI)B"⟩ : MethodName)) ∈ tables_1 := List.mem_of_getElem? (i := 97) rfl
theorem d21_0 : decode jdk_52_method_15_code 0 = .ok (.iload_n 1, 1) := by decide +kernel
theorem d21_1 : decode jdk_52_method_15_code 1 = .ok (.aload_n 0, 1) := by decide +kernel
theorem d21_2 : decode jdk_52_method_15_code 2 = .ok (.arraylength, 1) := by decide +kernel
theorem d21_3 : decode jdk_52_method_15_code 3 = .ok (.isub, 1) := by decide +kernel
theorem d21_4 : decode jdk_52_method_15_code 4 = .ok (.bipush 31, 2) := by decide +kernel
theorem d21_6 : decode jdk_52_method_15_code 6 = .ok (.iushr, 1) := by decide +kernel
theorem d21_7 : decode jdk_52_method_15_code 7 = .ok (.i2b, 1) := by decide +kernel
theorem d21_8 : decode jdk_52_method_15_code 8 = .ok (.ireturn, 1) := by decide +kernel
theorem m99 : (Jvm.Cond.code (⟨z6, "coderFromArrayLen", "([BI)B"⟩ : MethodName) jdk_52_method_15_code (2 : Nat) (Option.some FieldType.byte)) ∈ tables_1 := List.mem_of_getElem? (i := 99) rfl
theorem pd358 : parseMethodDescriptor "([BI)B" = some ⟨[(.array .byte), .int], some .byte⟩ := by decide +kernel
theorem m98 : (Jvm.Cond.static (⟨z6, "coderFromArrayLen", "([BI)B"⟩ : MethodName)) ∈ tables_1 := List.mem_of_getElem? (i := 98) rfl
theorem d4_48 : decode jdk_42_method_149_code 48 = .ok (.putfield 15, 3) := by decide +kernel
theorem d4_51 : decode jdk_42_method_149_code 51 = .ok (.aload_n 0, 1) := by decide +kernel
theorem d4_52 : decode jdk_42_method_149_code 52 = .ok (.aload 5, 2) := by decide +kernel
theorem d4_54 : decode jdk_42_method_149_code 54 = .ok (.putfield 9, 3) := by decide +kernel
theorem d4_57 : decode jdk_42_method_149_code 57 = .ok (.return_, 1) := by decide +kernel
theorem d2_36 : decode method_4_code 36 = .ok (.areturn, 1) := by decide +kernel
theorem d12_22 : decode jdk_43_method_27_code 22 = .ok (.aload_n 0, 1) := by decide +kernel
theorem d12_23 : decode jdk_43_method_27_code 23 = .ok (.iload_n 3, 1) := by decide +kernel
theorem d12_24 : decode jdk_43_method_27_code 24 = .ok (.baload, 1) := by decide +kernel
theorem d12_25 : decode jdk_43_method_27_code 25 = .ok (.iload_n 1, 1) := by decide +kernel
theorem d12_26 : decode jdk_43_method_27_code 26 = .ok (.i2b, 1) := by decide +kernel
theorem d12_27 : decode jdk_43_method_27_code 27 = .ok (.if_icmp .ne 5, 3) := by decide +kernel
theorem d12_30 : decode jdk_43_method_27_code 30 = .ok (.iload_n 3, 1) := by decide +kernel
theorem d12_31 : decode jdk_43_method_27_code 31 = .ok (.ireturn, 1) := by decide +kernel
theorem d16_22 : decode jdk_42_method_92_code 22 = .ok (.iload_n 2, 1) := by decide +kernel
theorem d16_23 : decode jdk_42_method_92_code 23 = .ok (.iload_n 1, 1) := by decide +kernel
theorem d16_24 : decode jdk_42_method_92_code 24 = .ok (.isub, 1) := by decide +kernel
theorem d16_25 : decode jdk_42_method_92_code 25 = .ok (.istore 4, 2) := by decide +kernel
theorem d16_27 : decode jdk_42_method_92_code 27 = .ok (.aload_n 0, 1) := by decide +kernel
theorem d16_28 : decode jdk_42_method_92_code 28 = .ok (.invokevirtual 492, 3) := by decide +kernel
theorem d16_31 : decode jdk_42_method_92_code 31 = .ok (.ifCond .eq 16, 3) := by decide +kernel
theorem d16_34 : decode jdk_42_method_92_code 34 = .ok (.aload_n 0, 1) := by decide +kernel
theorem d16_35 : decode jdk_42_method_92_code 35 = .ok (.getfield 9, 3) := by decide +kernel
theorem d16_38 : decode jdk_42_method_92_code 38 = .ok (.iload_n 1, 1) := by decide +kernel
theorem d16_39 : decode jdk_42_method_92_code 39 = .ok (.iload 4, 2) := by decide +kernel
theorem d16_41 : decode jdk_42_method_92_code 41 = .ok (.invokestatic 685, 3) := by decide +kernel
theorem m114 : (Jvm.Cond.methodLink z0 (685 : Nat) (⟨z2, "newString", z11⟩ : MethodName)) ∈ tables_1 := List.mem_of_getElem? (i := 114) rfl
theorem d26_0 : decode jdk_43_method_47_code 0 = .ok (.iload_n 2, 1) := by decide +kernel
theorem d26_1 : decode jdk_43_method_47_code 1 = .ok (.ifCond .ne 6, 3) := by decide +kernel
theorem d26_4 : decode jdk_43_method_47_code 4 = .ok (.ldc 151, 2) := by decide +kernel
theorem m117 : (Jvm.Cond.stringLink z2 (151 : Nat) "") ∈ tables_1 := List.mem_of_getElem? (i := 117) rfl
theorem d26_6 : decode jdk_43_method_47_code 6 = .ok (.areturn, 1) := by decide +kernel
theorem m116 : (Jvm.Cond.code (⟨z2, "newString", z11⟩ : MethodName) jdk_43_method_47_code (3 : Nat) (Option.some (FieldType.object z0))) ∈ tables_1 := List.mem_of_getElem? (i := 116) rfl
theorem pd393 : parseMethodDescriptor z11 = some ⟨[(.array .byte), .int, .int], some (.object z0)⟩ := by decide +kernel
theorem m115 : (Jvm.Cond.static (⟨z2, "newString", z11⟩ : MethodName)) ∈ tables_1 := List.mem_of_getElem? (i := 115) rfl
theorem d16_44 : decode jdk_42_method_92_code 44 = .ok (.goto 13, 3) := by decide +kernel
theorem d16_57 : decode jdk_42_method_92_code 57 = .ok (.areturn, 1) := by decide +kernel
theorem d12_32 : decode jdk_43_method_27_code 32 = .ok (.iinc 3 (-1), 3) := by decide +kernel
theorem d12_35 : decode jdk_43_method_27_code 35 = .ok (.goto (-17), 3) := by decide +kernel
theorem m100 : (Jvm.Cond.methodLink z1 (30 : Nat) (⟨z0, "charAt", "(I)C"⟩ : MethodName)) ∈ tables_1 := List.mem_of_getElem? (i := 100) rfl
theorem m103 : (Jvm.Cond.selects z0 (⟨z0, "charAt", "(I)C"⟩ : MethodName) (⟨z0, "charAt", "(I)C"⟩ : MethodName)) ∈ tables_1 := List.mem_of_getElem? (i := 103) rfl
theorem d22_0 : decode jdk_42_method_56_code 0 = .ok (.aload_n 0, 1) := by decide +kernel
theorem d22_1 : decode jdk_42_method_56_code 1 = .ok (.invokevirtual 492, 3) := by decide +kernel
theorem d22_4 : decode jdk_42_method_56_code 4 = .ok (.ifCond .eq 12, 3) := by decide +kernel
theorem d22_7 : decode jdk_42_method_56_code 7 = .ok (.aload_n 0, 1) := by decide +kernel
theorem d22_8 : decode jdk_42_method_56_code 8 = .ok (.getfield 9, 3) := by decide +kernel
theorem d22_11 : decode jdk_42_method_56_code 11 = .ok (.iload_n 1, 1) := by decide +kernel
theorem d22_12 : decode jdk_42_method_56_code 12 = .ok (.invokestatic 495, 3) := by decide +kernel
theorem m105 : (Jvm.Cond.methodLink z0 (495 : Nat) (⟨z2, "charAt", "([BI)C"⟩ : MethodName)) ∈ tables_1 := List.mem_of_getElem? (i := 105) rfl
theorem d23_0 : decode jdk_43_method_2_code 0 = .ok (.iload_n 1, 1) := by decide +kernel
theorem d23_1 : decode jdk_43_method_2_code 1 = .ok (.aload_n 0, 1) := by decide +kernel
theorem d23_2 : decode jdk_43_method_2_code 2 = .ok (.arraylength, 1) := by decide +kernel
theorem d23_3 : decode jdk_43_method_2_code 3 = .ok (.invokestatic 9, 3) := by decide +kernel
theorem m108 : (Jvm.Cond.methodLink z2 (9 : Nat) (⟨z0, "checkIndex", "(II)V"⟩ : MethodName)) ∈ tables_1 := List.mem_of_getElem? (i := 108) rfl
theorem d24_0 : decode jdk_42_method_155_code 0 = .ok (.iload_n 0, 1) := by decide +kernel
theorem d24_1 : decode jdk_42_method_155_code 1 = .ok (.iload_n 1, 1) := by decide +kernel
theorem d24_2 : decode jdk_42_method_155_code 2 = .ok (.getstatic 1053, 3) := by decide +kernel
theorem d24_5 : decode jdk_42_method_155_code 5 = .ok (.invokestatic 1059, 3) := by decide +kernel
theorem m111 : (Jvm.Cond.methodLink z0 (1059 : Nat) (⟨z10, "checkIndex", "(IILjava/util/function/BiFunction;)I"⟩ : MethodName)) ∈ tables_1 := List.mem_of_getElem? (i := 111) rfl
theorem d25_0 : decode jdk_41_method_11_code 0 = .ok (.iload_n 0, 1) := by decide +kernel
theorem d25_1 : decode jdk_41_method_11_code 1 = .ok (.ifCond .lt 8, 3) := by decide +kernel
theorem d25_4 : decode jdk_41_method_11_code 4 = .ok (.iload_n 0, 1) := by decide +kernel
theorem d25_5 : decode jdk_41_method_11_code 5 = .ok (.iload_n 1, 1) := by decide +kernel
theorem d25_6 : decode jdk_41_method_11_code 6 = .ok (.if_icmp .lt 10, 3) := by decide +kernel
theorem d25_16 : decode jdk_41_method_11_code 16 = .ok (.iload_n 0, 1) := by decide +kernel
theorem d25_17 : decode jdk_41_method_11_code 17 = .ok (.ireturn, 1) := by decide +kernel
theorem ef426 (m : MethodId) (x0 : Int32) (x1 : Int32) (x2 : Value) (hx2 : x2.isRef = true) : entryFrame m #[(.int x0), (.int x1), x2] 3 = mkF m 0 #[.val (.int x0), .val (.int x1), .val x2] [] := by rcases ref_cases hx2 with rfl | ⟨q2, rfl⟩ <;> rfl
theorem m113 : (Jvm.Cond.code (⟨z10, "checkIndex", "(IILjava/util/function/BiFunction;)I"⟩ : MethodName) jdk_41_method_11_code (3 : Nat) (Option.some FieldType.int)) ∈ tables_1 := List.mem_of_getElem? (i := 113) rfl
theorem pd428 : parseMethodDescriptor "(IILjava/util/function/BiFunction;)I" = some ⟨[.int, .int, (.object "java/util/function/BiFunction")], some .int⟩ := by decide +kernel
theorem m112 : (Jvm.Cond.static (⟨z10, "checkIndex", "(IILjava/util/function/BiFunction;)I"⟩ : MethodName)) ∈ tables_1 := List.mem_of_getElem? (i := 112) rfl
theorem d24_8 : decode jdk_42_method_155_code 8 = .ok (.pop, 1) := by decide +kernel
theorem d24_9 : decode jdk_42_method_155_code 9 = .ok (.return_, 1) := by decide +kernel
theorem m110 : (Jvm.Cond.code (⟨z0, "checkIndex", "(II)V"⟩ : MethodName) jdk_42_method_155_code (2 : Nat) (Option.none : Option Jvm.ClassFile.FieldType)) ∈ tables_1 := List.mem_of_getElem? (i := 110) rfl
theorem pd433 : parseMethodDescriptor "(II)V" = some ⟨[.int, .int], none⟩ := by decide +kernel
theorem m109 : (Jvm.Cond.static (⟨z0, "checkIndex", "(II)V"⟩ : MethodName)) ∈ tables_1 := List.mem_of_getElem? (i := 109) rfl
theorem d23_6 : decode jdk_43_method_2_code 6 = .ok (.aload_n 0, 1) := by decide +kernel
theorem d23_7 : decode jdk_43_method_2_code 7 = .ok (.iload_n 1, 1) := by decide +kernel
theorem d23_8 : decode jdk_43_method_2_code 8 = .ok (.baload, 1) := by decide +kernel
theorem d23_9 : decode jdk_43_method_2_code 9 = .ok (.sipush 255, 3) := by decide +kernel
theorem d23_12 : decode jdk_43_method_2_code 12 = .ok (.iand, 1) := by decide +kernel
theorem d23_13 : decode jdk_43_method_2_code 13 = .ok (.i2c, 1) := by decide +kernel
theorem d23_14 : decode jdk_43_method_2_code 14 = .ok (.ireturn, 1) := by decide +kernel
theorem m107 : (Jvm.Cond.code (⟨z2, "charAt", "([BI)C"⟩ : MethodName) jdk_43_method_2_code (2 : Nat) (Option.some FieldType.char)) ∈ tables_1 := List.mem_of_getElem? (i := 107) rfl
theorem pd443 : parseMethodDescriptor "([BI)C" = some ⟨[(.array .byte), .int], some .char⟩ := by decide +kernel
theorem m106 : (Jvm.Cond.static (⟨z2, "charAt", "([BI)C"⟩ : MethodName)) ∈ tables_1 := List.mem_of_getElem? (i := 106) rfl
theorem d22_15 : decode jdk_42_method_56_code 15 = .ok (.ireturn, 1) := by decide +kernel
theorem m104 : (Jvm.Cond.code (⟨z0, "charAt", "(I)C"⟩ : MethodName) jdk_42_method_56_code (2 : Nat) (Option.some FieldType.char)) ∈ tables_1 := List.mem_of_getElem? (i := 104) rfl
theorem m101 : (Jvm.Cond.declares (⟨z0, "charAt", "(I)C"⟩ : MethodName)) ∈ tables_1 := List.mem_of_getElem? (i := 101) rfl
theorem m102 : (Jvm.Cond.instanceMethod (⟨z0, "charAt", "(I)C"⟩ : MethodName)) ∈ tables_1 := List.mem_of_getElem? (i := 102) rfl
theorem d2_37 : decode method_4_code 37 = .ok (.iload_n 0, 1) := by decide +kernel
theorem d2_38 : decode method_4_code 38 = .ok (.iconst 2, 1) := by decide +kernel
theorem d2_39 : decode method_4_code 39 = .ok (.if_icmp .ne 26, 3) := by decide +kernel
theorem d2_42 : decode method_4_code 42 = .ok (.new 25, 3) := by decide +kernel
theorem d2_45 : decode method_4_code 45 = .ok (.dup, 1) := by decide +kernel
theorem d2_46 : decode method_4_code 46 = .ok (.iconst 2, 1) := by decide +kernel
theorem d2_47 : decode method_4_code 47 = .ok (.newarray .char, 2) := by decide +kernel
theorem d2_49 : decode method_4_code 49 = .ok (.dup, 1) := by decide +kernel
theorem d2_50 : decode method_4_code 50 = .ok (.iconst 0, 1) := by decide +kernel
theorem d2_51 : decode method_4_code 51 = .ok (.aload_n 1, 1) := by decide +kernel
theorem d2_52 : decode method_4_code 52 = .ok (.iconst 0, 1) := by decide +kernel
theorem d2_53 : decode method_4_code 53 = .ok (.caload, 1) := by decide +kernel
theorem d2_54 : decode method_4_code 54 = .ok (.castore, 1) := by decide +kernel
theorem d2_55 : decode method_4_code 55 = .ok (.dup, 1) := by decide +kernel
theorem d2_56 : decode method_4_code 56 = .ok (.iconst 1, 1) := by decide +kernel
theorem d2_57 : decode method_4_code 57 = .ok (.aload_n 1, 1) := by decide +kernel
theorem d2_58 : decode method_4_code 58 = .ok (.iconst 1, 1) := by decide +kernel
theorem d2_59 : decode method_4_code 59 = .ok (.caload, 1) := by decide +kernel
theorem d2_60 : decode method_4_code 60 = .ok (.castore, 1) := by decide +kernel
theorem d2_61 : decode method_4_code 61 = .ok (.invokespecial 33, 3) := by decide +kernel
theorem d2_64 : decode method_4_code 64 = .ok (.areturn, 1) := by decide +kernel
theorem d26_7 : decode jdk_43_method_47_code 7 = .ok (.new 1, 3) := by decide +kernel
theorem m118 : (Jvm.Cond.classLink z2 (1 : Nat) z0) ∈ tables_1 := List.mem_of_getElem? (i := 118) rfl
theorem d26_10 : decode jdk_43_method_47_code 10 = .ok (.dup, 1) := by decide +kernel
theorem d26_11 : decode jdk_43_method_47_code 11 = .ok (.aload_n 0, 1) := by decide +kernel
theorem d26_12 : decode jdk_43_method_47_code 12 = .ok (.iload_n 1, 1) := by decide +kernel
theorem d26_13 : decode jdk_43_method_47_code 13 = .ok (.iload_n 1, 1) := by decide +kernel
theorem d26_14 : decode jdk_43_method_47_code 14 = .ok (.iload_n 2, 1) := by decide +kernel
theorem d26_15 : decode jdk_43_method_47_code 15 = .ok (.iadd, 1) := by decide +kernel
theorem d26_16 : decode jdk_43_method_47_code 16 = .ok (.invokestatic 232, 3) := by decide +kernel
theorem m119 : (Jvm.Cond.methodLink z2 (232 : Nat) (⟨z7, z15, "([BII)[B"⟩ : MethodName)) ∈ tables_1 := List.mem_of_getElem? (i := 119) rfl
theorem d27_0 : decode jdk_65_method_132_code 0 = .ok (.iload_n 1, 1) := by decide +kernel
theorem d27_1 : decode jdk_65_method_132_code 1 = .ok (.ifCond .ne 9, 3) := by decide +kernel
theorem d27_10 : decode jdk_65_method_132_code 10 = .ok (.aload_n 0, 1) := by decide +kernel
theorem d27_11 : decode jdk_65_method_132_code 11 = .ok (.iload_n 1, 1) := by decide +kernel
theorem d27_12 : decode jdk_65_method_132_code 12 = .ok (.iload_n 2, 1) := by decide +kernel
theorem d27_13 : decode jdk_65_method_132_code 13 = .ok (.invokestatic 339, 3) := by decide +kernel
theorem m123 : (Jvm.Cond.methodLink z7 (339 : Nat) (⟨z7, z14, "([BII)[B"⟩ : MethodName)) ∈ tables_1 := List.mem_of_getElem? (i := 123) rfl
theorem d28_0 : decode jdk_65_method_133_code 0 = .ok (.iload_n 1, 1) := by decide +kernel
theorem d28_1 : decode jdk_65_method_133_code 1 = .ok (.iload_n 2, 1) := by decide +kernel
theorem d28_2 : decode jdk_65_method_133_code 2 = .ok (.invokestatic 343, 3) := by decide +kernel
theorem m126 : (Jvm.Cond.methodLink z7 (343 : Nat) (⟨z7, "checkLength", "(II)V"⟩ : MethodName)) ∈ tables_1 := List.mem_of_getElem? (i := 126) rfl
theorem d29_0 : decode jdk_65_method_131_code 0 = .ok (.iload_n 1, 1) := by decide +kernel
theorem d29_1 : decode jdk_65_method_131_code 1 = .ok (.iload_n 0, 1) := by decide +kernel
theorem d29_2 : decode jdk_65_method_131_code 2 = .ok (.if_icmp .ge 35, 3) := by decide +kernel
theorem d29_37 : decode jdk_65_method_131_code 37 = .ok (.return_, 1) := by decide +kernel
theorem pn495 : plainName z7 = true := by first | (simp [plainName, overriddenIn]; done) | decide +kernel
theorem m128 : (Jvm.Cond.code (⟨z7, "checkLength", "(II)V"⟩ : MethodName) jdk_65_method_131_code (2 : Nat) (Option.none : Option Jvm.ClassFile.FieldType)) ∈ tables_1 := List.mem_of_getElem? (i := 128) rfl
theorem m121 : (Jvm.Cond.initialized z7) ∈ tables_1 := List.mem_of_getElem? (i := 121) rfl
theorem m127 : (Jvm.Cond.static (⟨z7, "checkLength", "(II)V"⟩ : MethodName)) ∈ tables_1 := List.mem_of_getElem? (i := 127) rfl
theorem d28_5 : decode jdk_65_method_133_code 5 = .ok (.iload_n 2, 1) := by decide +kernel
theorem d28_6 : decode jdk_65_method_133_code 6 = .ok (.iload_n 1, 1) := by decide +kernel
theorem d28_7 : decode jdk_65_method_133_code 7 = .ok (.isub, 1) := by decide +kernel
theorem d28_8 : decode jdk_65_method_133_code 8 = .ok (.istore_n 3, 1) := by decide +kernel
theorem d28_9 : decode jdk_65_method_133_code 9 = .ok (.iload_n 3, 1) := by decide +kernel
theorem d28_10 : decode jdk_65_method_133_code 10 = .ok (.newarray .byte, 2) := by decide +kernel
theorem d28_12 : decode jdk_65_method_133_code 12 = .ok (.astore 4, 2) := by decide +kernel
theorem d28_14 : decode jdk_65_method_133_code 14 = .ok (.aload_n 0, 1) := by decide +kernel
theorem d28_15 : decode jdk_65_method_133_code 15 = .ok (.iload_n 1, 1) := by decide +kernel
theorem d28_16 : decode jdk_65_method_133_code 16 = .ok (.aload 4, 2) := by decide +kernel
theorem d28_18 : decode jdk_65_method_133_code 18 = .ok (.iconst 0, 1) := by decide +kernel
theorem d28_19 : decode jdk_65_method_133_code 19 = .ok (.aload_n 0, 1) := by decide +kernel
theorem d28_20 : decode jdk_65_method_133_code 20 = .ok (.arraylength, 1) := by decide +kernel
theorem d28_21 : decode jdk_65_method_133_code 21 = .ok (.iload_n 1, 1) := by decide +kernel
theorem d28_22 : decode jdk_65_method_133_code 22 = .ok (.isub, 1) := by decide +kernel
theorem d28_23 : decode jdk_65_method_133_code 23 = .ok (.iload_n 3, 1) := by decide +kernel
theorem d28_24 : decode jdk_65_method_133_code 24 = .ok (.invokestatic 304, 3) := by decide +kernel
theorem m129 : (Jvm.Cond.methodLink z7 (304 : Nat) (⟨"java/lang/Math", "min", "(II)I"⟩ : MethodName)) ∈ tables_1 := List.mem_of_getElem? (i := 129) rfl
theorem d28_27 : decode jdk_65_method_133_code 27 = .ok (.invokestatic 150, 3) := by decide +kernel
theorem m130 : (Jvm.Cond.methodLink z7 (150 : Nat) (⟨"java/lang/System", "arraycopy", "(Ljava/lang/Object;ILjava/lang/Object;II)V"⟩ : MethodName)) ∈ tables_1 := List.mem_of_getElem? (i := 130) rfl
theorem m133 : (Jvm.Cond.native (⟨"java/lang/System", "arraycopy", "(Ljava/lang/Object;ILjava/lang/Object;II)V"⟩ : MethodName)) ∈ tables_1 := List.mem_of_getElem? (i := 133) rfl
theorem m131 : (Jvm.Cond.static (⟨"java/lang/System", "arraycopy", "(Ljava/lang/Object;ILjava/lang/Object;II)V"⟩ : MethodName)) ∈ tables_1 := List.mem_of_getElem? (i := 131) rfl
theorem m132 : (Jvm.Cond.initialized "java/lang/System") ∈ tables_1 := List.mem_of_getElem? (i := 132) rfl
theorem d28_30 : decode jdk_65_method_133_code 30 = .ok (.aload 4, 2) := by decide +kernel
theorem d28_32 : decode jdk_65_method_133_code 32 = .ok (.areturn, 1) := by decide +kernel
theorem m125 : (Jvm.Cond.code (⟨z7, z14, "([BII)[B"⟩ : MethodName) jdk_65_method_133_code (5 : Nat) (Option.some (FieldType.array FieldType.byte))) ∈ tables_1 := List.mem_of_getElem? (i := 125) rfl
theorem pd525 : parseMethodDescriptor "([BII)[B" = some ⟨[(.array .byte), .int, .int], some (.array .byte)⟩ := by decide +kernel
theorem m124 : (Jvm.Cond.static (⟨z7, z14, "([BII)[B"⟩ : MethodName)) ∈ tables_1 := List.mem_of_getElem? (i := 124) rfl
theorem d27_16 : decode jdk_65_method_132_code 16 = .ok (.areturn, 1) := by decide +kernel
theorem m122 : (Jvm.Cond.code (⟨z7, z15, "([BII)[B"⟩ : MethodName) jdk_65_method_132_code (3 : Nat) (Option.some (FieldType.array FieldType.byte))) ∈ tables_1 := List.mem_of_getElem? (i := 122) rfl
theorem m120 : (Jvm.Cond.static (⟨z7, z15, "([BII)[B"⟩ : MethodName)) ∈ tables_1 := List.mem_of_getElem? (i := 120) rfl
theorem d26_19 : decode jdk_43_method_47_code 19 = .ok (.iconst 0, 1) := by decide +kernel
theorem d26_20 : decode jdk_43_method_47_code 20 = .ok (.invokespecial 112, 3) := by decide +kernel
theorem m134 : (Jvm.Cond.methodLink z2 (112 : Nat) (⟨z0, "<init>", "([BB)V"⟩ : MethodName)) ∈ tables_1 := List.mem_of_getElem? (i := 134) rfl
theorem d30_0 : decode jdk_42_method_151_code 0 = .ok (.aload_n 0, 1) := by decide +kernel
theorem d30_1 : decode jdk_42_method_151_code 1 = .ok (.invokespecial 1, 3) := by decide +kernel
theorem d30_4 : decode jdk_42_method_151_code 4 = .ok (.aload_n 0, 1) := by decide +kernel
theorem d30_5 : decode jdk_42_method_151_code 5 = .ok (.aload_n 1, 1) := by decide +kernel
theorem d30_6 : decode jdk_42_method_151_code 6 = .ok (.putfield 9, 3) := by decide +kernel
theorem d30_9 : decode jdk_42_method_151_code 9 = .ok (.aload_n 0, 1) := by decide +kernel
theorem d30_10 : decode jdk_42_method_151_code 10 = .ok (.iload_n 2, 1) := by decide +kernel
theorem d30_11 : decode jdk_42_method_151_code 11 = .ok (.putfield 15, 3) := by decide +kernel
theorem d30_14 : decode jdk_42_method_151_code 14 = .ok (.return_, 1) := by decide +kernel
theorem ef542 (m : MethodId) (x0 : Addr) (x1 : Addr) (x2 : Int32) : entryFrame m #[(.ref x0), (.ref x1), (.int x2)] 3 = mkF m 0 #[.val (.ref x0), .val (.ref x1), .val (.int x2)] [] := by first | (simp [entryFrame, mkF, argsToLocals, Value.category]; done) | rfl
theorem m136 : (Jvm.Cond.code (⟨z0, "<init>", "([BB)V"⟩ : MethodName) jdk_42_method_151_code (3 : Nat) (Option.none : Option Jvm.ClassFile.FieldType)) ∈ tables_1 := List.mem_of_getElem? (i := 136) rfl
theorem pd544 : parseMethodDescriptor "([BB)V" = some ⟨[(.array .byte), .byte], none⟩ := by decide +kernel
theorem m135 : (Jvm.Cond.instanceMethod (⟨z0, "<init>", "([BB)V"⟩ : MethodName)) ∈ tables_1 := List.mem_of_getElem? (i := 135) rfl
theorem d26_23 : decode jdk_43_method_47_code 23 = .ok (.areturn, 1) := by decide +kernel
theorem d2_65 : decode method_4_code 65 = .ok (.iload_n 0, 1) := by decide +kernel
theorem d2_66 : decode method_4_code 66 = .ok (.iconst 3, 1) := by decide +kernel
theorem d2_67 : decode method_4_code 67 = .ok (.if_icmp .ne 32, 3) := by decide +kernel
theorem d2_70 : decode method_4_code 70 = .ok (.new 25, 3) := by decide +kernel
theorem d2_73 : decode method_4_code 73 = .ok (.dup, 1) := by decide +kernel
theorem d2_74 : decode method_4_code 74 = .ok (.iconst 3, 1) := by decide +kernel
theorem d2_75 : decode method_4_code 75 = .ok (.newarray .char, 2) := by decide +kernel
theorem d2_77 : decode method_4_code 77 = .ok (.dup, 1) := by decide +kernel
theorem d2_78 : decode method_4_code 78 = .ok (.iconst 0, 1) := by decide +kernel
theorem d2_79 : decode method_4_code 79 = .ok (.aload_n 1, 1) := by decide +kernel
theorem d2_80 : decode method_4_code 80 = .ok (.iconst 0, 1) := by decide +kernel
theorem d2_81 : decode method_4_code 81 = .ok (.caload, 1) := by decide +kernel
theorem d2_82 : decode method_4_code 82 = .ok (.castore, 1) := by decide +kernel
theorem d2_83 : decode method_4_code 83 = .ok (.dup, 1) := by decide +kernel
theorem d2_84 : decode method_4_code 84 = .ok (.iconst 1, 1) := by decide +kernel
theorem d2_85 : decode method_4_code 85 = .ok (.aload_n 1, 1) := by decide +kernel
theorem d2_86 : decode method_4_code 86 = .ok (.iconst 1, 1) := by decide +kernel
theorem d2_87 : decode method_4_code 87 = .ok (.caload, 1) := by decide +kernel
theorem d2_88 : decode method_4_code 88 = .ok (.castore, 1) := by decide +kernel
theorem d2_89 : decode method_4_code 89 = .ok (.dup, 1) := by decide +kernel
theorem d2_90 : decode method_4_code 90 = .ok (.iconst 2, 1) := by decide +kernel
theorem d2_91 : decode method_4_code 91 = .ok (.aload_n 1, 1) := by decide +kernel
theorem d2_92 : decode method_4_code 92 = .ok (.iconst 2, 1) := by decide +kernel
theorem d2_93 : decode method_4_code 93 = .ok (.caload, 1) := by decide +kernel
theorem d2_94 : decode method_4_code 94 = .ok (.castore, 1) := by decide +kernel
theorem d2_95 : decode method_4_code 95 = .ok (.invokespecial 33, 3) := by decide +kernel
theorem d2_98 : decode method_4_code 98 = .ok (.areturn, 1) := by decide +kernel
theorem d2_99 : decode method_4_code 99 = .ok (.new 25, 3) := by decide +kernel
theorem d2_102 : decode method_4_code 102 = .ok (.dup, 1) := by decide +kernel
theorem d2_103 : decode method_4_code 103 = .ok (.iconst 4, 1) := by decide +kernel
theorem d2_104 : decode method_4_code 104 = .ok (.newarray .char, 2) := by decide +kernel
theorem d2_106 : decode method_4_code 106 = .ok (.dup, 1) := by decide +kernel
theorem d2_107 : decode method_4_code 107 = .ok (.iconst 0, 1) := by decide +kernel
theorem d2_108 : decode method_4_code 108 = .ok (.aload_n 1, 1) := by decide +kernel
theorem d2_109 : decode method_4_code 109 = .ok (.iconst 0, 1) := by decide +kernel
theorem d2_110 : decode method_4_code 110 = .ok (.caload, 1) := by decide +kernel
theorem d2_111 : decode method_4_code 111 = .ok (.castore, 1) := by decide +kernel
theorem d2_112 : decode method_4_code 112 = .ok (.dup, 1) := by decide +kernel
theorem d2_113 : decode method_4_code 113 = .ok (.iconst 1, 1) := by decide +kernel
theorem d2_114 : decode method_4_code 114 = .ok (.aload_n 1, 1) := by decide +kernel
theorem d2_115 : decode method_4_code 115 = .ok (.iconst 1, 1) := by decide +kernel
theorem d2_116 : decode method_4_code 116 = .ok (.caload, 1) := by decide +kernel
theorem d2_117 : decode method_4_code 117 = .ok (.castore, 1) := by decide +kernel
theorem d2_118 : decode method_4_code 118 = .ok (.dup, 1) := by decide +kernel
theorem d2_119 : decode method_4_code 119 = .ok (.iconst 2, 1) := by decide +kernel
theorem d2_120 : decode method_4_code 120 = .ok (.aload_n 1, 1) := by decide +kernel
theorem d2_121 : decode method_4_code 121 = .ok (.iconst 2, 1) := by decide +kernel
theorem d2_122 : decode method_4_code 122 = .ok (.caload, 1) := by decide +kernel
theorem d2_123 : decode method_4_code 123 = .ok (.castore, 1) := by decide +kernel
theorem d2_124 : decode method_4_code 124 = .ok (.dup, 1) := by decide +kernel
theorem d2_125 : decode method_4_code 125 = .ok (.iconst 3, 1) := by decide +kernel
theorem d2_126 : decode method_4_code 126 = .ok (.aload_n 1, 1) := by decide +kernel
theorem d2_127 : decode method_4_code 127 = .ok (.iconst 3, 1) := by decide +kernel
theorem d2_128 : decode method_4_code 128 = .ok (.caload, 1) := by decide +kernel
theorem d2_129 : decode method_4_code 129 = .ok (.castore, 1) := by decide +kernel
theorem d2_130 : decode method_4_code 130 = .ok (.invokespecial 33, 3) := by decide +kernel
theorem d2_133 : decode method_4_code 133 = .ok (.areturn, 1) := by decide +kernel
theorem ef604 (m : MethodId) (x0 : Int32) (x1 : Int32) (x2 : Int32) (x3 : Int32) (x4 : Int32) : entryFrame m #[(.int x0), (.int x1), (.int x2), (.int x3), (.int x4)] maxLocals = mkF m 0 #[.val (.int x0), .val (.int x1), .val (.int x2), .val (.int x3), .val (.int x4), .unset, .unset, .unset, .unset, .unset, .unset] [] := by first | (simp [entryFrame, mkF, argsToLocals, Value.category, maxLocals]; done) | rfl
theorem j0 : (Jvm.Cond.initializedFor z0 "COMPACT_STRINGS" "Z") ∈ jdkStatics_1 := List.mem_of_getElem? (i := 0) rfl
theorem j7 : (Jvm.Cond.initializedFor z10 "SIOOBE_FORMATTER" "Ljava/util/function/BiFunction;") ∈ jdkStatics_1 := List.mem_of_getElem? (i := 7) rfl
theorem j2 : (Jvm.Cond.not (Jvm.Cond.eq (Jvm.Term.static z0 "COMPACT_STRINGS" "Z") (Jvm.Term.int (0 : Int32)))) ∈ jdkStatics_1 := List.mem_of_getElem? (i := 2) rfl
theorem m26 : (Jvm.Cond.soleField z0 "value") ∈ tables_1 := List.mem_of_getElem? (i := 26) rfl
theorem m27 : (Jvm.Cond.soleField z0 "coder") ∈ tables_1 := List.mem_of_getElem? (i := 27) rfl
def EL : List (String × Nat) := consts_1
theorem own_str {Z : State} {a0 : Array Value} (hw : ∀ d ∈ tables_1, d.before a0 Z = true) (hj : ∀ d ∈ jdkStatics_1, d.before a0 Z = true) : ∀ a ∈ Bundle.stringAtoms, a.before a0 Z = true := fun d hd => by
  simp only [Bundle.stringAtoms, List.mem_cons, List.not_mem_nil, or_false] at hd
  rcases hd with rfl | rfl | rfl | rfl | rfl | rfl | rfl
  · exact (hw _ m11)
  · exact (hw _ m10)
  · exact (hw _ m23)
  · exact (hw _ m24)
  · exact (hw _ m25)
  · exact (hw _ m26)
  · exact (hw _ m27)
theorem own_EW {Z : State} {a0 : Array Value} (hw : ∀ d ∈ tables_1, d.before a0 Z = true) (hj : ∀ d ∈ jdkStatics_1, d.before a0 Z = true) : EW Z a0 EL := (EW.cons (hw _ m22) (by decide) (EW.cons (hw _ m117) (by decide) EW.nil))
def Cx (Z : State) (a0 : Array Value) (w0 : Int32) (w1 : Value) : Prop := (∀ d ∈ tables_1, d.before a0 Z = true) ∧ (∀ d ∈ jdkStatics_1, d.before a0 Z = true) ∧ SF Z w0 w1
variable {l : Launch} {Z : State} {a0 : Array Value} {h0 : Heap} {n0 : Nat} {w0 : Int32} {w1 : Value}
theorem cw0 (cx : Cx Z a0 w0 w1) : WI Z a0 z0 27 ⟨z0, "<init>", z13⟩ jdk_42_method_149_code 6 [(.array .char), .int, .int, (.object "java/lang/Void")] := ⟨(cx.1 _ m15), (cx.1 _ m16), (cx.1 _ m11), (cx.1 _ m18), by decide, pd65, rfl⟩
theorem cw1 (cx : Cx Z a0 w0 w1) : WI Z a0 z1 33 ⟨z0, "<init>", "([C)V"⟩ jdk_42_method_3_code 2 [(.array .char)] := ⟨(cx.1 _ m12), (cx.1 _ m13), (cx.1 _ m11), (cx.1 _ m14), by decide, pd70, rfl⟩
theorem cw2 (cx : Cx Z a0 w0 w1) : WS Z a0 z1 14 ⟨z1, "make", z12⟩ method_4_code 2 (some (.object z0)) [.int, (.array .char)] (some (.object z0)) := ⟨(cx.1 _ m6), (cx.1 _ m7), (cx.1 _ m4), (cx.1 _ m8), by decide, pd75⟩
theorem cw3 (cx : Cx Z a0 w0 w1) : WV Z a0 z0 335 z0 ⟨z0, "coder", "()B"⟩ jdk_42_method_152_code 1 (some .byte) [] (some .byte) := ⟨(cx.1 _ m44), (cx.1 _ m45), (cx.1 _ m47), (cx.1 _ m46), (cx.1 _ m11), (cx.1 _ m48), by decide, pd106⟩
theorem cw4 (cx : Cx Z a0 w0 w1) : WV Z a0 z0 505 z0 ⟨z0, "length", "()I"⟩ jdk_42_method_54_code 1 (some .int) [] (some .int) := ⟨(cx.1 _ m39), (cx.1 _ m40), (cx.1 _ m42), (cx.1 _ m41), (cx.1 _ m11), (cx.1 _ m43), by decide, pd112⟩
theorem cw5 (cx : Cx Z a0 w0 w1) : WV Z a0 z0 492 z0 ⟨z0, "isLatin1", "()Z"⟩ jdk_42_method_154_code 1 (some .boolean) [] (some .boolean) := ⟨(cx.1 _ m55), (cx.1 _ m56), (cx.1 _ m58), (cx.1 _ m57), (cx.1 _ m11), (cx.1 _ m59), by decide, pd133⟩
theorem cw6 (cx : Cx Z a0 w0 w1) : WS Z a0 z2 88 ⟨z2, "canEncode", "(I)Z"⟩ jdk_43_method_4_code 1 (some .boolean) [.int] (some .boolean) := ⟨(cx.1 _ m64), (cx.1 _ m65), (cx.1 _ m62), (cx.1 _ m66), by decide, pd157⟩
theorem cw7 (cx : Cx Z a0 w0 w1) : WS Z a0 z2 38 ⟨"java/lang/Math", "min", "(II)I"⟩ jdk_29_method_69_code 2 (some .int) [.int, .int] (some .int) := ⟨(cx.1 _ m67), (cx.1 _ m68), (cx.1 _ m69), (cx.1 _ m70), by decide, pd176⟩
theorem cw8 (cx : Cx Z a0 w0 w1) : WS Z a0 z0 644 ⟨z2, z4, "([BII)I"⟩ jdk_43_method_27_code 4 (some .int) [(.array .byte), .int, .int] (some .int) := ⟨(cx.1 _ m60), (cx.1 _ m61), (cx.1 _ m62), (cx.1 _ m63), by decide, pd185⟩
theorem cw9 (cx : Cx Z a0 w0 w1) : WV Z a0 z0 641 z0 ⟨z0, z4, "(II)I"⟩ jdk_42_method_83_code 3 (some .int) [.int, .int] (some .int) := ⟨(cx.1 _ m50), (cx.1 _ m51), (cx.1 _ m53), (cx.1 _ m52), (cx.1 _ m11), (cx.1 _ m54), by decide, pd176⟩
theorem cw10 (cx : Cx Z a0 w0 w1) : WV Z a0 z3 381 z0 ⟨z0, z4, "(I)I"⟩ jdk_42_method_82_code 2 (some .int) [.int] (some .int) := ⟨(cx.1 _ m34), (cx.1 _ m35), (cx.1 _ m37), (cx.1 _ m36), (cx.1 _ m11), (cx.1 _ m38), by decide, pd196⟩
theorem cw11 (cx : Cx Z a0 w0 w1) : WS Z a0 z0 1062 ⟨z10, "checkFromToIndex", "(IIILjava/util/function/BiFunction;)I"⟩ jdk_41_method_12_code 4 (some .int) [.int, .int, .int, (.object "java/util/function/BiFunction")] (some .int) := ⟨(cx.1 _ m86), (cx.1 _ m87), (cx.1 _ m85), (cx.1 _ m88), by decide, pd240⟩
theorem cw12 (cx : Cx Z a0 w0 w1) : WS Z a0 z0 521 ⟨z0, "checkBoundsBeginEnd", "(III)V"⟩ jdk_42_method_158_code 3 none [.int, .int, .int] none := ⟨(cx.1 _ m81), (cx.1 _ m82), (cx.1 _ m11), (cx.1 _ m83), by decide, pd246⟩
theorem cw13 (cx : Cx Z a0 w0 w1) : WV Z a0 z0 681 z0 ⟨z0, "substring", z8⟩ jdk_42_method_92_code 5 (some (.object z0)) [.int, .int] (some (.object z0)) := ⟨(cx.1 _ m76), (cx.1 _ m77), (cx.1 _ m79), (cx.1 _ m78), (cx.1 _ m11), (cx.1 _ m80), by decide, pd257⟩
theorem cw14 (cx : Cx Z a0 w0 w1) : WV Z a0 z3 385 z0 ⟨z0, "substring", z9⟩ jdk_42_method_91_code 2 (some (.object z0)) [.int] (some (.object z0)) := ⟨(cx.1 _ m71), (cx.1 _ m72), (cx.1 _ m74), (cx.1 _ m73), (cx.1 _ m11), (cx.1 _ m75), by decide, pd262⟩
theorem cw15 (cx : Cx Z a0 w0 w1) : WS Z a0 z1 18 ⟨z3, "localPart", z5⟩ prog_13_method_17_code 1 (some (.object z0)) [(.object z0)] (some (.object z0)) := ⟨(cx.1 _ m30), (cx.1 _ m31), (cx.1 _ m32), (cx.1 _ m33), by decide, pd269⟩
theorem cw16 (cx : Cx Z a0 w0 w1) : WV Z a0 z1 24 z0 ⟨z0, "length", "()I"⟩ jdk_42_method_54_code 1 (some .int) [] (some .int) := ⟨(cx.1 _ m89), (cx.1 _ m40), (cx.1 _ m42), (cx.1 _ m41), (cx.1 _ m11), (cx.1 _ m43), by decide, pd112⟩
theorem cw17 (cx : Cx Z a0 w0 w1) : WS Z a0 z6 115 ⟨z6, "compress", "([CI[BII)I"⟩ jdk_52_method_21_code 7 (some .int) [(.array .char), .int, (.array .byte), .int, .int] (some .int) := ⟨(cx.1 _ m94), (cx.1 _ m95), (cx.1 _ m92), (cx.1 _ m96), by decide, pd331⟩
theorem cw18 (cx : Cx Z a0 w0 w1) : WS Z a0 z0 177 ⟨z6, "compress", "([CII)[B"⟩ jdk_52_method_16_code 6 (some (.array .byte)) [(.array .char), .int, .int] (some (.array .byte)) := ⟨(cx.1 _ m90), (cx.1 _ m91), (cx.1 _ m92), (cx.1 _ m93), by decide, pd341⟩
theorem cw19 (cx : Cx Z a0 w0 w1) : WS Z a0 z0 47 ⟨z6, "coderFromArrayLen", "([BI)B"⟩ jdk_52_method_15_code 2 (some .byte) [(.array .byte), .int] (some .byte) := ⟨(cx.1 _ m97), (cx.1 _ m98), (cx.1 _ m92), (cx.1 _ m99), by decide, pd358⟩
theorem cw20 (cx : Cx Z a0 w0 w1) : WS Z a0 z0 685 ⟨z2, "newString", z11⟩ jdk_43_method_47_code 3 (some (.object z0)) [(.array .byte), .int, .int] (some (.object z0)) := ⟨(cx.1 _ m114), (cx.1 _ m115), (cx.1 _ m62), (cx.1 _ m116), by decide, pd393⟩
theorem cw21 (cx : Cx Z a0 w0 w1) : WS Z a0 z0 1059 ⟨z10, "checkIndex", "(IILjava/util/function/BiFunction;)I"⟩ jdk_41_method_11_code 3 (some .int) [.int, .int, (.object "java/util/function/BiFunction")] (some .int) := ⟨(cx.1 _ m111), (cx.1 _ m112), (cx.1 _ m85), (cx.1 _ m113), by decide, pd428⟩
theorem cw22 (cx : Cx Z a0 w0 w1) : WS Z a0 z2 9 ⟨z0, "checkIndex", "(II)V"⟩ jdk_42_method_155_code 2 none [.int, .int] none := ⟨(cx.1 _ m108), (cx.1 _ m109), (cx.1 _ m11), (cx.1 _ m110), by decide, pd433⟩
theorem cw23 (cx : Cx Z a0 w0 w1) : WS Z a0 z0 495 ⟨z2, "charAt", "([BI)C"⟩ jdk_43_method_2_code 2 (some .char) [(.array .byte), .int] (some .char) := ⟨(cx.1 _ m105), (cx.1 _ m106), (cx.1 _ m62), (cx.1 _ m107), by decide, pd443⟩
theorem cw24 (cx : Cx Z a0 w0 w1) : WV Z a0 z1 30 z0 ⟨z0, "charAt", "(I)C"⟩ jdk_42_method_56_code 2 (some .char) [.int] (some .char) := ⟨(cx.1 _ m100), (cx.1 _ m101), (cx.1 _ m103), (cx.1 _ m102), (cx.1 _ m11), (cx.1 _ m104), by decide, pd19⟩
theorem cw25 (cx : Cx Z a0 w0 w1) : WS Z a0 z7 343 ⟨z7, "checkLength", "(II)V"⟩ jdk_65_method_131_code 2 none [.int, .int] none := ⟨(cx.1 _ m126), (cx.1 _ m127), (cx.1 _ m121), (cx.1 _ m128), by decide, pd433⟩
theorem cw26 (cx : Cx Z a0 w0 w1) : WS Z a0 z7 304 ⟨"java/lang/Math", "min", "(II)I"⟩ jdk_29_method_69_code 2 (some .int) [.int, .int] (some .int) := ⟨(cx.1 _ m129), (cx.1 _ m68), (cx.1 _ m69), (cx.1 _ m70), by decide, pd176⟩
theorem cw27 (cx : Cx Z a0 w0 w1) : WS Z a0 z7 339 ⟨z7, z14, "([BII)[B"⟩ jdk_65_method_133_code 5 (some (.array .byte)) [(.array .byte), .int, .int] (some (.array .byte)) := ⟨(cx.1 _ m123), (cx.1 _ m124), (cx.1 _ m121), (cx.1 _ m125), by decide, pd525⟩
theorem cw28 (cx : Cx Z a0 w0 w1) : WS Z a0 z2 232 ⟨z7, z15, "([BII)[B"⟩ jdk_65_method_132_code 3 (some (.array .byte)) [(.array .byte), .int, .int] (some (.array .byte)) := ⟨(cx.1 _ m119), (cx.1 _ m120), (cx.1 _ m121), (cx.1 _ m122), by decide, pd525⟩
theorem cw29 (cx : Cx Z a0 w0 w1) : WI Z a0 z2 112 ⟨z0, "<init>", "([BB)V"⟩ jdk_42_method_151_code 3 [(.array .byte), .byte] := ⟨(cx.1 _ m134), (cx.1 _ m135), (cx.1 _ m11), (cx.1 _ m136), by decide, pd544, rfl⟩
def Qjm0 (Z : State) (w0 : Int32) (w1 : Value) (p0 : Int32) (h0 : Heap) (n0 : Nat) (v : Option Value) (h : Heap) (L : List Loc) : Prop := ∃ z : Int32, v = some (.int z) ∧ Fr n0 L ∧ ¬ (z < (0 : Int32)) ∧ ¬ ((255 : Int32) < z) ∧ h = h0
theorem jm0 (cx : Cx Z a0 w0 w1) (p0 : Int32) (O0 : Old Z n0 h0) : Ct l Z ⟨z1, "ch", "(I)C"⟩ method_3_code 1 (some .char) ⟨0, 0, 0, 0⟩ #[(vI p0)] h0 (Qjm0 Z w0 w1 p0 h0 n0) := by
  refine own_bd (plainFor_of_name pn11) (fun m => ef12 m p0) fun p e s m below meth c s₁ hret hlk hZ hx hby hml hown hnm X0 e0 => ?_
  obtain ⟨hw, hj, hS⟩ := id cx
  have N0 := Fr.nil n0
  obtain ⟨g0, hg0⟩ : ∃ g, g = mkF m 0 #[sI p0] [] := ⟨_, rfl⟩
  rw [← hg0]
  have pre0 : ∀ t, St p e below s₁ (mkF m 0 #[sI p0] []) t → St p e below s₁ g0 t := fun t k => hg0 ▸ k
  obtain ⟨x4, hx4⟩ : ∃ z, (p0 &&& (256 : Int32)) = z := ⟨_, rfl⟩
  have rx4 : 0 ≤ x4.toInt ∧ x4.toInt ≤ 256 := hx4 ▸ (own_mask p0 (256 : Int32) (by decide) : 0 ≤ ((p0 &&& (256 : Int32))).toInt ∧ ((p0 &&& (256 : Int32))).toInt ≤ 256)
  have pre1 : ∀ t, St p e below s₁ (mkF m 5 #[sI p0] [(vI x4)]) t → St p e below s₁ g0 t := fun t kt => pre0 _ (by
      show St p e below s₁ (mkF m 0 #[sI p0] []) _
      refine wil X0 hx hby rfl d1_0 rfl ?_
      refine wsp X0 hx hby rfl d1_1 ?_
      refine Own.iand X0.here hx rfl (hb hby d1_4) rfl hx4 ?_
      exact kt)
  rcases Decidable.em (x4 = (0 : Int32)) with hp0 | hp0
  · obtain ⟨x15, hx15⟩ : ∃ z, (p0 &&& (255 : Int32)) = z := ⟨_, rfl⟩
    have rx15 : 0 ≤ x15.toInt ∧ x15.toInt ≤ 255 := hx15 ▸ (own_mask p0 (255 : Int32) (by decide) : 0 ≤ ((p0 &&& (255 : Int32))).toInt ∧ ((p0 &&& (255 : Int32))).toInt ≤ 255)
    have hd0 : ¬ (x15 < (0 : Int32)) := (by have q0 := rx15; have q1 := (by decide : ((0 : Int32)).toInt = 0); exact own_ltF (by omega) : ¬ (x15 < (0 : Int32)))
    have hd1 : ¬ ((65535 : Int32) < x15) := (by have q0 := (by decide : ((65535 : Int32)).toInt = 65535); have q1 := rx15; exact own_ltF (by omega) : ¬ ((65535 : Int32) < x15))
    have hd2 : ¬ ((255 : Int32) < x15) := (by have q0 := (by decide : ((255 : Int32)).toInt = 255); have q1 := rx15; exact own_ltF (by omega) : ¬ ((255 : Int32) < x15))
    refine own_end X0 hlk (v := some (vI x15)) (own_hv hret) (by decide) (by rw [e0]; exact ⟨_, rfl, N0, hd0, hd2, rfl⟩) fun fs hr => pre1 _ ?_
    show St p e below s₁ (mkF m 5 #[sI p0] [(vI x4)]) _
    rw [hp0]
    show St p e below s₁ (mkF m 5 #[sI p0] [(vI 0)]) _
    refine wfy X0 hx hby rfl (pc0 := 5) (pc' := 11) rfl d1_5 rfl ((if0 _ _).trans (teq (by decide : (0 : Int32) = (0 : Int32))).1) (by decide) (by decide) ?_
    show St p e below s₁ (mkF m 11 #[sI p0] []) _
    refine wil X0 hx hby rfl d1_11 rfl ?_
    refine wsp X0 hx hby rfl d1_12 ?_
    refine Own.iand X0.here hx rfl (hb hby d1_15) rfl hx15 ?_
    refine Own.i2c X0.here hx rfl (hb hby d1_16) rfl (own_i2c hd0 hd1) ?_
    exact own_retN X0 hx (t := .char) hret (by simp) (hb hby d1_17) (own_narC hd0 hd1) hr
  · refine own_end X0 hlk (v := some (vI 58)) (own_hv hret) (by decide) (by rw [e0]; exact ⟨_, rfl, N0, (by decide : ¬ ((58 : Int32) < (0 : Int32))), (by decide : ¬ ((255 : Int32) < (58 : Int32))), rfl⟩) fun fs hr => pre1 _ ?_
    refine wfn X0 hx hby rfl d1_5 rfl ((if0 _ _).trans (feq hp0).1) ?_
    refine wbp X0 hx hby rfl d1_8 ?_
    exact retN X0 hx (t := .char) hret (by simp) (hb hby d1_10) hr
def Qrm1 (Z : State) (a1 : Addr) (h0 : Heap) (n0 : Nat) (v : Option Value) (h : Heap) (L : List Loc) : Prop := ∃ x0 : Addr, ∃ xk0 : ClassId, v = none ∧ Fr n0 L ∧ Keep h0 h [a1] ∧ Arv Z h x0 xk0 .byte (0 : Int32) [] (vI 0) ∧ Fld Z h a1 z0 "value" "[B" (vR x0) ∧ Fld Z h a1 z0 "coder" "B" (vI 0)
theorem rm1 (cx : Cx Z a0 w0 w1) (a1 : Addr) (a2 : Addr) (O0 : Old Z n0 h0) (PE1 : Exa Z h0 a1 z0) (PF2 : Fld Z h0 a1 z0 "value" "[B" .null) (PF3 : Fld Z h0 a1 z0 "coder" "B" (vI 0)) (gn4 : n0 ≤ a1) : CtW EL [a1] l Z ⟨z0, "<init>", z13⟩ jdk_42_method_149_code 6 none ⟨1, 4, 8, 12⟩ #[(vR a1), (vR a2), (vI 0), (vI 0), .null] h0 (Qrm1 Z a1 h0 n0) := by
  obtain ⟨hw, hj, hS⟩ := id cx
  refine own_bdW (plainFor_of_name pn63) (fun m => ef62 m a1 a2 0 0) fun p e s m below meth c s₁ hret hlk hZ hx hby hml hown hnm X0 e0 hh C0 hsx hS0 => ?_
  have N0 := Fr.nil n0
  obtain ⟨T1, X1, e1, st1⟩ := initO X0 hx hZ hown (hw _ m19) (hw _ m20) (hw _ m21) e0 (g := (mkF m 1 #[sR a1, sR a2, sI 0, sI 0, sN, sU] [(vR a1)])) rfl (by rw [hml]; rfl) rfl (hb hby d4_1) (by decide) (W := 0) (Nat.le_of_eq rfl) (by decide)
  obtain ⟨sa2, T2, h2, k12, sb2, k2, X2, e2, E2, hS2, hk2, hZ2, hown2, A2, Fc2, Fv2, V2, la2, lb2, Cq2, -, hn2, st2⟩ := ldcCH X1 hx hZ hown (hw _ m22) (own_str hw hj) e1 hS0 (Nat.le_refl _) (own_EW hw hj) (List.mem_of_getElem? (i := 0) rfl) C0.1 (vs := []) (z := (0 : Int32)) ⟨by decide, by decide⟩ (by decide) (by decide) (g := (mkF m 9 #[sR a1, sR a2, sI 0, sI 0, sN, sU] [(vR a1)])) rfl (hb hby d4_9) (n := 0) (by decide) (by decide) (by decide) (by decide)
  have O2 : Old Z n0 h2 := O0.ext E2
  have K2 : Keep h0 h2 [a1] := (Keep.refl h0 [a1]).ext E2
  have C2 := C0.trans Cq2
  obtain ⟨T3, X3, e3, st3⟩ := getF X2 hx hZ2 hown2 (host := "") (Or.inl (hw _ m28)) Via.refl e2 Fv2 (g := (mkF m 11 #[sR a1, sR a2, sI 0, sI 0, sN, sU] [(vR sa2), (vR a1)])) rfl rfl (hb hby d4_11)
  have f4 : Fld Z h2 a1 z0 "value" "[B" .null := (PF2.ext E2)
  have f5 : Exa Z h2 a1 z0 := (PE1.ext E2)
  have f6 : Safe Z EL T2.vm h2 a1 := (CHr.safe Cq2 PE1.lt (hsx _ (List.mem_of_getElem? (i := 0) rfl)))
  obtain ⟨T7, h7, L'7, X7, e7, W7, Fw7, O7, K7, N7, st7⟩ := own_put X3 hx hZ2 hown2 (host := "") (Or.inl (hw _ m28)) Via.refl e3 O2 K2 N0 gn4 (Or.inl (List.mem_of_getElem? (i := 0) rfl)) f4 f5 (Or.inr ⟨(hw _ m24), rfl, hnm⟩) (hw _ m10) (ty := (.array .byte)) (by decide) rfl rfl (g := (mkF m 14 #[sR a1, sR a2, sI 0, sI 0, sN, sU] [(vR sb2), (vR a1)])) rfl rfl (hb hby d4_14)
  have sf7 := f6
  have C7 := C2.trans (CHr.wr W7 sf7 C2.1)
  obtain ⟨sa8, T8, h8, k18, sb8, k8, X8, e8, E8, hS8, hk8, hZ8, hown8, A8, Fc8, Fv8, V8, la8, lb8, Cq8, -, hn8, st8⟩ := ldcCH X7 hx hZ2 hown2 (hw _ m22) (own_str hw hj) e7 hS2 (Nat.le_trans hk2 (Nat.le_of_eq W7.size.symm)) (own_EW hw hj) (List.mem_of_getElem? (i := 0) rfl) C7.1 (vs := []) (z := (0 : Int32)) ⟨by decide, by decide⟩ (by decide) (by decide) (g := (mkF m 18 #[sR a1, sR a2, sI 0, sI 0, sN, sU] [(vR a1)])) rfl (hb hby d4_18) (n := 0) (by decide) (by decide) (by decide) (by decide)
  have O8 : Old Z n0 h8 := O7.ext E8
  have K8 : Keep h0 h8 [a1] := K7.ext E8
  have C8 := C7.trans Cq8
  obtain ⟨T9, X9, e9, st9⟩ := getF X8 hx hZ8 hown8 (host := "") (Or.inl (hw _ m29)) Via.refl e8 Fc8 (g := (mkF m 20 #[sR a1, sR a2, sI 0, sI 0, sN, sU] [(vR sa8), (vR a1)])) rfl rfl (hb hby d4_20)
  have f10 : Fld Z h8 a1 z0 "coder" "B" (vI 0) := (((PF3.ext E2).other W7 (Or.inr (slot_ne (Or.inr (hw _ m25)) (Or.inr (hw _ m24)) (by decide) (t := .byte) (t' := (.array .byte)) (by decide) (by decide)))).ext E8)
  have f11 : Exa Z h8 a1 z0 := ((f5.wr W7).ext E8)
  have f12 : Safe Z EL T8.vm h8 a1 := (CHr.safe Cq8 (Nat.lt_of_lt_of_le PE1.lt (Nat.le_trans E2.1 (Nat.le_of_eq W7.size.symm))) (Safe.wr W7 sf7 C2.1 f6))
  obtain ⟨T13, h13, L'13, X13, e13, W13, Fw13, O13, K13, N13, st13⟩ := own_putN X9 hx hZ8 hown8 (hw _ m29) Via.refl e9 O8 K8 N7 gn4 (Or.inl (List.mem_of_getElem? (i := 0) rfl)) f10 f11 (Or.inr ⟨(hw _ m25), rfl, hnm⟩) (hw _ m10) (ty := .byte) (v' := (vI 0)) (by decide) rfl (by decide) (g := (mkF m 23 #[sR a1, sR a2, sI 0, sI 0, sN, sU] [(vI 0), (vR a1)])) rfl rfl (hb hby d4_23)
  have sf13 := f12
  have C13 := C8.trans (CHr.wr W13 sf13 C8.1)
  have f14 : Arv Z h13 sb2 k2 .byte (0 : Int32) [] (vI 0) := (((V2.other W7 (Ne.symm (Exa.neArv f5 V2 (hw _ m10)))).ext E8).other W13 (Ne.symm (Exa.neArv f5 V2 (hw _ m10))))
  have f15 : Fld Z h13 a1 z0 "value" "[B" (vR sb2) := ((Fw7.ext E8).other W13 (Or.inr (slot_ne (Or.inr (hw _ m24)) (Or.inr (hw _ m25)) (by decide) (t := (.array .byte)) (t' := .byte) (by decide) (by decide))))
  refine own_endW X13 hlk (v := none) (fun _ => rfl) hS8 (Nat.le_trans hk8 (Nat.le_of_eq W13.size.symm)) (by decide) hh e13 C13 hZ8 (own_EW hw hj) (by rw [e13]; exact ⟨sb2, k2, rfl, N13, K13, f14, f15, Fw13⟩) fun fs hr => ?_
  show St p e below s₁ (mkF m 0 #[sR a1, sR a2, sI 0, sI 0, sN, sU] []) _
  refine wal X0 hx hby rfl d4_0 rfl rfl ?_
  refine st1 _ ?_
  refine wil X1 hx hby rfl d4_4 rfl ?_
  refine wfn X1 hx hby rfl d4_5 rfl ((if0 _ _).trans (teq (by decide : (0 : Int32) = (0 : Int32))).2) ?_
  refine wal X1 hx hby rfl d4_8 rfl rfl ?_
  refine st2 _ ?_
  refine st3 _ ?_
  refine st7 _ ?_
  refine wal X7 hx hby rfl d4_17 rfl rfl ?_
  refine st8 _ ?_
  refine st9 _ ?_
  refine st13 _ ?_
  exact X13.returnOut hx hret (hb hby d4_26) hr
def Qrm2 (Z : State) (a1 : Addr) (h0 : Heap) (n0 : Nat) (v : Option Value) (h : Heap) (L : List Loc) : Prop := ∃ x0 : Addr, ∃ xk0 : ClassId, v = none ∧ Fr n0 L ∧ Keep h0 h [a1] ∧ Arv Z h x0 xk0 .byte (0 : Int32) [] (vI 0) ∧ Fld Z h a1 z0 "value" "[B" (vR x0) ∧ Fld Z h a1 z0 "coder" "B" (vI 0)
theorem rm2 (cx : Cx Z a0 w0 w1) (a1 : Addr) (a2 : Addr) (ck3 : ClassId) (O0 : Old Z n0 h0) (PE1 : Exa Z h0 a1 z0) (PF2 : Fld Z h0 a1 z0 "value" "[B" .null) (PF3 : Fld Z h0 a1 z0 "coder" "B" (vI 0)) (PV4 : Arv Z h0 a2 ck3 .char (0 : Int32) [] (vI 0)) (gn5 : n0 ≤ a1) : CtW EL [a1] l Z ⟨z0, "<init>", "([C)V"⟩ jdk_42_method_3_code 2 none ⟨2, 4, 8, 29⟩ #[(vR a1), (vR a2)] h0 (Qrm2 Z a1 h0 n0) := by
  obtain ⟨hw, hj, hS⟩ := id cx
  refine own_bdW (plainFor_of_name pn63) (fun m => ef68 m a1 a2) fun p e s m below meth c s₁ hret hlk hZ hx hby hml hown hnm X0 e0 hh C0 hsx hS0 => ?_
  have N0 := Fr.nil n0
  obtain ⟨_, T1, L1, ⟨c1_0, k1_1, rfl, N1q, Kq1, q1_0, q1_1, q1_2⟩, hS1, hZ1, hown1, Cq1, X1, st1⟩ := cIW X0 hx hZ (W := 0) hown (cw0 cx) (rm1 cx a1 a2 O0 PE1 PF2 PF3 gn5) e0 hS0 (Nat.le_refl _) (own_EW hw hj) C0.1 (own_sxS PE1.lt (hsx _ (List.mem_of_getElem? (i := 0) rfl)) own_sx0) (g := (mkF m 6 #[sR a1, sR a2] [.null, (vI 0), (vI 0), (vR a2), (vR a1)])) rfl hml rfl (rest := []) rfl rfl rfl rfl (hb hby d3_6) (by decide)
  have N1 := Fr.app N0 N1q
  have C1 := C0.trans Cq1
  have O1 : Old Z n0 T1.heap := O0.keep Kq1 (allS gn5 all0)
  have K1 : Keep h0 T1.heap [a1] := (Keep.refl h0 [a1]).trans Kq1 (allS (Or.inl (List.mem_of_getElem? (i := 0) rfl)) all0)
  refine own_endW X1 hlk (v := none) (fun _ => rfl) hS1 (Nat.le_refl _) (by decide) hh (rfl : T1.heap = T1.heap) C1 hZ1 (own_EW hw hj) ⟨c1_0, k1_1, rfl, N1, K1, q1_0, q1_1, q1_2⟩ fun fs hr => ?_
  show St p e below s₁ (mkF m 0 #[sR a1, sR a2] []) _
  refine wal X0 hx hby rfl d3_0 rfl rfl ?_
  refine wal X0 hx hby rfl d3_1 rfl rfl ?_
  refine wic X0 hx hby rfl d3_2 ?_
  refine wal X0 hx hby rfl d3_3 rfl rfl ?_
  refine own_alen X0 hx hZ e0 PV4 (g := (mkF m 4 #[sR a1, sR a2] [(vR a2), (vI 0), (vR a2), (vR a1)])) rfl rfl (hb hby d3_4) ?_
  refine wan X0 hx hby rfl d3_5 ?_
  refine st1 _ ?_
  exact X1.returnOut hx hret (hb hby d3_9) hr
def Qrm3 (Z : State) (h0 : Heap) (n0 : Nat) (v : Option Value) (h : Heap) (L : List Loc) : Prop := ∃ x0 : Addr, ∃ x1 : Addr, ∃ xk0 : ClassId, v = some (vR x0) ∧ Fr n0 L ∧ Keep h0 h [] ∧ h0.size ≤ x0 ∧ Exa Z h x0 z0 ∧ Fld Z h x0 z0 "value" "[B" (vR x1) ∧ Fld Z h x0 z0 "coder" "B" (vI 0) ∧ Arv Z h x1 xk0 .byte (0 : Int32) [] (vI 0)
theorem rm3 (cx : Cx Z a0 w0 w1) (a1 : Addr) (O0 : Old Z n0 h0) : CtW EL [] l Z ⟨z1, "make", z12⟩ method_4_code 2 (some (.object z0)) ⟨3, 6, 12, 43⟩ #[(vI 0), (vR a1)] h0 (Qrm3 Z h0 n0) := by
  obtain ⟨hw, hj, hS⟩ := id cx
  refine own_bdW (plainFor_of_name pn11) (fun m => ef73 m 0 a1) fun p e s m below meth c s₁ hret hlk hZ hx hby hml hown hnm X0 e0 hh C0 hsx hS0 => ?_
  have N0 := Fr.nil n0
  obtain ⟨T1, h1, b1, X1, e1, E1, A1, D1, g1, O1, K1, st1⟩ := own_newO X0 hx hZ hown (hw _ m9) (hw _ m10) (hw _ m11) e0 O0 (Keep.refl h0 []) (g := (mkF m 4 #[sI 0, sR a1] [])) rfl (hb hby d2_4) (by decide) (by decide)
  have C1 := C0.trans (CHr.ext E1 C0.1)
  have F1_1 : Fld Z h1 b1 z0 "value" "[B" .null := D1 (Or.inr (hw _ m24)) (ty := (.array .byte)) (by decide)
  have F1_2 : Fld Z h1 b1 z0 "coder" "B" (vI 0) := D1 (Or.inr (hw _ m25)) (ty := .byte) (by decide)
  obtain ⟨T2, h2, k2, b2, X2, e2, E2, V2, g2, O2, K2, st2⟩ := own_newP X1 hx hZ (aty := .char) (ty := .char) (dv := (.int (0 : Int32))) (vs := []) (cap := 0) rfl rfl rfl (hw _ m1) e1 O1 K1 (g := (mkF m 9 #[sI 0, sR a1] [(vI 0), (vR b1), (vR b1)])) rfl (hb hby d2_9) rfl (by decide) (by decide) (by decide) (by decide) (by decide)
  have C2 := C1.trans (CHr.ext E2 C1.1)
  have f4 : Exa Z h2 b1 z0 := (A1.ext E2)
  have f5 : Fld Z h2 b1 z0 "value" "[B" .null := (F1_1.ext E2)
  have f6 : Fld Z h2 b1 z0 "coder" "B" (vI 0) := (F1_2.ext E2)
  have f7 : Safe Z EL s.vm h2 b1 := (Safe.ext E2 C1.1 (Safe.ext E1 C0.1 (Safe.new g1)))
  obtain ⟨_, T3, L3, ⟨c3_0, k3_1, rfl, N3q, Kq3, q3_0, q3_1, q3_2⟩, hS3, hZ3, hown3, Cq3, X3, st3⟩ := cIW X2 hx hZ (W := 1) hown (cw1 cx) (rm2 cx b1 b2 k2 O2 f4 f5 f6 V2 (Nat.le_trans (own_old_le O0) g1)) e2 hS0 (Nat.le_trans (Nat.le_refl _) (Nat.le_trans E1.1 E2.1)) (own_EW hw hj) C2.1 (own_sxS (Nat.lt_of_lt_of_le A1.lt E2.1) f7 own_sx0) (g := (mkF m 11 #[sI 0, sR a1] [(vR b2), (vR b1), (vR b1)])) rfl hml rfl (rest := [(vR b1)]) rfl rfl rfl rfl (hb hby d2_11) (by decide)
  have N3 := Fr.app N0 N3q
  have C3 := C2.trans Cq3
  have O3 : Old Z n0 T3.heap := O2.keep Kq3 (allS (Nat.le_trans (own_old_le O0) g1) all0)
  have K3 : Keep h0 T3.heap [] := K2.trans Kq3 (allS (Or.inr (Nat.le_trans (Keep.refl h0 []).1 g1)) all0)
  have f8 : Exa Z T3.heap b1 z0 := (f4.keep Kq3)
  refine own_endW X3 hlk (v := some (vR b1)) (own_hv hret) hS3 (Nat.le_refl _) (by decide) hh (rfl : T3.heap = T3.heap) C3 hZ3 (own_EW hw hj) ⟨b1, c3_0, k3_1, rfl, N3, K3, (Nat.le_trans (Keep.refl h0 []).1 g1), f8, q3_1, q3_2, q3_0⟩ fun fs hr => ?_
  show St p e below s₁ (mkF m 0 #[sI 0, sR a1] []) _
  refine wil X0 hx hby rfl d2_0 rfl ?_
  refine wfn X0 hx hby rfl d2_1 rfl ((if0 _ _).trans (teq (by decide : (0 : Int32) = (0 : Int32))).2) ?_
  refine st1 _ ?_
  refine wdu X1 hx hby rfl d2_7 rfl rfl ?_
  refine wic X1 hx hby rfl d2_8 ?_
  refine st2 _ ?_
  refine st3 _ ?_
  exact retOut X3 hx hret rfl (Or.inr (Or.inr (Or.inr (Or.inr ⟨rfl, rfl, rfl⟩)))) (hb hby d2_14) hr
def Qrm4 (Z : State) (h0 : Heap) (n0 : Nat) (v : Option Value) (h : Heap) (L : List Loc) : Prop := v = some (vI 0) ∧ Fr n0 L ∧ h = h0
theorem rm4 (cx : Cx Z a0 w0 w1) (a1 : Addr) (O0 : Old Z n0 h0) (PF1 : Fld Z h0 a1 z0 "coder" "B" (vI 0)) : Ct l Z ⟨z0, "coder", "()B"⟩ jdk_42_method_152_code 1 (some .byte) ⟨0, 0, 0, 0⟩ #[(vR a1)] h0 (Qrm4 Z h0 n0) := by
  obtain ⟨hw, hj, hS⟩ := id cx
  refine own_bd (plainFor_of_name pn63) (fun m => ef104 m a1) fun p e s m below meth c s₁ hret hlk hZ hx hby hml hown hnm X0 e0 => ?_
  have N0 := Fr.nil n0
  obtain ⟨T1, X1, e1, st1⟩ := getS2 X0 hx hZ hown (host := "") (Or.inl (hw _ m49)) Via.refl e0 (hS.1.ext O0.2) (g := (mkF m 0 #[sR a1] [])) rfl (hb hby d9_0)
  obtain ⟨T2, X2, e2, st2⟩ := getF X1 hx hZ hown (host := "") (Or.inl (hw _ m29)) Via.refl e1 PF1 (g := (mkF m 7 #[sR a1] [(vR a1)])) rfl rfl (hb hby d9_7)
  refine own_end X2 hlk (v := some (vI 0)) (own_hv hret) (by decide) (by rw [e2]; exact ⟨rfl, N0, rfl⟩) fun fs hr => ?_
  show St p e below s₁ (mkF m 0 #[sR a1] []) _
  refine st1 _ ?_
  refine wfn X1 hx hby rfl d9_3 rfl ((if0 _ _).trans (feq hS.2.1).1) ?_
  refine wal X1 hx hby rfl d9_6 rfl rfl ?_
  refine st2 _ ?_
  refine wgt X2 hx hby rfl (pc0 := 10) (pc' := 14) rfl d9_10 (by decide) (by decide) ?_
  exact retN X2 hx (t := .byte) hret (by simp) (hb hby d9_14) hr
def Qrm5 (Z : State) (h0 : Heap) (n0 : Nat) (v : Option Value) (h : Heap) (L : List Loc) : Prop := v = some (vI 0) ∧ Fr n0 L ∧ h = h0
theorem rm5 (cx : Cx Z a0 w0 w1) (a1 : Addr) (a2 : Addr) (ck3 : ClassId) (O0 : Old Z n0 h0) (PF1 : Fld Z h0 a1 z0 "value" "[B" (vR a2)) (PV2 : Arv Z h0 a2 ck3 .byte (0 : Int32) [] (vI 0)) (PF3 : Fld Z h0 a1 z0 "coder" "B" (vI 0)) (PE4 : Exa Z h0 a1 z0) : Ct l Z ⟨z0, "length", "()I"⟩ jdk_42_method_54_code 1 (some .int) ⟨1, 0, 0, 13⟩ #[(vR a1)] h0 (Qrm5 Z h0 n0) := by
  obtain ⟨hw, hj, hS⟩ := id cx
  refine own_bd (plainFor_of_name pn63) (fun m => ef104 m a1) fun p e s m below meth c s₁ hret hlk hZ hx hby hml hown hnm X0 e0 => ?_
  have N0 := Fr.nil n0
  obtain ⟨T1, X1, e1, st1⟩ := getF X0 hx hZ hown (host := "") (Or.inl (hw _ m28)) Via.refl e0 PF1 (g := (mkF m 1 #[sR a1] [(vR a1)])) rfl rfl (hb hby d8_1)
  obtain ⟨_, T2, L2, ⟨rfl, N2q, e2⟩, X2, st2⟩ := cV X1 hx hZ (W := 1) hown (cw3 cx) (rm4 cx a1 O0 PF3) e1 PE4 (g := (mkF m 6 #[sR a1] [(vR a1), (vI 0)])) rfl hml rfl (rest := [(vI 0)]) rfl rfl rfl rfl (hb hby d8_6) (by decide)
  refine own_end X2 hlk (v := some (vI 0)) (own_hv hret) (by decide) (by rw [e2]; exact ⟨rfl, (Fr.app N0 N2q), rfl⟩) fun fs hr => ?_
  show St p e below s₁ (mkF m 0 #[sR a1] []) _
  refine wal X0 hx hby rfl d8_0 rfl rfl ?_
  refine st1 _ ?_
  refine own_alen X1 hx hZ e1 PV2 (g := (mkF m 4 #[sR a1] [(vR a2)])) rfl rfl (hb hby d8_4) ?_
  refine wal X1 hx hby rfl d8_5 rfl rfl ?_
  refine st2 _ ?_
  refine Own.ishr X2.here hx rfl (hb hby d8_9) rfl (by decide : ((0 : Int32) >>> ((0 : Int32) &&& 31)) = (0 : Int32)) ?_
  exact retOut X2 hx hret rfl (Or.inl ⟨rfl, Or.inl rfl, _, rfl⟩) (hb hby d8_10) hr
def Qrm6 (Z : State) (h0 : Heap) (n0 : Nat) (v : Option Value) (h : Heap) (L : List Loc) : Prop := v = some (vI 1) ∧ Fr n0 L ∧ h = h0
theorem rm6 (cx : Cx Z a0 w0 w1) (a1 : Addr) (O0 : Old Z n0 h0) (PF1 : Fld Z h0 a1 z0 "coder" "B" (vI 0)) : Ct l Z ⟨z0, "isLatin1", "()Z"⟩ jdk_42_method_154_code 1 (some .boolean) ⟨0, 0, 0, 0⟩ #[(vR a1)] h0 (Qrm6 Z h0 n0) := by
  obtain ⟨hw, hj, hS⟩ := id cx
  refine own_bd (plainFor_of_name pn63) (fun m => ef104 m a1) fun p e s m below meth c s₁ hret hlk hZ hx hby hml hown hnm X0 e0 => ?_
  have N0 := Fr.nil n0
  obtain ⟨T1, X1, e1, st1⟩ := getS2 X0 hx hZ hown (host := "") (Or.inl (hw _ m49)) Via.refl e0 (hS.1.ext O0.2) (g := (mkF m 0 #[sR a1] [])) rfl (hb hby d11_0)
  obtain ⟨T2, X2, e2, st2⟩ := getF X1 hx hZ hown (host := "") (Or.inl (hw _ m29)) Via.refl e1 PF1 (g := (mkF m 7 #[sR a1] [(vR a1)])) rfl rfl (hb hby d11_7)
  refine own_end X2 hlk (v := some (vI 1)) (own_hv hret) (by decide) (by rw [e2]; exact ⟨rfl, N0, rfl⟩) fun fs hr => ?_
  show St p e below s₁ (mkF m 0 #[sR a1] []) _
  refine st1 _ ?_
  refine wfn X1 hx hby rfl d11_3 rfl ((if0 _ _).trans (feq hS.2.1).1) ?_
  refine wal X1 hx hby rfl d11_6 rfl rfl ?_
  refine st2 _ ?_
  refine wfn X2 hx hby rfl d11_10 rfl ((if0 _ _).trans (teq (by decide : (0 : Int32) = (0 : Int32))).2) ?_
  refine wic X2 hx hby rfl d11_13 ?_
  refine wgt X2 hx hby rfl (pc0 := 14) (pc' := 18) rfl d11_14 (by decide) (by decide) ?_
  exact retN X2 hx (t := .boolean) hret (by simp) (hb hby d11_18) hr
def Qrm7 (Z : State) (h0 : Heap) (n0 : Nat) (v : Option Value) (h : Heap) (L : List Loc) : Prop := v = some (vI 1) ∧ Fr n0 L ∧ h = h0
theorem rm7 (cx : Cx Z a0 w0 w1) (p1 : Int32) (O0 : Old Z n0 h0) (hc1 : ¬ (p1 < (0 : Int32))) (hc2 : ¬ ((255 : Int32) < p1)) : Ct l Z ⟨z2, "canEncode", "(I)Z"⟩ jdk_43_method_4_code 1 (some .boolean) ⟨0, 0, 0, 0⟩ #[(vI p1)] h0 (Qrm7 Z h0 n0) := by
  obtain ⟨hw, hj, hS⟩ := id cx
  refine own_bd (plainFor_of_name pn154) (fun m => ef12 m p1) fun p e s m below meth c s₁ hret hlk hZ hx hby hml hown hnm X0 e0 => ?_
  have N0 := Fr.nil n0
  refine own_end X0 hlk (v := some (vI 1)) (own_hv hret) (by decide) (by rw [e0]; exact ⟨rfl, N0, rfl⟩) fun fs hr => ?_
  show St p e below s₁ (mkF m 0 #[sI p1] []) _
  refine wil X0 hx hby rfl d13_0 rfl ?_
  refine wfn X0 hx hby rfl d13_1 rfl ((if0 _ _).trans (flt hc1).1) ?_
  refine wil X0 hx hby rfl d13_4 rfl ?_
  refine wsp X0 hx hby rfl d13_5 ?_
  refine wcn X0 hx hby rfl d13_8 rfl (flt hc2).2.2.1 ?_
  refine wic X0 hx hby rfl d13_11 ?_
  refine wgt X0 hx hby rfl (pc0 := 12) (pc' := 16) rfl d13_12 (by decide) (by decide) ?_
  exact retN X0 hx (t := .boolean) hret (by simp) (hb hby d13_16) hr
def Qrm8 (Z : State) (p1 : Int32) (h0 : Heap) (n0 : Nat) (v : Option Value) (h : Heap) (L : List Loc) : Prop := v = some (vI p1) ∧ Fr n0 L ∧ h = h0
theorem rm8 (cx : Cx Z a0 w0 w1) (p1 : Int32) (O0 : Old Z n0 h0) : Ct l Z ⟨"java/lang/Math", "min", "(II)I"⟩ jdk_29_method_69_code 2 (some .int) ⟨0, 0, 0, 0⟩ #[(vI p1), (vI p1)] h0 (Qrm8 Z p1 h0 n0) := by
  obtain ⟨hw, hj, hS⟩ := id cx
  refine own_bd (Jvm.Free.JP.mathPlain rfl (by decide +kernel)) (fun m => ef173 m p1 p1) fun p e s m below meth c s₁ hret hlk hZ hx hby hml hown hnm X0 e0 => ?_
  have N0 := Fr.nil n0
  refine own_end X0 hlk (v := some (vI p1)) (own_hv hret) (by decide) (by rw [e0]; exact ⟨rfl, N0, rfl⟩) fun fs hr => ?_
  show St p e below s₁ (mkF m 0 #[sI p1, sI p1] []) _
  refine wil X0 hx hby rfl d14_0 rfl ?_
  refine wil X0 hx hby rfl d14_1 rfl ?_
  refine wcn X0 hx hby rfl d14_2 rfl (flt (own_irr _)).2.2.1 ?_
  refine wil X0 hx hby rfl d14_5 rfl ?_
  refine wgt X0 hx hby rfl (pc0 := 6) (pc' := 10) rfl d14_6 (by decide) (by decide) ?_
  exact retOut X0 hx hret rfl (Or.inl ⟨rfl, Or.inl rfl, _, rfl⟩) (hb hby d14_10) hr
def Qrm9 (Z : State) (h0 : Heap) (n0 : Nat) (v : Option Value) (h : Heap) (L : List Loc) : Prop := v = some (vI (-1)) ∧ Fr n0 L ∧ h = h0
theorem rm9 (cx : Cx Z a0 w0 w1) (a1 : Addr) (ck2 : ClassId) (O0 : Old Z n0 h0) (PV1 : Arv Z h0 a1 ck2 .byte (0 : Int32) [] (vI 0)) : Ct l Z ⟨z2, z4, "([BII)I"⟩ jdk_43_method_27_code 4 (some .int) ⟨1, 0, 0, 13⟩ #[(vR a1), (vI 58), (vI (-1))] h0 (Qrm9 Z h0 n0) := by
  obtain ⟨hw, hj, hS⟩ := id cx
  refine own_bd (plainFor_of_name pn154) (fun m => ef183 m a1 58 (-1)) fun p e s m below meth c s₁ hret hlk hZ hx hby hml hown hnm X0 e0 => ?_
  have N0 := Fr.nil n0
  obtain ⟨_, T1, L1, ⟨rfl, N1q, e1⟩, X1, st1⟩ := cS X0 hx hZ (W := 0) hown (cw6 cx) (rm7 cx 58 O0 (by decide : ¬ ((58 : Int32) < (0 : Int32))) (by decide : ¬ ((255 : Int32) < (58 : Int32)))) e0 (g := (mkF m 1 #[sR a1, sI 58, sI (-1), sU] [(vI 58)])) rfl hml rfl (rest := []) rfl rfl rfl rfl (hb hby d12_1) (by decide)
  obtain ⟨_, T2, L2, ⟨rfl, N2q, e2⟩, X2, st2⟩ := cS X1 hx hZ (W := 0) hown (cw7 cx) (rm8 cx (-1) O0) e1 (g := (mkF m 14 #[sR a1, sI 58, sI (-1), sU] [(vI (-1)), (vI (-1))])) rfl hml rfl (rest := []) rfl rfl rfl rfl (hb hby d12_14) (by decide)
  refine own_end X2 hlk (v := some (vI (-1))) (own_hv hret) (by decide) (by rw [e2]; exact ⟨rfl, (Fr.app (Fr.app N0 N1q) N2q), rfl⟩) fun fs hr => ?_
  show St p e below s₁ (mkF m 0 #[sR a1, sI 58, sI (-1), sU] []) _
  refine wil X0 hx hby rfl d12_0 rfl ?_
  refine st1 _ ?_
  refine wfy X1 hx hby rfl (pc0 := 4) (pc' := 9) rfl d12_4 rfl ((if0 _ _).trans (feq (by decide : ¬ ((1 : Int32) = (0 : Int32)))).2) (by decide) (by decide) ?_
  refine wil X1 hx hby rfl d12_9 rfl ?_
  refine wal X1 hx hby rfl d12_10 rfl rfl ?_
  refine own_alen X1 hx hZ e1 PV1 (g := (mkF m 11 #[sR a1, sI 58, sI (-1), sU] [(vR a1), (vI (-1))])) rfl rfl (hb hby d12_11) ?_
  refine wic X1 hx hby rfl d12_12 ?_
  refine Own.isub X1.here hx rfl (hb hby d12_13) rfl (by decide : ((0 : Int32) - (1 : Int32)) = (-1 : Int32)) ?_
  refine st2 _ ?_
  refine wis X2 hx hby rfl d12_17 rfl (l' := #[sR a1, sI 58, sI (-1), sI (-1)]) rfl ?_
  refine wil X2 hx hby rfl d12_18 rfl ?_
  refine wfy X2 hx hby rfl (pc0 := 19) (pc' := 38) rfl d12_19 rfl ((if0 _ _).trans (tlt (by decide : (-1 : Int32) < (0 : Int32))).1) (by decide) (by decide) ?_
  refine wic X2 hx hby rfl d12_38 ?_
  exact retOut X2 hx hret rfl (Or.inl ⟨rfl, Or.inl rfl, _, rfl⟩) (hb hby d12_39) hr
def Qrm10 (Z : State) (h0 : Heap) (n0 : Nat) (v : Option Value) (h : Heap) (L : List Loc) : Prop := v = some (vI (-1)) ∧ Fr n0 L ∧ h = h0
theorem rm10 (cx : Cx Z a0 w0 w1) (a1 : Addr) (a2 : Addr) (ck3 : ClassId) (O0 : Old Z n0 h0) (PF1 : Fld Z h0 a1 z0 "coder" "B" (vI 0)) (PE2 : Exa Z h0 a1 z0) (PF3 : Fld Z h0 a1 z0 "value" "[B" (vR a2)) (PV4 : Arv Z h0 a2 ck3 .byte (0 : Int32) [] (vI 0)) : Ct l Z ⟨z0, z4, "(II)I"⟩ jdk_42_method_83_code 3 (some .int) ⟨2, 0, 0, 28⟩ #[(vR a1), (vI 58), (vI (-1))] h0 (Qrm10 Z h0 n0) := by
  obtain ⟨hw, hj, hS⟩ := id cx
  refine own_bd (plainFor_of_name pn63) (fun m => ef189 m a1 58 (-1)) fun p e s m below meth c s₁ hret hlk hZ hx hby hml hown hnm X0 e0 => ?_
  have N0 := Fr.nil n0
  obtain ⟨_, T1, L1, ⟨rfl, N1q, e1⟩, X1, st1⟩ := cV X0 hx hZ (W := 0) hown (cw5 cx) (rm6 cx a1 O0 PF1) e0 PE2 (g := (mkF m 1 #[sR a1, sI 58, sI (-1)] [(vR a1)])) rfl hml rfl (rest := []) rfl rfl rfl rfl (hb hby d10_1) (by decide)
  obtain ⟨T2, X2, e2, st2⟩ := getF X1 hx hZ hown (host := "") (Or.inl (hw _ m28)) Via.refl e1 PF3 (g := (mkF m 8 #[sR a1, sI 58, sI (-1)] [(vR a1)])) rfl rfl (hb hby d10_8)
  obtain ⟨_, T3, L3, ⟨rfl, N3q, e3⟩, X3, st3⟩ := cS X2 hx hZ (W := 0) hown (cw8 cx) (rm9 cx a2 ck3 O0 PV4) e2 (g := (mkF m 13 #[sR a1, sI 58, sI (-1)] [(vI (-1)), (vI 58), (vR a2)])) rfl hml rfl (rest := []) rfl rfl rfl rfl (hb hby d10_13) (by decide)
  refine own_end X3 hlk (v := some (vI (-1))) (own_hv hret) (by decide) (by rw [e3]; exact ⟨rfl, (Fr.app (Fr.app N0 N1q) N3q), rfl⟩) fun fs hr => ?_
  show St p e below s₁ (mkF m 0 #[sR a1, sI 58, sI (-1)] []) _
  refine wal X0 hx hby rfl d10_0 rfl rfl ?_
  refine st1 _ ?_
  refine wfn X1 hx hby rfl d10_4 rfl ((if0 _ _).trans (feq (by decide : ¬ ((1 : Int32) = (0 : Int32)))).1) ?_
  refine wal X1 hx hby rfl d10_7 rfl rfl ?_
  refine st2 _ ?_
  refine wil X2 hx hby rfl d10_11 rfl ?_
  refine wil X2 hx hby rfl d10_12 rfl ?_
  refine st3 _ ?_
  refine wgt X3 hx hby rfl (pc0 := 16) (pc' := 28) rfl d10_16 (by decide) (by decide) ?_
  exact retOut X3 hx hret rfl (Or.inl ⟨rfl, Or.inl rfl, _, rfl⟩) (hb hby d10_28) hr
def Qrm11 (Z : State) (h0 : Heap) (n0 : Nat) (v : Option Value) (h : Heap) (L : List Loc) : Prop := v = some (vI (-1)) ∧ Fr n0 L ∧ h = h0
theorem rm11 (cx : Cx Z a0 w0 w1) (a1 : Addr) (a2 : Addr) (ck3 : ClassId) (O0 : Old Z n0 h0) (PF1 : Fld Z h0 a1 z0 "value" "[B" (vR a2)) (PV2 : Arv Z h0 a2 ck3 .byte (0 : Int32) [] (vI 0)) (PF3 : Fld Z h0 a1 z0 "coder" "B" (vI 0)) (PE4 : Exa Z h0 a1 z0) : Ct l Z ⟨z0, z4, "(I)I"⟩ jdk_42_method_82_code 2 (some .int) ⟨3, 0, 0, 42⟩ #[(vR a1), (vI 58)] h0 (Qrm11 Z h0 n0) := by
  obtain ⟨hw, hj, hS⟩ := id cx
  refine own_bd (plainFor_of_name pn63) (fun m => ef194 m a1 58) fun p e s m below meth c s₁ hret hlk hZ hx hby hml hown hnm X0 e0 => ?_
  have N0 := Fr.nil n0
  obtain ⟨_, T1, L1, ⟨rfl, N1q, e1⟩, X1, st1⟩ := cV X0 hx hZ (W := 2) hown (cw4 cx) (rm5 cx a1 a2 ck3 O0 PF1 PV2 PF3 PE4) e0 PE4 (g := (mkF m 3 #[sR a1, sI 58] [(vR a1), (vI 58), (vR a1)])) rfl hml rfl (rest := [(vI 58), (vR a1)]) rfl rfl rfl rfl (hb hby d7_3) (by decide)
  obtain ⟨_, T2, L2, ⟨rfl, N2q, e2⟩, X2, st2⟩ := cV X1 hx hZ (W := 0) hown (cw9 cx) (rm10 cx a1 a2 ck3 O0 PF3 PE4 PF1 PV2) e1 PE4 (g := (mkF m 8 #[sR a1, sI 58] [(vI (-1)), (vI 58), (vR a1)])) rfl hml rfl (rest := []) rfl rfl rfl rfl (hb hby d7_8) (by decide)
  refine own_end X2 hlk (v := some (vI (-1))) (own_hv hret) (by decide) (by rw [e2]; exact ⟨rfl, (Fr.app (Fr.app N0 N1q) N2q), rfl⟩) fun fs hr => ?_
  show St p e below s₁ (mkF m 0 #[sR a1, sI 58] []) _
  refine wal X0 hx hby rfl d7_0 rfl rfl ?_
  refine wil X0 hx hby rfl d7_1 rfl ?_
  refine wal X0 hx hby rfl d7_2 rfl rfl ?_
  refine st1 _ ?_
  refine wic X1 hx hby rfl d7_6 ?_
  refine Own.isub X1.here hx rfl (hb hby d7_7) rfl (by decide : ((0 : Int32) - (1 : Int32)) = (-1 : Int32)) ?_
  refine st2 _ ?_
  exact retOut X2 hx hret rfl (Or.inl ⟨rfl, Or.inl rfl, _, rfl⟩) (hb hby d7_11) hr
def Qrm12 (Z : State) (p1 : Int32) (h0 : Heap) (n0 : Nat) (v : Option Value) (h : Heap) (L : List Loc) : Prop := v = some (vI p1) ∧ Fr n0 L ∧ h = h0
theorem rm12 (cx : Cx Z a0 w0 w1) (p1 : Int32) (O0 : Old Z n0 h0) (hc1 : ¬ (p1 < (0 : Int32))) : Ct l Z ⟨z10, "checkFromToIndex", "(IIILjava/util/function/BiFunction;)I"⟩ jdk_41_method_12_code 4 (some .int) ⟨0, 0, 0, 0⟩ #[(vI p1), (vI p1), (vI p1), w1] h0 (Qrm12 Z p1 h0 n0) := by
  obtain ⟨hw, hj, hS⟩ := id cx
  refine own_bd (plainFor_of_name pn237) (fun m => ef236 m p1 p1 p1 w1 hS.2.2.2) fun p e s m below meth c s₁ hret hlk hZ hx hby hml hown hnm X0 e0 => ?_
  have N0 := Fr.nil n0
  refine own_end X0 hlk (v := some (vI p1)) (own_hv hret) (by decide) (by rw [e0]; exact ⟨rfl, N0, rfl⟩) fun fs hr => ?_
  show St p e below s₁ (mkF m 0 #[sI p1, sI p1, sI p1, .val w1] []) _
  refine wil X0 hx hby rfl d18_0 rfl ?_
  refine wfn X0 hx hby rfl d18_1 rfl ((if0 _ _).trans (flt hc1).1) ?_
  refine wil X0 hx hby rfl d18_4 rfl ?_
  refine wil X0 hx hby rfl d18_5 rfl ?_
  refine wcn X0 hx hby rfl d18_6 rfl (flt (own_irr _)).2.2.1 ?_
  refine wil X0 hx hby rfl d18_9 rfl ?_
  refine wil X0 hx hby rfl d18_10 rfl ?_
  refine wcy X0 hx hby rfl (pc0 := 11) (pc' := 22) rfl d18_11 rfl (flt (own_irr _)).2.2.2 (by decide) (by decide) ?_
  refine wil X0 hx hby rfl d18_22 rfl ?_
  exact retOut X0 hx hret rfl (Or.inl ⟨rfl, Or.inl rfl, _, rfl⟩) (hb hby d18_23) hr
def Qrm13 (Z : State) (h0 : Heap) (n0 : Nat) (v : Option Value) (h : Heap) (L : List Loc) : Prop := v = none ∧ Fr n0 L ∧ h = h0
theorem rm13 (cx : Cx Z a0 w0 w1) (p1 : Int32) (O0 : Old Z n0 h0) (hc1 : ¬ (p1 < (0 : Int32))) : Ct l Z ⟨z0, "checkBoundsBeginEnd", "(III)V"⟩ jdk_42_method_158_code 3 none ⟨1, 0, 0, 15⟩ #[(vI p1), (vI p1), (vI p1)] h0 (Qrm13 Z h0 n0) := by
  obtain ⟨hw, hj, hS⟩ := id cx
  refine own_bd (plainFor_of_name pn63) (fun m => ef244 m p1 p1 p1) fun p e s m below meth c s₁ hret hlk hZ hx hby hml hown hnm X0 e0 => ?_
  have N0 := Fr.nil n0
  obtain ⟨T1, X1, e1, st1⟩ := getS2 X0 hx hZ hown (host := "") (Or.inl (hw _ m84)) Via.refl e0 (hS.2.2.1.ext O0.2) (g := (mkF m 3 #[sI p1, sI p1, sI p1] [(vI p1), (vI p1), (vI p1)])) rfl (hb hby d17_3)
  obtain ⟨_, T2, L2, ⟨rfl, N2q, e2⟩, X2, st2⟩ := cS X1 hx hZ (W := 0) hown (cw11 cx) (rm12 cx p1 O0 hc1) e1 (g := (mkF m 6 #[sI p1, sI p1, sI p1] [w1, (vI p1), (vI p1), (vI p1)])) rfl hml rfl (rest := []) rfl rfl rfl rfl (hb hby d17_6) (by decide)
  refine own_end X2 hlk (v := none) (fun _ => rfl) (by decide) (by rw [e2]; exact ⟨rfl, (Fr.app N0 N2q), rfl⟩) fun fs hr => ?_
  show St p e below s₁ (mkF m 0 #[sI p1, sI p1, sI p1] []) _
  refine wil X0 hx hby rfl d17_0 rfl ?_
  refine wil X0 hx hby rfl d17_1 rfl ?_
  refine wil X0 hx hby rfl d17_2 rfl ?_
  refine st1 _ ?_
  refine st2 _ ?_
  refine XS.pop X2.here hx rfl (hb hby d17_9) rfl rfl ?_
  exact X2.returnOut hx hret (hb hby d17_10) hr
def Qrm14 (Z : State) (a1 : Addr) (h0 : Heap) (n0 : Nat) (v : Option Value) (h : Heap) (L : List Loc) : Prop := v = some (vR a1) ∧ Fr n0 L ∧ h = h0
theorem rm14 (cx : Cx Z a0 w0 w1) (a1 : Addr) (a2 : Addr) (ck3 : ClassId) (O0 : Old Z n0 h0) (PF1 : Fld Z h0 a1 z0 "value" "[B" (vR a2)) (PV2 : Arv Z h0 a2 ck3 .byte (0 : Int32) [] (vI 0)) (PF3 : Fld Z h0 a1 z0 "coder" "B" (vI 0)) (PE4 : Exa Z h0 a1 z0) : Ct l Z ⟨z0, "substring", z8⟩ jdk_42_method_92_code 5 (some (.object z0)) ⟨2, 0, 0, 29⟩ #[(vR a1), (vI 0), (vI 0)] h0 (Qrm14 Z a1 h0 n0) := by
  obtain ⟨hw, hj, hS⟩ := id cx
  refine own_bd (plainFor_of_name pn63) (fun m => ef255 m a1 0 0) fun p e s m below meth c s₁ hret hlk hZ hx hby hml hown hnm X0 e0 => ?_
  have N0 := Fr.nil n0
  obtain ⟨_, T1, L1, ⟨rfl, N1q, e1⟩, X1, st1⟩ := cV X0 hx hZ (W := 0) hown (cw4 cx) (rm5 cx a1 a2 ck3 O0 PF1 PV2 PF3 PE4) e0 PE4 (g := (mkF m 1 #[sR a1, sI 0, sI 0, sU, sU] [(vR a1)])) rfl hml rfl (rest := []) rfl rfl rfl rfl (hb hby d16_1) (by decide)
  obtain ⟨_, T2, L2, ⟨rfl, N2q, e2⟩, X2, st2⟩ := cS X1 hx hZ (W := 0) hown (cw12 cx) (rm13 cx 0 O0 (by decide : ¬ ((0 : Int32) < (0 : Int32)))) e1 (g := (mkF m 8 #[sR a1, sI 0, sI 0, sI 0, sU] [(vI 0), (vI 0), (vI 0)])) rfl hml rfl (rest := []) rfl rfl rfl rfl (hb hby d16_8) (by decide)
  refine own_end X2 hlk (v := some (vR a1)) (own_hv hret) (by decide) (by rw [e2]; exact ⟨rfl, (Fr.app (Fr.app N0 N1q) N2q), rfl⟩) fun fs hr => ?_
  show St p e below s₁ (mkF m 0 #[sR a1, sI 0, sI 0, sU, sU] []) _
  refine wal X0 hx hby rfl d16_0 rfl rfl ?_
  refine st1 _ ?_
  refine wis X1 hx hby rfl d16_4 rfl (l' := #[sR a1, sI 0, sI 0, sI 0, sU]) rfl ?_
  refine wil X1 hx hby rfl d16_5 rfl ?_
  refine wil X1 hx hby rfl d16_6 rfl ?_
  refine wil X1 hx hby rfl d16_7 rfl ?_
  refine st2 _ ?_
  refine wil X2 hx hby rfl d16_11 rfl ?_
  refine wfn X2 hx hby rfl d16_12 rfl ((if0 _ _).trans (teq (by decide : (0 : Int32) = (0 : Int32))).2) ?_
  refine wil X2 hx hby rfl d16_15 rfl ?_
  refine wil X2 hx hby rfl d16_16 rfl ?_
  refine wcn X2 hx hby rfl d16_17 rfl (teq (by decide : (0 : Int32) = (0 : Int32))).2 ?_
  refine wal X2 hx hby rfl d16_20 rfl rfl ?_
  exact retOut X2 hx hret rfl (Or.inr (Or.inr (Or.inr (Or.inr ⟨rfl, rfl, rfl⟩)))) (hb hby d16_21) hr
def Qrm15 (Z : State) (a1 : Addr) (h0 : Heap) (n0 : Nat) (v : Option Value) (h : Heap) (L : List Loc) : Prop := v = some (vR a1) ∧ Fr n0 L ∧ h = h0
theorem rm15 (cx : Cx Z a0 w0 w1) (a1 : Addr) (a2 : Addr) (ck3 : ClassId) (O0 : Old Z n0 h0) (PF1 : Fld Z h0 a1 z0 "value" "[B" (vR a2)) (PV2 : Arv Z h0 a2 ck3 .byte (0 : Int32) [] (vI 0)) (PF3 : Fld Z h0 a1 z0 "coder" "B" (vI 0)) (PE4 : Exa Z h0 a1 z0) : Ct l Z ⟨z0, "substring", z9⟩ jdk_42_method_91_code 2 (some (.object z0)) ⟨3, 0, 0, 45⟩ #[(vR a1), (vI 0)] h0 (Qrm15 Z a1 h0 n0) := by
  obtain ⟨hw, hj, hS⟩ := id cx
  refine own_bd (plainFor_of_name pn63) (fun m => ef194 m a1 0) fun p e s m below meth c s₁ hret hlk hZ hx hby hml hown hnm X0 e0 => ?_
  have N0 := Fr.nil n0
  obtain ⟨_, T1, L1, ⟨rfl, N1q, e1⟩, X1, st1⟩ := cV X0 hx hZ (W := 2) hown (cw4 cx) (rm5 cx a1 a2 ck3 O0 PF1 PV2 PF3 PE4) e0 PE4 (g := (mkF m 3 #[sR a1, sI 0] [(vR a1), (vI 0), (vR a1)])) rfl hml rfl (rest := [(vI 0), (vR a1)]) rfl rfl rfl rfl (hb hby d15_3) (by decide)
  obtain ⟨_, T2, L2, ⟨rfl, N2q, e2⟩, X2, st2⟩ := cV X1 hx hZ (W := 0) hown (cw13 cx) (rm14 cx a1 a2 ck3 O0 PF1 PV2 PF3 PE4) e1 PE4 (g := (mkF m 6 #[sR a1, sI 0] [(vI 0), (vI 0), (vR a1)])) rfl hml rfl (rest := []) rfl rfl rfl rfl (hb hby d15_6) (by decide)
  refine own_end X2 hlk (v := some (vR a1)) (own_hv hret) (by decide) (by rw [e2]; exact ⟨rfl, (Fr.app (Fr.app N0 N1q) N2q), rfl⟩) fun fs hr => ?_
  show St p e below s₁ (mkF m 0 #[sR a1, sI 0] []) _
  refine wal X0 hx hby rfl d15_0 rfl rfl ?_
  refine wil X0 hx hby rfl d15_1 rfl ?_
  refine wal X0 hx hby rfl d15_2 rfl rfl ?_
  refine st1 _ ?_
  refine st2 _ ?_
  exact retOut X2 hx hret rfl (Or.inr (Or.inr (Or.inr (Or.inr ⟨rfl, rfl, rfl⟩)))) (hb hby d15_9) hr
def Qrm16 (Z : State) (a1 : Addr) (h0 : Heap) (n0 : Nat) (v : Option Value) (h : Heap) (L : List Loc) : Prop := v = some (vR a1) ∧ Fr n0 L ∧ h = h0
theorem rm16 (cx : Cx Z a0 w0 w1) (a1 : Addr) (a2 : Addr) (ck3 : ClassId) (O0 : Old Z n0 h0) (PF1 : Fld Z h0 a1 z0 "value" "[B" (vR a2)) (PV2 : Arv Z h0 a2 ck3 .byte (0 : Int32) [] (vI 0)) (PF3 : Fld Z h0 a1 z0 "coder" "B" (vI 0)) (PE4 : Exa Z h0 a1 z0) : Ct l Z ⟨z3, "localPart", z5⟩ prog_13_method_17_code 1 (some (.object z0)) ⟨4, 0, 0, 58⟩ #[(vR a1)] h0 (Qrm16 Z a1 h0 n0) := by
  obtain ⟨hw, hj, hS⟩ := id cx
  refine own_bd (plainFor_of_name pn266) (fun m => ef104 m a1) fun p e s m below meth c s₁ hret hlk hZ hx hby hml hown hnm X0 e0 => ?_
  have N0 := Fr.nil n0
  obtain ⟨_, T1, L1, ⟨rfl, N1q, e1⟩, X1, st1⟩ := cV X0 hx hZ (W := 1) hown (cw10 cx) (rm11 cx a1 a2 ck3 O0 PF1 PV2 PF3 PE4) e0 PE4 (g := (mkF m 4 #[sR a1] [(vI 58), (vR a1), (vR a1)])) rfl hml rfl (rest := [(vR a1)]) rfl rfl rfl rfl (hb hby d6_4) (by decide)
  obtain ⟨_, T2, L2, ⟨rfl, N2q, e2⟩, X2, st2⟩ := cV X1 hx hZ (W := 0) hown (cw14 cx) (rm15 cx a1 a2 ck3 O0 PF1 PV2 PF3 PE4) e1 PE4 (g := (mkF m 9 #[sR a1] [(vI 0), (vR a1)])) rfl hml rfl (rest := []) rfl rfl rfl rfl (hb hby d6_9) (by decide)
  refine own_end X2 hlk (v := some (vR a1)) (own_hv hret) (by decide) (by rw [e2]; exact ⟨rfl, (Fr.app (Fr.app N0 N1q) N2q), rfl⟩) fun fs hr => ?_
  show St p e below s₁ (mkF m 0 #[sR a1] []) _
  refine wal X0 hx hby rfl d6_0 rfl rfl ?_
  refine wal X0 hx hby rfl d6_1 rfl rfl ?_
  refine wbp X0 hx hby rfl d6_2 ?_
  refine st1 _ ?_
  refine wic X1 hx hby rfl d6_7 ?_
  refine Own.iadd X1.here hx rfl (hb hby d6_8) rfl (by decide : ((-1 : Int32) + (1 : Int32)) = (0 : Int32)) ?_
  refine st2 _ ?_
  exact retOut X2 hx hret rfl (Or.inr (Or.inr (Or.inr (Or.inr ⟨rfl, rfl, rfl⟩)))) (hb hby d6_12) hr
def Qrm17 (Z : State) (a1 : Addr) (ck2 : ClassId) (p4 : Int32) (h0 : Heap) (n0 : Nat) (v : Option Value) (h : Heap) (L : List Loc) : Prop := v = some (vI 1) ∧ Fr n0 L ∧ Keep h0 h [a1] ∧ Arv Z h a1 ck2 .byte (1 : Int32) [(vI (p4.toInt8.toInt32))] (vI 0)
theorem rm17 (cx : Cx Z a0 w0 w1) (a1 : Addr) (ck2 : ClassId) (a3 : Addr) (p4 : Int32) (ck5 : ClassId) (O0 : Old Z n0 h0) (PV1 : Arv Z h0 a1 ck2 .byte (1 : Int32) [(vI 0)] (vI 0)) (PV2 : Arv Z h0 a3 ck5 .char (1 : Int32) [(vI p4)] (vI 0)) (hc3 : ¬ ((255 : Int32) < p4)) (gn4 : n0 ≤ a1) : Ct l Z ⟨z6, "compress", "([CI[BII)I"⟩ jdk_52_method_21_code 7 (some .int) ⟨0, 0, 0, 0⟩ #[(vR a3), (vI 0), (vR a1), (vI 0), (vI 1)] h0 (Qrm17 Z a1 ck2 p4 h0 n0) := by
  obtain ⟨hw, hj, hS⟩ := id cx
  refine own_bd (plainFor_of_name pn328) (fun m => ef327 m a3 0 a1 0 1) fun p e s m below meth c s₁ hret hlk hZ hx hby hml hown hnm X0 e0 => ?_
  have N0 := Fr.nil n0
  have hu0 : ¬ ((p4.toInt8.toInt32) < (-128 : Int32)) := (by have q0 := own_rng p4; have q1 := c_i2b p4; have q2 := (by decide : ((-128 : Int32)).toInt = -128); exact own_ltF (by omega))
  have hu1 : ¬ ((127 : Int32) < (p4.toInt8.toInt32)) := (by have q0 := (by decide : ((127 : Int32)).toInt = 127); have q1 := own_rng p4; have q2 := c_i2b p4; exact own_ltF (by omega))
  obtain ⟨T1, h1, L'1, X1, e1, W1, V1, O1, K1, N1, st1⟩ := own_stB X0 hx hZ e0 PV1 O0 (Keep.refl h0 [a1]) N0 gn4 (Or.inl (List.mem_of_getElem? (i := 0) rfl)) (j := (0 : Int32)) 0 (by decide) (Nat.le_of_ble_eq_true rfl) (v := (vI (p4.toInt8.toInt32))) (congrArg Value.int (own_narB hu0 hu1)) (vs' := [(vI (p4.toInt8.toInt32))]) rfl (g := (mkF m 31 #[sR a3, sI 0, sR a1, sI 0, sI 1, sI 0, sI p4] [(vI (p4.toInt8.toInt32)), (vI 0), (vR a1)])) rfl rfl (hb hby d20_31)
  refine own_end X1 hlk (v := some (vI 1)) (own_hv hret) (by decide) (by rw [e1]; exact ⟨rfl, N1, K1, V1⟩) fun fs hr => ?_
  show St p e below s₁ (mkF m 0 #[sR a3, sI 0, sR a1, sI 0, sI 1, sU, sU] []) _
  refine wic X0 hx hby rfl d20_0 ?_
  refine wiS X0 hx hby rfl d20_1 rfl (l' := #[sR a3, sI 0, sR a1, sI 0, sI 1, sI 0, sU]) rfl ?_
  refine wiL X0 hx hby rfl d20_3 rfl ?_
  refine wiL X0 hx hby rfl d20_5 rfl ?_
  refine wcn X0 hx hby rfl d20_7 rfl (tlt (by decide : (0 : Int32) < (1 : Int32))).2.1 ?_
  refine wal X0 hx hby rfl d20_10 rfl rfl ?_
  refine wil X0 hx hby rfl d20_11 rfl ?_
  refine own_caload X0 hx hZ e0 PV2 (j := 0) (by decide) (v := (vI p4)) rfl (g := (mkF m 12 #[sR a3, sI 0, sR a1, sI 0, sI 1, sI 0, sU] [(vI 0), (vR a3)])) rfl rfl (hb hby d20_12) ?_
  refine wiS X0 hx hby rfl d20_13 rfl (l' := #[sR a3, sI 0, sR a1, sI 0, sI 1, sI 0, sI p4]) rfl ?_
  refine wiL X0 hx hby rfl d20_15 rfl ?_
  refine wsp X0 hx hby rfl d20_17 ?_
  refine wcy X0 hx hby rfl (pc0 := 20) (pc' := 26) rfl d20_20 rfl (flt hc3).2.2.2 (by decide) (by decide) ?_
  refine wal X0 hx hby rfl d20_26 rfl rfl ?_
  refine wil X0 hx hby rfl d20_27 rfl ?_
  refine wiL X0 hx hby rfl d20_28 rfl ?_
  refine XS.i2b X0.here hx rfl (hb hby d20_30) rfl ?_
  show St p e below s₁ (mkF m 31 #[sR a3, sI 0, sR a1, sI 0, sI 1, sI 0, sI p4] [(vI (p4.toInt8.toInt32)), (vI 0), (vR a1)]) _
  refine st1 _ ?_
  refine Own.iinc X1.here hx rfl (hb hby d20_32) rfl (by decide : ((0 : Int32) + (1 : Int32)) = (1 : Int32)) (l' := #[sR a3, sI 1, sR a1, sI 0, sI 1, sI 0, sI p4]) rfl ?_
  refine Own.iinc X1.here hx rfl (hb hby d20_35) rfl (by decide : ((0 : Int32) + (1 : Int32)) = (1 : Int32)) (l' := #[sR a3, sI 1, sR a1, sI 1, sI 1, sI 0, sI p4]) rfl ?_
  refine Own.iinc X1.here hx rfl (hb hby d20_38) rfl (by decide : ((0 : Int32) + (1 : Int32)) = (1 : Int32)) (l' := #[sR a3, sI 1, sR a1, sI 1, sI 1, sI 1, sI p4]) rfl ?_
  refine wgt X1 hx hby rfl (pc0 := 41) (pc' := 3) rfl d20_41 (by decide) (by decide) ?_
  refine wiL X1 hx hby rfl d20_3 rfl ?_
  refine wiL X1 hx hby rfl d20_5 rfl ?_
  refine wcy X1 hx hby rfl (pc0 := 7) (pc' := 44) rfl d20_7 rfl (flt (by decide : ¬ ((1 : Int32) < (1 : Int32)))).2.1 (by decide) (by decide) ?_
  refine wiL X1 hx hby rfl d20_44 rfl ?_
  exact retOut X1 hx hret rfl (Or.inl ⟨rfl, Or.inl rfl, _, rfl⟩) (hb hby d20_46) hr
def Qrm18 (Z : State) (p2 : Int32) (h0 : Heap) (n0 : Nat) (v : Option Value) (h : Heap) (L : List Loc) : Prop := ∃ x0 : Addr, ∃ xk0 : ClassId, v = some (vR x0) ∧ Fr n0 L ∧ Keep h0 h [] ∧ h0.size ≤ x0 ∧ Arv Z h x0 xk0 .byte (1 : Int32) [(vI (p2.toInt8.toInt32))] (vI 0)
theorem rm18 (cx : Cx Z a0 w0 w1) (a1 : Addr) (p2 : Int32) (ck3 : ClassId) (O0 : Old Z n0 h0) (PV1 : Arv Z h0 a1 ck3 .char (1 : Int32) [(vI p2)] (vI 0)) (hc2 : ¬ ((255 : Int32) < p2)) : Ct l Z ⟨z6, "compress", "([CII)[B"⟩ jdk_52_method_16_code 6 (some (.array .byte)) ⟨1, 1, 1, 18⟩ #[(vR a1), (vI 0), (vI 1)] h0 (Qrm18 Z p2 h0 n0) := by
  obtain ⟨hw, hj, hS⟩ := id cx
  refine own_bd (plainFor_of_name pn328) (fun m => ef339 m a1 0 1) fun p e s m below meth c s₁ hret hlk hZ hx hby hml hown hnm X0 e0 => ?_
  have N0 := Fr.nil n0
  obtain ⟨T1, h1, k1, b1, X1, e1, E1, V1, g1, O1, K1, st1⟩ := own_newP X0 hx hZ (aty := .byte) (ty := .byte) (dv := (.int (0 : Int32))) (vs := [(.int (0 : Int32))]) (cap := 1) rfl rfl rfl (hw _ m23) e0 O0 (Keep.refl h0 []) (g := (mkF m 1 #[sR a1, sI 0, sI 1, sU, sU, sU] [(vI 1)])) rfl (hb hby d19_1) rfl (by decide) (by decide) (by decide) (by decide) (by decide)
  have f3 : Arv Z h1 a1 ck3 .char (1 : Int32) [(vI p2)] (vI 0) := (PV1.ext E1)
  obtain ⟨_, T2, L2, ⟨rfl, N2q, Kq2, q2_0⟩, X2, st2⟩ := cS X1 hx hZ (W := 0) hown (cw17 cx) (rm17 cx b1 k1 a1 p2 ck3 O1 V1 f3 hc2 (Nat.le_trans (own_old_le O0) g1)) e1 (g := (mkF m 9 #[sR a1, sI 0, sI 1, sR b1, sU, sU] [(vI 1), (vI 0), (vR b1), (vI 0), (vR a1)])) rfl hml rfl (rest := []) rfl rfl rfl rfl (hb hby d19_9) (by decide)
  have N2 := Fr.app N0 N2q
  have O2 : Old Z n0 T2.heap := O1.keep Kq2 (allS (Nat.le_trans (own_old_le O0) g1) all0)
  have K2 : Keep h0 T2.heap [] := K1.trans Kq2 (allS (Or.inr (Nat.le_trans (Keep.refl h0 []).1 g1)) all0)
  refine own_end X2 hlk (v := some (vR b1)) (own_hv hret) (by decide) ⟨b1, k1, rfl, N2, K2, (Nat.le_trans (Keep.refl h0 []).1 g1), q2_0⟩ fun fs hr => ?_
  show St p e below s₁ (mkF m 0 #[sR a1, sI 0, sI 1, sU, sU, sU] []) _
  refine wil X0 hx hby rfl d19_0 rfl ?_
  refine st1 _ ?_
  refine was X1 hx hby rfl d19_3 rfl rfl (l' := #[sR a1, sI 0, sI 1, sR b1, sU, sU]) rfl ?_
  refine wal X1 hx hby rfl d19_4 rfl rfl ?_
  refine wil X1 hx hby rfl d19_5 rfl ?_
  refine wal X1 hx hby rfl d19_6 rfl rfl ?_
  refine wic X1 hx hby rfl d19_7 ?_
  refine wil X1 hx hby rfl d19_8 rfl ?_
  refine st2 _ ?_
  refine wiS X2 hx hby rfl d19_12 rfl (l' := #[sR a1, sI 0, sI 1, sR b1, sI 1, sU]) rfl ?_
  refine wiL X2 hx hby rfl d19_14 rfl ?_
  refine wil X2 hx hby rfl d19_16 rfl ?_
  refine wcy X2 hx hby rfl (pc0 := 17) (pc' := 57) rfl d19_17 rfl (teq (by decide : (1 : Int32) = (1 : Int32))).1 (by decide) (by decide) ?_
  refine wal X2 hx hby rfl d19_57 rfl rfl ?_
  exact retOut X2 hx hret rfl (Or.inr (Or.inr (Or.inr (Or.inr ⟨rfl, rfl, rfl⟩)))) (hb hby d19_58) hr
def Qrm19 (Z : State) (h0 : Heap) (n0 : Nat) (v : Option Value) (h : Heap) (L : List Loc) : Prop := v = some (vI 0) ∧ Fr n0 L ∧ h = h0
theorem rm19 (cx : Cx Z a0 w0 w1) (a1 : Addr) (p2 : Int32) (ck3 : ClassId) (O0 : Old Z n0 h0) (PV1 : Arv Z h0 a1 ck3 .byte (1 : Int32) [(vI p2)] (vI 0)) : Ct l Z ⟨z6, "coderFromArrayLen", "([BI)B"⟩ jdk_52_method_15_code 2 (some .byte) ⟨0, 0, 0, 0⟩ #[(vR a1), (vI 1)] h0 (Qrm19 Z h0 n0) := by
  obtain ⟨hw, hj, hS⟩ := id cx
  refine own_bd (plainFor_of_name pn328) (fun m => ef194 m a1 1) fun p e s m below meth c s₁ hret hlk hZ hx hby hml hown hnm X0 e0 => ?_
  have N0 := Fr.nil n0
  refine own_end X0 hlk (v := some (vI 0)) (own_hv hret) (by decide) (by rw [e0]; exact ⟨rfl, N0, rfl⟩) fun fs hr => ?_
  show St p e below s₁ (mkF m 0 #[sR a1, sI 1] []) _
  refine wil X0 hx hby rfl d21_0 rfl ?_
  refine wal X0 hx hby rfl d21_1 rfl rfl ?_
  refine own_alen X0 hx hZ e0 PV1 (g := (mkF m 2 #[sR a1, sI 1] [(vR a1), (vI 1)])) rfl rfl (hb hby d21_2) ?_
  refine Own.isub X0.here hx rfl (hb hby d21_3) rfl (by decide : ((1 : Int32) - (1 : Int32)) = (0 : Int32)) ?_
  refine wbp X0 hx hby rfl d21_4 ?_
  refine Own.iushr X0.here hx rfl (hb hby d21_6) rfl (by decide : (((0 : Int32).toUInt32 >>> ((31 : Int32) &&& 31).toUInt32).toInt32) = (0 : Int32)) ?_
  refine Own.i2b X0.here hx rfl (hb hby d21_7) rfl (by decide : ((0 : Int32).toInt8.toInt32) = (0 : Int32)) ?_
  exact retN X0 hx (t := .byte) hret (by simp) (hb hby d21_8) hr
def Qrm20 (Z : State) (a1 : Addr) (p3 : Int32) (h0 : Heap) (n0 : Nat) (v : Option Value) (h : Heap) (L : List Loc) : Prop := ∃ x0 : Addr, ∃ xk0 : ClassId, v = none ∧ Fr n0 L ∧ Keep h0 h [a1] ∧ h0.size ≤ x0 ∧ Arv Z h x0 xk0 .byte (1 : Int32) [(vI (p3.toInt8.toInt32))] (vI 0) ∧ Fld Z h a1 z0 "value" "[B" (vR x0) ∧ Fld Z h a1 z0 "coder" "B" (vI 0)
theorem rm20 (cx : Cx Z a0 w0 w1) (a1 : Addr) (a2 : Addr) (p3 : Int32) (ck4 : ClassId) (O0 : Old Z n0 h0) (PE1 : Exa Z h0 a1 z0) (PF2 : Fld Z h0 a1 z0 "value" "[B" .null) (PF3 : Fld Z h0 a1 z0 "coder" "B" (vI 0)) (PV4 : Arv Z h0 a2 ck4 .char (1 : Int32) [(vI p3)] (vI 0)) (hc5 : ¬ ((255 : Int32) < p3)) (gn6 : n0 ≤ a1) : Ct l Z ⟨z0, "<init>", z13⟩ jdk_42_method_149_code 6 none ⟨2, 1, 1, 35⟩ #[(vR a1), (vR a2), (vI 0), (vI 1), .null] h0 (Qrm20 Z a1 p3 h0 n0) := by
  obtain ⟨hw, hj, hS⟩ := id cx
  refine own_bd (plainFor_of_name pn63) (fun m => ef62 m a1 a2 0 1) fun p e s m below meth c s₁ hret hlk hZ hx hby hml hown hnm X0 e0 => ?_
  have N0 := Fr.nil n0
  obtain ⟨T1, X1, e1, st1⟩ := initO X0 hx hZ hown (hw _ m19) (hw _ m20) (hw _ m21) e0 (g := (mkF m 1 #[sR a1, sR a2, sI 0, sI 1, sN, sU] [(vR a1)])) rfl (by rw [hml]; rfl) rfl (hb hby d4_1) (by decide) (W := 0) (Nat.le_of_eq rfl) (by decide)
  obtain ⟨T2, X2, e2, st2⟩ := getS2 X1 hx hZ hown (host := "") (Or.inl (hw _ m49)) Via.refl e1 (hS.1.ext O0.2) (g := (mkF m 27 #[sR a1, sR a2, sI 0, sI 1, sN, sU] [])) rfl (hb hby d4_27)
  obtain ⟨_, T3, L3, ⟨c3_0, k3_1, rfl, N3q, Kq3, lo3_0, q3_0⟩, X3, st3⟩ := cS X2 hx hZ (W := 0) hown (cw18 cx) (rm18 cx a2 p3 ck4 O0 PV4 hc5) e2 (g := (mkF m 36 #[sR a1, sR a2, sI 0, sI 1, sN, sU] [(vI 1), (vI 0), (vR a2)])) rfl hml rfl (rest := []) rfl rfl rfl rfl (hb hby d4_36) (by decide)
  have N3 := Fr.app N0 N3q
  have O3 : Old Z n0 T3.heap := O0.keep Kq3 all0
  have K3 : Keep h0 T3.heap [a1] := (Keep.refl h0 [a1]).trans Kq3 all0
  obtain ⟨_, T4, L4, ⟨rfl, N4q, e4⟩, X4, st4⟩ := cS X3 hx hZ (W := 1) hown (cw19 cx) (rm19 cx c3_0 (p3.toInt8.toInt32) k3_1 O3 q3_0) (rfl : T3.heap = T3.heap) (g := (mkF m 45 #[sR a1, sR a2, sI 0, sI 1, sN, sR c3_0] [(vI 1), (vR c3_0), (vR a1)])) rfl hml rfl (rest := [(vR a1)]) rfl rfl rfl rfl (hb hby d4_45) (by decide)
  have f5 : Fld Z T3.heap a1 z0 "coder" "B" (vI 0) := (PF3.keep Kq3 nin0)
  have f6 : Exa Z T3.heap a1 z0 := (PE1.keep Kq3)
  obtain ⟨T7, h7, L'7, X7, e7, W7, Fw7, O7, K7, N7, st7⟩ := own_putN X4 hx hZ hown (hw _ m29) Via.refl e4 O3 K3 (Fr.app N3 N4q) gn6 (Or.inl (List.mem_of_getElem? (i := 0) rfl)) f5 f6 (Or.inr ⟨(hw _ m25), rfl, hnm⟩) (hw _ m10) (ty := .byte) (v' := (vI 0)) (by decide) rfl (by decide) (g := (mkF m 48 #[sR a1, sR a2, sI 0, sI 1, sN, sR c3_0] [(vI 0), (vR a1)])) rfl rfl (hb hby d4_48)
  have f8 : Fld Z h7 a1 z0 "value" "[B" .null := ((PF2.keep Kq3 nin0).other W7 (Or.inr (slot_ne (Or.inr (hw _ m24)) (Or.inr (hw _ m25)) (by decide) (t := (.array .byte)) (t' := .byte) (by decide) (by decide))))
  have f9 : Exa Z h7 a1 z0 := (f6.wr W7)
  obtain ⟨T10, h10, L'10, X10, e10, W10, Fw10, O10, K10, N10, st10⟩ := own_put X7 hx hZ hown (host := "") (Or.inl (hw _ m28)) Via.refl e7 O7 K7 N7 gn6 (Or.inl (List.mem_of_getElem? (i := 0) rfl)) f8 f9 (Or.inr ⟨(hw _ m24), rfl, hnm⟩) (hw _ m10) (ty := (.array .byte)) (by decide) rfl rfl (g := (mkF m 54 #[sR a1, sR a2, sI 0, sI 1, sN, sR c3_0] [(vR c3_0), (vR a1)])) rfl rfl (hb hby d4_54)
  have f11 : Arv Z h10 c3_0 k3_1 .byte (1 : Int32) [(vI (p3.toInt8.toInt32))] (vI 0) := ((q3_0.other W7 (Ne.symm (Nat.ne_of_lt (Nat.lt_of_lt_of_le PE1.lt lo3_0)))).other W10 (Ne.symm (Nat.ne_of_lt (Nat.lt_of_lt_of_le PE1.lt lo3_0))))
  have f12 : Fld Z h10 a1 z0 "coder" "B" (vI 0) := (Fw7.other W10 (Or.inr (slot_ne (Or.inr (hw _ m25)) (Or.inr (hw _ m24)) (by decide) (t := .byte) (t' := (.array .byte)) (by decide) (by decide))))
  refine own_end X10 hlk (v := none) (fun _ => rfl) (by decide) (by rw [e10]; exact ⟨c3_0, k3_1, rfl, N10, K10, (Nat.le_trans (Keep.refl h0 [a1]).1 lo3_0), f11, Fw10, f12⟩) fun fs hr => ?_
  show St p e below s₁ (mkF m 0 #[sR a1, sR a2, sI 0, sI 1, sN, sU] []) _
  refine wal X0 hx hby rfl d4_0 rfl rfl ?_
  refine st1 _ ?_
  refine wil X1 hx hby rfl d4_4 rfl ?_
  refine wfy X1 hx hby rfl (pc0 := 5) (pc' := 27) rfl d4_5 rfl ((if0 _ _).trans (feq (by decide : ¬ ((1 : Int32) = (0 : Int32)))).2) (by decide) (by decide) ?_
  refine st2 _ ?_
  refine wfn X2 hx hby rfl d4_30 rfl ((if0 _ _).trans (feq hS.2.1).1) ?_
  refine wal X2 hx hby rfl d4_33 rfl rfl ?_
  refine wil X2 hx hby rfl d4_34 rfl ?_
  refine wil X2 hx hby rfl d4_35 rfl ?_
  refine st3 _ ?_
  refine waS X3 hx hby rfl d4_39 rfl rfl (l' := #[sR a1, sR a2, sI 0, sI 1, sN, sR c3_0]) rfl ?_
  refine wal X3 hx hby rfl d4_41 rfl rfl ?_
  refine waL X3 hx hby rfl d4_42 rfl rfl ?_
  refine wil X3 hx hby rfl d4_44 rfl ?_
  refine st4 _ ?_
  refine st7 _ ?_
  show St p e below T7 (mkF m 51 #[sR a1, sR a2, sI 0, sI 1, sN, sR c3_0] []) _
  refine wal X7 hx hby rfl d4_51 rfl rfl ?_
  refine waL X7 hx hby rfl d4_52 rfl rfl ?_
  refine st10 _ ?_
  exact X10.returnOut hx hret (hb hby d4_57) hr
def Qrm21 (Z : State) (a1 : Addr) (p3 : Int32) (h0 : Heap) (n0 : Nat) (v : Option Value) (h : Heap) (L : List Loc) : Prop := ∃ x0 : Addr, ∃ xk0 : ClassId, v = none ∧ Fr n0 L ∧ Keep h0 h [a1] ∧ h0.size ≤ x0 ∧ Arv Z h x0 xk0 .byte (1 : Int32) [(vI (p3.toInt8.toInt32))] (vI 0) ∧ Fld Z h a1 z0 "value" "[B" (vR x0) ∧ Fld Z h a1 z0 "coder" "B" (vI 0)
theorem rm21 (cx : Cx Z a0 w0 w1) (a1 : Addr) (a2 : Addr) (p3 : Int32) (ck4 : ClassId) (O0 : Old Z n0 h0) (PE1 : Exa Z h0 a1 z0) (PF2 : Fld Z h0 a1 z0 "value" "[B" .null) (PF3 : Fld Z h0 a1 z0 "coder" "B" (vI 0)) (PV4 : Arv Z h0 a2 ck4 .char (1 : Int32) [(vI p3)] (vI 0)) (hc5 : ¬ ((255 : Int32) < p3)) (gn6 : n0 ≤ a1) : Ct l Z ⟨z0, "<init>", "([C)V"⟩ jdk_42_method_3_code 2 none ⟨3, 1, 1, 52⟩ #[(vR a1), (vR a2)] h0 (Qrm21 Z a1 p3 h0 n0) := by
  obtain ⟨hw, hj, hS⟩ := id cx
  refine own_bd (plainFor_of_name pn63) (fun m => ef68 m a1 a2) fun p e s m below meth c s₁ hret hlk hZ hx hby hml hown hnm X0 e0 => ?_
  have N0 := Fr.nil n0
  obtain ⟨_, T1, L1, ⟨c1_0, k1_1, rfl, N1q, Kq1, lo1_0, q1_0, q1_1, q1_2⟩, X1, st1⟩ := cI X0 hx hZ (W := 0) hown (cw0 cx) (rm20 cx a1 a2 p3 ck4 O0 PE1 PF2 PF3 PV4 hc5 gn6) e0 (g := (mkF m 6 #[sR a1, sR a2] [.null, (vI 1), (vI 0), (vR a2), (vR a1)])) rfl hml rfl (rest := []) rfl rfl rfl rfl (hb hby d3_6) (by decide)
  have N1 := Fr.app N0 N1q
  have O1 : Old Z n0 T1.heap := O0.keep Kq1 (allS gn6 all0)
  have K1 : Keep h0 T1.heap [a1] := (Keep.refl h0 [a1]).trans Kq1 (allS (Or.inl (List.mem_of_getElem? (i := 0) rfl)) all0)
  refine own_end X1 hlk (v := none) (fun _ => rfl) (by decide) ⟨c1_0, k1_1, rfl, N1, K1, (Nat.le_trans (Keep.refl h0 [a1]).1 lo1_0), q1_0, q1_1, q1_2⟩ fun fs hr => ?_
  show St p e below s₁ (mkF m 0 #[sR a1, sR a2] []) _
  refine wal X0 hx hby rfl d3_0 rfl rfl ?_
  refine wal X0 hx hby rfl d3_1 rfl rfl ?_
  refine wic X0 hx hby rfl d3_2 ?_
  refine wal X0 hx hby rfl d3_3 rfl rfl ?_
  refine own_alen X0 hx hZ e0 PV4 (g := (mkF m 4 #[sR a1, sR a2] [(vR a2), (vI 0), (vR a2), (vR a1)])) rfl rfl (hb hby d3_4) ?_
  refine wan X0 hx hby rfl d3_5 ?_
  refine st1 _ ?_
  exact X1.returnOut hx hret (hb hby d3_9) hr
def Qrm22 (Z : State) (p2 : Int32) (h0 : Heap) (n0 : Nat) (v : Option Value) (h : Heap) (L : List Loc) : Prop := ∃ x0 : Addr, ∃ x1 : Addr, ∃ xk0 : ClassId, v = some (vR x0) ∧ Fr n0 L ∧ Keep h0 h [] ∧ h0.size ≤ x0 ∧ x0 < x1 ∧ Exa Z h x0 z0 ∧ Fld Z h x0 z0 "value" "[B" (vR x1) ∧ Fld Z h x0 z0 "coder" "B" (vI 0) ∧ Arv Z h x1 xk0 .byte (1 : Int32) [(vI (p2.toInt8.toInt32))] (vI 0)
theorem rm22 (cx : Cx Z a0 w0 w1) (a1 : Addr) (p2 : Int32) (p3 : Int32) (p4 : Int32) (p5 : Int32) (ck6 : ClassId) (O0 : Old Z n0 h0) (PV1 : Arv Z h0 a1 ck6 .char (4 : Int32) [(vI p2), (vI p3), (vI p4), (vI p5)] (vI 0)) (hc2 : ¬ (p2 < (0 : Int32))) (hc3 : ¬ ((65535 : Int32) < p2)) (hc4 : ¬ ((255 : Int32) < p2)) : Ct l Z ⟨z1, "make", z12⟩ method_4_code 2 (some (.object z0)) ⟨4, 3, 6, 66⟩ #[(vI 1), (vR a1)] h0 (Qrm22 Z p2 h0 n0) := by
  obtain ⟨hw, hj, hS⟩ := id cx
  refine own_bd (plainFor_of_name pn11) (fun m => ef73 m 1 a1) fun p e s m below meth c s₁ hret hlk hZ hx hby hml hown hnm X0 e0 => ?_
  have N0 := Fr.nil n0
  obtain ⟨T1, h1, b1, X1, e1, E1, A1, D1, g1, O1, K1, st1⟩ := own_newO X0 hx hZ hown (hw _ m9) (hw _ m10) (hw _ m11) e0 O0 (Keep.refl h0 []) (g := (mkF m 20 #[sI 1, sR a1] [])) rfl (hb hby d2_20) (by decide) (by decide)
  have F1_1 : Fld Z h1 b1 z0 "value" "[B" .null := D1 (Or.inr (hw _ m24)) (ty := (.array .byte)) (by decide)
  have F1_2 : Fld Z h1 b1 z0 "coder" "B" (vI 0) := D1 (Or.inr (hw _ m25)) (ty := .byte) (by decide)
  obtain ⟨T2, h2, k2, b2, X2, e2, E2, V2, g2, O2, K2, st2⟩ := own_newP X1 hx hZ (aty := .char) (ty := .char) (dv := (.int (0 : Int32))) (vs := [(.int (0 : Int32))]) (cap := 1) rfl rfl rfl (hw _ m1) e1 O1 K1 (g := (mkF m 25 #[sI 1, sR a1] [(vI 1), (vR b1), (vR b1)])) rfl (hb hby d2_25) rfl (by decide) (by decide) (by decide) (by decide) (by decide)
  have f3 : Arv Z h2 a1 ck6 .char (4 : Int32) [(vI p2), (vI p3), (vI p4), (vI p5)] (vI 0) := ((PV1.ext E1).ext E2)
  obtain ⟨T4, h4, L'4, X4, e4, W4, V4, O4, K4, N4, st4⟩ := own_stC X2 hx hZ e2 V2 O2 K2 N0 (Nat.le_trans (own_old_le O1) g2) (Or.inr (Nat.le_trans K1.1 g2)) (j := (0 : Int32)) 0 (by decide) (Nat.le_of_ble_eq_true rfl) (v := (vI p2)) (congrArg Value.int (own_narC hc2 hc3)) (vs' := [(vI p2)]) rfl (g := (mkF m 32 #[sI 1, sR a1] [(vI p2), (vI 0), (vR b2), (vR b2), (vR b1), (vR b1)])) rfl rfl (hb hby d2_32)
  have f6 : Exa Z h4 b1 z0 := ((A1.ext E2).wr W4)
  have f7 : Fld Z h4 b1 z0 "value" "[B" .null := ((F1_1.ext E2).other W4 (Or.inl (Nat.ne_of_lt (Nat.lt_of_lt_of_le A1.lt g2))))
  have f8 : Fld Z h4 b1 z0 "coder" "B" (vI 0) := ((F1_2.ext E2).other W4 (Or.inl (Nat.ne_of_lt (Nat.lt_of_lt_of_le A1.lt g2))))
  obtain ⟨_, T5, L5, ⟨c5_0, k5_1, rfl, N5q, Kq5, lo5_0, q5_0, q5_1, q5_2⟩, X5, st5⟩ := cI X4 hx hZ (W := 1) hown (cw1 cx) (rm21 cx b1 b2 p2 k2 O4 f6 f7 f8 V4 hc4 (Nat.le_trans (own_old_le O0) g1)) e4 (g := (mkF m 33 #[sI 1, sR a1] [(vR b2), (vR b1), (vR b1)])) rfl hml rfl (rest := [(vR b1)]) rfl rfl rfl rfl (hb hby d2_33) (by decide)
  have N5 := Fr.app N4 N5q
  have O5 : Old Z n0 T5.heap := O4.keep Kq5 (allS (Nat.le_trans (own_old_le O0) g1) all0)
  have K5 : Keep h0 T5.heap [] := K4.trans Kq5 (allS (Or.inr (Nat.le_trans (Keep.refl h0 []).1 g1)) all0)
  have f9 : Exa Z T5.heap b1 z0 := (f6.keep Kq5)
  refine own_end X5 hlk (v := some (vR b1)) (own_hv hret) (by decide) ⟨b1, c5_0, k5_1, rfl, N5, K5, (Nat.le_trans (Keep.refl h0 []).1 g1), (Nat.lt_of_lt_of_le (Nat.lt_of_lt_of_le A1.lt (Nat.le_trans E2.1 (Nat.le_of_eq W4.size.symm))) lo5_0), f9, q5_1, q5_2, q5_0⟩ fun fs hr => ?_
  show St p e below s₁ (mkF m 0 #[sI 1, sR a1] []) _
  refine wil X0 hx hby rfl d2_0 rfl ?_
  refine wfy X0 hx hby rfl (pc0 := 1) (pc' := 15) rfl d2_1 rfl ((if0 _ _).trans (feq (by decide : ¬ ((1 : Int32) = (0 : Int32)))).2) (by decide) (by decide) ?_
  refine wil X0 hx hby rfl d2_15 rfl ?_
  refine wic X0 hx hby rfl d2_16 ?_
  refine wcn X0 hx hby rfl d2_17 rfl (teq (by decide : (1 : Int32) = (1 : Int32))).2 ?_
  refine st1 _ ?_
  refine wdu X1 hx hby rfl d2_23 rfl rfl ?_
  refine wic X1 hx hby rfl d2_24 ?_
  refine st2 _ ?_
  refine wdu X2 hx hby rfl d2_27 rfl rfl ?_
  refine wic X2 hx hby rfl d2_28 ?_
  refine wal X2 hx hby rfl d2_29 rfl rfl ?_
  refine wic X2 hx hby rfl d2_30 ?_
  refine own_caload X2 hx hZ e2 f3 (j := 0) (by decide) (v := (vI p2)) rfl (g := (mkF m 31 #[sI 1, sR a1] [(vI 0), (vR a1), (vI 0), (vR b2), (vR b2), (vR b1), (vR b1)])) rfl rfl (hb hby d2_31) ?_
  refine st4 _ ?_
  refine st5 _ ?_
  show St p e below T5 (mkF m 36 #[sI 1, sR a1] [(vR b1)]) _
  exact retOut X5 hx hret rfl (Or.inr (Or.inr (Or.inr (Or.inr ⟨rfl, rfl, rfl⟩)))) (hb hby d2_36) hr
def Qrm23 (Z : State) (h0 : Heap) (n0 : Nat) (v : Option Value) (h : Heap) (L : List Loc) : Prop := v = some (vI 1) ∧ Fr n0 L ∧ h = h0
theorem rm23 (cx : Cx Z a0 w0 w1) (a1 : Addr) (a2 : Addr) (p3 : Int32) (ck4 : ClassId) (O0 : Old Z n0 h0) (PF1 : Fld Z h0 a1 z0 "value" "[B" (vR a2)) (PV2 : Arv Z h0 a2 ck4 .byte (1 : Int32) [(vI p3)] (vI 0)) (PF3 : Fld Z h0 a1 z0 "coder" "B" (vI 0)) (PE4 : Exa Z h0 a1 z0) : Ct l Z ⟨z0, "length", "()I"⟩ jdk_42_method_54_code 1 (some .int) ⟨1, 0, 0, 13⟩ #[(vR a1)] h0 (Qrm23 Z h0 n0) := by
  obtain ⟨hw, hj, hS⟩ := id cx
  refine own_bd (plainFor_of_name pn63) (fun m => ef104 m a1) fun p e s m below meth c s₁ hret hlk hZ hx hby hml hown hnm X0 e0 => ?_
  have N0 := Fr.nil n0
  obtain ⟨T1, X1, e1, st1⟩ := getF X0 hx hZ hown (host := "") (Or.inl (hw _ m28)) Via.refl e0 PF1 (g := (mkF m 1 #[sR a1] [(vR a1)])) rfl rfl (hb hby d8_1)
  obtain ⟨_, T2, L2, ⟨rfl, N2q, e2⟩, X2, st2⟩ := cV X1 hx hZ (W := 1) hown (cw3 cx) (rm4 cx a1 O0 PF3) e1 PE4 (g := (mkF m 6 #[sR a1] [(vR a1), (vI 1)])) rfl hml rfl (rest := [(vI 1)]) rfl rfl rfl rfl (hb hby d8_6) (by decide)
  refine own_end X2 hlk (v := some (vI 1)) (own_hv hret) (by decide) (by rw [e2]; exact ⟨rfl, (Fr.app N0 N2q), rfl⟩) fun fs hr => ?_
  show St p e below s₁ (mkF m 0 #[sR a1] []) _
  refine wal X0 hx hby rfl d8_0 rfl rfl ?_
  refine st1 _ ?_
  refine own_alen X1 hx hZ e1 PV2 (g := (mkF m 4 #[sR a1] [(vR a2)])) rfl rfl (hb hby d8_4) ?_
  refine wal X1 hx hby rfl d8_5 rfl rfl ?_
  refine st2 _ ?_
  refine Own.ishr X2.here hx rfl (hb hby d8_9) rfl (by decide : ((1 : Int32) >>> ((0 : Int32) &&& 31)) = (1 : Int32)) ?_
  exact retOut X2 hx hret rfl (Or.inl ⟨rfl, Or.inl rfl, _, rfl⟩) (hb hby d8_10) hr
def Qrm24 (Z : State) (h0 : Heap) (n0 : Nat) (v : Option Value) (h : Heap) (L : List Loc) : Prop := v = some (vI 0) ∧ Fr n0 L ∧ h = h0
theorem rm24 (cx : Cx Z a0 w0 w1) (a1 : Addr) (p2 : Int32) (ck3 : ClassId) (O0 : Old Z n0 h0) (PV1 : Arv Z h0 a1 ck3 .byte (1 : Int32) [(vI p2)] (vI 0)) (hc2 : p2 = (58 : Int32)) : Ct l Z ⟨z2, z4, "([BII)I"⟩ jdk_43_method_27_code 4 (some .int) ⟨1, 0, 0, 13⟩ #[(vR a1), (vI 58), (vI 0)] h0 (Qrm24 Z h0 n0) := by
  obtain ⟨hw, hj, hS⟩ := id cx
  refine own_bd (plainFor_of_name pn154) (fun m => ef183 m a1 58 0) fun p e s m below meth c s₁ hret hlk hZ hx hby hml hown hnm X0 e0 => ?_
  have N0 := Fr.nil n0
  obtain ⟨_, T1, L1, ⟨rfl, N1q, e1⟩, X1, st1⟩ := cS X0 hx hZ (W := 0) hown (cw6 cx) (rm7 cx 58 O0 (by decide : ¬ ((58 : Int32) < (0 : Int32))) (by decide : ¬ ((255 : Int32) < (58 : Int32)))) e0 (g := (mkF m 1 #[sR a1, sI 58, sI 0, sU] [(vI 58)])) rfl hml rfl (rest := []) rfl rfl rfl rfl (hb hby d12_1) (by decide)
  obtain ⟨_, T2, L2, ⟨rfl, N2q, e2⟩, X2, st2⟩ := cS X1 hx hZ (W := 0) hown (cw7 cx) (rm8 cx 0 O0) e1 (g := (mkF m 14 #[sR a1, sI 58, sI 0, sU] [(vI 0), (vI 0)])) rfl hml rfl (rest := []) rfl rfl rfl rfl (hb hby d12_14) (by decide)
  refine own_end X2 hlk (v := some (vI 0)) (own_hv hret) (by decide) (by rw [e2]; exact ⟨rfl, (Fr.app (Fr.app N0 N1q) N2q), rfl⟩) fun fs hr => ?_
  show St p e below s₁ (mkF m 0 #[sR a1, sI 58, sI 0, sU] []) _
  refine wil X0 hx hby rfl d12_0 rfl ?_
  refine st1 _ ?_
  refine wfy X1 hx hby rfl (pc0 := 4) (pc' := 9) rfl d12_4 rfl ((if0 _ _).trans (feq (by decide : ¬ ((1 : Int32) = (0 : Int32)))).2) (by decide) (by decide) ?_
  refine wil X1 hx hby rfl d12_9 rfl ?_
  refine wal X1 hx hby rfl d12_10 rfl rfl ?_
  refine own_alen X1 hx hZ e1 PV1 (g := (mkF m 11 #[sR a1, sI 58, sI 0, sU] [(vR a1), (vI 0)])) rfl rfl (hb hby d12_11) ?_
  refine wic X1 hx hby rfl d12_12 ?_
  refine Own.isub X1.here hx rfl (hb hby d12_13) rfl (by decide : ((1 : Int32) - (1 : Int32)) = (0 : Int32)) ?_
  refine st2 _ ?_
  refine wis X2 hx hby rfl d12_17 rfl (l' := #[sR a1, sI 58, sI 0, sI 0]) rfl ?_
  refine wil X2 hx hby rfl d12_18 rfl ?_
  refine wfn X2 hx hby rfl d12_19 rfl ((if0 _ _).trans (flt (by decide : ¬ ((0 : Int32) < (0 : Int32)))).1) ?_
  refine wal X2 hx hby rfl d12_22 rfl rfl ?_
  refine wil X2 hx hby rfl d12_23 rfl ?_
  refine own_baloadB X2 hx hZ e2 PV1 (j := 0) (by decide) (v := (vI p2)) rfl (g := (mkF m 24 #[sR a1, sI 58, sI 0, sI 0] [(vI 0), (vR a1)])) rfl rfl (hb hby d12_24) ?_
  refine wil X2 hx hby rfl d12_25 rfl ?_
  show St p e below T2 (mkF m 26 #[sR a1, sI 58, sI 0, sI 0] [(vI 58), (vI p2)]) _
  refine Own.i2b X2.here hx rfl (hb hby d12_26) rfl (by decide : ((58 : Int32).toInt8.toInt32) = (58 : Int32)) ?_
  refine wcn X2 hx hby rfl d12_27 rfl (teq hc2).2 ?_
  refine wil X2 hx hby rfl d12_30 rfl ?_
  exact retOut X2 hx hret rfl (Or.inl ⟨rfl, Or.inl rfl, _, rfl⟩) (hb hby d12_31) hr
def Qrm25 (Z : State) (h0 : Heap) (n0 : Nat) (v : Option Value) (h : Heap) (L : List Loc) : Prop := v = some (vI 0) ∧ Fr n0 L ∧ h = h0
theorem rm25 (cx : Cx Z a0 w0 w1) (a1 : Addr) (a2 : Addr) (p3 : Int32) (ck4 : ClassId) (O0 : Old Z n0 h0) (PF1 : Fld Z h0 a1 z0 "coder" "B" (vI 0)) (PE2 : Exa Z h0 a1 z0) (PF3 : Fld Z h0 a1 z0 "value" "[B" (vR a2)) (PV4 : Arv Z h0 a2 ck4 .byte (1 : Int32) [(vI p3)] (vI 0)) (hc5 : p3 = (58 : Int32)) : Ct l Z ⟨z0, z4, "(II)I"⟩ jdk_42_method_83_code 3 (some .int) ⟨2, 0, 0, 28⟩ #[(vR a1), (vI 58), (vI 0)] h0 (Qrm25 Z h0 n0) := by
  obtain ⟨hw, hj, hS⟩ := id cx
  refine own_bd (plainFor_of_name pn63) (fun m => ef189 m a1 58 0) fun p e s m below meth c s₁ hret hlk hZ hx hby hml hown hnm X0 e0 => ?_
  have N0 := Fr.nil n0
  obtain ⟨_, T1, L1, ⟨rfl, N1q, e1⟩, X1, st1⟩ := cV X0 hx hZ (W := 0) hown (cw5 cx) (rm6 cx a1 O0 PF1) e0 PE2 (g := (mkF m 1 #[sR a1, sI 58, sI 0] [(vR a1)])) rfl hml rfl (rest := []) rfl rfl rfl rfl (hb hby d10_1) (by decide)
  obtain ⟨T2, X2, e2, st2⟩ := getF X1 hx hZ hown (host := "") (Or.inl (hw _ m28)) Via.refl e1 PF3 (g := (mkF m 8 #[sR a1, sI 58, sI 0] [(vR a1)])) rfl rfl (hb hby d10_8)
  obtain ⟨_, T3, L3, ⟨rfl, N3q, e3⟩, X3, st3⟩ := cS X2 hx hZ (W := 0) hown (cw8 cx) (rm24 cx a2 p3 ck4 O0 PV4 hc5) e2 (g := (mkF m 13 #[sR a1, sI 58, sI 0] [(vI 0), (vI 58), (vR a2)])) rfl hml rfl (rest := []) rfl rfl rfl rfl (hb hby d10_13) (by decide)
  refine own_end X3 hlk (v := some (vI 0)) (own_hv hret) (by decide) (by rw [e3]; exact ⟨rfl, (Fr.app (Fr.app N0 N1q) N3q), rfl⟩) fun fs hr => ?_
  show St p e below s₁ (mkF m 0 #[sR a1, sI 58, sI 0] []) _
  refine wal X0 hx hby rfl d10_0 rfl rfl ?_
  refine st1 _ ?_
  refine wfn X1 hx hby rfl d10_4 rfl ((if0 _ _).trans (feq (by decide : ¬ ((1 : Int32) = (0 : Int32)))).1) ?_
  refine wal X1 hx hby rfl d10_7 rfl rfl ?_
  refine st2 _ ?_
  refine wil X2 hx hby rfl d10_11 rfl ?_
  refine wil X2 hx hby rfl d10_12 rfl ?_
  refine st3 _ ?_
  refine wgt X3 hx hby rfl (pc0 := 16) (pc' := 28) rfl d10_16 (by decide) (by decide) ?_
  exact retOut X3 hx hret rfl (Or.inl ⟨rfl, Or.inl rfl, _, rfl⟩) (hb hby d10_28) hr
def Qrm26 (Z : State) (h0 : Heap) (n0 : Nat) (v : Option Value) (h : Heap) (L : List Loc) : Prop := v = some (vI 0) ∧ Fr n0 L ∧ h = h0
theorem rm26 (cx : Cx Z a0 w0 w1) (a1 : Addr) (p2 : Int32) (a3 : Addr) (ck4 : ClassId) (O0 : Old Z n0 h0) (PF1 : Fld Z h0 a1 z0 "value" "[B" (vR a3)) (PV2 : Arv Z h0 a3 ck4 .byte (1 : Int32) [(vI p2)] (vI 0)) (PF3 : Fld Z h0 a1 z0 "coder" "B" (vI 0)) (PE4 : Exa Z h0 a1 z0) (hc5 : p2 = (58 : Int32)) : Ct l Z ⟨z0, z4, "(I)I"⟩ jdk_42_method_82_code 2 (some .int) ⟨3, 0, 0, 42⟩ #[(vR a1), (vI 58)] h0 (Qrm26 Z h0 n0) := by
  obtain ⟨hw, hj, hS⟩ := id cx
  refine own_bd (plainFor_of_name pn63) (fun m => ef194 m a1 58) fun p e s m below meth c s₁ hret hlk hZ hx hby hml hown hnm X0 e0 => ?_
  have N0 := Fr.nil n0
  obtain ⟨_, T1, L1, ⟨rfl, N1q, e1⟩, X1, st1⟩ := cV X0 hx hZ (W := 2) hown (cw4 cx) (rm23 cx a1 a3 p2 ck4 O0 PF1 PV2 PF3 PE4) e0 PE4 (g := (mkF m 3 #[sR a1, sI 58] [(vR a1), (vI 58), (vR a1)])) rfl hml rfl (rest := [(vI 58), (vR a1)]) rfl rfl rfl rfl (hb hby d7_3) (by decide)
  obtain ⟨_, T2, L2, ⟨rfl, N2q, e2⟩, X2, st2⟩ := cV X1 hx hZ (W := 0) hown (cw9 cx) (rm25 cx a1 a3 p2 ck4 O0 PF3 PE4 PF1 PV2 hc5) e1 PE4 (g := (mkF m 8 #[sR a1, sI 58] [(vI 0), (vI 58), (vR a1)])) rfl hml rfl (rest := []) rfl rfl rfl rfl (hb hby d7_8) (by decide)
  refine own_end X2 hlk (v := some (vI 0)) (own_hv hret) (by decide) (by rw [e2]; exact ⟨rfl, (Fr.app (Fr.app N0 N1q) N2q), rfl⟩) fun fs hr => ?_
  show St p e below s₁ (mkF m 0 #[sR a1, sI 58] []) _
  refine wal X0 hx hby rfl d7_0 rfl rfl ?_
  refine wil X0 hx hby rfl d7_1 rfl ?_
  refine wal X0 hx hby rfl d7_2 rfl rfl ?_
  refine st1 _ ?_
  refine wic X1 hx hby rfl d7_6 ?_
  refine Own.isub X1.here hx rfl (hb hby d7_7) rfl (by decide : ((1 : Int32) - (1 : Int32)) = (0 : Int32)) ?_
  refine st2 _ ?_
  exact retOut X2 hx hret rfl (Or.inl ⟨rfl, Or.inl rfl, _, rfl⟩) (hb hby d7_11) hr
def Qrm27 (Z : State) (h0 : Heap) (n0 : Nat) (v : Option Value) (h : Heap) (L : List Loc) : Prop := ∃ x0 : Addr, ∃ x1 : Addr, ∃ xk0 : ClassId, v = some (vR x0) ∧ Fr n0 L ∧ Keep h0 h [] ∧ Exa Z h x0 z0 ∧ Fld Z h x0 z0 "coder" "B" (vI 0) ∧ Fld Z h x0 z0 "value" "[B" (vR x1) ∧ Arv Z h x1 xk0 .byte (0 : Int32) [] (vI 0)
theorem rm27 (cx : Cx Z a0 w0 w1) (a1 : Addr) (O0 : Old Z n0 h0) : CtW EL [] l Z ⟨z2, "newString", z11⟩ jdk_43_method_47_code 3 (some (.object z0)) ⟨0, 2, 4, 0⟩ #[(vR a1), (vI 1), (vI 0)] h0 (Qrm27 Z h0 n0) := by
  obtain ⟨hw, hj, hS⟩ := id cx
  refine own_bdW (plainFor_of_name pn154) (fun m => ef189 m a1 1 0) fun p e s m below meth c s₁ hret hlk hZ hx hby hml hown hnm X0 e0 hh C0 hsx hS0 => ?_
  have N0 := Fr.nil n0
  obtain ⟨sa1, T1, h1, k11, sb1, k1, X1, e1, E1, hS1, hk1, hZ1, hown1, A1, Fc1, Fv1, V1, la1, lb1, Cq1, -, hn1, st1⟩ := ldcCH X0 hx hZ hown (hw _ m117) (own_str hw hj) e0 hS0 (Nat.le_refl _) (own_EW hw hj) (List.mem_of_getElem? (i := 1) rfl) C0.1 (vs := []) (z := (0 : Int32)) ⟨by decide, by decide⟩ (by decide) (by decide) (g := (mkF m 4 #[sR a1, sI 1, sI 0] [])) rfl (hb hby d26_4) (n := 0) (by decide) (by decide) (by decide) (by decide)
  have O1 : Old Z n0 h1 := O0.ext E1
  have K1 : Keep h0 h1 [] := (Keep.refl h0 []).ext E1
  have C1 := C0.trans Cq1
  refine own_endW X1 hlk (v := some (vR sa1)) (own_hv hret) hS1 hk1 (by decide) hh e1 C1 hZ1 (own_EW hw hj) (by rw [e1]; exact ⟨sa1, sb1, k1, rfl, N0, K1, A1, Fc1, Fv1, V1⟩) fun fs hr => ?_
  show St p e below s₁ (mkF m 0 #[sR a1, sI 1, sI 0] []) _
  refine wil X0 hx hby rfl d26_0 rfl ?_
  refine wfn X0 hx hby rfl d26_1 rfl ((if0 _ _).trans (teq (by decide : (0 : Int32) = (0 : Int32))).2) ?_
  refine st1 _ ?_
  exact retOut X1 hx hret rfl (Or.inr (Or.inr (Or.inr (Or.inr ⟨rfl, rfl, rfl⟩)))) (hb hby d26_6) hr
def Qrm28 (Z : State) (h0 : Heap) (n0 : Nat) (v : Option Value) (h : Heap) (L : List Loc) : Prop := ∃ x0 : Addr, ∃ x1 : Addr, ∃ xk0 : ClassId, v = some (vR x0) ∧ Fr n0 L ∧ Keep h0 h [] ∧ Exa Z h x0 z0 ∧ Fld Z h x0 z0 "coder" "B" (vI 0) ∧ Fld Z h x0 z0 "value" "[B" (vR x1) ∧ Arv Z h x1 xk0 .byte (0 : Int32) [] (vI 0)
theorem rm28 (cx : Cx Z a0 w0 w1) (a1 : Addr) (p2 : Int32) (a3 : Addr) (ck4 : ClassId) (O0 : Old Z n0 h0) (PF1 : Fld Z h0 a1 z0 "value" "[B" (vR a3)) (PV2 : Arv Z h0 a3 ck4 .byte (1 : Int32) [(vI p2)] (vI 0)) (PF3 : Fld Z h0 a1 z0 "coder" "B" (vI 0)) (PE4 : Exa Z h0 a1 z0) : CtW EL [] l Z ⟨z0, "substring", z8⟩ jdk_42_method_92_code 5 (some (.object z0)) ⟨2, 2, 4, 29⟩ #[(vR a1), (vI 1), (vI 1)] h0 (Qrm28 Z h0 n0) := by
  obtain ⟨hw, hj, hS⟩ := id cx
  refine own_bdW (plainFor_of_name pn63) (fun m => ef255 m a1 1 1) fun p e s m below meth c s₁ hret hlk hZ hx hby hml hown hnm X0 e0 hh C0 hsx hS0 => ?_
  have N0 := Fr.nil n0
  have sf1 := (sf0 : ∀ x ∈ [], Safe Z EL s.vm h0 x)
  obtain ⟨_, T1, L1, ⟨rfl, N1q, e1⟩, X1, st1⟩ := cV X0 hx hZ (W := 0) hown (cw4 cx) (rm23 cx a1 a3 p2 ck4 O0 PF1 PV2 PF3 PE4) e0 PE4 (g := (mkF m 1 #[sR a1, sI 1, sI 1, sU, sU] [(vR a1)])) rfl hml rfl (rest := []) rfl rfl rfl rfl (hb hby d16_1) (by decide)
  have sf2 := (sf0 : ∀ x ∈ [], Safe Z EL s.vm h0 x)
  obtain ⟨_, T2, L2, ⟨rfl, N2q, e2⟩, X2, st2⟩ := cS X1 hx hZ (W := 0) hown (cw12 cx) (rm13 cx 1 O0 (by decide : ¬ ((1 : Int32) < (0 : Int32)))) e1 (g := (mkF m 8 #[sR a1, sI 1, sI 1, sI 1, sU] [(vI 1), (vI 1), (vI 1)])) rfl hml rfl (rest := []) rfl rfl rfl rfl (hb hby d16_8) (by decide)
  have sf3 := (sf0 : ∀ x ∈ [], Safe Z EL s.vm h0 x)
  obtain ⟨_, T3, L3, ⟨rfl, N3q, e3⟩, X3, st3⟩ := cV X2 hx hZ (W := 0) hown (cw5 cx) (rm6 cx a1 O0 PF3) e2 PE4 (g := (mkF m 28 #[sR a1, sI 1, sI 1, sI 1, sI 0] [(vR a1)])) rfl hml rfl (rest := []) rfl rfl rfl rfl (hb hby d16_28) (by decide)
  obtain ⟨T4, X4, e4, st4⟩ := getF X3 hx hZ hown (host := "") (Or.inl (hw _ m28)) Via.refl e3 PF1 (g := (mkF m 35 #[sR a1, sI 1, sI 1, sI 1, sI 0] [(vR a1)])) rfl rfl (hb hby d16_35)
  obtain ⟨_, T5, L5, ⟨c5_0, c5_1, k5_2, rfl, N5q, Kq5, q5_0, q5_1, q5_2, q5_3⟩, hS5, hZ5, hown5, Cq5, X5, st5⟩ := cSW X4 hx hZ (W := 0) hown (cw20 cx) (rm27 cx a3 O0) e4 hS0 (Nat.le_refl _) (own_EW hw hj) C0.1 own_sx0 (g := (mkF m 41 #[sR a1, sI 1, sI 1, sI 1, sI 0] [(vI 0), (vI 1), (vR a3)])) rfl hml rfl (rest := []) rfl rfl rfl rfl (hb hby d16_41) (by decide)
  have N5 := Fr.app (Fr.app (Fr.app (Fr.app N0 N1q) N2q) N3q) N5q
  have C5 := C0.trans Cq5
  have O5 : Old Z n0 T5.heap := O0.keep Kq5 all0
  have K5 : Keep h0 T5.heap [] := (Keep.refl h0 []).trans Kq5 all0
  refine own_endW X5 hlk (v := some (vR c5_0)) (own_hv hret) hS5 (Nat.le_refl _) (by decide) hh (rfl : T5.heap = T5.heap) C5 hZ5 (own_EW hw hj) ⟨c5_0, c5_1, k5_2, rfl, N5, K5, q5_0, q5_1, q5_2, q5_3⟩ fun fs hr => ?_
  show St p e below s₁ (mkF m 0 #[sR a1, sI 1, sI 1, sU, sU] []) _
  refine wal X0 hx hby rfl d16_0 rfl rfl ?_
  refine st1 _ ?_
  refine wis X1 hx hby rfl d16_4 rfl (l' := #[sR a1, sI 1, sI 1, sI 1, sU]) rfl ?_
  refine wil X1 hx hby rfl d16_5 rfl ?_
  refine wil X1 hx hby rfl d16_6 rfl ?_
  refine wil X1 hx hby rfl d16_7 rfl ?_
  refine st2 _ ?_
  refine wil X2 hx hby rfl d16_11 rfl ?_
  refine wfy X2 hx hby rfl (pc0 := 12) (pc' := 22) rfl d16_12 rfl ((if0 _ _).trans (feq (by decide : ¬ ((1 : Int32) = (0 : Int32)))).2) (by decide) (by decide) ?_
  refine wil X2 hx hby rfl d16_22 rfl ?_
  refine wil X2 hx hby rfl d16_23 rfl ?_
  refine Own.isub X2.here hx rfl (hb hby d16_24) rfl (by decide : ((1 : Int32) - (1 : Int32)) = (0 : Int32)) ?_
  refine wiS X2 hx hby rfl d16_25 rfl (l' := #[sR a1, sI 1, sI 1, sI 1, sI 0]) rfl ?_
  refine wal X2 hx hby rfl d16_27 rfl rfl ?_
  refine st3 _ ?_
  refine wfn X3 hx hby rfl d16_31 rfl ((if0 _ _).trans (feq (by decide : ¬ ((1 : Int32) = (0 : Int32)))).1) ?_
  show St p e below T3 (mkF m 34 #[sR a1, sI 1, sI 1, sI 1, sI 0] []) _
  refine wal X3 hx hby rfl d16_34 rfl rfl ?_
  refine st4 _ ?_
  refine wil X4 hx hby rfl d16_38 rfl ?_
  refine wiL X4 hx hby rfl d16_39 rfl ?_
  refine st5 _ ?_
  refine wgt X5 hx hby rfl (pc0 := 44) (pc' := 57) rfl d16_44 (by decide) (by decide) ?_
  exact retOut X5 hx hret rfl (Or.inr (Or.inr (Or.inr (Or.inr ⟨rfl, rfl, rfl⟩)))) (hb hby d16_57) hr
def Qrm29 (Z : State) (h0 : Heap) (n0 : Nat) (v : Option Value) (h : Heap) (L : List Loc) : Prop := ∃ x0 : Addr, ∃ x1 : Addr, ∃ xk0 : ClassId, v = some (vR x0) ∧ Fr n0 L ∧ Keep h0 h [] ∧ Exa Z h x0 z0 ∧ Fld Z h x0 z0 "coder" "B" (vI 0) ∧ Fld Z h x0 z0 "value" "[B" (vR x1) ∧ Arv Z h x1 xk0 .byte (0 : Int32) [] (vI 0)
theorem rm29 (cx : Cx Z a0 w0 w1) (a1 : Addr) (p2 : Int32) (a3 : Addr) (ck4 : ClassId) (O0 : Old Z n0 h0) (PF1 : Fld Z h0 a1 z0 "value" "[B" (vR a3)) (PV2 : Arv Z h0 a3 ck4 .byte (1 : Int32) [(vI p2)] (vI 0)) (PF3 : Fld Z h0 a1 z0 "coder" "B" (vI 0)) (PE4 : Exa Z h0 a1 z0) : CtW EL [] l Z ⟨z0, "substring", z9⟩ jdk_42_method_91_code 2 (some (.object z0)) ⟨3, 2, 4, 45⟩ #[(vR a1), (vI 1)] h0 (Qrm29 Z h0 n0) := by
  obtain ⟨hw, hj, hS⟩ := id cx
  refine own_bdW (plainFor_of_name pn63) (fun m => ef194 m a1 1) fun p e s m below meth c s₁ hret hlk hZ hx hby hml hown hnm X0 e0 hh C0 hsx hS0 => ?_
  have N0 := Fr.nil n0
  have sf1 := (sf0 : ∀ x ∈ [], Safe Z EL s.vm h0 x)
  obtain ⟨_, T1, L1, ⟨rfl, N1q, e1⟩, X1, st1⟩ := cV X0 hx hZ (W := 2) hown (cw4 cx) (rm23 cx a1 a3 p2 ck4 O0 PF1 PV2 PF3 PE4) e0 PE4 (g := (mkF m 3 #[sR a1, sI 1] [(vR a1), (vI 1), (vR a1)])) rfl hml rfl (rest := [(vI 1), (vR a1)]) rfl rfl rfl rfl (hb hby d15_3) (by decide)
  obtain ⟨_, T2, L2, ⟨c2_0, c2_1, k2_2, rfl, N2q, Kq2, q2_0, q2_1, q2_2, q2_3⟩, hS2, hZ2, hown2, Cq2, X2, st2⟩ := cVW X1 hx hZ (W := 0) hown (cw13 cx) (rm28 cx a1 p2 a3 ck4 O0 PF1 PV2 PF3 PE4) e1 hS0 (Nat.le_refl _) (own_EW hw hj) C0.1 own_sx0 PE4 (g := (mkF m 6 #[sR a1, sI 1] [(vI 1), (vI 1), (vR a1)])) rfl hml rfl (rest := []) rfl rfl rfl rfl (hb hby d15_6) (by decide)
  have N2 := Fr.app (Fr.app N0 N1q) N2q
  have C2 := C0.trans Cq2
  have O2 : Old Z n0 T2.heap := O0.keep Kq2 all0
  have K2 : Keep h0 T2.heap [] := (Keep.refl h0 []).trans Kq2 all0
  refine own_endW X2 hlk (v := some (vR c2_0)) (own_hv hret) hS2 (Nat.le_refl _) (by decide) hh (rfl : T2.heap = T2.heap) C2 hZ2 (own_EW hw hj) ⟨c2_0, c2_1, k2_2, rfl, N2, K2, q2_0, q2_1, q2_2, q2_3⟩ fun fs hr => ?_
  show St p e below s₁ (mkF m 0 #[sR a1, sI 1] []) _
  refine wal X0 hx hby rfl d15_0 rfl rfl ?_
  refine wil X0 hx hby rfl d15_1 rfl ?_
  refine wal X0 hx hby rfl d15_2 rfl rfl ?_
  refine st1 _ ?_
  refine st2 _ ?_
  exact retOut X2 hx hret rfl (Or.inr (Or.inr (Or.inr (Or.inr ⟨rfl, rfl, rfl⟩)))) (hb hby d15_9) hr
def Qrm30 (Z : State) (h0 : Heap) (n0 : Nat) (v : Option Value) (h : Heap) (L : List Loc) : Prop := ∃ x0 : Addr, ∃ x1 : Addr, ∃ xk0 : ClassId, v = some (vR x0) ∧ Fr n0 L ∧ Keep h0 h [] ∧ Exa Z h x0 z0 ∧ Fld Z h x0 z0 "coder" "B" (vI 0) ∧ Fld Z h x0 z0 "value" "[B" (vR x1) ∧ Arv Z h x1 xk0 .byte (0 : Int32) [] (vI 0)
theorem rm30 (cx : Cx Z a0 w0 w1) (a1 : Addr) (p2 : Int32) (a3 : Addr) (ck4 : ClassId) (O0 : Old Z n0 h0) (PF1 : Fld Z h0 a1 z0 "value" "[B" (vR a3)) (PV2 : Arv Z h0 a3 ck4 .byte (1 : Int32) [(vI p2)] (vI 0)) (PF3 : Fld Z h0 a1 z0 "coder" "B" (vI 0)) (PE4 : Exa Z h0 a1 z0) (hc5 : p2 = (58 : Int32)) : CtW EL [] l Z ⟨z3, "localPart", z5⟩ prog_13_method_17_code 1 (some (.object z0)) ⟨4, 2, 4, 58⟩ #[(vR a1)] h0 (Qrm30 Z h0 n0) := by
  obtain ⟨hw, hj, hS⟩ := id cx
  refine own_bdW (plainFor_of_name pn266) (fun m => ef104 m a1) fun p e s m below meth c s₁ hret hlk hZ hx hby hml hown hnm X0 e0 hh C0 hsx hS0 => ?_
  have N0 := Fr.nil n0
  have sf1 := (sf0 : ∀ x ∈ [], Safe Z EL s.vm h0 x)
  obtain ⟨_, T1, L1, ⟨rfl, N1q, e1⟩, X1, st1⟩ := cV X0 hx hZ (W := 1) hown (cw10 cx) (rm26 cx a1 p2 a3 ck4 O0 PF1 PV2 PF3 PE4 hc5) e0 PE4 (g := (mkF m 4 #[sR a1] [(vI 58), (vR a1), (vR a1)])) rfl hml rfl (rest := [(vR a1)]) rfl rfl rfl rfl (hb hby d6_4) (by decide)
  obtain ⟨_, T2, L2, ⟨c2_0, c2_1, k2_2, rfl, N2q, Kq2, q2_0, q2_1, q2_2, q2_3⟩, hS2, hZ2, hown2, Cq2, X2, st2⟩ := cVW X1 hx hZ (W := 0) hown (cw14 cx) (rm29 cx a1 p2 a3 ck4 O0 PF1 PV2 PF3 PE4) e1 hS0 (Nat.le_refl _) (own_EW hw hj) C0.1 own_sx0 PE4 (g := (mkF m 9 #[sR a1] [(vI 1), (vR a1)])) rfl hml rfl (rest := []) rfl rfl rfl rfl (hb hby d6_9) (by decide)
  have N2 := Fr.app (Fr.app N0 N1q) N2q
  have C2 := C0.trans Cq2
  have O2 : Old Z n0 T2.heap := O0.keep Kq2 all0
  have K2 : Keep h0 T2.heap [] := (Keep.refl h0 []).trans Kq2 all0
  refine own_endW X2 hlk (v := some (vR c2_0)) (own_hv hret) hS2 (Nat.le_refl _) (by decide) hh (rfl : T2.heap = T2.heap) C2 hZ2 (own_EW hw hj) ⟨c2_0, c2_1, k2_2, rfl, N2, K2, q2_0, q2_1, q2_2, q2_3⟩ fun fs hr => ?_
  show St p e below s₁ (mkF m 0 #[sR a1] []) _
  refine wal X0 hx hby rfl d6_0 rfl rfl ?_
  refine wal X0 hx hby rfl d6_1 rfl rfl ?_
  refine wbp X0 hx hby rfl d6_2 ?_
  refine st1 _ ?_
  refine wic X1 hx hby rfl d6_7 ?_
  refine Own.iadd X1.here hx rfl (hb hby d6_8) rfl (by decide : ((0 : Int32) + (1 : Int32)) = (1 : Int32)) ?_
  refine st2 _ ?_
  exact retOut X2 hx hret rfl (Or.inr (Or.inr (Or.inr (Or.inr ⟨rfl, rfl, rfl⟩)))) (hb hby d6_12) hr
def Qrm31 (Z : State) (h0 : Heap) (n0 : Nat) (v : Option Value) (h : Heap) (L : List Loc) : Prop := v = some (vI (-1)) ∧ Fr n0 L ∧ h = h0
theorem rm31 (cx : Cx Z a0 w0 w1) (a1 : Addr) (p2 : Int32) (ck3 : ClassId) (O0 : Old Z n0 h0) (PV1 : Arv Z h0 a1 ck3 .byte (1 : Int32) [(vI p2)] (vI 0)) (hc2 : ¬ (p2 = (58 : Int32))) : Ct l Z ⟨z2, z4, "([BII)I"⟩ jdk_43_method_27_code 4 (some .int) ⟨1, 0, 0, 13⟩ #[(vR a1), (vI 58), (vI 0)] h0 (Qrm31 Z h0 n0) := by
  obtain ⟨hw, hj, hS⟩ := id cx
  refine own_bd (plainFor_of_name pn154) (fun m => ef183 m a1 58 0) fun p e s m below meth c s₁ hret hlk hZ hx hby hml hown hnm X0 e0 => ?_
  have N0 := Fr.nil n0
  obtain ⟨_, T1, L1, ⟨rfl, N1q, e1⟩, X1, st1⟩ := cS X0 hx hZ (W := 0) hown (cw6 cx) (rm7 cx 58 O0 (by decide : ¬ ((58 : Int32) < (0 : Int32))) (by decide : ¬ ((255 : Int32) < (58 : Int32)))) e0 (g := (mkF m 1 #[sR a1, sI 58, sI 0, sU] [(vI 58)])) rfl hml rfl (rest := []) rfl rfl rfl rfl (hb hby d12_1) (by decide)
  obtain ⟨_, T2, L2, ⟨rfl, N2q, e2⟩, X2, st2⟩ := cS X1 hx hZ (W := 0) hown (cw7 cx) (rm8 cx 0 O0) e1 (g := (mkF m 14 #[sR a1, sI 58, sI 0, sU] [(vI 0), (vI 0)])) rfl hml rfl (rest := []) rfl rfl rfl rfl (hb hby d12_14) (by decide)
  refine own_end X2 hlk (v := some (vI (-1))) (own_hv hret) (by decide) (by rw [e2]; exact ⟨rfl, (Fr.app (Fr.app N0 N1q) N2q), rfl⟩) fun fs hr => ?_
  show St p e below s₁ (mkF m 0 #[sR a1, sI 58, sI 0, sU] []) _
  refine wil X0 hx hby rfl d12_0 rfl ?_
  refine st1 _ ?_
  refine wfy X1 hx hby rfl (pc0 := 4) (pc' := 9) rfl d12_4 rfl ((if0 _ _).trans (feq (by decide : ¬ ((1 : Int32) = (0 : Int32)))).2) (by decide) (by decide) ?_
  refine wil X1 hx hby rfl d12_9 rfl ?_
  refine wal X1 hx hby rfl d12_10 rfl rfl ?_
  refine own_alen X1 hx hZ e1 PV1 (g := (mkF m 11 #[sR a1, sI 58, sI 0, sU] [(vR a1), (vI 0)])) rfl rfl (hb hby d12_11) ?_
  refine wic X1 hx hby rfl d12_12 ?_
  refine Own.isub X1.here hx rfl (hb hby d12_13) rfl (by decide : ((1 : Int32) - (1 : Int32)) = (0 : Int32)) ?_
  refine st2 _ ?_
  refine wis X2 hx hby rfl d12_17 rfl (l' := #[sR a1, sI 58, sI 0, sI 0]) rfl ?_
  refine wil X2 hx hby rfl d12_18 rfl ?_
  refine wfn X2 hx hby rfl d12_19 rfl ((if0 _ _).trans (flt (by decide : ¬ ((0 : Int32) < (0 : Int32)))).1) ?_
  refine wal X2 hx hby rfl d12_22 rfl rfl ?_
  refine wil X2 hx hby rfl d12_23 rfl ?_
  refine own_baloadB X2 hx hZ e2 PV1 (j := 0) (by decide) (v := (vI p2)) rfl (g := (mkF m 24 #[sR a1, sI 58, sI 0, sI 0] [(vI 0), (vR a1)])) rfl rfl (hb hby d12_24) ?_
  refine wil X2 hx hby rfl d12_25 rfl ?_
  show St p e below T2 (mkF m 26 #[sR a1, sI 58, sI 0, sI 0] [(vI 58), (vI p2)]) _
  refine Own.i2b X2.here hx rfl (hb hby d12_26) rfl (by decide : ((58 : Int32).toInt8.toInt32) = (58 : Int32)) ?_
  refine wcy X2 hx hby rfl (pc0 := 27) (pc' := 32) rfl d12_27 rfl (feq hc2).2 (by decide) (by decide) ?_
  refine Own.iinc X2.here hx rfl (hb hby d12_32) rfl (by decide : ((0 : Int32) + (-1 : Int32)) = (-1 : Int32)) (l' := #[sR a1, sI 58, sI 0, sI (-1)]) rfl ?_
  refine wgt X2 hx hby rfl (pc0 := 35) (pc' := 18) rfl d12_35 (by decide) (by decide) ?_
  refine wil X2 hx hby rfl d12_18 rfl ?_
  refine wfy X2 hx hby rfl (pc0 := 19) (pc' := 38) rfl d12_19 rfl ((if0 _ _).trans (tlt (by decide : (-1 : Int32) < (0 : Int32))).1) (by decide) (by decide) ?_
  refine wic X2 hx hby rfl d12_38 ?_
  exact retOut X2 hx hret rfl (Or.inl ⟨rfl, Or.inl rfl, _, rfl⟩) (hb hby d12_39) hr
def Qrm32 (Z : State) (h0 : Heap) (n0 : Nat) (v : Option Value) (h : Heap) (L : List Loc) : Prop := v = some (vI (-1)) ∧ Fr n0 L ∧ h = h0
theorem rm32 (cx : Cx Z a0 w0 w1) (a1 : Addr) (a2 : Addr) (p3 : Int32) (ck4 : ClassId) (O0 : Old Z n0 h0) (PF1 : Fld Z h0 a1 z0 "coder" "B" (vI 0)) (PE2 : Exa Z h0 a1 z0) (PF3 : Fld Z h0 a1 z0 "value" "[B" (vR a2)) (PV4 : Arv Z h0 a2 ck4 .byte (1 : Int32) [(vI p3)] (vI 0)) (hc5 : ¬ (p3 = (58 : Int32))) : Ct l Z ⟨z0, z4, "(II)I"⟩ jdk_42_method_83_code 3 (some .int) ⟨2, 0, 0, 28⟩ #[(vR a1), (vI 58), (vI 0)] h0 (Qrm32 Z h0 n0) := by
  obtain ⟨hw, hj, hS⟩ := id cx
  refine own_bd (plainFor_of_name pn63) (fun m => ef189 m a1 58 0) fun p e s m below meth c s₁ hret hlk hZ hx hby hml hown hnm X0 e0 => ?_
  have N0 := Fr.nil n0
  obtain ⟨_, T1, L1, ⟨rfl, N1q, e1⟩, X1, st1⟩ := cV X0 hx hZ (W := 0) hown (cw5 cx) (rm6 cx a1 O0 PF1) e0 PE2 (g := (mkF m 1 #[sR a1, sI 58, sI 0] [(vR a1)])) rfl hml rfl (rest := []) rfl rfl rfl rfl (hb hby d10_1) (by decide)
  obtain ⟨T2, X2, e2, st2⟩ := getF X1 hx hZ hown (host := "") (Or.inl (hw _ m28)) Via.refl e1 PF3 (g := (mkF m 8 #[sR a1, sI 58, sI 0] [(vR a1)])) rfl rfl (hb hby d10_8)
  obtain ⟨_, T3, L3, ⟨rfl, N3q, e3⟩, X3, st3⟩ := cS X2 hx hZ (W := 0) hown (cw8 cx) (rm31 cx a2 p3 ck4 O0 PV4 hc5) e2 (g := (mkF m 13 #[sR a1, sI 58, sI 0] [(vI 0), (vI 58), (vR a2)])) rfl hml rfl (rest := []) rfl rfl rfl rfl (hb hby d10_13) (by decide)
  refine own_end X3 hlk (v := some (vI (-1))) (own_hv hret) (by decide) (by rw [e3]; exact ⟨rfl, (Fr.app (Fr.app N0 N1q) N3q), rfl⟩) fun fs hr => ?_
  show St p e below s₁ (mkF m 0 #[sR a1, sI 58, sI 0] []) _
  refine wal X0 hx hby rfl d10_0 rfl rfl ?_
  refine st1 _ ?_
  refine wfn X1 hx hby rfl d10_4 rfl ((if0 _ _).trans (feq (by decide : ¬ ((1 : Int32) = (0 : Int32)))).1) ?_
  refine wal X1 hx hby rfl d10_7 rfl rfl ?_
  refine st2 _ ?_
  refine wil X2 hx hby rfl d10_11 rfl ?_
  refine wil X2 hx hby rfl d10_12 rfl ?_
  refine st3 _ ?_
  refine wgt X3 hx hby rfl (pc0 := 16) (pc' := 28) rfl d10_16 (by decide) (by decide) ?_
  exact retOut X3 hx hret rfl (Or.inl ⟨rfl, Or.inl rfl, _, rfl⟩) (hb hby d10_28) hr
def Qrm33 (Z : State) (h0 : Heap) (n0 : Nat) (v : Option Value) (h : Heap) (L : List Loc) : Prop := v = some (vI (-1)) ∧ Fr n0 L ∧ h = h0
theorem rm33 (cx : Cx Z a0 w0 w1) (a1 : Addr) (p2 : Int32) (a3 : Addr) (ck4 : ClassId) (O0 : Old Z n0 h0) (PF1 : Fld Z h0 a1 z0 "value" "[B" (vR a3)) (PV2 : Arv Z h0 a3 ck4 .byte (1 : Int32) [(vI p2)] (vI 0)) (PF3 : Fld Z h0 a1 z0 "coder" "B" (vI 0)) (PE4 : Exa Z h0 a1 z0) (hc5 : ¬ (p2 = (58 : Int32))) : Ct l Z ⟨z0, z4, "(I)I"⟩ jdk_42_method_82_code 2 (some .int) ⟨3, 0, 0, 42⟩ #[(vR a1), (vI 58)] h0 (Qrm33 Z h0 n0) := by
  obtain ⟨hw, hj, hS⟩ := id cx
  refine own_bd (plainFor_of_name pn63) (fun m => ef194 m a1 58) fun p e s m below meth c s₁ hret hlk hZ hx hby hml hown hnm X0 e0 => ?_
  have N0 := Fr.nil n0
  obtain ⟨_, T1, L1, ⟨rfl, N1q, e1⟩, X1, st1⟩ := cV X0 hx hZ (W := 2) hown (cw4 cx) (rm23 cx a1 a3 p2 ck4 O0 PF1 PV2 PF3 PE4) e0 PE4 (g := (mkF m 3 #[sR a1, sI 58] [(vR a1), (vI 58), (vR a1)])) rfl hml rfl (rest := [(vI 58), (vR a1)]) rfl rfl rfl rfl (hb hby d7_3) (by decide)
  obtain ⟨_, T2, L2, ⟨rfl, N2q, e2⟩, X2, st2⟩ := cV X1 hx hZ (W := 0) hown (cw9 cx) (rm32 cx a1 a3 p2 ck4 O0 PF3 PE4 PF1 PV2 hc5) e1 PE4 (g := (mkF m 8 #[sR a1, sI 58] [(vI 0), (vI 58), (vR a1)])) rfl hml rfl (rest := []) rfl rfl rfl rfl (hb hby d7_8) (by decide)
  refine own_end X2 hlk (v := some (vI (-1))) (own_hv hret) (by decide) (by rw [e2]; exact ⟨rfl, (Fr.app (Fr.app N0 N1q) N2q), rfl⟩) fun fs hr => ?_
  show St p e below s₁ (mkF m 0 #[sR a1, sI 58] []) _
  refine wal X0 hx hby rfl d7_0 rfl rfl ?_
  refine wil X0 hx hby rfl d7_1 rfl ?_
  refine wal X0 hx hby rfl d7_2 rfl rfl ?_
  refine st1 _ ?_
  refine wic X1 hx hby rfl d7_6 ?_
  refine Own.isub X1.here hx rfl (hb hby d7_7) rfl (by decide : ((1 : Int32) - (1 : Int32)) = (0 : Int32)) ?_
  refine st2 _ ?_
  exact retOut X2 hx hret rfl (Or.inl ⟨rfl, Or.inl rfl, _, rfl⟩) (hb hby d7_11) hr
def Qrm34 (Z : State) (p1 : Int32) (h0 : Heap) (n0 : Nat) (v : Option Value) (h : Heap) (L : List Loc) : Prop := v = some (vI p1) ∧ Fr n0 L ∧ h = h0
theorem rm34 (cx : Cx Z a0 w0 w1) (p1 : Int32) (p2 : Int32) (O0 : Old Z n0 h0) (hc1 : ¬ (p1 < (0 : Int32))) (hc2 : ¬ (p2 < p1)) : Ct l Z ⟨z10, "checkFromToIndex", "(IIILjava/util/function/BiFunction;)I"⟩ jdk_41_method_12_code 4 (some .int) ⟨0, 0, 0, 0⟩ #[(vI p1), (vI p2), (vI p2), w1] h0 (Qrm34 Z p1 h0 n0) := by
  obtain ⟨hw, hj, hS⟩ := id cx
  refine own_bd (plainFor_of_name pn237) (fun m => ef236 m p1 p2 p2 w1 hS.2.2.2) fun p e s m below meth c s₁ hret hlk hZ hx hby hml hown hnm X0 e0 => ?_
  have N0 := Fr.nil n0
  refine own_end X0 hlk (v := some (vI p1)) (own_hv hret) (by decide) (by rw [e0]; exact ⟨rfl, N0, rfl⟩) fun fs hr => ?_
  show St p e below s₁ (mkF m 0 #[sI p1, sI p2, sI p2, .val w1] []) _
  refine wil X0 hx hby rfl d18_0 rfl ?_
  refine wfn X0 hx hby rfl d18_1 rfl ((if0 _ _).trans (flt hc1).1) ?_
  refine wil X0 hx hby rfl d18_4 rfl ?_
  refine wil X0 hx hby rfl d18_5 rfl ?_
  refine wcn X0 hx hby rfl d18_6 rfl (flt hc2).2.2.1 ?_
  refine wil X0 hx hby rfl d18_9 rfl ?_
  refine wil X0 hx hby rfl d18_10 rfl ?_
  refine wcy X0 hx hby rfl (pc0 := 11) (pc' := 22) rfl d18_11 rfl (flt (own_irr _)).2.2.2 (by decide) (by decide) ?_
  refine wil X0 hx hby rfl d18_22 rfl ?_
  exact retOut X0 hx hret rfl (Or.inl ⟨rfl, Or.inl rfl, _, rfl⟩) (hb hby d18_23) hr
def Qrm35 (Z : State) (h0 : Heap) (n0 : Nat) (v : Option Value) (h : Heap) (L : List Loc) : Prop := v = none ∧ Fr n0 L ∧ h = h0
theorem rm35 (cx : Cx Z a0 w0 w1) (p1 : Int32) (p2 : Int32) (O0 : Old Z n0 h0) (hc1 : ¬ (p1 < (0 : Int32))) (hc2 : ¬ (p2 < p1)) : Ct l Z ⟨z0, "checkBoundsBeginEnd", "(III)V"⟩ jdk_42_method_158_code 3 none ⟨1, 0, 0, 15⟩ #[(vI p1), (vI p2), (vI p2)] h0 (Qrm35 Z h0 n0) := by
  obtain ⟨hw, hj, hS⟩ := id cx
  refine own_bd (plainFor_of_name pn63) (fun m => ef244 m p1 p2 p2) fun p e s m below meth c s₁ hret hlk hZ hx hby hml hown hnm X0 e0 => ?_
  have N0 := Fr.nil n0
  obtain ⟨T1, X1, e1, st1⟩ := getS2 X0 hx hZ hown (host := "") (Or.inl (hw _ m84)) Via.refl e0 (hS.2.2.1.ext O0.2) (g := (mkF m 3 #[sI p1, sI p2, sI p2] [(vI p2), (vI p2), (vI p1)])) rfl (hb hby d17_3)
  obtain ⟨_, T2, L2, ⟨rfl, N2q, e2⟩, X2, st2⟩ := cS X1 hx hZ (W := 0) hown (cw11 cx) (rm34 cx p1 p2 O0 hc1 hc2) e1 (g := (mkF m 6 #[sI p1, sI p2, sI p2] [w1, (vI p2), (vI p2), (vI p1)])) rfl hml rfl (rest := []) rfl rfl rfl rfl (hb hby d17_6) (by decide)
  refine own_end X2 hlk (v := none) (fun _ => rfl) (by decide) (by rw [e2]; exact ⟨rfl, (Fr.app N0 N2q), rfl⟩) fun fs hr => ?_
  show St p e below s₁ (mkF m 0 #[sI p1, sI p2, sI p2] []) _
  refine wil X0 hx hby rfl d17_0 rfl ?_
  refine wil X0 hx hby rfl d17_1 rfl ?_
  refine wil X0 hx hby rfl d17_2 rfl ?_
  refine st1 _ ?_
  refine st2 _ ?_
  refine XS.pop X2.here hx rfl (hb hby d17_9) rfl rfl ?_
  exact X2.returnOut hx hret (hb hby d17_10) hr
def Qrm36 (Z : State) (a1 : Addr) (h0 : Heap) (n0 : Nat) (v : Option Value) (h : Heap) (L : List Loc) : Prop := v = some (vR a1) ∧ Fr n0 L ∧ h = h0
theorem rm36 (cx : Cx Z a0 w0 w1) (a1 : Addr) (p2 : Int32) (a3 : Addr) (ck4 : ClassId) (O0 : Old Z n0 h0) (PF1 : Fld Z h0 a1 z0 "value" "[B" (vR a3)) (PV2 : Arv Z h0 a3 ck4 .byte (1 : Int32) [(vI p2)] (vI 0)) (PF3 : Fld Z h0 a1 z0 "coder" "B" (vI 0)) (PE4 : Exa Z h0 a1 z0) : Ct l Z ⟨z0, "substring", z8⟩ jdk_42_method_92_code 5 (some (.object z0)) ⟨2, 0, 0, 29⟩ #[(vR a1), (vI 0), (vI 1)] h0 (Qrm36 Z a1 h0 n0) := by
  obtain ⟨hw, hj, hS⟩ := id cx
  refine own_bd (plainFor_of_name pn63) (fun m => ef255 m a1 0 1) fun p e s m below meth c s₁ hret hlk hZ hx hby hml hown hnm X0 e0 => ?_
  have N0 := Fr.nil n0
  obtain ⟨_, T1, L1, ⟨rfl, N1q, e1⟩, X1, st1⟩ := cV X0 hx hZ (W := 0) hown (cw4 cx) (rm23 cx a1 a3 p2 ck4 O0 PF1 PV2 PF3 PE4) e0 PE4 (g := (mkF m 1 #[sR a1, sI 0, sI 1, sU, sU] [(vR a1)])) rfl hml rfl (rest := []) rfl rfl rfl rfl (hb hby d16_1) (by decide)
  obtain ⟨_, T2, L2, ⟨rfl, N2q, e2⟩, X2, st2⟩ := cS X1 hx hZ (W := 0) hown (cw12 cx) (rm35 cx 0 1 O0 (by decide : ¬ ((0 : Int32) < (0 : Int32))) (by decide : ¬ ((1 : Int32) < (0 : Int32)))) e1 (g := (mkF m 8 #[sR a1, sI 0, sI 1, sI 1, sU] [(vI 1), (vI 1), (vI 0)])) rfl hml rfl (rest := []) rfl rfl rfl rfl (hb hby d16_8) (by decide)
  refine own_end X2 hlk (v := some (vR a1)) (own_hv hret) (by decide) (by rw [e2]; exact ⟨rfl, (Fr.app (Fr.app N0 N1q) N2q), rfl⟩) fun fs hr => ?_
  show St p e below s₁ (mkF m 0 #[sR a1, sI 0, sI 1, sU, sU] []) _
  refine wal X0 hx hby rfl d16_0 rfl rfl ?_
  refine st1 _ ?_
  refine wis X1 hx hby rfl d16_4 rfl (l' := #[sR a1, sI 0, sI 1, sI 1, sU]) rfl ?_
  refine wil X1 hx hby rfl d16_5 rfl ?_
  refine wil X1 hx hby rfl d16_6 rfl ?_
  refine wil X1 hx hby rfl d16_7 rfl ?_
  refine st2 _ ?_
  refine wil X2 hx hby rfl d16_11 rfl ?_
  refine wfn X2 hx hby rfl d16_12 rfl ((if0 _ _).trans (teq (by decide : (0 : Int32) = (0 : Int32))).2) ?_
  refine wil X2 hx hby rfl d16_15 rfl ?_
  refine wil X2 hx hby rfl d16_16 rfl ?_
  refine wcn X2 hx hby rfl d16_17 rfl (teq (by decide : (1 : Int32) = (1 : Int32))).2 ?_
  refine wal X2 hx hby rfl d16_20 rfl rfl ?_
  exact retOut X2 hx hret rfl (Or.inr (Or.inr (Or.inr (Or.inr ⟨rfl, rfl, rfl⟩)))) (hb hby d16_21) hr
def Qrm37 (Z : State) (a1 : Addr) (h0 : Heap) (n0 : Nat) (v : Option Value) (h : Heap) (L : List Loc) : Prop := v = some (vR a1) ∧ Fr n0 L ∧ h = h0
theorem rm37 (cx : Cx Z a0 w0 w1) (a1 : Addr) (p2 : Int32) (a3 : Addr) (ck4 : ClassId) (O0 : Old Z n0 h0) (PF1 : Fld Z h0 a1 z0 "value" "[B" (vR a3)) (PV2 : Arv Z h0 a3 ck4 .byte (1 : Int32) [(vI p2)] (vI 0)) (PF3 : Fld Z h0 a1 z0 "coder" "B" (vI 0)) (PE4 : Exa Z h0 a1 z0) : Ct l Z ⟨z0, "substring", z9⟩ jdk_42_method_91_code 2 (some (.object z0)) ⟨3, 0, 0, 45⟩ #[(vR a1), (vI 0)] h0 (Qrm37 Z a1 h0 n0) := by
  obtain ⟨hw, hj, hS⟩ := id cx
  refine own_bd (plainFor_of_name pn63) (fun m => ef194 m a1 0) fun p e s m below meth c s₁ hret hlk hZ hx hby hml hown hnm X0 e0 => ?_
  have N0 := Fr.nil n0
  obtain ⟨_, T1, L1, ⟨rfl, N1q, e1⟩, X1, st1⟩ := cV X0 hx hZ (W := 2) hown (cw4 cx) (rm23 cx a1 a3 p2 ck4 O0 PF1 PV2 PF3 PE4) e0 PE4 (g := (mkF m 3 #[sR a1, sI 0] [(vR a1), (vI 0), (vR a1)])) rfl hml rfl (rest := [(vI 0), (vR a1)]) rfl rfl rfl rfl (hb hby d15_3) (by decide)
  obtain ⟨_, T2, L2, ⟨rfl, N2q, e2⟩, X2, st2⟩ := cV X1 hx hZ (W := 0) hown (cw13 cx) (rm36 cx a1 p2 a3 ck4 O0 PF1 PV2 PF3 PE4) e1 PE4 (g := (mkF m 6 #[sR a1, sI 0] [(vI 1), (vI 0), (vR a1)])) rfl hml rfl (rest := []) rfl rfl rfl rfl (hb hby d15_6) (by decide)
  refine own_end X2 hlk (v := some (vR a1)) (own_hv hret) (by decide) (by rw [e2]; exact ⟨rfl, (Fr.app (Fr.app N0 N1q) N2q), rfl⟩) fun fs hr => ?_
  show St p e below s₁ (mkF m 0 #[sR a1, sI 0] []) _
  refine wal X0 hx hby rfl d15_0 rfl rfl ?_
  refine wil X0 hx hby rfl d15_1 rfl ?_
  refine wal X0 hx hby rfl d15_2 rfl rfl ?_
  refine st1 _ ?_
  refine st2 _ ?_
  exact retOut X2 hx hret rfl (Or.inr (Or.inr (Or.inr (Or.inr ⟨rfl, rfl, rfl⟩)))) (hb hby d15_9) hr
def Qrm38 (Z : State) (a1 : Addr) (h0 : Heap) (n0 : Nat) (v : Option Value) (h : Heap) (L : List Loc) : Prop := v = some (vR a1) ∧ Fr n0 L ∧ h = h0
theorem rm38 (cx : Cx Z a0 w0 w1) (a1 : Addr) (p2 : Int32) (a3 : Addr) (ck4 : ClassId) (O0 : Old Z n0 h0) (PF1 : Fld Z h0 a1 z0 "value" "[B" (vR a3)) (PV2 : Arv Z h0 a3 ck4 .byte (1 : Int32) [(vI p2)] (vI 0)) (PF3 : Fld Z h0 a1 z0 "coder" "B" (vI 0)) (PE4 : Exa Z h0 a1 z0) (hc5 : ¬ (p2 = (58 : Int32))) : Ct l Z ⟨z3, "localPart", z5⟩ prog_13_method_17_code 1 (some (.object z0)) ⟨4, 0, 0, 58⟩ #[(vR a1)] h0 (Qrm38 Z a1 h0 n0) := by
  obtain ⟨hw, hj, hS⟩ := id cx
  refine own_bd (plainFor_of_name pn266) (fun m => ef104 m a1) fun p e s m below meth c s₁ hret hlk hZ hx hby hml hown hnm X0 e0 => ?_
  have N0 := Fr.nil n0
  obtain ⟨_, T1, L1, ⟨rfl, N1q, e1⟩, X1, st1⟩ := cV X0 hx hZ (W := 1) hown (cw10 cx) (rm33 cx a1 p2 a3 ck4 O0 PF1 PV2 PF3 PE4 hc5) e0 PE4 (g := (mkF m 4 #[sR a1] [(vI 58), (vR a1), (vR a1)])) rfl hml rfl (rest := [(vR a1)]) rfl rfl rfl rfl (hb hby d6_4) (by decide)
  obtain ⟨_, T2, L2, ⟨rfl, N2q, e2⟩, X2, st2⟩ := cV X1 hx hZ (W := 0) hown (cw14 cx) (rm37 cx a1 p2 a3 ck4 O0 PF1 PV2 PF3 PE4) e1 PE4 (g := (mkF m 9 #[sR a1] [(vI 0), (vR a1)])) rfl hml rfl (rest := []) rfl rfl rfl rfl (hb hby d6_9) (by decide)
  refine own_end X2 hlk (v := some (vR a1)) (own_hv hret) (by decide) (by rw [e2]; exact ⟨rfl, (Fr.app (Fr.app N0 N1q) N2q), rfl⟩) fun fs hr => ?_
  show St p e below s₁ (mkF m 0 #[sR a1] []) _
  refine wal X0 hx hby rfl d6_0 rfl rfl ?_
  refine wal X0 hx hby rfl d6_1 rfl rfl ?_
  refine wbp X0 hx hby rfl d6_2 ?_
  refine st1 _ ?_
  refine wic X1 hx hby rfl d6_7 ?_
  refine Own.iadd X1.here hx rfl (hb hby d6_8) rfl (by decide : ((-1 : Int32) + (1 : Int32)) = (0 : Int32)) ?_
  refine st2 _ ?_
  exact retOut X2 hx hret rfl (Or.inr (Or.inr (Or.inr (Or.inr ⟨rfl, rfl, rfl⟩)))) (hb hby d6_12) hr
def Qrm39 (Z : State) (p1 : Int32) (h0 : Heap) (n0 : Nat) (v : Option Value) (h : Heap) (L : List Loc) : Prop := v = some (vI p1) ∧ Fr n0 L ∧ h = h0
theorem rm39 (cx : Cx Z a0 w0 w1) (p1 : Int32) (p2 : Int32) (O0 : Old Z n0 h0) (hc1 : ¬ (p1 < (0 : Int32))) (hc2 : p1 < p2) : Ct l Z ⟨z10, "checkIndex", "(IILjava/util/function/BiFunction;)I"⟩ jdk_41_method_11_code 3 (some .int) ⟨0, 0, 0, 0⟩ #[(vI p1), (vI p2), w1] h0 (Qrm39 Z p1 h0 n0) := by
  obtain ⟨hw, hj, hS⟩ := id cx
  refine own_bd (plainFor_of_name pn237) (fun m => ef426 m p1 p2 w1 hS.2.2.2) fun p e s m below meth c s₁ hret hlk hZ hx hby hml hown hnm X0 e0 => ?_
  have N0 := Fr.nil n0
  refine own_end X0 hlk (v := some (vI p1)) (own_hv hret) (by decide) (by rw [e0]; exact ⟨rfl, N0, rfl⟩) fun fs hr => ?_
  show St p e below s₁ (mkF m 0 #[sI p1, sI p2, .val w1] []) _
  refine wil X0 hx hby rfl d25_0 rfl ?_
  refine wfn X0 hx hby rfl d25_1 rfl ((if0 _ _).trans (flt hc1).1) ?_
  refine wil X0 hx hby rfl d25_4 rfl ?_
  refine wil X0 hx hby rfl d25_5 rfl ?_
  refine wcy X0 hx hby rfl (pc0 := 6) (pc' := 16) rfl d25_6 rfl (tlt hc2).1 (by decide) (by decide) ?_
  refine wil X0 hx hby rfl d25_16 rfl ?_
  exact retOut X0 hx hret rfl (Or.inl ⟨rfl, Or.inl rfl, _, rfl⟩) (hb hby d25_17) hr
def Qrm40 (Z : State) (h0 : Heap) (n0 : Nat) (v : Option Value) (h : Heap) (L : List Loc) : Prop := v = none ∧ Fr n0 L ∧ h = h0
theorem rm40 (cx : Cx Z a0 w0 w1) (p1 : Int32) (p2 : Int32) (O0 : Old Z n0 h0) (hc1 : ¬ (p1 < (0 : Int32))) (hc2 : p1 < p2) : Ct l Z ⟨z0, "checkIndex", "(II)V"⟩ jdk_42_method_155_code 2 none ⟨1, 0, 0, 14⟩ #[(vI p1), (vI p2)] h0 (Qrm40 Z h0 n0) := by
  obtain ⟨hw, hj, hS⟩ := id cx
  refine own_bd (plainFor_of_name pn63) (fun m => ef173 m p1 p2) fun p e s m below meth c s₁ hret hlk hZ hx hby hml hown hnm X0 e0 => ?_
  have N0 := Fr.nil n0
  obtain ⟨T1, X1, e1, st1⟩ := getS2 X0 hx hZ hown (host := "") (Or.inl (hw _ m84)) Via.refl e0 (hS.2.2.1.ext O0.2) (g := (mkF m 2 #[sI p1, sI p2] [(vI p2), (vI p1)])) rfl (hb hby d24_2)
  obtain ⟨_, T2, L2, ⟨rfl, N2q, e2⟩, X2, st2⟩ := cS X1 hx hZ (W := 0) hown (cw21 cx) (rm39 cx p1 p2 O0 hc1 hc2) e1 (g := (mkF m 5 #[sI p1, sI p2] [w1, (vI p2), (vI p1)])) rfl hml rfl (rest := []) rfl rfl rfl rfl (hb hby d24_5) (by decide)
  refine own_end X2 hlk (v := none) (fun _ => rfl) (by decide) (by rw [e2]; exact ⟨rfl, (Fr.app N0 N2q), rfl⟩) fun fs hr => ?_
  show St p e below s₁ (mkF m 0 #[sI p1, sI p2] []) _
  refine wil X0 hx hby rfl d24_0 rfl ?_
  refine wil X0 hx hby rfl d24_1 rfl ?_
  refine st1 _ ?_
  refine st2 _ ?_
  refine XS.pop X2.here hx rfl (hb hby d24_8) rfl rfl ?_
  exact X2.returnOut hx hret (hb hby d24_9) hr
def Qrm41 (Z : State) (p2 : Int32) (h0 : Heap) (n0 : Nat) (v : Option Value) (h : Heap) (L : List Loc) : Prop := v = some (vI (p2 &&& (255 : Int32))) ∧ Fr n0 L ∧ h = h0
theorem rm41 (cx : Cx Z a0 w0 w1) (a1 : Addr) (p2 : Int32) (ck3 : ClassId) (O0 : Old Z n0 h0) (PV1 : Arv Z h0 a1 ck3 .byte (1 : Int32) [(vI p2)] (vI 0)) : Ct l Z ⟨z2, "charAt", "([BI)C"⟩ jdk_43_method_2_code 2 (some .char) ⟨2, 0, 0, 27⟩ #[(vR a1), (vI 0)] h0 (Qrm41 Z p2 h0 n0) := by
  obtain ⟨hw, hj, hS⟩ := id cx
  refine own_bd (plainFor_of_name pn154) (fun m => ef194 m a1 0) fun p e s m below meth c s₁ hret hlk hZ hx hby hml hown hnm X0 e0 => ?_
  have N0 := Fr.nil n0
  obtain ⟨_, T1, L1, ⟨rfl, N1q, e1⟩, X1, st1⟩ := cS X0 hx hZ (W := 0) hown (cw22 cx) (rm40 cx 0 1 O0 (by decide : ¬ ((0 : Int32) < (0 : Int32))) (by decide : (0 : Int32) < (1 : Int32))) e0 (g := (mkF m 3 #[sR a1, sI 0] [(vI 1), (vI 0)])) rfl hml rfl (rest := []) rfl rfl rfl rfl (hb hby d23_3) (by decide)
  have hu0 : ¬ ((p2 &&& (255 : Int32)) < (0 : Int32)) := (by have q0 := own_rng p2; have q1 := (by decide : ((255 : Int32)).toInt = 255); have q2 := (own_mask p2 (255 : Int32) (by decide) : 0 ≤ ((p2 &&& (255 : Int32))).toInt ∧ ((p2 &&& (255 : Int32))).toInt ≤ 255); have q3 := (by decide : ((0 : Int32)).toInt = 0); exact own_ltF (by omega))
  have hu1 : ¬ ((65535 : Int32) < (p2 &&& (255 : Int32))) := (by have q0 := (by decide : ((65535 : Int32)).toInt = 65535); have q1 := own_rng p2; have q2 := (by decide : ((255 : Int32)).toInt = 255); have q3 := (own_mask p2 (255 : Int32) (by decide) : 0 ≤ ((p2 &&& (255 : Int32))).toInt ∧ ((p2 &&& (255 : Int32))).toInt ≤ 255); exact own_ltF (by omega))
  refine own_end X1 hlk (v := some (vI (p2 &&& (255 : Int32)))) (own_hv hret) (by decide) (by rw [e1]; exact ⟨rfl, (Fr.app N0 N1q), rfl⟩) fun fs hr => ?_
  show St p e below s₁ (mkF m 0 #[sR a1, sI 0] []) _
  refine wil X0 hx hby rfl d23_0 rfl ?_
  refine wal X0 hx hby rfl d23_1 rfl rfl ?_
  refine own_alen X0 hx hZ e0 PV1 (g := (mkF m 2 #[sR a1, sI 0] [(vR a1), (vI 0)])) rfl rfl (hb hby d23_2) ?_
  refine st1 _ ?_
  refine wal X1 hx hby rfl d23_6 rfl rfl ?_
  refine wil X1 hx hby rfl d23_7 rfl ?_
  refine own_baloadB X1 hx hZ e1 PV1 (j := 0) (by decide) (v := (vI p2)) rfl (g := (mkF m 8 #[sR a1, sI 0] [(vI 0), (vR a1)])) rfl rfl (hb hby d23_8) ?_
  refine wsp X1 hx hby rfl d23_9 ?_
  refine XS.iand X1.here hx rfl (hb hby d23_12) rfl ?_
  refine Own.i2c X1.here hx rfl (hb hby d23_13) rfl (own_i2c hu0 hu1) ?_
  exact own_retN X1 hx (t := .char) hret (by simp) (hb hby d23_14) (own_narC hu0 hu1) hr
def Qrm42 (Z : State) (p3 : Int32) (h0 : Heap) (n0 : Nat) (v : Option Value) (h : Heap) (L : List Loc) : Prop := v = some (vI (p3 &&& (255 : Int32))) ∧ Fr n0 L ∧ h = h0
theorem rm42 (cx : Cx Z a0 w0 w1) (a1 : Addr) (a2 : Addr) (p3 : Int32) (ck4 : ClassId) (O0 : Old Z n0 h0) (PF1 : Fld Z h0 a1 z0 "coder" "B" (vI 0)) (PE2 : Exa Z h0 a1 z0) (PF3 : Fld Z h0 a1 z0 "value" "[B" (vR a2)) (PV4 : Arv Z h0 a2 ck4 .byte (1 : Int32) [(vI p3)] (vI 0)) : Ct l Z ⟨z0, "charAt", "(I)C"⟩ jdk_42_method_56_code 2 (some .char) ⟨3, 0, 0, 40⟩ #[(vR a1), (vI 0)] h0 (Qrm42 Z p3 h0 n0) := by
  obtain ⟨hw, hj, hS⟩ := id cx
  refine own_bd (plainFor_of_name pn63) (fun m => ef194 m a1 0) fun p e s m below meth c s₁ hret hlk hZ hx hby hml hown hnm X0 e0 => ?_
  have N0 := Fr.nil n0
  obtain ⟨_, T1, L1, ⟨rfl, N1q, e1⟩, X1, st1⟩ := cV X0 hx hZ (W := 0) hown (cw5 cx) (rm6 cx a1 O0 PF1) e0 PE2 (g := (mkF m 1 #[sR a1, sI 0] [(vR a1)])) rfl hml rfl (rest := []) rfl rfl rfl rfl (hb hby d22_1) (by decide)
  obtain ⟨T2, X2, e2, st2⟩ := getF X1 hx hZ hown (host := "") (Or.inl (hw _ m28)) Via.refl e1 PF3 (g := (mkF m 8 #[sR a1, sI 0] [(vR a1)])) rfl rfl (hb hby d22_8)
  obtain ⟨_, T3, L3, ⟨rfl, N3q, e3⟩, X3, st3⟩ := cS X2 hx hZ (W := 0) hown (cw23 cx) (rm41 cx a2 p3 ck4 O0 PV4) e2 (g := (mkF m 12 #[sR a1, sI 0] [(vI 0), (vR a2)])) rfl hml rfl (rest := []) rfl rfl rfl rfl (hb hby d22_12) (by decide)
  have hu0 : ¬ ((p3 &&& (255 : Int32)) < (0 : Int32)) := (by have q0 := own_rng p3; have q1 := (by decide : ((255 : Int32)).toInt = 255); have q2 := (own_mask p3 (255 : Int32) (by decide) : 0 ≤ ((p3 &&& (255 : Int32))).toInt ∧ ((p3 &&& (255 : Int32))).toInt ≤ 255); have q3 := (by decide : ((0 : Int32)).toInt = 0); exact own_ltF (by omega))
  have hu1 : ¬ ((65535 : Int32) < (p3 &&& (255 : Int32))) := (by have q0 := (by decide : ((65535 : Int32)).toInt = 65535); have q1 := own_rng p3; have q2 := (by decide : ((255 : Int32)).toInt = 255); have q3 := (own_mask p3 (255 : Int32) (by decide) : 0 ≤ ((p3 &&& (255 : Int32))).toInt ∧ ((p3 &&& (255 : Int32))).toInt ≤ 255); exact own_ltF (by omega))
  refine own_end X3 hlk (v := some (vI (p3 &&& (255 : Int32)))) (own_hv hret) (by decide) (by rw [e3]; exact ⟨rfl, (Fr.app (Fr.app N0 N1q) N3q), rfl⟩) fun fs hr => ?_
  show St p e below s₁ (mkF m 0 #[sR a1, sI 0] []) _
  refine wal X0 hx hby rfl d22_0 rfl rfl ?_
  refine st1 _ ?_
  refine wfn X1 hx hby rfl d22_4 rfl ((if0 _ _).trans (feq (by decide : ¬ ((1 : Int32) = (0 : Int32)))).1) ?_
  refine wal X1 hx hby rfl d22_7 rfl rfl ?_
  refine st2 _ ?_
  refine wil X2 hx hby rfl d22_11 rfl ?_
  refine st3 _ ?_
  exact own_retN X3 hx (t := .char) hret (by simp) (hb hby d22_15) (own_narC hu0 hu1) hr
def Qrm43 (Z : State) (a1 : Addr) (ck2 : ClassId) (p4 : Int32) (p5 : Int32) (h0 : Heap) (n0 : Nat) (v : Option Value) (h : Heap) (L : List Loc) : Prop := v = some (vI 2) ∧ Fr n0 L ∧ Keep h0 h [a1] ∧ Arv Z h a1 ck2 .byte (2 : Int32) [(vI (p4.toInt8.toInt32)), (vI (p5.toInt8.toInt32))] (vI 0)
theorem rm43 (cx : Cx Z a0 w0 w1) (a1 : Addr) (ck2 : ClassId) (a3 : Addr) (p4 : Int32) (p5 : Int32) (ck6 : ClassId) (O0 : Old Z n0 h0) (PV1 : Arv Z h0 a1 ck2 .byte (2 : Int32) [(vI 0), (vI 0)] (vI 0)) (PV2 : Arv Z h0 a3 ck6 .char (2 : Int32) [(vI p4), (vI p5)] (vI 0)) (hc3 : ¬ ((255 : Int32) < p4)) (gn4 : n0 ≤ a1) (pne5 : a3 ≠ a1) (hc6 : ¬ ((255 : Int32) < p5)) : Ct l Z ⟨z6, "compress", "([CI[BII)I"⟩ jdk_52_method_21_code 7 (some .int) ⟨0, 0, 0, 0⟩ #[(vR a3), (vI 0), (vR a1), (vI 0), (vI 2)] h0 (Qrm43 Z a1 ck2 p4 p5 h0 n0) := by
  obtain ⟨hw, hj, hS⟩ := id cx
  refine own_bd (plainFor_of_name pn328) (fun m => ef327 m a3 0 a1 0 2) fun p e s m below meth c s₁ hret hlk hZ hx hby hml hown hnm X0 e0 => ?_
  have N0 := Fr.nil n0
  have hu0 : ¬ ((p4.toInt8.toInt32) < (-128 : Int32)) := (by have q0 := own_rng p4; have q1 := c_i2b p4; have q2 := (by decide : ((-128 : Int32)).toInt = -128); exact own_ltF (by omega))
  have hu1 : ¬ ((127 : Int32) < (p4.toInt8.toInt32)) := (by have q0 := (by decide : ((127 : Int32)).toInt = 127); have q1 := own_rng p4; have q2 := c_i2b p4; exact own_ltF (by omega))
  obtain ⟨T1, h1, L'1, X1, e1, W1, V1, O1, K1, N1, st1⟩ := own_stB X0 hx hZ e0 PV1 O0 (Keep.refl h0 [a1]) N0 gn4 (Or.inl (List.mem_of_getElem? (i := 0) rfl)) (j := (0 : Int32)) 0 (by decide) (Nat.le_of_ble_eq_true rfl) (v := (vI (p4.toInt8.toInt32))) (congrArg Value.int (own_narB hu0 hu1)) (vs' := [(vI (p4.toInt8.toInt32)), (vI 0)]) rfl (g := (mkF m 31 #[sR a3, sI 0, sR a1, sI 0, sI 2, sI 0, sI p4] [(vI (p4.toInt8.toInt32)), (vI 0), (vR a1)])) rfl rfl (hb hby d20_31)
  have f2 : Arv Z h1 a3 ck6 .char (2 : Int32) [(vI p4), (vI p5)] (vI 0) := (PV2.other W1 pne5)
  have hu2 : ¬ ((p5.toInt8.toInt32) < (-128 : Int32)) := (by have q0 := own_rng p5; have q1 := c_i2b p5; have q2 := (by decide : ((-128 : Int32)).toInt = -128); exact own_ltF (by omega))
  have hu3 : ¬ ((127 : Int32) < (p5.toInt8.toInt32)) := (by have q0 := (by decide : ((127 : Int32)).toInt = 127); have q1 := own_rng p5; have q2 := c_i2b p5; exact own_ltF (by omega))
  obtain ⟨T3, h3, L'3, X3, e3, W3, V3, O3, K3, N3, st3⟩ := own_stB X1 hx hZ e1 V1 O1 K1 N1 gn4 (Or.inl (List.mem_of_getElem? (i := 0) rfl)) (j := (1 : Int32)) 1 (by decide) (Nat.le_of_ble_eq_true rfl) (v := (vI (p5.toInt8.toInt32))) (congrArg Value.int (own_narB hu2 hu3)) (vs' := [(vI (p4.toInt8.toInt32)), (vI (p5.toInt8.toInt32))]) rfl (g := (mkF m 31 #[sR a3, sI 1, sR a1, sI 1, sI 2, sI 1, sI p5] [(vI (p5.toInt8.toInt32)), (vI 1), (vR a1)])) rfl rfl (hb hby d20_31)
  refine own_end X3 hlk (v := some (vI 2)) (own_hv hret) (by decide) (by rw [e3]; exact ⟨rfl, N3, K3, V3⟩) fun fs hr => ?_
  show St p e below s₁ (mkF m 0 #[sR a3, sI 0, sR a1, sI 0, sI 2, sU, sU] []) _
  refine wic X0 hx hby rfl d20_0 ?_
  refine wiS X0 hx hby rfl d20_1 rfl (l' := #[sR a3, sI 0, sR a1, sI 0, sI 2, sI 0, sU]) rfl ?_
  refine wiL X0 hx hby rfl d20_3 rfl ?_
  refine wiL X0 hx hby rfl d20_5 rfl ?_
  refine wcn X0 hx hby rfl d20_7 rfl (tlt (by decide : (0 : Int32) < (2 : Int32))).2.1 ?_
  refine wal X0 hx hby rfl d20_10 rfl rfl ?_
  refine wil X0 hx hby rfl d20_11 rfl ?_
  refine own_caload X0 hx hZ e0 PV2 (j := 0) (by decide) (v := (vI p4)) rfl (g := (mkF m 12 #[sR a3, sI 0, sR a1, sI 0, sI 2, sI 0, sU] [(vI 0), (vR a3)])) rfl rfl (hb hby d20_12) ?_
  refine wiS X0 hx hby rfl d20_13 rfl (l' := #[sR a3, sI 0, sR a1, sI 0, sI 2, sI 0, sI p4]) rfl ?_
  refine wiL X0 hx hby rfl d20_15 rfl ?_
  refine wsp X0 hx hby rfl d20_17 ?_
  refine wcy X0 hx hby rfl (pc0 := 20) (pc' := 26) rfl d20_20 rfl (flt hc3).2.2.2 (by decide) (by decide) ?_
  refine wal X0 hx hby rfl d20_26 rfl rfl ?_
  refine wil X0 hx hby rfl d20_27 rfl ?_
  refine wiL X0 hx hby rfl d20_28 rfl ?_
  refine XS.i2b X0.here hx rfl (hb hby d20_30) rfl ?_
  show St p e below s₁ (mkF m 31 #[sR a3, sI 0, sR a1, sI 0, sI 2, sI 0, sI p4] [(vI (p4.toInt8.toInt32)), (vI 0), (vR a1)]) _
  refine st1 _ ?_
  refine Own.iinc X1.here hx rfl (hb hby d20_32) rfl (by decide : ((0 : Int32) + (1 : Int32)) = (1 : Int32)) (l' := #[sR a3, sI 1, sR a1, sI 0, sI 2, sI 0, sI p4]) rfl ?_
  refine Own.iinc X1.here hx rfl (hb hby d20_35) rfl (by decide : ((0 : Int32) + (1 : Int32)) = (1 : Int32)) (l' := #[sR a3, sI 1, sR a1, sI 1, sI 2, sI 0, sI p4]) rfl ?_
  refine Own.iinc X1.here hx rfl (hb hby d20_38) rfl (by decide : ((0 : Int32) + (1 : Int32)) = (1 : Int32)) (l' := #[sR a3, sI 1, sR a1, sI 1, sI 2, sI 1, sI p4]) rfl ?_
  refine wgt X1 hx hby rfl (pc0 := 41) (pc' := 3) rfl d20_41 (by decide) (by decide) ?_
  refine wiL X1 hx hby rfl d20_3 rfl ?_
  refine wiL X1 hx hby rfl d20_5 rfl ?_
  refine wcn X1 hx hby rfl d20_7 rfl (tlt (by decide : (1 : Int32) < (2 : Int32))).2.1 ?_
  refine wal X1 hx hby rfl d20_10 rfl rfl ?_
  refine wil X1 hx hby rfl d20_11 rfl ?_
  refine own_caload X1 hx hZ e1 f2 (j := 1) (by decide) (v := (vI p5)) rfl (g := (mkF m 12 #[sR a3, sI 1, sR a1, sI 1, sI 2, sI 1, sI p4] [(vI 1), (vR a3)])) rfl rfl (hb hby d20_12) ?_
  refine wiS X1 hx hby rfl d20_13 rfl (l' := #[sR a3, sI 1, sR a1, sI 1, sI 2, sI 1, sI p5]) rfl ?_
  refine wiL X1 hx hby rfl d20_15 rfl ?_
  refine wsp X1 hx hby rfl d20_17 ?_
  refine wcy X1 hx hby rfl (pc0 := 20) (pc' := 26) rfl d20_20 rfl (flt hc6).2.2.2 (by decide) (by decide) ?_
  refine wal X1 hx hby rfl d20_26 rfl rfl ?_
  show St p e below T1 (mkF m 27 #[sR a3, sI 1, sR a1, sI 1, sI 2, sI 1, sI p5] [(vR a1)]) _
  refine wil X1 hx hby rfl d20_27 rfl ?_
  refine wiL X1 hx hby rfl d20_28 rfl ?_
  refine XS.i2b X1.here hx rfl (hb hby d20_30) rfl ?_
  refine st3 _ ?_
  refine Own.iinc X3.here hx rfl (hb hby d20_32) rfl (by decide : ((1 : Int32) + (1 : Int32)) = (2 : Int32)) (l' := #[sR a3, sI 2, sR a1, sI 1, sI 2, sI 1, sI p5]) rfl ?_
  refine Own.iinc X3.here hx rfl (hb hby d20_35) rfl (by decide : ((1 : Int32) + (1 : Int32)) = (2 : Int32)) (l' := #[sR a3, sI 2, sR a1, sI 2, sI 2, sI 1, sI p5]) rfl ?_
  refine Own.iinc X3.here hx rfl (hb hby d20_38) rfl (by decide : ((1 : Int32) + (1 : Int32)) = (2 : Int32)) (l' := #[sR a3, sI 2, sR a1, sI 2, sI 2, sI 2, sI p5]) rfl ?_
  refine wgt X3 hx hby rfl (pc0 := 41) (pc' := 3) rfl d20_41 (by decide) (by decide) ?_
  refine wiL X3 hx hby rfl d20_3 rfl ?_
  refine wiL X3 hx hby rfl d20_5 rfl ?_
  refine wcy X3 hx hby rfl (pc0 := 7) (pc' := 44) rfl d20_7 rfl (flt (by decide : ¬ ((2 : Int32) < (2 : Int32)))).2.1 (by decide) (by decide) ?_
  refine wiL X3 hx hby rfl d20_44 rfl ?_
  exact retOut X3 hx hret rfl (Or.inl ⟨rfl, Or.inl rfl, _, rfl⟩) (hb hby d20_46) hr
def Qrm44 (Z : State) (p2 : Int32) (p3 : Int32) (h0 : Heap) (n0 : Nat) (v : Option Value) (h : Heap) (L : List Loc) : Prop := ∃ x0 : Addr, ∃ xk0 : ClassId, v = some (vR x0) ∧ Fr n0 L ∧ Keep h0 h [] ∧ h0.size ≤ x0 ∧ Arv Z h x0 xk0 .byte (2 : Int32) [(vI (p2.toInt8.toInt32)), (vI (p3.toInt8.toInt32))] (vI 0)
theorem rm44 (cx : Cx Z a0 w0 w1) (a1 : Addr) (p2 : Int32) (p3 : Int32) (ck4 : ClassId) (O0 : Old Z n0 h0) (PV1 : Arv Z h0 a1 ck4 .char (2 : Int32) [(vI p2), (vI p3)] (vI 0)) (hc2 : ¬ ((255 : Int32) < p2)) (hc3 : ¬ ((255 : Int32) < p3)) : Ct l Z ⟨z6, "compress", "([CII)[B"⟩ jdk_52_method_16_code 6 (some (.array .byte)) ⟨1, 1, 2, 18⟩ #[(vR a1), (vI 0), (vI 2)] h0 (Qrm44 Z p2 p3 h0 n0) := by
  obtain ⟨hw, hj, hS⟩ := id cx
  refine own_bd (plainFor_of_name pn328) (fun m => ef339 m a1 0 2) fun p e s m below meth c s₁ hret hlk hZ hx hby hml hown hnm X0 e0 => ?_
  have N0 := Fr.nil n0
  obtain ⟨T1, h1, k1, b1, X1, e1, E1, V1, g1, O1, K1, st1⟩ := own_newP X0 hx hZ (aty := .byte) (ty := .byte) (dv := (.int (0 : Int32))) (vs := [(.int (0 : Int32)), (.int (0 : Int32))]) (cap := 2) rfl rfl rfl (hw _ m23) e0 O0 (Keep.refl h0 []) (g := (mkF m 1 #[sR a1, sI 0, sI 2, sU, sU, sU] [(vI 2)])) rfl (hb hby d19_1) rfl (by decide) (by decide) (by decide) (by decide) (by decide)
  have f3 : Arv Z h1 a1 ck4 .char (2 : Int32) [(vI p2), (vI p3)] (vI 0) := (PV1.ext E1)
  obtain ⟨_, T2, L2, ⟨rfl, N2q, Kq2, q2_0⟩, X2, st2⟩ := cS X1 hx hZ (W := 0) hown (cw17 cx) (rm43 cx b1 k1 a1 p2 p3 ck4 O1 V1 f3 hc2 (Nat.le_trans (own_old_le O0) g1) (Nat.ne_of_lt (Nat.lt_of_lt_of_le PV1.lt g1)) hc3) e1 (g := (mkF m 9 #[sR a1, sI 0, sI 2, sR b1, sU, sU] [(vI 2), (vI 0), (vR b1), (vI 0), (vR a1)])) rfl hml rfl (rest := []) rfl rfl rfl rfl (hb hby d19_9) (by decide)
  have N2 := Fr.app N0 N2q
  have O2 : Old Z n0 T2.heap := O1.keep Kq2 (allS (Nat.le_trans (own_old_le O0) g1) all0)
  have K2 : Keep h0 T2.heap [] := K1.trans Kq2 (allS (Or.inr (Nat.le_trans (Keep.refl h0 []).1 g1)) all0)
  refine own_end X2 hlk (v := some (vR b1)) (own_hv hret) (by decide) ⟨b1, k1, rfl, N2, K2, (Nat.le_trans (Keep.refl h0 []).1 g1), q2_0⟩ fun fs hr => ?_
  show St p e below s₁ (mkF m 0 #[sR a1, sI 0, sI 2, sU, sU, sU] []) _
  refine wil X0 hx hby rfl d19_0 rfl ?_
  refine st1 _ ?_
  refine was X1 hx hby rfl d19_3 rfl rfl (l' := #[sR a1, sI 0, sI 2, sR b1, sU, sU]) rfl ?_
  refine wal X1 hx hby rfl d19_4 rfl rfl ?_
  refine wil X1 hx hby rfl d19_5 rfl ?_
  refine wal X1 hx hby rfl d19_6 rfl rfl ?_
  refine wic X1 hx hby rfl d19_7 ?_
  refine wil X1 hx hby rfl d19_8 rfl ?_
  refine st2 _ ?_
  refine wiS X2 hx hby rfl d19_12 rfl (l' := #[sR a1, sI 0, sI 2, sR b1, sI 2, sU]) rfl ?_
  refine wiL X2 hx hby rfl d19_14 rfl ?_
  refine wil X2 hx hby rfl d19_16 rfl ?_
  refine wcy X2 hx hby rfl (pc0 := 17) (pc' := 57) rfl d19_17 rfl (teq (by decide : (2 : Int32) = (2 : Int32))).1 (by decide) (by decide) ?_
  refine wal X2 hx hby rfl d19_57 rfl rfl ?_
  exact retOut X2 hx hret rfl (Or.inr (Or.inr (Or.inr (Or.inr ⟨rfl, rfl, rfl⟩)))) (hb hby d19_58) hr
def Qrm45 (Z : State) (h0 : Heap) (n0 : Nat) (v : Option Value) (h : Heap) (L : List Loc) : Prop := v = some (vI 0) ∧ Fr n0 L ∧ h = h0
theorem rm45 (cx : Cx Z a0 w0 w1) (a1 : Addr) (p2 : Int32) (p3 : Int32) (ck4 : ClassId) (O0 : Old Z n0 h0) (PV1 : Arv Z h0 a1 ck4 .byte (2 : Int32) [(vI p2), (vI p3)] (vI 0)) : Ct l Z ⟨z6, "coderFromArrayLen", "([BI)B"⟩ jdk_52_method_15_code 2 (some .byte) ⟨0, 0, 0, 0⟩ #[(vR a1), (vI 2)] h0 (Qrm45 Z h0 n0) := by
  obtain ⟨hw, hj, hS⟩ := id cx
  refine own_bd (plainFor_of_name pn328) (fun m => ef194 m a1 2) fun p e s m below meth c s₁ hret hlk hZ hx hby hml hown hnm X0 e0 => ?_
  have N0 := Fr.nil n0
  refine own_end X0 hlk (v := some (vI 0)) (own_hv hret) (by decide) (by rw [e0]; exact ⟨rfl, N0, rfl⟩) fun fs hr => ?_
  show St p e below s₁ (mkF m 0 #[sR a1, sI 2] []) _
  refine wil X0 hx hby rfl d21_0 rfl ?_
  refine wal X0 hx hby rfl d21_1 rfl rfl ?_
  refine own_alen X0 hx hZ e0 PV1 (g := (mkF m 2 #[sR a1, sI 2] [(vR a1), (vI 2)])) rfl rfl (hb hby d21_2) ?_
  refine Own.isub X0.here hx rfl (hb hby d21_3) rfl (by decide : ((2 : Int32) - (2 : Int32)) = (0 : Int32)) ?_
  refine wbp X0 hx hby rfl d21_4 ?_
  refine Own.iushr X0.here hx rfl (hb hby d21_6) rfl (by decide : (((0 : Int32).toUInt32 >>> ((31 : Int32) &&& 31).toUInt32).toInt32) = (0 : Int32)) ?_
  refine Own.i2b X0.here hx rfl (hb hby d21_7) rfl (by decide : ((0 : Int32).toInt8.toInt32) = (0 : Int32)) ?_
  exact retN X0 hx (t := .byte) hret (by simp) (hb hby d21_8) hr
def Qrm46 (Z : State) (a1 : Addr) (p3 : Int32) (p4 : Int32) (h0 : Heap) (n0 : Nat) (v : Option Value) (h : Heap) (L : List Loc) : Prop := ∃ x0 : Addr, ∃ xk0 : ClassId, v = none ∧ Fr n0 L ∧ Keep h0 h [a1] ∧ h0.size ≤ x0 ∧ Arv Z h x0 xk0 .byte (2 : Int32) [(vI (p3.toInt8.toInt32)), (vI (p4.toInt8.toInt32))] (vI 0) ∧ Fld Z h a1 z0 "value" "[B" (vR x0) ∧ Fld Z h a1 z0 "coder" "B" (vI 0)
theorem rm46 (cx : Cx Z a0 w0 w1) (a1 : Addr) (a2 : Addr) (p3 : Int32) (p4 : Int32) (ck5 : ClassId) (O0 : Old Z n0 h0) (PE1 : Exa Z h0 a1 z0) (PF2 : Fld Z h0 a1 z0 "value" "[B" .null) (PF3 : Fld Z h0 a1 z0 "coder" "B" (vI 0)) (PV4 : Arv Z h0 a2 ck5 .char (2 : Int32) [(vI p3), (vI p4)] (vI 0)) (hc5 : ¬ ((255 : Int32) < p3)) (hc6 : ¬ ((255 : Int32) < p4)) (gn7 : n0 ≤ a1) : Ct l Z ⟨z0, "<init>", z13⟩ jdk_42_method_149_code 6 none ⟨2, 1, 2, 35⟩ #[(vR a1), (vR a2), (vI 0), (vI 2), .null] h0 (Qrm46 Z a1 p3 p4 h0 n0) := by
  obtain ⟨hw, hj, hS⟩ := id cx
  refine own_bd (plainFor_of_name pn63) (fun m => ef62 m a1 a2 0 2) fun p e s m below meth c s₁ hret hlk hZ hx hby hml hown hnm X0 e0 => ?_
  have N0 := Fr.nil n0
  obtain ⟨T1, X1, e1, st1⟩ := initO X0 hx hZ hown (hw _ m19) (hw _ m20) (hw _ m21) e0 (g := (mkF m 1 #[sR a1, sR a2, sI 0, sI 2, sN, sU] [(vR a1)])) rfl (by rw [hml]; rfl) rfl (hb hby d4_1) (by decide) (W := 0) (Nat.le_of_eq rfl) (by decide)
  obtain ⟨T2, X2, e2, st2⟩ := getS2 X1 hx hZ hown (host := "") (Or.inl (hw _ m49)) Via.refl e1 (hS.1.ext O0.2) (g := (mkF m 27 #[sR a1, sR a2, sI 0, sI 2, sN, sU] [])) rfl (hb hby d4_27)
  obtain ⟨_, T3, L3, ⟨c3_0, k3_1, rfl, N3q, Kq3, lo3_0, q3_0⟩, X3, st3⟩ := cS X2 hx hZ (W := 0) hown (cw18 cx) (rm44 cx a2 p3 p4 ck5 O0 PV4 hc5 hc6) e2 (g := (mkF m 36 #[sR a1, sR a2, sI 0, sI 2, sN, sU] [(vI 2), (vI 0), (vR a2)])) rfl hml rfl (rest := []) rfl rfl rfl rfl (hb hby d4_36) (by decide)
  have N3 := Fr.app N0 N3q
  have O3 : Old Z n0 T3.heap := O0.keep Kq3 all0
  have K3 : Keep h0 T3.heap [a1] := (Keep.refl h0 [a1]).trans Kq3 all0
  obtain ⟨_, T4, L4, ⟨rfl, N4q, e4⟩, X4, st4⟩ := cS X3 hx hZ (W := 1) hown (cw19 cx) (rm45 cx c3_0 (p3.toInt8.toInt32) (p4.toInt8.toInt32) k3_1 O3 q3_0) (rfl : T3.heap = T3.heap) (g := (mkF m 45 #[sR a1, sR a2, sI 0, sI 2, sN, sR c3_0] [(vI 2), (vR c3_0), (vR a1)])) rfl hml rfl (rest := [(vR a1)]) rfl rfl rfl rfl (hb hby d4_45) (by decide)
  have f5 : Fld Z T3.heap a1 z0 "coder" "B" (vI 0) := (PF3.keep Kq3 nin0)
  have f6 : Exa Z T3.heap a1 z0 := (PE1.keep Kq3)
  obtain ⟨T7, h7, L'7, X7, e7, W7, Fw7, O7, K7, N7, st7⟩ := own_putN X4 hx hZ hown (hw _ m29) Via.refl e4 O3 K3 (Fr.app N3 N4q) gn7 (Or.inl (List.mem_of_getElem? (i := 0) rfl)) f5 f6 (Or.inr ⟨(hw _ m25), rfl, hnm⟩) (hw _ m10) (ty := .byte) (v' := (vI 0)) (by decide) rfl (by decide) (g := (mkF m 48 #[sR a1, sR a2, sI 0, sI 2, sN, sR c3_0] [(vI 0), (vR a1)])) rfl rfl (hb hby d4_48)
  have f8 : Fld Z h7 a1 z0 "value" "[B" .null := ((PF2.keep Kq3 nin0).other W7 (Or.inr (slot_ne (Or.inr (hw _ m24)) (Or.inr (hw _ m25)) (by decide) (t := (.array .byte)) (t' := .byte) (by decide) (by decide))))
  have f9 : Exa Z h7 a1 z0 := (f6.wr W7)
  obtain ⟨T10, h10, L'10, X10, e10, W10, Fw10, O10, K10, N10, st10⟩ := own_put X7 hx hZ hown (host := "") (Or.inl (hw _ m28)) Via.refl e7 O7 K7 N7 gn7 (Or.inl (List.mem_of_getElem? (i := 0) rfl)) f8 f9 (Or.inr ⟨(hw _ m24), rfl, hnm⟩) (hw _ m10) (ty := (.array .byte)) (by decide) rfl rfl (g := (mkF m 54 #[sR a1, sR a2, sI 0, sI 2, sN, sR c3_0] [(vR c3_0), (vR a1)])) rfl rfl (hb hby d4_54)
  have f11 : Arv Z h10 c3_0 k3_1 .byte (2 : Int32) [(vI (p3.toInt8.toInt32)), (vI (p4.toInt8.toInt32))] (vI 0) := ((q3_0.other W7 (Ne.symm (Nat.ne_of_lt (Nat.lt_of_lt_of_le PE1.lt lo3_0)))).other W10 (Ne.symm (Nat.ne_of_lt (Nat.lt_of_lt_of_le PE1.lt lo3_0))))
  have f12 : Fld Z h10 a1 z0 "coder" "B" (vI 0) := (Fw7.other W10 (Or.inr (slot_ne (Or.inr (hw _ m25)) (Or.inr (hw _ m24)) (by decide) (t := .byte) (t' := (.array .byte)) (by decide) (by decide))))
  refine own_end X10 hlk (v := none) (fun _ => rfl) (by decide) (by rw [e10]; exact ⟨c3_0, k3_1, rfl, N10, K10, (Nat.le_trans (Keep.refl h0 [a1]).1 lo3_0), f11, Fw10, f12⟩) fun fs hr => ?_
  show St p e below s₁ (mkF m 0 #[sR a1, sR a2, sI 0, sI 2, sN, sU] []) _
  refine wal X0 hx hby rfl d4_0 rfl rfl ?_
  refine st1 _ ?_
  refine wil X1 hx hby rfl d4_4 rfl ?_
  refine wfy X1 hx hby rfl (pc0 := 5) (pc' := 27) rfl d4_5 rfl ((if0 _ _).trans (feq (by decide : ¬ ((2 : Int32) = (0 : Int32)))).2) (by decide) (by decide) ?_
  refine st2 _ ?_
  refine wfn X2 hx hby rfl d4_30 rfl ((if0 _ _).trans (feq hS.2.1).1) ?_
  refine wal X2 hx hby rfl d4_33 rfl rfl ?_
  refine wil X2 hx hby rfl d4_34 rfl ?_
  refine wil X2 hx hby rfl d4_35 rfl ?_
  refine st3 _ ?_
  refine waS X3 hx hby rfl d4_39 rfl rfl (l' := #[sR a1, sR a2, sI 0, sI 2, sN, sR c3_0]) rfl ?_
  refine wal X3 hx hby rfl d4_41 rfl rfl ?_
  refine waL X3 hx hby rfl d4_42 rfl rfl ?_
  refine wil X3 hx hby rfl d4_44 rfl ?_
  refine st4 _ ?_
  refine st7 _ ?_
  show St p e below T7 (mkF m 51 #[sR a1, sR a2, sI 0, sI 2, sN, sR c3_0] []) _
  refine wal X7 hx hby rfl d4_51 rfl rfl ?_
  refine waL X7 hx hby rfl d4_52 rfl rfl ?_
  refine st10 _ ?_
  exact X10.returnOut hx hret (hb hby d4_57) hr
def Qrm47 (Z : State) (a1 : Addr) (p3 : Int32) (p4 : Int32) (h0 : Heap) (n0 : Nat) (v : Option Value) (h : Heap) (L : List Loc) : Prop := ∃ x0 : Addr, ∃ xk0 : ClassId, v = none ∧ Fr n0 L ∧ Keep h0 h [a1] ∧ h0.size ≤ x0 ∧ Arv Z h x0 xk0 .byte (2 : Int32) [(vI (p3.toInt8.toInt32)), (vI (p4.toInt8.toInt32))] (vI 0) ∧ Fld Z h a1 z0 "value" "[B" (vR x0) ∧ Fld Z h a1 z0 "coder" "B" (vI 0)
theorem rm47 (cx : Cx Z a0 w0 w1) (a1 : Addr) (a2 : Addr) (p3 : Int32) (p4 : Int32) (ck5 : ClassId) (O0 : Old Z n0 h0) (PE1 : Exa Z h0 a1 z0) (PF2 : Fld Z h0 a1 z0 "value" "[B" .null) (PF3 : Fld Z h0 a1 z0 "coder" "B" (vI 0)) (PV4 : Arv Z h0 a2 ck5 .char (2 : Int32) [(vI p3), (vI p4)] (vI 0)) (hc5 : ¬ ((255 : Int32) < p3)) (hc6 : ¬ ((255 : Int32) < p4)) (gn7 : n0 ≤ a1) : Ct l Z ⟨z0, "<init>", "([C)V"⟩ jdk_42_method_3_code 2 none ⟨3, 1, 2, 52⟩ #[(vR a1), (vR a2)] h0 (Qrm47 Z a1 p3 p4 h0 n0) := by
  obtain ⟨hw, hj, hS⟩ := id cx
  refine own_bd (plainFor_of_name pn63) (fun m => ef68 m a1 a2) fun p e s m below meth c s₁ hret hlk hZ hx hby hml hown hnm X0 e0 => ?_
  have N0 := Fr.nil n0
  obtain ⟨_, T1, L1, ⟨c1_0, k1_1, rfl, N1q, Kq1, lo1_0, q1_0, q1_1, q1_2⟩, X1, st1⟩ := cI X0 hx hZ (W := 0) hown (cw0 cx) (rm46 cx a1 a2 p3 p4 ck5 O0 PE1 PF2 PF3 PV4 hc5 hc6 gn7) e0 (g := (mkF m 6 #[sR a1, sR a2] [.null, (vI 2), (vI 0), (vR a2), (vR a1)])) rfl hml rfl (rest := []) rfl rfl rfl rfl (hb hby d3_6) (by decide)
  have N1 := Fr.app N0 N1q
  have O1 : Old Z n0 T1.heap := O0.keep Kq1 (allS gn7 all0)
  have K1 : Keep h0 T1.heap [a1] := (Keep.refl h0 [a1]).trans Kq1 (allS (Or.inl (List.mem_of_getElem? (i := 0) rfl)) all0)
  refine own_end X1 hlk (v := none) (fun _ => rfl) (by decide) ⟨c1_0, k1_1, rfl, N1, K1, (Nat.le_trans (Keep.refl h0 [a1]).1 lo1_0), q1_0, q1_1, q1_2⟩ fun fs hr => ?_
  show St p e below s₁ (mkF m 0 #[sR a1, sR a2] []) _
  refine wal X0 hx hby rfl d3_0 rfl rfl ?_
  refine wal X0 hx hby rfl d3_1 rfl rfl ?_
  refine wic X0 hx hby rfl d3_2 ?_
  refine wal X0 hx hby rfl d3_3 rfl rfl ?_
  refine own_alen X0 hx hZ e0 PV4 (g := (mkF m 4 #[sR a1, sR a2] [(vR a2), (vI 0), (vR a2), (vR a1)])) rfl rfl (hb hby d3_4) ?_
  refine wan X0 hx hby rfl d3_5 ?_
  refine st1 _ ?_
  exact X1.returnOut hx hret (hb hby d3_9) hr
def Qrm48 (Z : State) (p2 : Int32) (p3 : Int32) (h0 : Heap) (n0 : Nat) (v : Option Value) (h : Heap) (L : List Loc) : Prop := ∃ x0 : Addr, ∃ x1 : Addr, ∃ xk0 : ClassId, v = some (vR x0) ∧ Fr n0 L ∧ Keep h0 h [] ∧ h0.size ≤ x0 ∧ x0 < x1 ∧ Exa Z h x0 z0 ∧ Fld Z h x0 z0 "value" "[B" (vR x1) ∧ Fld Z h x0 z0 "coder" "B" (vI 0) ∧ Arv Z h x1 xk0 .byte (2 : Int32) [(vI (p2.toInt8.toInt32)), (vI (p3.toInt8.toInt32))] (vI 0)
theorem rm48 (cx : Cx Z a0 w0 w1) (a1 : Addr) (p2 : Int32) (p3 : Int32) (p4 : Int32) (p5 : Int32) (ck6 : ClassId) (O0 : Old Z n0 h0) (PV1 : Arv Z h0 a1 ck6 .char (4 : Int32) [(vI p2), (vI p3), (vI p4), (vI p5)] (vI 0)) (hc2 : ¬ (p2 < (0 : Int32))) (hc3 : ¬ ((65535 : Int32) < p2)) (hc4 : ¬ (p3 < (0 : Int32))) (hc5 : ¬ ((65535 : Int32) < p3)) (hc6 : ¬ ((255 : Int32) < p2)) (hc7 : ¬ ((255 : Int32) < p3)) : Ct l Z ⟨z1, "make", z12⟩ method_4_code 2 (some (.object z0)) ⟨4, 3, 8, 66⟩ #[(vI 2), (vR a1)] h0 (Qrm48 Z p2 p3 h0 n0) := by
  obtain ⟨hw, hj, hS⟩ := id cx
  refine own_bd (plainFor_of_name pn11) (fun m => ef73 m 2 a1) fun p e s m below meth c s₁ hret hlk hZ hx hby hml hown hnm X0 e0 => ?_
  have N0 := Fr.nil n0
  obtain ⟨T1, h1, b1, X1, e1, E1, A1, D1, g1, O1, K1, st1⟩ := own_newO X0 hx hZ hown (hw _ m9) (hw _ m10) (hw _ m11) e0 O0 (Keep.refl h0 []) (g := (mkF m 42 #[sI 2, sR a1] [])) rfl (hb hby d2_42) (by decide) (by decide)
  have F1_1 : Fld Z h1 b1 z0 "value" "[B" .null := D1 (Or.inr (hw _ m24)) (ty := (.array .byte)) (by decide)
  have F1_2 : Fld Z h1 b1 z0 "coder" "B" (vI 0) := D1 (Or.inr (hw _ m25)) (ty := .byte) (by decide)
  obtain ⟨T2, h2, k2, b2, X2, e2, E2, V2, g2, O2, K2, st2⟩ := own_newP X1 hx hZ (aty := .char) (ty := .char) (dv := (.int (0 : Int32))) (vs := [(.int (0 : Int32)), (.int (0 : Int32))]) (cap := 2) rfl rfl rfl (hw _ m1) e1 O1 K1 (g := (mkF m 47 #[sI 2, sR a1] [(vI 2), (vR b1), (vR b1)])) rfl (hb hby d2_47) rfl (by decide) (by decide) (by decide) (by decide) (by decide)
  have f3 : Arv Z h2 a1 ck6 .char (4 : Int32) [(vI p2), (vI p3), (vI p4), (vI p5)] (vI 0) := ((PV1.ext E1).ext E2)
  obtain ⟨T4, h4, L'4, X4, e4, W4, V4, O4, K4, N4, st4⟩ := own_stC X2 hx hZ e2 V2 O2 K2 N0 (Nat.le_trans (own_old_le O1) g2) (Or.inr (Nat.le_trans K1.1 g2)) (j := (0 : Int32)) 0 (by decide) (Nat.le_of_ble_eq_true rfl) (v := (vI p2)) (congrArg Value.int (own_narC hc2 hc3)) (vs' := [(vI p2), (vI 0)]) rfl (g := (mkF m 54 #[sI 2, sR a1] [(vI p2), (vI 0), (vR b2), (vR b2), (vR b1), (vR b1)])) rfl rfl (hb hby d2_54)
  have ne5 : a1 ≠ b2 := (Nat.ne_of_lt (Nat.lt_of_lt_of_le (Nat.lt_of_lt_of_le PV1.lt E1.1) g2))
  have f6 : Arv Z h4 a1 ck6 .char (4 : Int32) [(vI p2), (vI p3), (vI p4), (vI p5)] (vI 0) := (f3.other W4 ne5)
  obtain ⟨T7, h7, L'7, X7, e7, W7, V7, O7, K7, N7, st7⟩ := own_stC X4 hx hZ e4 V4 O4 K4 N4 (Nat.le_trans (own_old_le O1) g2) (Or.inr (Nat.le_trans K1.1 g2)) (j := (1 : Int32)) 1 (by decide) (Nat.le_of_ble_eq_true rfl) (v := (vI p3)) (congrArg Value.int (own_narC hc4 hc5)) (vs' := [(vI p2), (vI p3)]) rfl (g := (mkF m 60 #[sI 2, sR a1] [(vI p3), (vI 1), (vR b2), (vR b2), (vR b1), (vR b1)])) rfl rfl (hb hby d2_60)
  have f9 : Exa Z h7 b1 z0 := (((A1.ext E2).wr W4).wr W7)
  have f10 : Fld Z h7 b1 z0 "value" "[B" .null := (((F1_1.ext E2).other W4 (Or.inl (Nat.ne_of_lt (Nat.lt_of_lt_of_le A1.lt g2)))).other W7 (Or.inl (Nat.ne_of_lt (Nat.lt_of_lt_of_le A1.lt g2))))
  have f11 : Fld Z h7 b1 z0 "coder" "B" (vI 0) := (((F1_2.ext E2).other W4 (Or.inl (Nat.ne_of_lt (Nat.lt_of_lt_of_le A1.lt g2)))).other W7 (Or.inl (Nat.ne_of_lt (Nat.lt_of_lt_of_le A1.lt g2))))
  obtain ⟨_, T8, L8, ⟨c8_0, k8_1, rfl, N8q, Kq8, lo8_0, q8_0, q8_1, q8_2⟩, X8, st8⟩ := cI X7 hx hZ (W := 1) hown (cw1 cx) (rm47 cx b1 b2 p2 p3 k2 O7 f9 f10 f11 V7 hc6 hc7 (Nat.le_trans (own_old_le O0) g1)) e7 (g := (mkF m 61 #[sI 2, sR a1] [(vR b2), (vR b1), (vR b1)])) rfl hml rfl (rest := [(vR b1)]) rfl rfl rfl rfl (hb hby d2_61) (by decide)
  have N8 := Fr.app N7 N8q
  have O8 : Old Z n0 T8.heap := O7.keep Kq8 (allS (Nat.le_trans (own_old_le O0) g1) all0)
  have K8 : Keep h0 T8.heap [] := K7.trans Kq8 (allS (Or.inr (Nat.le_trans (Keep.refl h0 []).1 g1)) all0)
  have f12 : Exa Z T8.heap b1 z0 := (f9.keep Kq8)
  refine own_end X8 hlk (v := some (vR b1)) (own_hv hret) (by decide) ⟨b1, c8_0, k8_1, rfl, N8, K8, (Nat.le_trans (Keep.refl h0 []).1 g1), (Nat.lt_of_lt_of_le (Nat.lt_of_lt_of_le A1.lt (Nat.le_trans (Nat.le_trans E2.1 (Nat.le_of_eq W4.size.symm)) (Nat.le_of_eq W7.size.symm))) lo8_0), f12, q8_1, q8_2, q8_0⟩ fun fs hr => ?_
  show St p e below s₁ (mkF m 0 #[sI 2, sR a1] []) _
  refine wil X0 hx hby rfl d2_0 rfl ?_
  refine wfy X0 hx hby rfl (pc0 := 1) (pc' := 15) rfl d2_1 rfl ((if0 _ _).trans (feq (by decide : ¬ ((2 : Int32) = (0 : Int32)))).2) (by decide) (by decide) ?_
  refine wil X0 hx hby rfl d2_15 rfl ?_
  refine wic X0 hx hby rfl d2_16 ?_
  refine wcy X0 hx hby rfl (pc0 := 17) (pc' := 37) rfl d2_17 rfl (feq (by decide : ¬ ((2 : Int32) = (1 : Int32)))).2 (by decide) (by decide) ?_
  refine wil X0 hx hby rfl d2_37 rfl ?_
  refine wic X0 hx hby rfl d2_38 ?_
  refine wcn X0 hx hby rfl d2_39 rfl (teq (by decide : (2 : Int32) = (2 : Int32))).2 ?_
  refine st1 _ ?_
  refine wdu X1 hx hby rfl d2_45 rfl rfl ?_
  refine wic X1 hx hby rfl d2_46 ?_
  refine st2 _ ?_
  refine wdu X2 hx hby rfl d2_49 rfl rfl ?_
  refine wic X2 hx hby rfl d2_50 ?_
  refine wal X2 hx hby rfl d2_51 rfl rfl ?_
  refine wic X2 hx hby rfl d2_52 ?_
  show St p e below T2 (mkF m 53 #[sI 2, sR a1] [(vI 0), (vR a1), (vI 0), (vR b2), (vR b2), (vR b1), (vR b1)]) _
  refine own_caload X2 hx hZ e2 f3 (j := 0) (by decide) (v := (vI p2)) rfl (g := (mkF m 53 #[sI 2, sR a1] [(vI 0), (vR a1), (vI 0), (vR b2), (vR b2), (vR b1), (vR b1)])) rfl rfl (hb hby d2_53) ?_
  refine st4 _ ?_
  refine wdu X4 hx hby rfl d2_55 rfl rfl ?_
  refine wic X4 hx hby rfl d2_56 ?_
  refine wal X4 hx hby rfl d2_57 rfl rfl ?_
  refine wic X4 hx hby rfl d2_58 ?_
  refine own_caload X4 hx hZ e4 f6 (j := 1) (by decide) (v := (vI p3)) rfl (g := (mkF m 59 #[sI 2, sR a1] [(vI 1), (vR a1), (vI 1), (vR b2), (vR b2), (vR b1), (vR b1)])) rfl rfl (hb hby d2_59) ?_
  refine st7 _ ?_
  refine st8 _ ?_
  exact retOut X8 hx hret rfl (Or.inr (Or.inr (Or.inr (Or.inr ⟨rfl, rfl, rfl⟩)))) (hb hby d2_64) hr
def Qrm49 (Z : State) (h0 : Heap) (n0 : Nat) (v : Option Value) (h : Heap) (L : List Loc) : Prop := v = some (vI 2) ∧ Fr n0 L ∧ h = h0
theorem rm49 (cx : Cx Z a0 w0 w1) (a1 : Addr) (a2 : Addr) (p3 : Int32) (p4 : Int32) (ck5 : ClassId) (O0 : Old Z n0 h0) (PF1 : Fld Z h0 a1 z0 "value" "[B" (vR a2)) (PV2 : Arv Z h0 a2 ck5 .byte (2 : Int32) [(vI p3), (vI p4)] (vI 0)) (PF3 : Fld Z h0 a1 z0 "coder" "B" (vI 0)) (PE4 : Exa Z h0 a1 z0) : Ct l Z ⟨z0, "length", "()I"⟩ jdk_42_method_54_code 1 (some .int) ⟨1, 0, 0, 13⟩ #[(vR a1)] h0 (Qrm49 Z h0 n0) := by
  obtain ⟨hw, hj, hS⟩ := id cx
  refine own_bd (plainFor_of_name pn63) (fun m => ef104 m a1) fun p e s m below meth c s₁ hret hlk hZ hx hby hml hown hnm X0 e0 => ?_
  have N0 := Fr.nil n0
  obtain ⟨T1, X1, e1, st1⟩ := getF X0 hx hZ hown (host := "") (Or.inl (hw _ m28)) Via.refl e0 PF1 (g := (mkF m 1 #[sR a1] [(vR a1)])) rfl rfl (hb hby d8_1)
  obtain ⟨_, T2, L2, ⟨rfl, N2q, e2⟩, X2, st2⟩ := cV X1 hx hZ (W := 1) hown (cw3 cx) (rm4 cx a1 O0 PF3) e1 PE4 (g := (mkF m 6 #[sR a1] [(vR a1), (vI 2)])) rfl hml rfl (rest := [(vI 2)]) rfl rfl rfl rfl (hb hby d8_6) (by decide)
  refine own_end X2 hlk (v := some (vI 2)) (own_hv hret) (by decide) (by rw [e2]; exact ⟨rfl, (Fr.app N0 N2q), rfl⟩) fun fs hr => ?_
  show St p e below s₁ (mkF m 0 #[sR a1] []) _
  refine wal X0 hx hby rfl d8_0 rfl rfl ?_
  refine st1 _ ?_
  refine own_alen X1 hx hZ e1 PV2 (g := (mkF m 4 #[sR a1] [(vR a2)])) rfl rfl (hb hby d8_4) ?_
  refine wal X1 hx hby rfl d8_5 rfl rfl ?_
  refine st2 _ ?_
  refine Own.ishr X2.here hx rfl (hb hby d8_9) rfl (by decide : ((2 : Int32) >>> ((0 : Int32) &&& 31)) = (2 : Int32)) ?_
  exact retOut X2 hx hret rfl (Or.inl ⟨rfl, Or.inl rfl, _, rfl⟩) (hb hby d8_10) hr
def Qrm50 (Z : State) (h0 : Heap) (n0 : Nat) (v : Option Value) (h : Heap) (L : List Loc) : Prop := v = some (vI 1) ∧ Fr n0 L ∧ h = h0
theorem rm50 (cx : Cx Z a0 w0 w1) (a1 : Addr) (p2 : Int32) (p3 : Int32) (ck4 : ClassId) (O0 : Old Z n0 h0) (PV1 : Arv Z h0 a1 ck4 .byte (2 : Int32) [(vI p2), (vI p3)] (vI 0)) (hc2 : p3 = (58 : Int32)) : Ct l Z ⟨z2, z4, "([BII)I"⟩ jdk_43_method_27_code 4 (some .int) ⟨1, 0, 0, 13⟩ #[(vR a1), (vI 58), (vI 1)] h0 (Qrm50 Z h0 n0) := by
  obtain ⟨hw, hj, hS⟩ := id cx
  refine own_bd (plainFor_of_name pn154) (fun m => ef183 m a1 58 1) fun p e s m below meth c s₁ hret hlk hZ hx hby hml hown hnm X0 e0 => ?_
  have N0 := Fr.nil n0
  obtain ⟨_, T1, L1, ⟨rfl, N1q, e1⟩, X1, st1⟩ := cS X0 hx hZ (W := 0) hown (cw6 cx) (rm7 cx 58 O0 (by decide : ¬ ((58 : Int32) < (0 : Int32))) (by decide : ¬ ((255 : Int32) < (58 : Int32)))) e0 (g := (mkF m 1 #[sR a1, sI 58, sI 1, sU] [(vI 58)])) rfl hml rfl (rest := []) rfl rfl rfl rfl (hb hby d12_1) (by decide)
  obtain ⟨_, T2, L2, ⟨rfl, N2q, e2⟩, X2, st2⟩ := cS X1 hx hZ (W := 0) hown (cw7 cx) (rm8 cx 1 O0) e1 (g := (mkF m 14 #[sR a1, sI 58, sI 1, sU] [(vI 1), (vI 1)])) rfl hml rfl (rest := []) rfl rfl rfl rfl (hb hby d12_14) (by decide)
  refine own_end X2 hlk (v := some (vI 1)) (own_hv hret) (by decide) (by rw [e2]; exact ⟨rfl, (Fr.app (Fr.app N0 N1q) N2q), rfl⟩) fun fs hr => ?_
  show St p e below s₁ (mkF m 0 #[sR a1, sI 58, sI 1, sU] []) _
  refine wil X0 hx hby rfl d12_0 rfl ?_
  refine st1 _ ?_
  refine wfy X1 hx hby rfl (pc0 := 4) (pc' := 9) rfl d12_4 rfl ((if0 _ _).trans (feq (by decide : ¬ ((1 : Int32) = (0 : Int32)))).2) (by decide) (by decide) ?_
  refine wil X1 hx hby rfl d12_9 rfl ?_
  refine wal X1 hx hby rfl d12_10 rfl rfl ?_
  refine own_alen X1 hx hZ e1 PV1 (g := (mkF m 11 #[sR a1, sI 58, sI 1, sU] [(vR a1), (vI 1)])) rfl rfl (hb hby d12_11) ?_
  refine wic X1 hx hby rfl d12_12 ?_
  refine Own.isub X1.here hx rfl (hb hby d12_13) rfl (by decide : ((2 : Int32) - (1 : Int32)) = (1 : Int32)) ?_
  refine st2 _ ?_
  refine wis X2 hx hby rfl d12_17 rfl (l' := #[sR a1, sI 58, sI 1, sI 1]) rfl ?_
  refine wil X2 hx hby rfl d12_18 rfl ?_
  refine wfn X2 hx hby rfl d12_19 rfl ((if0 _ _).trans (flt (by decide : ¬ ((1 : Int32) < (0 : Int32)))).1) ?_
  refine wal X2 hx hby rfl d12_22 rfl rfl ?_
  refine wil X2 hx hby rfl d12_23 rfl ?_
  refine own_baloadB X2 hx hZ e2 PV1 (j := 1) (by decide) (v := (vI p3)) rfl (g := (mkF m 24 #[sR a1, sI 58, sI 1, sI 1] [(vI 1), (vR a1)])) rfl rfl (hb hby d12_24) ?_
  refine wil X2 hx hby rfl d12_25 rfl ?_
  show St p e below T2 (mkF m 26 #[sR a1, sI 58, sI 1, sI 1] [(vI 58), (vI p3)]) _
  refine Own.i2b X2.here hx rfl (hb hby d12_26) rfl (by decide : ((58 : Int32).toInt8.toInt32) = (58 : Int32)) ?_
  refine wcn X2 hx hby rfl d12_27 rfl (teq hc2).2 ?_
  refine wil X2 hx hby rfl d12_30 rfl ?_
  exact retOut X2 hx hret rfl (Or.inl ⟨rfl, Or.inl rfl, _, rfl⟩) (hb hby d12_31) hr
def Qrm51 (Z : State) (h0 : Heap) (n0 : Nat) (v : Option Value) (h : Heap) (L : List Loc) : Prop := v = some (vI 1) ∧ Fr n0 L ∧ h = h0
theorem rm51 (cx : Cx Z a0 w0 w1) (a1 : Addr) (a2 : Addr) (p3 : Int32) (p4 : Int32) (ck5 : ClassId) (O0 : Old Z n0 h0) (PF1 : Fld Z h0 a1 z0 "coder" "B" (vI 0)) (PE2 : Exa Z h0 a1 z0) (PF3 : Fld Z h0 a1 z0 "value" "[B" (vR a2)) (PV4 : Arv Z h0 a2 ck5 .byte (2 : Int32) [(vI p3), (vI p4)] (vI 0)) (hc5 : p4 = (58 : Int32)) : Ct l Z ⟨z0, z4, "(II)I"⟩ jdk_42_method_83_code 3 (some .int) ⟨2, 0, 0, 28⟩ #[(vR a1), (vI 58), (vI 1)] h0 (Qrm51 Z h0 n0) := by
  obtain ⟨hw, hj, hS⟩ := id cx
  refine own_bd (plainFor_of_name pn63) (fun m => ef189 m a1 58 1) fun p e s m below meth c s₁ hret hlk hZ hx hby hml hown hnm X0 e0 => ?_
  have N0 := Fr.nil n0
  obtain ⟨_, T1, L1, ⟨rfl, N1q, e1⟩, X1, st1⟩ := cV X0 hx hZ (W := 0) hown (cw5 cx) (rm6 cx a1 O0 PF1) e0 PE2 (g := (mkF m 1 #[sR a1, sI 58, sI 1] [(vR a1)])) rfl hml rfl (rest := []) rfl rfl rfl rfl (hb hby d10_1) (by decide)
  obtain ⟨T2, X2, e2, st2⟩ := getF X1 hx hZ hown (host := "") (Or.inl (hw _ m28)) Via.refl e1 PF3 (g := (mkF m 8 #[sR a1, sI 58, sI 1] [(vR a1)])) rfl rfl (hb hby d10_8)
  obtain ⟨_, T3, L3, ⟨rfl, N3q, e3⟩, X3, st3⟩ := cS X2 hx hZ (W := 0) hown (cw8 cx) (rm50 cx a2 p3 p4 ck5 O0 PV4 hc5) e2 (g := (mkF m 13 #[sR a1, sI 58, sI 1] [(vI 1), (vI 58), (vR a2)])) rfl hml rfl (rest := []) rfl rfl rfl rfl (hb hby d10_13) (by decide)
  refine own_end X3 hlk (v := some (vI 1)) (own_hv hret) (by decide) (by rw [e3]; exact ⟨rfl, (Fr.app (Fr.app N0 N1q) N3q), rfl⟩) fun fs hr => ?_
  show St p e below s₁ (mkF m 0 #[sR a1, sI 58, sI 1] []) _
  refine wal X0 hx hby rfl d10_0 rfl rfl ?_
  refine st1 _ ?_
  refine wfn X1 hx hby rfl d10_4 rfl ((if0 _ _).trans (feq (by decide : ¬ ((1 : Int32) = (0 : Int32)))).1) ?_
  refine wal X1 hx hby rfl d10_7 rfl rfl ?_
  refine st2 _ ?_
  refine wil X2 hx hby rfl d10_11 rfl ?_
  refine wil X2 hx hby rfl d10_12 rfl ?_
  refine st3 _ ?_
  refine wgt X3 hx hby rfl (pc0 := 16) (pc' := 28) rfl d10_16 (by decide) (by decide) ?_
  exact retOut X3 hx hret rfl (Or.inl ⟨rfl, Or.inl rfl, _, rfl⟩) (hb hby d10_28) hr
def Qrm52 (Z : State) (h0 : Heap) (n0 : Nat) (v : Option Value) (h : Heap) (L : List Loc) : Prop := v = some (vI 1) ∧ Fr n0 L ∧ h = h0
theorem rm52 (cx : Cx Z a0 w0 w1) (a1 : Addr) (p2 : Int32) (p3 : Int32) (a4 : Addr) (ck5 : ClassId) (O0 : Old Z n0 h0) (PF1 : Fld Z h0 a1 z0 "value" "[B" (vR a4)) (PV2 : Arv Z h0 a4 ck5 .byte (2 : Int32) [(vI p2), (vI p3)] (vI 0)) (PF3 : Fld Z h0 a1 z0 "coder" "B" (vI 0)) (PE4 : Exa Z h0 a1 z0) (hc5 : p3 = (58 : Int32)) : Ct l Z ⟨z0, z4, "(I)I"⟩ jdk_42_method_82_code 2 (some .int) ⟨3, 0, 0, 42⟩ #[(vR a1), (vI 58)] h0 (Qrm52 Z h0 n0) := by
  obtain ⟨hw, hj, hS⟩ := id cx
  refine own_bd (plainFor_of_name pn63) (fun m => ef194 m a1 58) fun p e s m below meth c s₁ hret hlk hZ hx hby hml hown hnm X0 e0 => ?_
  have N0 := Fr.nil n0
  obtain ⟨_, T1, L1, ⟨rfl, N1q, e1⟩, X1, st1⟩ := cV X0 hx hZ (W := 2) hown (cw4 cx) (rm49 cx a1 a4 p2 p3 ck5 O0 PF1 PV2 PF3 PE4) e0 PE4 (g := (mkF m 3 #[sR a1, sI 58] [(vR a1), (vI 58), (vR a1)])) rfl hml rfl (rest := [(vI 58), (vR a1)]) rfl rfl rfl rfl (hb hby d7_3) (by decide)
  obtain ⟨_, T2, L2, ⟨rfl, N2q, e2⟩, X2, st2⟩ := cV X1 hx hZ (W := 0) hown (cw9 cx) (rm51 cx a1 a4 p2 p3 ck5 O0 PF3 PE4 PF1 PV2 hc5) e1 PE4 (g := (mkF m 8 #[sR a1, sI 58] [(vI 1), (vI 58), (vR a1)])) rfl hml rfl (rest := []) rfl rfl rfl rfl (hb hby d7_8) (by decide)
  refine own_end X2 hlk (v := some (vI 1)) (own_hv hret) (by decide) (by rw [e2]; exact ⟨rfl, (Fr.app (Fr.app N0 N1q) N2q), rfl⟩) fun fs hr => ?_
  show St p e below s₁ (mkF m 0 #[sR a1, sI 58] []) _
  refine wal X0 hx hby rfl d7_0 rfl rfl ?_
  refine wil X0 hx hby rfl d7_1 rfl ?_
  refine wal X0 hx hby rfl d7_2 rfl rfl ?_
  refine st1 _ ?_
  refine wic X1 hx hby rfl d7_6 ?_
  refine Own.isub X1.here hx rfl (hb hby d7_7) rfl (by decide : ((2 : Int32) - (1 : Int32)) = (1 : Int32)) ?_
  refine st2 _ ?_
  exact retOut X2 hx hret rfl (Or.inl ⟨rfl, Or.inl rfl, _, rfl⟩) (hb hby d7_11) hr
def Qrm53 (Z : State) (h0 : Heap) (n0 : Nat) (v : Option Value) (h : Heap) (L : List Loc) : Prop := ∃ x0 : Addr, ∃ x1 : Addr, ∃ xk0 : ClassId, v = some (vR x0) ∧ Fr n0 L ∧ Keep h0 h [] ∧ Exa Z h x0 z0 ∧ Fld Z h x0 z0 "coder" "B" (vI 0) ∧ Fld Z h x0 z0 "value" "[B" (vR x1) ∧ Arv Z h x1 xk0 .byte (0 : Int32) [] (vI 0)
theorem rm53 (cx : Cx Z a0 w0 w1) (a1 : Addr) (O0 : Old Z n0 h0) : CtW EL [] l Z ⟨z2, "newString", z11⟩ jdk_43_method_47_code 3 (some (.object z0)) ⟨0, 2, 4, 0⟩ #[(vR a1), (vI 2), (vI 0)] h0 (Qrm53 Z h0 n0) := by
  obtain ⟨hw, hj, hS⟩ := id cx
  refine own_bdW (plainFor_of_name pn154) (fun m => ef189 m a1 2 0) fun p e s m below meth c s₁ hret hlk hZ hx hby hml hown hnm X0 e0 hh C0 hsx hS0 => ?_
  have N0 := Fr.nil n0
  obtain ⟨sa1, T1, h1, k11, sb1, k1, X1, e1, E1, hS1, hk1, hZ1, hown1, A1, Fc1, Fv1, V1, la1, lb1, Cq1, -, hn1, st1⟩ := ldcCH X0 hx hZ hown (hw _ m117) (own_str hw hj) e0 hS0 (Nat.le_refl _) (own_EW hw hj) (List.mem_of_getElem? (i := 1) rfl) C0.1 (vs := []) (z := (0 : Int32)) ⟨by decide, by decide⟩ (by decide) (by decide) (g := (mkF m 4 #[sR a1, sI 2, sI 0] [])) rfl (hb hby d26_4) (n := 0) (by decide) (by decide) (by decide) (by decide)
  have O1 : Old Z n0 h1 := O0.ext E1
  have K1 : Keep h0 h1 [] := (Keep.refl h0 []).ext E1
  have C1 := C0.trans Cq1
  refine own_endW X1 hlk (v := some (vR sa1)) (own_hv hret) hS1 hk1 (by decide) hh e1 C1 hZ1 (own_EW hw hj) (by rw [e1]; exact ⟨sa1, sb1, k1, rfl, N0, K1, A1, Fc1, Fv1, V1⟩) fun fs hr => ?_
  show St p e below s₁ (mkF m 0 #[sR a1, sI 2, sI 0] []) _
  refine wil X0 hx hby rfl d26_0 rfl ?_
  refine wfn X0 hx hby rfl d26_1 rfl ((if0 _ _).trans (teq (by decide : (0 : Int32) = (0 : Int32))).2) ?_
  refine st1 _ ?_
  exact retOut X1 hx hret rfl (Or.inr (Or.inr (Or.inr (Or.inr ⟨rfl, rfl, rfl⟩)))) (hb hby d26_6) hr
def Qrm54 (Z : State) (h0 : Heap) (n0 : Nat) (v : Option Value) (h : Heap) (L : List Loc) : Prop := ∃ x0 : Addr, ∃ x1 : Addr, ∃ xk0 : ClassId, v = some (vR x0) ∧ Fr n0 L ∧ Keep h0 h [] ∧ Exa Z h x0 z0 ∧ Fld Z h x0 z0 "coder" "B" (vI 0) ∧ Fld Z h x0 z0 "value" "[B" (vR x1) ∧ Arv Z h x1 xk0 .byte (0 : Int32) [] (vI 0)
theorem rm54 (cx : Cx Z a0 w0 w1) (a1 : Addr) (p2 : Int32) (p3 : Int32) (a4 : Addr) (ck5 : ClassId) (O0 : Old Z n0 h0) (PF1 : Fld Z h0 a1 z0 "value" "[B" (vR a4)) (PV2 : Arv Z h0 a4 ck5 .byte (2 : Int32) [(vI p2), (vI p3)] (vI 0)) (PF3 : Fld Z h0 a1 z0 "coder" "B" (vI 0)) (PE4 : Exa Z h0 a1 z0) : CtW EL [] l Z ⟨z0, "substring", z8⟩ jdk_42_method_92_code 5 (some (.object z0)) ⟨2, 2, 4, 29⟩ #[(vR a1), (vI 2), (vI 2)] h0 (Qrm54 Z h0 n0) := by
  obtain ⟨hw, hj, hS⟩ := id cx
  refine own_bdW (plainFor_of_name pn63) (fun m => ef255 m a1 2 2) fun p e s m below meth c s₁ hret hlk hZ hx hby hml hown hnm X0 e0 hh C0 hsx hS0 => ?_
  have N0 := Fr.nil n0
  have sf1 := (sf0 : ∀ x ∈ [], Safe Z EL s.vm h0 x)
  obtain ⟨_, T1, L1, ⟨rfl, N1q, e1⟩, X1, st1⟩ := cV X0 hx hZ (W := 0) hown (cw4 cx) (rm49 cx a1 a4 p2 p3 ck5 O0 PF1 PV2 PF3 PE4) e0 PE4 (g := (mkF m 1 #[sR a1, sI 2, sI 2, sU, sU] [(vR a1)])) rfl hml rfl (rest := []) rfl rfl rfl rfl (hb hby d16_1) (by decide)
  have sf2 := (sf0 : ∀ x ∈ [], Safe Z EL s.vm h0 x)
  obtain ⟨_, T2, L2, ⟨rfl, N2q, e2⟩, X2, st2⟩ := cS X1 hx hZ (W := 0) hown (cw12 cx) (rm13 cx 2 O0 (by decide : ¬ ((2 : Int32) < (0 : Int32)))) e1 (g := (mkF m 8 #[sR a1, sI 2, sI 2, sI 2, sU] [(vI 2), (vI 2), (vI 2)])) rfl hml rfl (rest := []) rfl rfl rfl rfl (hb hby d16_8) (by decide)
  have sf3 := (sf0 : ∀ x ∈ [], Safe Z EL s.vm h0 x)
  obtain ⟨_, T3, L3, ⟨rfl, N3q, e3⟩, X3, st3⟩ := cV X2 hx hZ (W := 0) hown (cw5 cx) (rm6 cx a1 O0 PF3) e2 PE4 (g := (mkF m 28 #[sR a1, sI 2, sI 2, sI 2, sI 0] [(vR a1)])) rfl hml rfl (rest := []) rfl rfl rfl rfl (hb hby d16_28) (by decide)
  obtain ⟨T4, X4, e4, st4⟩ := getF X3 hx hZ hown (host := "") (Or.inl (hw _ m28)) Via.refl e3 PF1 (g := (mkF m 35 #[sR a1, sI 2, sI 2, sI 2, sI 0] [(vR a1)])) rfl rfl (hb hby d16_35)
  obtain ⟨_, T5, L5, ⟨c5_0, c5_1, k5_2, rfl, N5q, Kq5, q5_0, q5_1, q5_2, q5_3⟩, hS5, hZ5, hown5, Cq5, X5, st5⟩ := cSW X4 hx hZ (W := 0) hown (cw20 cx) (rm53 cx a4 O0) e4 hS0 (Nat.le_refl _) (own_EW hw hj) C0.1 own_sx0 (g := (mkF m 41 #[sR a1, sI 2, sI 2, sI 2, sI 0] [(vI 0), (vI 2), (vR a4)])) rfl hml rfl (rest := []) rfl rfl rfl rfl (hb hby d16_41) (by decide)
  have N5 := Fr.app (Fr.app (Fr.app (Fr.app N0 N1q) N2q) N3q) N5q
  have C5 := C0.trans Cq5
  have O5 : Old Z n0 T5.heap := O0.keep Kq5 all0
  have K5 : Keep h0 T5.heap [] := (Keep.refl h0 []).trans Kq5 all0
  refine own_endW X5 hlk (v := some (vR c5_0)) (own_hv hret) hS5 (Nat.le_refl _) (by decide) hh (rfl : T5.heap = T5.heap) C5 hZ5 (own_EW hw hj) ⟨c5_0, c5_1, k5_2, rfl, N5, K5, q5_0, q5_1, q5_2, q5_3⟩ fun fs hr => ?_
  show St p e below s₁ (mkF m 0 #[sR a1, sI 2, sI 2, sU, sU] []) _
  refine wal X0 hx hby rfl d16_0 rfl rfl ?_
  refine st1 _ ?_
  refine wis X1 hx hby rfl d16_4 rfl (l' := #[sR a1, sI 2, sI 2, sI 2, sU]) rfl ?_
  refine wil X1 hx hby rfl d16_5 rfl ?_
  refine wil X1 hx hby rfl d16_6 rfl ?_
  refine wil X1 hx hby rfl d16_7 rfl ?_
  refine st2 _ ?_
  refine wil X2 hx hby rfl d16_11 rfl ?_
  refine wfy X2 hx hby rfl (pc0 := 12) (pc' := 22) rfl d16_12 rfl ((if0 _ _).trans (feq (by decide : ¬ ((2 : Int32) = (0 : Int32)))).2) (by decide) (by decide) ?_
  refine wil X2 hx hby rfl d16_22 rfl ?_
  refine wil X2 hx hby rfl d16_23 rfl ?_
  refine Own.isub X2.here hx rfl (hb hby d16_24) rfl (by decide : ((2 : Int32) - (2 : Int32)) = (0 : Int32)) ?_
  refine wiS X2 hx hby rfl d16_25 rfl (l' := #[sR a1, sI 2, sI 2, sI 2, sI 0]) rfl ?_
  refine wal X2 hx hby rfl d16_27 rfl rfl ?_
  refine st3 _ ?_
  refine wfn X3 hx hby rfl d16_31 rfl ((if0 _ _).trans (feq (by decide : ¬ ((1 : Int32) = (0 : Int32)))).1) ?_
  show St p e below T3 (mkF m 34 #[sR a1, sI 2, sI 2, sI 2, sI 0] []) _
  refine wal X3 hx hby rfl d16_34 rfl rfl ?_
  refine st4 _ ?_
  refine wil X4 hx hby rfl d16_38 rfl ?_
  refine wiL X4 hx hby rfl d16_39 rfl ?_
  refine st5 _ ?_
  refine wgt X5 hx hby rfl (pc0 := 44) (pc' := 57) rfl d16_44 (by decide) (by decide) ?_
  exact retOut X5 hx hret rfl (Or.inr (Or.inr (Or.inr (Or.inr ⟨rfl, rfl, rfl⟩)))) (hb hby d16_57) hr
def Qrm55 (Z : State) (h0 : Heap) (n0 : Nat) (v : Option Value) (h : Heap) (L : List Loc) : Prop := ∃ x0 : Addr, ∃ x1 : Addr, ∃ xk0 : ClassId, v = some (vR x0) ∧ Fr n0 L ∧ Keep h0 h [] ∧ Exa Z h x0 z0 ∧ Fld Z h x0 z0 "coder" "B" (vI 0) ∧ Fld Z h x0 z0 "value" "[B" (vR x1) ∧ Arv Z h x1 xk0 .byte (0 : Int32) [] (vI 0)
theorem rm55 (cx : Cx Z a0 w0 w1) (a1 : Addr) (p2 : Int32) (p3 : Int32) (a4 : Addr) (ck5 : ClassId) (O0 : Old Z n0 h0) (PF1 : Fld Z h0 a1 z0 "value" "[B" (vR a4)) (PV2 : Arv Z h0 a4 ck5 .byte (2 : Int32) [(vI p2), (vI p3)] (vI 0)) (PF3 : Fld Z h0 a1 z0 "coder" "B" (vI 0)) (PE4 : Exa Z h0 a1 z0) : CtW EL [] l Z ⟨z0, "substring", z9⟩ jdk_42_method_91_code 2 (some (.object z0)) ⟨3, 2, 4, 45⟩ #[(vR a1), (vI 2)] h0 (Qrm55 Z h0 n0) := by
  obtain ⟨hw, hj, hS⟩ := id cx
  refine own_bdW (plainFor_of_name pn63) (fun m => ef194 m a1 2) fun p e s m below meth c s₁ hret hlk hZ hx hby hml hown hnm X0 e0 hh C0 hsx hS0 => ?_
  have N0 := Fr.nil n0
  have sf1 := (sf0 : ∀ x ∈ [], Safe Z EL s.vm h0 x)
  obtain ⟨_, T1, L1, ⟨rfl, N1q, e1⟩, X1, st1⟩ := cV X0 hx hZ (W := 2) hown (cw4 cx) (rm49 cx a1 a4 p2 p3 ck5 O0 PF1 PV2 PF3 PE4) e0 PE4 (g := (mkF m 3 #[sR a1, sI 2] [(vR a1), (vI 2), (vR a1)])) rfl hml rfl (rest := [(vI 2), (vR a1)]) rfl rfl rfl rfl (hb hby d15_3) (by decide)
  obtain ⟨_, T2, L2, ⟨c2_0, c2_1, k2_2, rfl, N2q, Kq2, q2_0, q2_1, q2_2, q2_3⟩, hS2, hZ2, hown2, Cq2, X2, st2⟩ := cVW X1 hx hZ (W := 0) hown (cw13 cx) (rm54 cx a1 p2 p3 a4 ck5 O0 PF1 PV2 PF3 PE4) e1 hS0 (Nat.le_refl _) (own_EW hw hj) C0.1 own_sx0 PE4 (g := (mkF m 6 #[sR a1, sI 2] [(vI 2), (vI 2), (vR a1)])) rfl hml rfl (rest := []) rfl rfl rfl rfl (hb hby d15_6) (by decide)
  have N2 := Fr.app (Fr.app N0 N1q) N2q
  have C2 := C0.trans Cq2
  have O2 : Old Z n0 T2.heap := O0.keep Kq2 all0
  have K2 : Keep h0 T2.heap [] := (Keep.refl h0 []).trans Kq2 all0
  refine own_endW X2 hlk (v := some (vR c2_0)) (own_hv hret) hS2 (Nat.le_refl _) (by decide) hh (rfl : T2.heap = T2.heap) C2 hZ2 (own_EW hw hj) ⟨c2_0, c2_1, k2_2, rfl, N2, K2, q2_0, q2_1, q2_2, q2_3⟩ fun fs hr => ?_
  show St p e below s₁ (mkF m 0 #[sR a1, sI 2] []) _
  refine wal X0 hx hby rfl d15_0 rfl rfl ?_
  refine wil X0 hx hby rfl d15_1 rfl ?_
  refine wal X0 hx hby rfl d15_2 rfl rfl ?_
  refine st1 _ ?_
  refine st2 _ ?_
  exact retOut X2 hx hret rfl (Or.inr (Or.inr (Or.inr (Or.inr ⟨rfl, rfl, rfl⟩)))) (hb hby d15_9) hr
def Qrm56 (Z : State) (h0 : Heap) (n0 : Nat) (v : Option Value) (h : Heap) (L : List Loc) : Prop := ∃ x0 : Addr, ∃ x1 : Addr, ∃ xk0 : ClassId, v = some (vR x0) ∧ Fr n0 L ∧ Keep h0 h [] ∧ Exa Z h x0 z0 ∧ Fld Z h x0 z0 "coder" "B" (vI 0) ∧ Fld Z h x0 z0 "value" "[B" (vR x1) ∧ Arv Z h x1 xk0 .byte (0 : Int32) [] (vI 0)
theorem rm56 (cx : Cx Z a0 w0 w1) (a1 : Addr) (p2 : Int32) (p3 : Int32) (a4 : Addr) (ck5 : ClassId) (O0 : Old Z n0 h0) (PF1 : Fld Z h0 a1 z0 "value" "[B" (vR a4)) (PV2 : Arv Z h0 a4 ck5 .byte (2 : Int32) [(vI p2), (vI p3)] (vI 0)) (PF3 : Fld Z h0 a1 z0 "coder" "B" (vI 0)) (PE4 : Exa Z h0 a1 z0) (hc5 : p3 = (58 : Int32)) : CtW EL [] l Z ⟨z3, "localPart", z5⟩ prog_13_method_17_code 1 (some (.object z0)) ⟨4, 2, 4, 58⟩ #[(vR a1)] h0 (Qrm56 Z h0 n0) := by
  obtain ⟨hw, hj, hS⟩ := id cx
  refine own_bdW (plainFor_of_name pn266) (fun m => ef104 m a1) fun p e s m below meth c s₁ hret hlk hZ hx hby hml hown hnm X0 e0 hh C0 hsx hS0 => ?_
  have N0 := Fr.nil n0
  have sf1 := (sf0 : ∀ x ∈ [], Safe Z EL s.vm h0 x)
  obtain ⟨_, T1, L1, ⟨rfl, N1q, e1⟩, X1, st1⟩ := cV X0 hx hZ (W := 1) hown (cw10 cx) (rm52 cx a1 p2 p3 a4 ck5 O0 PF1 PV2 PF3 PE4 hc5) e0 PE4 (g := (mkF m 4 #[sR a1] [(vI 58), (vR a1), (vR a1)])) rfl hml rfl (rest := [(vR a1)]) rfl rfl rfl rfl (hb hby d6_4) (by decide)
  obtain ⟨_, T2, L2, ⟨c2_0, c2_1, k2_2, rfl, N2q, Kq2, q2_0, q2_1, q2_2, q2_3⟩, hS2, hZ2, hown2, Cq2, X2, st2⟩ := cVW X1 hx hZ (W := 0) hown (cw14 cx) (rm55 cx a1 p2 p3 a4 ck5 O0 PF1 PV2 PF3 PE4) e1 hS0 (Nat.le_refl _) (own_EW hw hj) C0.1 own_sx0 PE4 (g := (mkF m 9 #[sR a1] [(vI 2), (vR a1)])) rfl hml rfl (rest := []) rfl rfl rfl rfl (hb hby d6_9) (by decide)
  have N2 := Fr.app (Fr.app N0 N1q) N2q
  have C2 := C0.trans Cq2
  have O2 : Old Z n0 T2.heap := O0.keep Kq2 all0
  have K2 : Keep h0 T2.heap [] := (Keep.refl h0 []).trans Kq2 all0
  refine own_endW X2 hlk (v := some (vR c2_0)) (own_hv hret) hS2 (Nat.le_refl _) (by decide) hh (rfl : T2.heap = T2.heap) C2 hZ2 (own_EW hw hj) ⟨c2_0, c2_1, k2_2, rfl, N2, K2, q2_0, q2_1, q2_2, q2_3⟩ fun fs hr => ?_
  show St p e below s₁ (mkF m 0 #[sR a1] []) _
  refine wal X0 hx hby rfl d6_0 rfl rfl ?_
  refine wal X0 hx hby rfl d6_1 rfl rfl ?_
  refine wbp X0 hx hby rfl d6_2 ?_
  refine st1 _ ?_
  refine wic X1 hx hby rfl d6_7 ?_
  refine Own.iadd X1.here hx rfl (hb hby d6_8) rfl (by decide : ((1 : Int32) + (1 : Int32)) = (2 : Int32)) ?_
  refine st2 _ ?_
  exact retOut X2 hx hret rfl (Or.inr (Or.inr (Or.inr (Or.inr ⟨rfl, rfl, rfl⟩)))) (hb hby d6_12) hr
def Qrm57 (Z : State) (h0 : Heap) (n0 : Nat) (v : Option Value) (h : Heap) (L : List Loc) : Prop := v = some (vI 0) ∧ Fr n0 L ∧ h = h0
theorem rm57 (cx : Cx Z a0 w0 w1) (a1 : Addr) (p2 : Int32) (p3 : Int32) (ck4 : ClassId) (O0 : Old Z n0 h0) (PV1 : Arv Z h0 a1 ck4 .byte (2 : Int32) [(vI p2), (vI p3)] (vI 0)) (hc2 : ¬ (p3 = (58 : Int32))) (hc3 : p2 = (58 : Int32)) : Ct l Z ⟨z2, z4, "([BII)I"⟩ jdk_43_method_27_code 4 (some .int) ⟨1, 0, 0, 13⟩ #[(vR a1), (vI 58), (vI 1)] h0 (Qrm57 Z h0 n0) := by
  obtain ⟨hw, hj, hS⟩ := id cx
  refine own_bd (plainFor_of_name pn154) (fun m => ef183 m a1 58 1) fun p e s m below meth c s₁ hret hlk hZ hx hby hml hown hnm X0 e0 => ?_
  have N0 := Fr.nil n0
  obtain ⟨_, T1, L1, ⟨rfl, N1q, e1⟩, X1, st1⟩ := cS X0 hx hZ (W := 0) hown (cw6 cx) (rm7 cx 58 O0 (by decide : ¬ ((58 : Int32) < (0 : Int32))) (by decide : ¬ ((255 : Int32) < (58 : Int32)))) e0 (g := (mkF m 1 #[sR a1, sI 58, sI 1, sU] [(vI 58)])) rfl hml rfl (rest := []) rfl rfl rfl rfl (hb hby d12_1) (by decide)
  obtain ⟨_, T2, L2, ⟨rfl, N2q, e2⟩, X2, st2⟩ := cS X1 hx hZ (W := 0) hown (cw7 cx) (rm8 cx 1 O0) e1 (g := (mkF m 14 #[sR a1, sI 58, sI 1, sU] [(vI 1), (vI 1)])) rfl hml rfl (rest := []) rfl rfl rfl rfl (hb hby d12_14) (by decide)
  refine own_end X2 hlk (v := some (vI 0)) (own_hv hret) (by decide) (by rw [e2]; exact ⟨rfl, (Fr.app (Fr.app N0 N1q) N2q), rfl⟩) fun fs hr => ?_
  show St p e below s₁ (mkF m 0 #[sR a1, sI 58, sI 1, sU] []) _
  refine wil X0 hx hby rfl d12_0 rfl ?_
  refine st1 _ ?_
  refine wfy X1 hx hby rfl (pc0 := 4) (pc' := 9) rfl d12_4 rfl ((if0 _ _).trans (feq (by decide : ¬ ((1 : Int32) = (0 : Int32)))).2) (by decide) (by decide) ?_
  refine wil X1 hx hby rfl d12_9 rfl ?_
  refine wal X1 hx hby rfl d12_10 rfl rfl ?_
  refine own_alen X1 hx hZ e1 PV1 (g := (mkF m 11 #[sR a1, sI 58, sI 1, sU] [(vR a1), (vI 1)])) rfl rfl (hb hby d12_11) ?_
  refine wic X1 hx hby rfl d12_12 ?_
  refine Own.isub X1.here hx rfl (hb hby d12_13) rfl (by decide : ((2 : Int32) - (1 : Int32)) = (1 : Int32)) ?_
  refine st2 _ ?_
  refine wis X2 hx hby rfl d12_17 rfl (l' := #[sR a1, sI 58, sI 1, sI 1]) rfl ?_
  refine wil X2 hx hby rfl d12_18 rfl ?_
  refine wfn X2 hx hby rfl d12_19 rfl ((if0 _ _).trans (flt (by decide : ¬ ((1 : Int32) < (0 : Int32)))).1) ?_
  refine wal X2 hx hby rfl d12_22 rfl rfl ?_
  refine wil X2 hx hby rfl d12_23 rfl ?_
  refine own_baloadB X2 hx hZ e2 PV1 (j := 1) (by decide) (v := (vI p3)) rfl (g := (mkF m 24 #[sR a1, sI 58, sI 1, sI 1] [(vI 1), (vR a1)])) rfl rfl (hb hby d12_24) ?_
  refine wil X2 hx hby rfl d12_25 rfl ?_
  show St p e below T2 (mkF m 26 #[sR a1, sI 58, sI 1, sI 1] [(vI 58), (vI p3)]) _
  refine Own.i2b X2.here hx rfl (hb hby d12_26) rfl (by decide : ((58 : Int32).toInt8.toInt32) = (58 : Int32)) ?_
  refine wcy X2 hx hby rfl (pc0 := 27) (pc' := 32) rfl d12_27 rfl (feq hc2).2 (by decide) (by decide) ?_
  refine Own.iinc X2.here hx rfl (hb hby d12_32) rfl (by decide : ((1 : Int32) + (-1 : Int32)) = (0 : Int32)) (l' := #[sR a1, sI 58, sI 1, sI 0]) rfl ?_
  refine wgt X2 hx hby rfl (pc0 := 35) (pc' := 18) rfl d12_35 (by decide) (by decide) ?_
  refine wil X2 hx hby rfl d12_18 rfl ?_
  refine wfn X2 hx hby rfl d12_19 rfl ((if0 _ _).trans (flt (by decide : ¬ ((0 : Int32) < (0 : Int32)))).1) ?_
  refine wal X2 hx hby rfl d12_22 rfl rfl ?_
  refine wil X2 hx hby rfl d12_23 rfl ?_
  refine own_baloadB X2 hx hZ e2 PV1 (j := 0) (by decide) (v := (vI p2)) rfl (g := (mkF m 24 #[sR a1, sI 58, sI 1, sI 0] [(vI 0), (vR a1)])) rfl rfl (hb hby d12_24) ?_
  refine wil X2 hx hby rfl d12_25 rfl ?_
  refine Own.i2b X2.here hx rfl (hb hby d12_26) rfl (by decide : ((58 : Int32).toInt8.toInt32) = (58 : Int32)) ?_
  refine wcn X2 hx hby rfl d12_27 rfl (teq hc3).2 ?_
  refine wil X2 hx hby rfl d12_30 rfl ?_
  exact retOut X2 hx hret rfl (Or.inl ⟨rfl, Or.inl rfl, _, rfl⟩) (hb hby d12_31) hr
def Qrm58 (Z : State) (h0 : Heap) (n0 : Nat) (v : Option Value) (h : Heap) (L : List Loc) : Prop := v = some (vI 0) ∧ Fr n0 L ∧ h = h0
theorem rm58 (cx : Cx Z a0 w0 w1) (a1 : Addr) (a2 : Addr) (p3 : Int32) (p4 : Int32) (ck5 : ClassId) (O0 : Old Z n0 h0) (PF1 : Fld Z h0 a1 z0 "coder" "B" (vI 0)) (PE2 : Exa Z h0 a1 z0) (PF3 : Fld Z h0 a1 z0 "value" "[B" (vR a2)) (PV4 : Arv Z h0 a2 ck5 .byte (2 : Int32) [(vI p3), (vI p4)] (vI 0)) (hc5 : ¬ (p4 = (58 : Int32))) (hc6 : p3 = (58 : Int32)) : Ct l Z ⟨z0, z4, "(II)I"⟩ jdk_42_method_83_code 3 (some .int) ⟨2, 0, 0, 28⟩ #[(vR a1), (vI 58), (vI 1)] h0 (Qrm58 Z h0 n0) := by
  obtain ⟨hw, hj, hS⟩ := id cx
  refine own_bd (plainFor_of_name pn63) (fun m => ef189 m a1 58 1) fun p e s m below meth c s₁ hret hlk hZ hx hby hml hown hnm X0 e0 => ?_
  have N0 := Fr.nil n0
  obtain ⟨_, T1, L1, ⟨rfl, N1q, e1⟩, X1, st1⟩ := cV X0 hx hZ (W := 0) hown (cw5 cx) (rm6 cx a1 O0 PF1) e0 PE2 (g := (mkF m 1 #[sR a1, sI 58, sI 1] [(vR a1)])) rfl hml rfl (rest := []) rfl rfl rfl rfl (hb hby d10_1) (by decide)
  obtain ⟨T2, X2, e2, st2⟩ := getF X1 hx hZ hown (host := "") (Or.inl (hw _ m28)) Via.refl e1 PF3 (g := (mkF m 8 #[sR a1, sI 58, sI 1] [(vR a1)])) rfl rfl (hb hby d10_8)
  obtain ⟨_, T3, L3, ⟨rfl, N3q, e3⟩, X3, st3⟩ := cS X2 hx hZ (W := 0) hown (cw8 cx) (rm57 cx a2 p3 p4 ck5 O0 PV4 hc5 hc6) e2 (g := (mkF m 13 #[sR a1, sI 58, sI 1] [(vI 1), (vI 58), (vR a2)])) rfl hml rfl (rest := []) rfl rfl rfl rfl (hb hby d10_13) (by decide)
  refine own_end X3 hlk (v := some (vI 0)) (own_hv hret) (by decide) (by rw [e3]; exact ⟨rfl, (Fr.app (Fr.app N0 N1q) N3q), rfl⟩) fun fs hr => ?_
  show St p e below s₁ (mkF m 0 #[sR a1, sI 58, sI 1] []) _
  refine wal X0 hx hby rfl d10_0 rfl rfl ?_
  refine st1 _ ?_
  refine wfn X1 hx hby rfl d10_4 rfl ((if0 _ _).trans (feq (by decide : ¬ ((1 : Int32) = (0 : Int32)))).1) ?_
  refine wal X1 hx hby rfl d10_7 rfl rfl ?_
  refine st2 _ ?_
  refine wil X2 hx hby rfl d10_11 rfl ?_
  refine wil X2 hx hby rfl d10_12 rfl ?_
  refine st3 _ ?_
  refine wgt X3 hx hby rfl (pc0 := 16) (pc' := 28) rfl d10_16 (by decide) (by decide) ?_
  exact retOut X3 hx hret rfl (Or.inl ⟨rfl, Or.inl rfl, _, rfl⟩) (hb hby d10_28) hr
def Qrm59 (Z : State) (h0 : Heap) (n0 : Nat) (v : Option Value) (h : Heap) (L : List Loc) : Prop := v = some (vI 0) ∧ Fr n0 L ∧ h = h0
theorem rm59 (cx : Cx Z a0 w0 w1) (a1 : Addr) (p2 : Int32) (p3 : Int32) (a4 : Addr) (ck5 : ClassId) (O0 : Old Z n0 h0) (PF1 : Fld Z h0 a1 z0 "value" "[B" (vR a4)) (PV2 : Arv Z h0 a4 ck5 .byte (2 : Int32) [(vI p2), (vI p3)] (vI 0)) (PF3 : Fld Z h0 a1 z0 "coder" "B" (vI 0)) (PE4 : Exa Z h0 a1 z0) (hc5 : ¬ (p3 = (58 : Int32))) (hc6 : p2 = (58 : Int32)) : Ct l Z ⟨z0, z4, "(I)I"⟩ jdk_42_method_82_code 2 (some .int) ⟨3, 0, 0, 42⟩ #[(vR a1), (vI 58)] h0 (Qrm59 Z h0 n0) := by
  obtain ⟨hw, hj, hS⟩ := id cx
  refine own_bd (plainFor_of_name pn63) (fun m => ef194 m a1 58) fun p e s m below meth c s₁ hret hlk hZ hx hby hml hown hnm X0 e0 => ?_
  have N0 := Fr.nil n0
  obtain ⟨_, T1, L1, ⟨rfl, N1q, e1⟩, X1, st1⟩ := cV X0 hx hZ (W := 2) hown (cw4 cx) (rm49 cx a1 a4 p2 p3 ck5 O0 PF1 PV2 PF3 PE4) e0 PE4 (g := (mkF m 3 #[sR a1, sI 58] [(vR a1), (vI 58), (vR a1)])) rfl hml rfl (rest := [(vI 58), (vR a1)]) rfl rfl rfl rfl (hb hby d7_3) (by decide)
  obtain ⟨_, T2, L2, ⟨rfl, N2q, e2⟩, X2, st2⟩ := cV X1 hx hZ (W := 0) hown (cw9 cx) (rm58 cx a1 a4 p2 p3 ck5 O0 PF3 PE4 PF1 PV2 hc5 hc6) e1 PE4 (g := (mkF m 8 #[sR a1, sI 58] [(vI 1), (vI 58), (vR a1)])) rfl hml rfl (rest := []) rfl rfl rfl rfl (hb hby d7_8) (by decide)
  refine own_end X2 hlk (v := some (vI 0)) (own_hv hret) (by decide) (by rw [e2]; exact ⟨rfl, (Fr.app (Fr.app N0 N1q) N2q), rfl⟩) fun fs hr => ?_
  show St p e below s₁ (mkF m 0 #[sR a1, sI 58] []) _
  refine wal X0 hx hby rfl d7_0 rfl rfl ?_
  refine wil X0 hx hby rfl d7_1 rfl ?_
  refine wal X0 hx hby rfl d7_2 rfl rfl ?_
  refine st1 _ ?_
  refine wic X1 hx hby rfl d7_6 ?_
  refine Own.isub X1.here hx rfl (hb hby d7_7) rfl (by decide : ((2 : Int32) - (1 : Int32)) = (1 : Int32)) ?_
  refine st2 _ ?_
  exact retOut X2 hx hret rfl (Or.inl ⟨rfl, Or.inl rfl, _, rfl⟩) (hb hby d7_11) hr
def Qrm60 (Z : State) (h0 : Heap) (n0 : Nat) (v : Option Value) (h : Heap) (L : List Loc) : Prop := v = none ∧ Fr n0 L ∧ h = h0
theorem rm60 (cx : Cx Z a0 w0 w1) (p1 : Int32) (p2 : Int32) (O0 : Old Z n0 h0) (hc1 : ¬ (p2 < p1)) : Ct l Z ⟨z7, "checkLength", "(II)V"⟩ jdk_65_method_131_code 2 none ⟨0, 0, 0, 0⟩ #[(vI p1), (vI p2)] h0 (Qrm60 Z h0 n0) := by
  obtain ⟨hw, hj, hS⟩ := id cx
  refine own_bd (plainFor_of_name pn495) (fun m => ef173 m p1 p2) fun p e s m below meth c s₁ hret hlk hZ hx hby hml hown hnm X0 e0 => ?_
  have N0 := Fr.nil n0
  refine own_end X0 hlk (v := none) (fun _ => rfl) (by decide) (by rw [e0]; exact ⟨rfl, N0, rfl⟩) fun fs hr => ?_
  show St p e below s₁ (mkF m 0 #[sI p1, sI p2] []) _
  refine wil X0 hx hby rfl d29_0 rfl ?_
  refine wil X0 hx hby rfl d29_1 rfl ?_
  refine wcy X0 hx hby rfl (pc0 := 2) (pc' := 37) rfl d29_2 rfl (flt hc1).2.1 (by decide) (by decide) ?_
  exact X0.returnOut hx hret (hb hby d29_37) hr
def Qrm61 (Z : State) (p3 : Int32) (h0 : Heap) (n0 : Nat) (v : Option Value) (h : Heap) (L : List Loc) : Prop := ∃ x0 : Addr, ∃ xk0 : ClassId, v = some (vR x0) ∧ Fr n0 L ∧ Keep h0 h [] ∧ h0.size ≤ x0 ∧ Arv Z h x0 xk0 .byte (1 : Int32) [(vI p3)] (vI 0)
theorem rm61 (cx : Cx Z a0 w0 w1) (a1 : Addr) (p2 : Int32) (p3 : Int32) (ck4 : ClassId) (O0 : Old Z n0 h0) (PV1 : Arv Z h0 a1 ck4 .byte (2 : Int32) [(vI p2), (vI p3)] (vI 0)) : Ct l Z ⟨z7, z14, "([BII)[B"⟩ jdk_65_method_133_code 5 (some (.array .byte)) ⟨1, 1, 1, 18⟩ #[(vR a1), (vI 1), (vI 2)] h0 (Qrm61 Z p3 h0 n0) := by
  obtain ⟨hw, hj, hS⟩ := id cx
  refine own_bd (plainFor_of_name pn495) (fun m => ef255 m a1 1 2) fun p e s m below meth c s₁ hret hlk hZ hx hby hml hown hnm X0 e0 => ?_
  have N0 := Fr.nil n0
  obtain ⟨_, T1, L1, ⟨rfl, N1q, e1⟩, X1, st1⟩ := cS X0 hx hZ (W := 0) hown (cw25 cx) (rm60 cx 1 2 O0 (by decide : ¬ ((2 : Int32) < (1 : Int32)))) e0 (g := (mkF m 2 #[sR a1, sI 1, sI 2, sU, sU] [(vI 2), (vI 1)])) rfl hml rfl (rest := []) rfl rfl rfl rfl (hb hby d28_2) (by decide)
  obtain ⟨T2, h2, k2, b2, X2, e2, E2, V2, g2, O2, K2, st2⟩ := own_newP X1 hx hZ (aty := .byte) (ty := .byte) (dv := (.int (0 : Int32))) (vs := [(.int (0 : Int32))]) (cap := 1) rfl rfl rfl (hw _ m23) e1 O0 (Keep.refl h0 []) (g := (mkF m 10 #[sR a1, sI 1, sI 2, sI 1, sU] [(vI 1)])) rfl (hb hby d28_10) rfl (by decide) (by decide) (by decide) (by decide) (by decide)
  have f3 : Arv Z h2 a1 ck4 .byte (2 : Int32) [(vI p2), (vI p3)] (vI 0) := (PV1.ext E2)
  obtain ⟨_, T4, L4, ⟨rfl, N4q, e4⟩, X4, st4⟩ := cS X2 hx hZ (W := 4) hown (cw26 cx) (rm8 cx 1 O2) e2 (g := (mkF m 24 #[sR a1, sI 1, sI 2, sI 1, sR b2] [(vI 1), (vI 1), (vI 0), (vR b2), (vI 1), (vR a1)])) rfl hml rfl (rest := [(vI 0), (vR b2), (vI 1), (vR a1)]) rfl rfl rfl rfl (hb hby d28_24) (by decide)
  obtain ⟨T5, h5, L'5, X5, e5, N5, Kq5, V5, st5⟩ := cpA X4 hx hZ hown (hw _ m130) (hw _ m133) (hw _ m131) (hw _ m132) e4 f3 V2 (us := [(vI p3)]) (Or.inl ⟨rfl, rfl⟩) (by decide) (by decide) (by decide) (by decide) (by decide) rfl (by decide) (Fr.app (Fr.app N0 N1q) N4q) (Nat.le_trans (own_old_le O0) g2) (g := (mkF m 27 #[sR a1, sI 1, sI 2, sI 1, sR b2] [(vI 1), (vI 0), (vR b2), (vI 1), (vR a1)])) rfl (by rw [hml]; rfl) rfl (hb hby d28_27) (by decide) (W := 0) (Nat.le_of_eq rfl) (by decide)
  have O5 : Old Z n0 h5 := O2.keep Kq5 (allS (Nat.le_trans (own_old_le O0) g2) all0)
  have K5 : Keep h0 h5 [] := K2.trans Kq5 (allS (Or.inr (Nat.le_trans (Keep.refl h0 []).1 g2)) all0)
  have V5' : Arv Z h5 b2 k2 .byte (1 : Int32) [(vI p3)] (vI 0) := V5
  refine own_end X5 hlk (v := some (vR b2)) (own_hv hret) (by decide) (by rw [e5]; exact ⟨b2, k2, rfl, N5, K5, (Nat.le_trans (Keep.refl h0 []).1 g2), V5'⟩) fun fs hr => ?_
  show St p e below s₁ (mkF m 0 #[sR a1, sI 1, sI 2, sU, sU] []) _
  refine wil X0 hx hby rfl d28_0 rfl ?_
  refine wil X0 hx hby rfl d28_1 rfl ?_
  refine st1 _ ?_
  refine wil X1 hx hby rfl d28_5 rfl ?_
  refine wil X1 hx hby rfl d28_6 rfl ?_
  refine Own.isub X1.here hx rfl (hb hby d28_7) rfl (by decide : ((2 : Int32) - (1 : Int32)) = (1 : Int32)) ?_
  refine wis X1 hx hby rfl d28_8 rfl (l' := #[sR a1, sI 1, sI 2, sI 1, sU]) rfl ?_
  refine wil X1 hx hby rfl d28_9 rfl ?_
  refine st2 _ ?_
  refine waS X2 hx hby rfl d28_12 rfl rfl (l' := #[sR a1, sI 1, sI 2, sI 1, sR b2]) rfl ?_
  refine wal X2 hx hby rfl d28_14 rfl rfl ?_
  refine wil X2 hx hby rfl d28_15 rfl ?_
  refine waL X2 hx hby rfl d28_16 rfl rfl ?_
  refine wic X2 hx hby rfl d28_18 ?_
  refine wal X2 hx hby rfl d28_19 rfl rfl ?_
  refine own_alen X2 hx hZ e2 f3 (g := (mkF m 20 #[sR a1, sI 1, sI 2, sI 1, sR b2] [(vR a1), (vI 0), (vR b2), (vI 1), (vR a1)])) rfl rfl (hb hby d28_20) ?_
  show St p e below T2 (mkF m 21 #[sR a1, sI 1, sI 2, sI 1, sR b2] [(vI 2), (vI 0), (vR b2), (vI 1), (vR a1)]) _
  refine wil X2 hx hby rfl d28_21 rfl ?_
  refine Own.isub X2.here hx rfl (hb hby d28_22) rfl (by decide : ((2 : Int32) - (1 : Int32)) = (1 : Int32)) ?_
  refine wil X2 hx hby rfl d28_23 rfl ?_
  refine st4 _ ?_
  refine st5 _ ?_
  refine waL X5 hx hby rfl d28_30 rfl rfl ?_
  exact retOut X5 hx hret rfl (Or.inr (Or.inr (Or.inr (Or.inr ⟨rfl, rfl, rfl⟩)))) (hb hby d28_32) hr
def Qrm62 (Z : State) (p3 : Int32) (h0 : Heap) (n0 : Nat) (v : Option Value) (h : Heap) (L : List Loc) : Prop := ∃ x0 : Addr, ∃ xk0 : ClassId, v = some (vR x0) ∧ Fr n0 L ∧ Keep h0 h [] ∧ h0.size ≤ x0 ∧ Arv Z h x0 xk0 .byte (1 : Int32) [(vI p3)] (vI 0)
theorem rm62 (cx : Cx Z a0 w0 w1) (a1 : Addr) (p2 : Int32) (p3 : Int32) (ck4 : ClassId) (O0 : Old Z n0 h0) (PV1 : Arv Z h0 a1 ck4 .byte (2 : Int32) [(vI p2), (vI p3)] (vI 0)) : Ct l Z ⟨z7, z15, "([BII)[B"⟩ jdk_65_method_132_code 3 (some (.array .byte)) ⟨2, 1, 1, 34⟩ #[(vR a1), (vI 1), (vI 2)] h0 (Qrm62 Z p3 h0 n0) := by
  obtain ⟨hw, hj, hS⟩ := id cx
  refine own_bd (plainFor_of_name pn495) (fun m => ef189 m a1 1 2) fun p e s m below meth c s₁ hret hlk hZ hx hby hml hown hnm X0 e0 => ?_
  have N0 := Fr.nil n0
  obtain ⟨_, T1, L1, ⟨c1_0, k1_1, rfl, N1q, Kq1, lo1_0, q1_0⟩, X1, st1⟩ := cS X0 hx hZ (W := 0) hown (cw27 cx) (rm61 cx a1 p2 p3 ck4 O0 PV1) e0 (g := (mkF m 13 #[sR a1, sI 1, sI 2] [(vI 2), (vI 1), (vR a1)])) rfl hml rfl (rest := []) rfl rfl rfl rfl (hb hby d27_13) (by decide)
  have N1 := Fr.app N0 N1q
  have O1 : Old Z n0 T1.heap := O0.keep Kq1 all0
  have K1 : Keep h0 T1.heap [] := (Keep.refl h0 []).trans Kq1 all0
  refine own_end X1 hlk (v := some (vR c1_0)) (own_hv hret) (by decide) ⟨c1_0, k1_1, rfl, N1, K1, (Nat.le_trans (Keep.refl h0 []).1 lo1_0), q1_0⟩ fun fs hr => ?_
  show St p e below s₁ (mkF m 0 #[sR a1, sI 1, sI 2] []) _
  refine wil X0 hx hby rfl d27_0 rfl ?_
  refine wfy X0 hx hby rfl (pc0 := 1) (pc' := 10) rfl d27_1 rfl ((if0 _ _).trans (feq (by decide : ¬ ((1 : Int32) = (0 : Int32)))).2) (by decide) (by decide) ?_
  refine wal X0 hx hby rfl d27_10 rfl rfl ?_
  refine wil X0 hx hby rfl d27_11 rfl ?_
  refine wil X0 hx hby rfl d27_12 rfl ?_
  refine st1 _ ?_
  exact retOut X1 hx hret rfl (Or.inr (Or.inr (Or.inr (Or.inr ⟨rfl, rfl, rfl⟩)))) (hb hby d27_16) hr
def Qrm63 (Z : State) (a1 : Addr) (a2 : Addr) (h0 : Heap) (n0 : Nat) (v : Option Value) (h : Heap) (L : List Loc) : Prop := v = none ∧ Fr n0 L ∧ Keep h0 h [a1] ∧ Fld Z h a1 z0 "value" "[B" (vR a2) ∧ Fld Z h a1 z0 "coder" "B" (vI 0)
theorem rm63 (cx : Cx Z a0 w0 w1) (a1 : Addr) (a2 : Addr) (O0 : Old Z n0 h0) (PE1 : Exa Z h0 a1 z0) (PF2 : Fld Z h0 a1 z0 "value" "[B" .null) (PF3 : Fld Z h0 a1 z0 "coder" "B" (vI 0)) (gn4 : n0 ≤ a1) : Ct l Z ⟨z0, "<init>", "([BB)V"⟩ jdk_42_method_151_code 3 none ⟨1, 0, 0, 12⟩ #[(vR a1), (vR a2), (vI 0)] h0 (Qrm63 Z a1 a2 h0 n0) := by
  obtain ⟨hw, hj, hS⟩ := id cx
  refine own_bd (plainFor_of_name pn63) (fun m => ef542 m a1 a2 0) fun p e s m below meth c s₁ hret hlk hZ hx hby hml hown hnm X0 e0 => ?_
  have N0 := Fr.nil n0
  obtain ⟨T1, X1, e1, st1⟩ := initO X0 hx hZ hown (hw _ m19) (hw _ m20) (hw _ m21) e0 (g := (mkF m 1 #[sR a1, sR a2, sI 0] [(vR a1)])) rfl (by rw [hml]; rfl) rfl (hb hby d30_1) (by decide) (W := 0) (Nat.le_of_eq rfl) (by decide)
  obtain ⟨T2, h2, L'2, X2, e2, W2, Fw2, O2, K2, N2, st2⟩ := own_put X1 hx hZ hown (host := "") (Or.inl (hw _ m28)) Via.refl e1 O0 (Keep.refl h0 [a1]) N0 gn4 (Or.inl (List.mem_of_getElem? (i := 0) rfl)) PF2 PE1 (Or.inr ⟨(hw _ m24), rfl, hnm⟩) (hw _ m10) (ty := (.array .byte)) (by decide) rfl rfl (g := (mkF m 6 #[sR a1, sR a2, sI 0] [(vR a2), (vR a1)])) rfl rfl (hb hby d30_6)
  have f3 : Fld Z h2 a1 z0 "coder" "B" (vI 0) := (PF3.other W2 (Or.inr (slot_ne (Or.inr (hw _ m25)) (Or.inr (hw _ m24)) (by decide) (t := .byte) (t' := (.array .byte)) (by decide) (by decide))))
  have f4 : Exa Z h2 a1 z0 := (PE1.wr W2)
  obtain ⟨T5, h5, L'5, X5, e5, W5, Fw5, O5, K5, N5, st5⟩ := own_putN X2 hx hZ hown (hw _ m29) Via.refl e2 O2 K2 N2 gn4 (Or.inl (List.mem_of_getElem? (i := 0) rfl)) f3 f4 (Or.inr ⟨(hw _ m25), rfl, hnm⟩) (hw _ m10) (ty := .byte) (v' := (vI 0)) (by decide) rfl (by decide) (g := (mkF m 11 #[sR a1, sR a2, sI 0] [(vI 0), (vR a1)])) rfl rfl (hb hby d30_11)
  have f6 : Fld Z h5 a1 z0 "value" "[B" (vR a2) := (Fw2.other W5 (Or.inr (slot_ne (Or.inr (hw _ m24)) (Or.inr (hw _ m25)) (by decide) (t := (.array .byte)) (t' := .byte) (by decide) (by decide))))
  refine own_end X5 hlk (v := none) (fun _ => rfl) (by decide) (by rw [e5]; exact ⟨rfl, N5, K5, f6, Fw5⟩) fun fs hr => ?_
  show St p e below s₁ (mkF m 0 #[sR a1, sR a2, sI 0] []) _
  refine wal X0 hx hby rfl d30_0 rfl rfl ?_
  refine st1 _ ?_
  refine wal X1 hx hby rfl d30_4 rfl rfl ?_
  refine wal X1 hx hby rfl d30_5 rfl rfl ?_
  refine st2 _ ?_
  refine wal X2 hx hby rfl d30_9 rfl rfl ?_
  refine wil X2 hx hby rfl d30_10 rfl ?_
  refine st5 _ ?_
  exact X5.returnOut hx hret (hb hby d30_14) hr
def Qrm64 (Z : State) (p3 : Int32) (h0 : Heap) (n0 : Nat) (v : Option Value) (h : Heap) (L : List Loc) : Prop := ∃ x0 : Addr, ∃ x1 : Addr, ∃ xk0 : ClassId, v = some (vR x0) ∧ Fr n0 L ∧ Keep h0 h [] ∧ h0.size ≤ x0 ∧ x0 < x1 ∧ Exa Z h x0 z0 ∧ Fld Z h x0 z0 "value" "[B" (vR x1) ∧ Fld Z h x0 z0 "coder" "B" (vI 0) ∧ Arv Z h x1 xk0 .byte (1 : Int32) [(vI p3)] (vI 0)
theorem rm64 (cx : Cx Z a0 w0 w1) (a1 : Addr) (p2 : Int32) (p3 : Int32) (ck4 : ClassId) (O0 : Old Z n0 h0) (PV1 : Arv Z h0 a1 ck4 .byte (2 : Int32) [(vI p2), (vI p3)] (vI 0)) : Ct l Z ⟨z2, "newString", z11⟩ jdk_43_method_47_code 3 (some (.object z0)) ⟨3, 2, 5, 50⟩ #[(vR a1), (vI 1), (vI 1)] h0 (Qrm64 Z p3 h0 n0) := by
  obtain ⟨hw, hj, hS⟩ := id cx
  refine own_bd (plainFor_of_name pn154) (fun m => ef189 m a1 1 1) fun p e s m below meth c s₁ hret hlk hZ hx hby hml hown hnm X0 e0 => ?_
  have N0 := Fr.nil n0
  obtain ⟨T1, h1, b1, X1, e1, E1, A1, D1, g1, O1, K1, st1⟩ := own_newO X0 hx hZ hown (hw _ m118) (hw _ m10) (hw _ m11) e0 O0 (Keep.refl h0 []) (g := (mkF m 7 #[sR a1, sI 1, sI 1] [])) rfl (hb hby d26_7) (by decide) (by decide)
  have F1_1 : Fld Z h1 b1 z0 "value" "[B" .null := D1 (Or.inr (hw _ m24)) (ty := (.array .byte)) (by decide)
  have F1_2 : Fld Z h1 b1 z0 "coder" "B" (vI 0) := D1 (Or.inr (hw _ m25)) (ty := .byte) (by decide)
  have f3 : Arv Z h1 a1 ck4 .byte (2 : Int32) [(vI p2), (vI p3)] (vI 0) := (PV1.ext E1)
  obtain ⟨_, T2, L2, ⟨c2_0, k2_1, rfl, N2q, Kq2, lo2_0, q2_0⟩, X2, st2⟩ := cS X1 hx hZ (W := 2) hown (cw28 cx) (rm62 cx a1 p2 p3 ck4 O1 f3) e1 (g := (mkF m 16 #[sR a1, sI 1, sI 1] [(vI 2), (vI 1), (vR a1), (vR b1), (vR b1)])) rfl hml rfl (rest := [(vR b1), (vR b1)]) rfl rfl rfl rfl (hb hby d26_16) (by decide)
  have N2 := Fr.app N0 N2q
  have O2 : Old Z n0 T2.heap := O1.keep Kq2 all0
  have K2 : Keep h0 T2.heap [] := K1.trans Kq2 all0
  have f5 : Exa Z T2.heap b1 z0 := (A1.keep Kq2)
  have f6 : Fld Z T2.heap b1 z0 "value" "[B" .null := (F1_1.keep Kq2 nin0)
  have f7 : Fld Z T2.heap b1 z0 "coder" "B" (vI 0) := (F1_2.keep Kq2 nin0)
  obtain ⟨_, T4, L4, ⟨rfl, N4q, Kq4, q4_0, q4_1⟩, X4, st4⟩ := cI X2 hx hZ (W := 1) hown (cw29 cx) (rm63 cx b1 c2_0 O2 f5 f6 f7 (Nat.le_trans (own_old_le O0) g1)) (rfl : T2.heap = T2.heap) (g := (mkF m 20 #[sR a1, sI 1, sI 1] [(vI 0), (vR c2_0), (vR b1), (vR b1)])) rfl hml rfl (rest := [(vR b1)]) rfl rfl rfl rfl (hb hby d26_20) (by decide)
  have N4 := Fr.app N2 N4q
  have O4 : Old Z n0 T4.heap := O2.keep Kq4 (allS (Nat.le_trans (own_old_le O0) g1) all0)
  have K4 : Keep h0 T4.heap [] := K2.trans Kq4 (allS (Or.inr (Nat.le_trans (Keep.refl h0 []).1 g1)) all0)
  have f8 : Exa Z T4.heap b1 z0 := (f5.keep Kq4)
  have f9 : Arv Z T4.heap c2_0 k2_1 .byte (1 : Int32) [(vI p3)] (vI 0) := (q2_0.keep Kq4 (ninS (Ne.symm (Nat.ne_of_lt (Nat.lt_of_lt_of_le A1.lt lo2_0))) nin0))
  refine own_end X4 hlk (v := some (vR b1)) (own_hv hret) (by decide) ⟨b1, c2_0, k2_1, rfl, N4, K4, (Nat.le_trans (Keep.refl h0 []).1 g1), (Nat.lt_of_lt_of_le A1.lt lo2_0), f8, q4_0, q4_1, f9⟩ fun fs hr => ?_
  show St p e below s₁ (mkF m 0 #[sR a1, sI 1, sI 1] []) _
  refine wil X0 hx hby rfl d26_0 rfl ?_
  refine wfy X0 hx hby rfl (pc0 := 1) (pc' := 7) rfl d26_1 rfl ((if0 _ _).trans (feq (by decide : ¬ ((1 : Int32) = (0 : Int32)))).2) (by decide) (by decide) ?_
  refine st1 _ ?_
  refine wdu X1 hx hby rfl d26_10 rfl rfl ?_
  refine wal X1 hx hby rfl d26_11 rfl rfl ?_
  refine wil X1 hx hby rfl d26_12 rfl ?_
  refine wil X1 hx hby rfl d26_13 rfl ?_
  refine wil X1 hx hby rfl d26_14 rfl ?_
  refine Own.iadd X1.here hx rfl (hb hby d26_15) rfl (by decide : ((1 : Int32) + (1 : Int32)) = (2 : Int32)) ?_
  refine st2 _ ?_
  refine wic X2 hx hby rfl d26_19 ?_
  refine st4 _ ?_
  exact retOut X4 hx hret rfl (Or.inr (Or.inr (Or.inr (Or.inr ⟨rfl, rfl, rfl⟩)))) (hb hby d26_23) hr
def Qrm65 (Z : State) (p3 : Int32) (h0 : Heap) (n0 : Nat) (v : Option Value) (h : Heap) (L : List Loc) : Prop := ∃ x0 : Addr, ∃ x1 : Addr, ∃ xk0 : ClassId, v = some (vR x0) ∧ Fr n0 L ∧ Keep h0 h [] ∧ h0.size ≤ x0 ∧ x0 < x1 ∧ Exa Z h x0 z0 ∧ Fld Z h x0 z0 "value" "[B" (vR x1) ∧ Fld Z h x0 z0 "coder" "B" (vI 0) ∧ Arv Z h x1 xk0 .byte (1 : Int32) [(vI p3)] (vI 0)
theorem rm65 (cx : Cx Z a0 w0 w1) (a1 : Addr) (p2 : Int32) (p3 : Int32) (a4 : Addr) (ck5 : ClassId) (O0 : Old Z n0 h0) (PF1 : Fld Z h0 a1 z0 "value" "[B" (vR a4)) (PV2 : Arv Z h0 a4 ck5 .byte (2 : Int32) [(vI p2), (vI p3)] (vI 0)) (PF3 : Fld Z h0 a1 z0 "coder" "B" (vI 0)) (PE4 : Exa Z h0 a1 z0) : Ct l Z ⟨z0, "substring", z8⟩ jdk_42_method_92_code 5 (some (.object z0)) ⟨4, 2, 5, 64⟩ #[(vR a1), (vI 1), (vI 2)] h0 (Qrm65 Z p3 h0 n0) := by
  obtain ⟨hw, hj, hS⟩ := id cx
  refine own_bd (plainFor_of_name pn63) (fun m => ef255 m a1 1 2) fun p e s m below meth c s₁ hret hlk hZ hx hby hml hown hnm X0 e0 => ?_
  have N0 := Fr.nil n0
  obtain ⟨_, T1, L1, ⟨rfl, N1q, e1⟩, X1, st1⟩ := cV X0 hx hZ (W := 0) hown (cw4 cx) (rm49 cx a1 a4 p2 p3 ck5 O0 PF1 PV2 PF3 PE4) e0 PE4 (g := (mkF m 1 #[sR a1, sI 1, sI 2, sU, sU] [(vR a1)])) rfl hml rfl (rest := []) rfl rfl rfl rfl (hb hby d16_1) (by decide)
  obtain ⟨_, T2, L2, ⟨rfl, N2q, e2⟩, X2, st2⟩ := cS X1 hx hZ (W := 0) hown (cw12 cx) (rm35 cx 1 2 O0 (by decide : ¬ ((1 : Int32) < (0 : Int32))) (by decide : ¬ ((2 : Int32) < (1 : Int32)))) e1 (g := (mkF m 8 #[sR a1, sI 1, sI 2, sI 2, sU] [(vI 2), (vI 2), (vI 1)])) rfl hml rfl (rest := []) rfl rfl rfl rfl (hb hby d16_8) (by decide)
  obtain ⟨_, T3, L3, ⟨rfl, N3q, e3⟩, X3, st3⟩ := cV X2 hx hZ (W := 0) hown (cw5 cx) (rm6 cx a1 O0 PF3) e2 PE4 (g := (mkF m 28 #[sR a1, sI 1, sI 2, sI 2, sI 1] [(vR a1)])) rfl hml rfl (rest := []) rfl rfl rfl rfl (hb hby d16_28) (by decide)
  obtain ⟨T4, X4, e4, st4⟩ := getF X3 hx hZ hown (host := "") (Or.inl (hw _ m28)) Via.refl e3 PF1 (g := (mkF m 35 #[sR a1, sI 1, sI 2, sI 2, sI 1] [(vR a1)])) rfl rfl (hb hby d16_35)
  obtain ⟨_, T5, L5, ⟨c5_0, c5_1, k5_2, rfl, N5q, Kq5, lo5_0, lo5_1, q5_0, q5_1, q5_2, q5_3⟩, X5, st5⟩ := cS X4 hx hZ (W := 0) hown (cw20 cx) (rm64 cx a4 p2 p3 ck5 O0 PV2) e4 (g := (mkF m 41 #[sR a1, sI 1, sI 2, sI 2, sI 1] [(vI 1), (vI 1), (vR a4)])) rfl hml rfl (rest := []) rfl rfl rfl rfl (hb hby d16_41) (by decide)
  have N5 := Fr.app (Fr.app (Fr.app (Fr.app N0 N1q) N2q) N3q) N5q
  have O5 : Old Z n0 T5.heap := O0.keep Kq5 all0
  have K5 : Keep h0 T5.heap [] := (Keep.refl h0 []).trans Kq5 all0
  refine own_end X5 hlk (v := some (vR c5_0)) (own_hv hret) (by decide) ⟨c5_0, c5_1, k5_2, rfl, N5, K5, (Nat.le_trans (Keep.refl h0 []).1 lo5_0), lo5_1, q5_0, q5_1, q5_2, q5_3⟩ fun fs hr => ?_
  show St p e below s₁ (mkF m 0 #[sR a1, sI 1, sI 2, sU, sU] []) _
  refine wal X0 hx hby rfl d16_0 rfl rfl ?_
  refine st1 _ ?_
  refine wis X1 hx hby rfl d16_4 rfl (l' := #[sR a1, sI 1, sI 2, sI 2, sU]) rfl ?_
  refine wil X1 hx hby rfl d16_5 rfl ?_
  refine wil X1 hx hby rfl d16_6 rfl ?_
  refine wil X1 hx hby rfl d16_7 rfl ?_
  refine st2 _ ?_
  refine wil X2 hx hby rfl d16_11 rfl ?_
  refine wfy X2 hx hby rfl (pc0 := 12) (pc' := 22) rfl d16_12 rfl ((if0 _ _).trans (feq (by decide : ¬ ((1 : Int32) = (0 : Int32)))).2) (by decide) (by decide) ?_
  refine wil X2 hx hby rfl d16_22 rfl ?_
  refine wil X2 hx hby rfl d16_23 rfl ?_
  refine Own.isub X2.here hx rfl (hb hby d16_24) rfl (by decide : ((2 : Int32) - (1 : Int32)) = (1 : Int32)) ?_
  refine wiS X2 hx hby rfl d16_25 rfl (l' := #[sR a1, sI 1, sI 2, sI 2, sI 1]) rfl ?_
  refine wal X2 hx hby rfl d16_27 rfl rfl ?_
  refine st3 _ ?_
  refine wfn X3 hx hby rfl d16_31 rfl ((if0 _ _).trans (feq (by decide : ¬ ((1 : Int32) = (0 : Int32)))).1) ?_
  show St p e below T3 (mkF m 34 #[sR a1, sI 1, sI 2, sI 2, sI 1] []) _
  refine wal X3 hx hby rfl d16_34 rfl rfl ?_
  refine st4 _ ?_
  refine wil X4 hx hby rfl d16_38 rfl ?_
  refine wiL X4 hx hby rfl d16_39 rfl ?_
  refine st5 _ ?_
  refine wgt X5 hx hby rfl (pc0 := 44) (pc' := 57) rfl d16_44 (by decide) (by decide) ?_
  exact retOut X5 hx hret rfl (Or.inr (Or.inr (Or.inr (Or.inr ⟨rfl, rfl, rfl⟩)))) (hb hby d16_57) hr
def Qrm66 (Z : State) (p3 : Int32) (h0 : Heap) (n0 : Nat) (v : Option Value) (h : Heap) (L : List Loc) : Prop := ∃ x0 : Addr, ∃ x1 : Addr, ∃ xk0 : ClassId, v = some (vR x0) ∧ Fr n0 L ∧ Keep h0 h [] ∧ h0.size ≤ x0 ∧ x0 < x1 ∧ Exa Z h x0 z0 ∧ Fld Z h x0 z0 "value" "[B" (vR x1) ∧ Fld Z h x0 z0 "coder" "B" (vI 0) ∧ Arv Z h x1 xk0 .byte (1 : Int32) [(vI p3)] (vI 0)
theorem rm66 (cx : Cx Z a0 w0 w1) (a1 : Addr) (p2 : Int32) (p3 : Int32) (a4 : Addr) (ck5 : ClassId) (O0 : Old Z n0 h0) (PF1 : Fld Z h0 a1 z0 "value" "[B" (vR a4)) (PV2 : Arv Z h0 a4 ck5 .byte (2 : Int32) [(vI p2), (vI p3)] (vI 0)) (PF3 : Fld Z h0 a1 z0 "coder" "B" (vI 0)) (PE4 : Exa Z h0 a1 z0) : Ct l Z ⟨z0, "substring", z9⟩ jdk_42_method_91_code 2 (some (.object z0)) ⟨5, 2, 5, 80⟩ #[(vR a1), (vI 1)] h0 (Qrm66 Z p3 h0 n0) := by
  obtain ⟨hw, hj, hS⟩ := id cx
  refine own_bd (plainFor_of_name pn63) (fun m => ef194 m a1 1) fun p e s m below meth c s₁ hret hlk hZ hx hby hml hown hnm X0 e0 => ?_
  have N0 := Fr.nil n0
  obtain ⟨_, T1, L1, ⟨rfl, N1q, e1⟩, X1, st1⟩ := cV X0 hx hZ (W := 2) hown (cw4 cx) (rm49 cx a1 a4 p2 p3 ck5 O0 PF1 PV2 PF3 PE4) e0 PE4 (g := (mkF m 3 #[sR a1, sI 1] [(vR a1), (vI 1), (vR a1)])) rfl hml rfl (rest := [(vI 1), (vR a1)]) rfl rfl rfl rfl (hb hby d15_3) (by decide)
  obtain ⟨_, T2, L2, ⟨c2_0, c2_1, k2_2, rfl, N2q, Kq2, lo2_0, lo2_1, q2_0, q2_1, q2_2, q2_3⟩, X2, st2⟩ := cV X1 hx hZ (W := 0) hown (cw13 cx) (rm65 cx a1 p2 p3 a4 ck5 O0 PF1 PV2 PF3 PE4) e1 PE4 (g := (mkF m 6 #[sR a1, sI 1] [(vI 2), (vI 1), (vR a1)])) rfl hml rfl (rest := []) rfl rfl rfl rfl (hb hby d15_6) (by decide)
  have N2 := Fr.app (Fr.app N0 N1q) N2q
  have O2 : Old Z n0 T2.heap := O0.keep Kq2 all0
  have K2 : Keep h0 T2.heap [] := (Keep.refl h0 []).trans Kq2 all0
  refine own_end X2 hlk (v := some (vR c2_0)) (own_hv hret) (by decide) ⟨c2_0, c2_1, k2_2, rfl, N2, K2, (Nat.le_trans (Keep.refl h0 []).1 lo2_0), lo2_1, q2_0, q2_1, q2_2, q2_3⟩ fun fs hr => ?_
  show St p e below s₁ (mkF m 0 #[sR a1, sI 1] []) _
  refine wal X0 hx hby rfl d15_0 rfl rfl ?_
  refine wil X0 hx hby rfl d15_1 rfl ?_
  refine wal X0 hx hby rfl d15_2 rfl rfl ?_
  refine st1 _ ?_
  refine st2 _ ?_
  exact retOut X2 hx hret rfl (Or.inr (Or.inr (Or.inr (Or.inr ⟨rfl, rfl, rfl⟩)))) (hb hby d15_9) hr
def Qrm67 (Z : State) (p3 : Int32) (h0 : Heap) (n0 : Nat) (v : Option Value) (h : Heap) (L : List Loc) : Prop := ∃ x0 : Addr, ∃ x1 : Addr, ∃ xk0 : ClassId, v = some (vR x0) ∧ Fr n0 L ∧ Keep h0 h [] ∧ h0.size ≤ x0 ∧ x0 < x1 ∧ Exa Z h x0 z0 ∧ Fld Z h x0 z0 "value" "[B" (vR x1) ∧ Fld Z h x0 z0 "coder" "B" (vI 0) ∧ Arv Z h x1 xk0 .byte (1 : Int32) [(vI p3)] (vI 0)
theorem rm67 (cx : Cx Z a0 w0 w1) (a1 : Addr) (p2 : Int32) (p3 : Int32) (a4 : Addr) (ck5 : ClassId) (O0 : Old Z n0 h0) (PF1 : Fld Z h0 a1 z0 "value" "[B" (vR a4)) (PV2 : Arv Z h0 a4 ck5 .byte (2 : Int32) [(vI p2), (vI p3)] (vI 0)) (PF3 : Fld Z h0 a1 z0 "coder" "B" (vI 0)) (PE4 : Exa Z h0 a1 z0) (hc5 : ¬ (p3 = (58 : Int32))) (hc6 : p2 = (58 : Int32)) : Ct l Z ⟨z3, "localPart", z5⟩ prog_13_method_17_code 1 (some (.object z0)) ⟨6, 2, 5, 93⟩ #[(vR a1)] h0 (Qrm67 Z p3 h0 n0) := by
  obtain ⟨hw, hj, hS⟩ := id cx
  refine own_bd (plainFor_of_name pn266) (fun m => ef104 m a1) fun p e s m below meth c s₁ hret hlk hZ hx hby hml hown hnm X0 e0 => ?_
  have N0 := Fr.nil n0
  obtain ⟨_, T1, L1, ⟨rfl, N1q, e1⟩, X1, st1⟩ := cV X0 hx hZ (W := 1) hown (cw10 cx) (rm59 cx a1 p2 p3 a4 ck5 O0 PF1 PV2 PF3 PE4 hc5 hc6) e0 PE4 (g := (mkF m 4 #[sR a1] [(vI 58), (vR a1), (vR a1)])) rfl hml rfl (rest := [(vR a1)]) rfl rfl rfl rfl (hb hby d6_4) (by decide)
  obtain ⟨_, T2, L2, ⟨c2_0, c2_1, k2_2, rfl, N2q, Kq2, lo2_0, lo2_1, q2_0, q2_1, q2_2, q2_3⟩, X2, st2⟩ := cV X1 hx hZ (W := 0) hown (cw14 cx) (rm66 cx a1 p2 p3 a4 ck5 O0 PF1 PV2 PF3 PE4) e1 PE4 (g := (mkF m 9 #[sR a1] [(vI 1), (vR a1)])) rfl hml rfl (rest := []) rfl rfl rfl rfl (hb hby d6_9) (by decide)
  have N2 := Fr.app (Fr.app N0 N1q) N2q
  have O2 : Old Z n0 T2.heap := O0.keep Kq2 all0
  have K2 : Keep h0 T2.heap [] := (Keep.refl h0 []).trans Kq2 all0
  refine own_end X2 hlk (v := some (vR c2_0)) (own_hv hret) (by decide) ⟨c2_0, c2_1, k2_2, rfl, N2, K2, (Nat.le_trans (Keep.refl h0 []).1 lo2_0), lo2_1, q2_0, q2_1, q2_2, q2_3⟩ fun fs hr => ?_
  show St p e below s₁ (mkF m 0 #[sR a1] []) _
  refine wal X0 hx hby rfl d6_0 rfl rfl ?_
  refine wal X0 hx hby rfl d6_1 rfl rfl ?_
  refine wbp X0 hx hby rfl d6_2 ?_
  refine st1 _ ?_
  refine wic X1 hx hby rfl d6_7 ?_
  refine Own.iadd X1.here hx rfl (hb hby d6_8) rfl (by decide : ((0 : Int32) + (1 : Int32)) = (1 : Int32)) ?_
  refine st2 _ ?_
  exact retOut X2 hx hret rfl (Or.inr (Or.inr (Or.inr (Or.inr ⟨rfl, rfl, rfl⟩)))) (hb hby d6_12) hr
def Qrm68 (Z : State) (h0 : Heap) (n0 : Nat) (v : Option Value) (h : Heap) (L : List Loc) : Prop := v = some (vI (-1)) ∧ Fr n0 L ∧ h = h0
theorem rm68 (cx : Cx Z a0 w0 w1) (a1 : Addr) (p2 : Int32) (p3 : Int32) (ck4 : ClassId) (O0 : Old Z n0 h0) (PV1 : Arv Z h0 a1 ck4 .byte (2 : Int32) [(vI p2), (vI p3)] (vI 0)) (hc2 : ¬ (p3 = (58 : Int32))) (hc3 : ¬ (p2 = (58 : Int32))) : Ct l Z ⟨z2, z4, "([BII)I"⟩ jdk_43_method_27_code 4 (some .int) ⟨1, 0, 0, 13⟩ #[(vR a1), (vI 58), (vI 1)] h0 (Qrm68 Z h0 n0) := by
  obtain ⟨hw, hj, hS⟩ := id cx
  refine own_bd (plainFor_of_name pn154) (fun m => ef183 m a1 58 1) fun p e s m below meth c s₁ hret hlk hZ hx hby hml hown hnm X0 e0 => ?_
  have N0 := Fr.nil n0
  obtain ⟨_, T1, L1, ⟨rfl, N1q, e1⟩, X1, st1⟩ := cS X0 hx hZ (W := 0) hown (cw6 cx) (rm7 cx 58 O0 (by decide : ¬ ((58 : Int32) < (0 : Int32))) (by decide : ¬ ((255 : Int32) < (58 : Int32)))) e0 (g := (mkF m 1 #[sR a1, sI 58, sI 1, sU] [(vI 58)])) rfl hml rfl (rest := []) rfl rfl rfl rfl (hb hby d12_1) (by decide)
  obtain ⟨_, T2, L2, ⟨rfl, N2q, e2⟩, X2, st2⟩ := cS X1 hx hZ (W := 0) hown (cw7 cx) (rm8 cx 1 O0) e1 (g := (mkF m 14 #[sR a1, sI 58, sI 1, sU] [(vI 1), (vI 1)])) rfl hml rfl (rest := []) rfl rfl rfl rfl (hb hby d12_14) (by decide)
  refine own_end X2 hlk (v := some (vI (-1))) (own_hv hret) (by decide) (by rw [e2]; exact ⟨rfl, (Fr.app (Fr.app N0 N1q) N2q), rfl⟩) fun fs hr => ?_
  show St p e below s₁ (mkF m 0 #[sR a1, sI 58, sI 1, sU] []) _
  refine wil X0 hx hby rfl d12_0 rfl ?_
  refine st1 _ ?_
  refine wfy X1 hx hby rfl (pc0 := 4) (pc' := 9) rfl d12_4 rfl ((if0 _ _).trans (feq (by decide : ¬ ((1 : Int32) = (0 : Int32)))).2) (by decide) (by decide) ?_
  refine wil X1 hx hby rfl d12_9 rfl ?_
  refine wal X1 hx hby rfl d12_10 rfl rfl ?_
  refine own_alen X1 hx hZ e1 PV1 (g := (mkF m 11 #[sR a1, sI 58, sI 1, sU] [(vR a1), (vI 1)])) rfl rfl (hb hby d12_11) ?_
  refine wic X1 hx hby rfl d12_12 ?_
  refine Own.isub X1.here hx rfl (hb hby d12_13) rfl (by decide : ((2 : Int32) - (1 : Int32)) = (1 : Int32)) ?_
  refine st2 _ ?_
  refine wis X2 hx hby rfl d12_17 rfl (l' := #[sR a1, sI 58, sI 1, sI 1]) rfl ?_
  refine wil X2 hx hby rfl d12_18 rfl ?_
  refine wfn X2 hx hby rfl d12_19 rfl ((if0 _ _).trans (flt (by decide : ¬ ((1 : Int32) < (0 : Int32)))).1) ?_
  refine wal X2 hx hby rfl d12_22 rfl rfl ?_
  refine wil X2 hx hby rfl d12_23 rfl ?_
  refine own_baloadB X2 hx hZ e2 PV1 (j := 1) (by decide) (v := (vI p3)) rfl (g := (mkF m 24 #[sR a1, sI 58, sI 1, sI 1] [(vI 1), (vR a1)])) rfl rfl (hb hby d12_24) ?_
  refine wil X2 hx hby rfl d12_25 rfl ?_
  show St p e below T2 (mkF m 26 #[sR a1, sI 58, sI 1, sI 1] [(vI 58), (vI p3)]) _
  refine Own.i2b X2.here hx rfl (hb hby d12_26) rfl (by decide : ((58 : Int32).toInt8.toInt32) = (58 : Int32)) ?_
  refine wcy X2 hx hby rfl (pc0 := 27) (pc' := 32) rfl d12_27 rfl (feq hc2).2 (by decide) (by decide) ?_
  refine Own.iinc X2.here hx rfl (hb hby d12_32) rfl (by decide : ((1 : Int32) + (-1 : Int32)) = (0 : Int32)) (l' := #[sR a1, sI 58, sI 1, sI 0]) rfl ?_
  refine wgt X2 hx hby rfl (pc0 := 35) (pc' := 18) rfl d12_35 (by decide) (by decide) ?_
  refine wil X2 hx hby rfl d12_18 rfl ?_
  refine wfn X2 hx hby rfl d12_19 rfl ((if0 _ _).trans (flt (by decide : ¬ ((0 : Int32) < (0 : Int32)))).1) ?_
  refine wal X2 hx hby rfl d12_22 rfl rfl ?_
  refine wil X2 hx hby rfl d12_23 rfl ?_
  refine own_baloadB X2 hx hZ e2 PV1 (j := 0) (by decide) (v := (vI p2)) rfl (g := (mkF m 24 #[sR a1, sI 58, sI 1, sI 0] [(vI 0), (vR a1)])) rfl rfl (hb hby d12_24) ?_
  refine wil X2 hx hby rfl d12_25 rfl ?_
  refine Own.i2b X2.here hx rfl (hb hby d12_26) rfl (by decide : ((58 : Int32).toInt8.toInt32) = (58 : Int32)) ?_
  refine wcy X2 hx hby rfl (pc0 := 27) (pc' := 32) rfl d12_27 rfl (feq hc3).2 (by decide) (by decide) ?_
  refine Own.iinc X2.here hx rfl (hb hby d12_32) rfl (by decide : ((0 : Int32) + (-1 : Int32)) = (-1 : Int32)) (l' := #[sR a1, sI 58, sI 1, sI (-1)]) rfl ?_
  refine wgt X2 hx hby rfl (pc0 := 35) (pc' := 18) rfl d12_35 (by decide) (by decide) ?_
  refine wil X2 hx hby rfl d12_18 rfl ?_
  refine wfy X2 hx hby rfl (pc0 := 19) (pc' := 38) rfl d12_19 rfl ((if0 _ _).trans (tlt (by decide : (-1 : Int32) < (0 : Int32))).1) (by decide) (by decide) ?_
  show St p e below T2 (mkF m 38 #[sR a1, sI 58, sI 1, sI (-1)] []) _
  refine wic X2 hx hby rfl d12_38 ?_
  exact retOut X2 hx hret rfl (Or.inl ⟨rfl, Or.inl rfl, _, rfl⟩) (hb hby d12_39) hr
def Qrm69 (Z : State) (h0 : Heap) (n0 : Nat) (v : Option Value) (h : Heap) (L : List Loc) : Prop := v = some (vI (-1)) ∧ Fr n0 L ∧ h = h0
theorem rm69 (cx : Cx Z a0 w0 w1) (a1 : Addr) (a2 : Addr) (p3 : Int32) (p4 : Int32) (ck5 : ClassId) (O0 : Old Z n0 h0) (PF1 : Fld Z h0 a1 z0 "coder" "B" (vI 0)) (PE2 : Exa Z h0 a1 z0) (PF3 : Fld Z h0 a1 z0 "value" "[B" (vR a2)) (PV4 : Arv Z h0 a2 ck5 .byte (2 : Int32) [(vI p3), (vI p4)] (vI 0)) (hc5 : ¬ (p4 = (58 : Int32))) (hc6 : ¬ (p3 = (58 : Int32))) : Ct l Z ⟨z0, z4, "(II)I"⟩ jdk_42_method_83_code 3 (some .int) ⟨2, 0, 0, 28⟩ #[(vR a1), (vI 58), (vI 1)] h0 (Qrm69 Z h0 n0) := by
  obtain ⟨hw, hj, hS⟩ := id cx
  refine own_bd (plainFor_of_name pn63) (fun m => ef189 m a1 58 1) fun p e s m below meth c s₁ hret hlk hZ hx hby hml hown hnm X0 e0 => ?_
  have N0 := Fr.nil n0
  obtain ⟨_, T1, L1, ⟨rfl, N1q, e1⟩, X1, st1⟩ := cV X0 hx hZ (W := 0) hown (cw5 cx) (rm6 cx a1 O0 PF1) e0 PE2 (g := (mkF m 1 #[sR a1, sI 58, sI 1] [(vR a1)])) rfl hml rfl (rest := []) rfl rfl rfl rfl (hb hby d10_1) (by decide)
  obtain ⟨T2, X2, e2, st2⟩ := getF X1 hx hZ hown (host := "") (Or.inl (hw _ m28)) Via.refl e1 PF3 (g := (mkF m 8 #[sR a1, sI 58, sI 1] [(vR a1)])) rfl rfl (hb hby d10_8)
  obtain ⟨_, T3, L3, ⟨rfl, N3q, e3⟩, X3, st3⟩ := cS X2 hx hZ (W := 0) hown (cw8 cx) (rm68 cx a2 p3 p4 ck5 O0 PV4 hc5 hc6) e2 (g := (mkF m 13 #[sR a1, sI 58, sI 1] [(vI 1), (vI 58), (vR a2)])) rfl hml rfl (rest := []) rfl rfl rfl rfl (hb hby d10_13) (by decide)
  refine own_end X3 hlk (v := some (vI (-1))) (own_hv hret) (by decide) (by rw [e3]; exact ⟨rfl, (Fr.app (Fr.app N0 N1q) N3q), rfl⟩) fun fs hr => ?_
  show St p e below s₁ (mkF m 0 #[sR a1, sI 58, sI 1] []) _
  refine wal X0 hx hby rfl d10_0 rfl rfl ?_
  refine st1 _ ?_
  refine wfn X1 hx hby rfl d10_4 rfl ((if0 _ _).trans (feq (by decide : ¬ ((1 : Int32) = (0 : Int32)))).1) ?_
  refine wal X1 hx hby rfl d10_7 rfl rfl ?_
  refine st2 _ ?_
  refine wil X2 hx hby rfl d10_11 rfl ?_
  refine wil X2 hx hby rfl d10_12 rfl ?_
  refine st3 _ ?_
  refine wgt X3 hx hby rfl (pc0 := 16) (pc' := 28) rfl d10_16 (by decide) (by decide) ?_
  exact retOut X3 hx hret rfl (Or.inl ⟨rfl, Or.inl rfl, _, rfl⟩) (hb hby d10_28) hr
def Qrm70 (Z : State) (h0 : Heap) (n0 : Nat) (v : Option Value) (h : Heap) (L : List Loc) : Prop := v = some (vI (-1)) ∧ Fr n0 L ∧ h = h0
theorem rm70 (cx : Cx Z a0 w0 w1) (a1 : Addr) (p2 : Int32) (p3 : Int32) (a4 : Addr) (ck5 : ClassId) (O0 : Old Z n0 h0) (PF1 : Fld Z h0 a1 z0 "value" "[B" (vR a4)) (PV2 : Arv Z h0 a4 ck5 .byte (2 : Int32) [(vI p2), (vI p3)] (vI 0)) (PF3 : Fld Z h0 a1 z0 "coder" "B" (vI 0)) (PE4 : Exa Z h0 a1 z0) (hc5 : ¬ (p3 = (58 : Int32))) (hc6 : ¬ (p2 = (58 : Int32))) : Ct l Z ⟨z0, z4, "(I)I"⟩ jdk_42_method_82_code 2 (some .int) ⟨3, 0, 0, 42⟩ #[(vR a1), (vI 58)] h0 (Qrm70 Z h0 n0) := by
  obtain ⟨hw, hj, hS⟩ := id cx
  refine own_bd (plainFor_of_name pn63) (fun m => ef194 m a1 58) fun p e s m below meth c s₁ hret hlk hZ hx hby hml hown hnm X0 e0 => ?_
  have N0 := Fr.nil n0
  obtain ⟨_, T1, L1, ⟨rfl, N1q, e1⟩, X1, st1⟩ := cV X0 hx hZ (W := 2) hown (cw4 cx) (rm49 cx a1 a4 p2 p3 ck5 O0 PF1 PV2 PF3 PE4) e0 PE4 (g := (mkF m 3 #[sR a1, sI 58] [(vR a1), (vI 58), (vR a1)])) rfl hml rfl (rest := [(vI 58), (vR a1)]) rfl rfl rfl rfl (hb hby d7_3) (by decide)
  obtain ⟨_, T2, L2, ⟨rfl, N2q, e2⟩, X2, st2⟩ := cV X1 hx hZ (W := 0) hown (cw9 cx) (rm69 cx a1 a4 p2 p3 ck5 O0 PF3 PE4 PF1 PV2 hc5 hc6) e1 PE4 (g := (mkF m 8 #[sR a1, sI 58] [(vI 1), (vI 58), (vR a1)])) rfl hml rfl (rest := []) rfl rfl rfl rfl (hb hby d7_8) (by decide)
  refine own_end X2 hlk (v := some (vI (-1))) (own_hv hret) (by decide) (by rw [e2]; exact ⟨rfl, (Fr.app (Fr.app N0 N1q) N2q), rfl⟩) fun fs hr => ?_
  show St p e below s₁ (mkF m 0 #[sR a1, sI 58] []) _
  refine wal X0 hx hby rfl d7_0 rfl rfl ?_
  refine wil X0 hx hby rfl d7_1 rfl ?_
  refine wal X0 hx hby rfl d7_2 rfl rfl ?_
  refine st1 _ ?_
  refine wic X1 hx hby rfl d7_6 ?_
  refine Own.isub X1.here hx rfl (hb hby d7_7) rfl (by decide : ((2 : Int32) - (1 : Int32)) = (1 : Int32)) ?_
  refine st2 _ ?_
  exact retOut X2 hx hret rfl (Or.inl ⟨rfl, Or.inl rfl, _, rfl⟩) (hb hby d7_11) hr
def Qrm71 (Z : State) (a1 : Addr) (h0 : Heap) (n0 : Nat) (v : Option Value) (h : Heap) (L : List Loc) : Prop := v = some (vR a1) ∧ Fr n0 L ∧ h = h0
theorem rm71 (cx : Cx Z a0 w0 w1) (a1 : Addr) (p2 : Int32) (p3 : Int32) (a4 : Addr) (ck5 : ClassId) (O0 : Old Z n0 h0) (PF1 : Fld Z h0 a1 z0 "value" "[B" (vR a4)) (PV2 : Arv Z h0 a4 ck5 .byte (2 : Int32) [(vI p2), (vI p3)] (vI 0)) (PF3 : Fld Z h0 a1 z0 "coder" "B" (vI 0)) (PE4 : Exa Z h0 a1 z0) : Ct l Z ⟨z0, "substring", z8⟩ jdk_42_method_92_code 5 (some (.object z0)) ⟨2, 0, 0, 29⟩ #[(vR a1), (vI 0), (vI 2)] h0 (Qrm71 Z a1 h0 n0) := by
  obtain ⟨hw, hj, hS⟩ := id cx
  refine own_bd (plainFor_of_name pn63) (fun m => ef255 m a1 0 2) fun p e s m below meth c s₁ hret hlk hZ hx hby hml hown hnm X0 e0 => ?_
  have N0 := Fr.nil n0
  obtain ⟨_, T1, L1, ⟨rfl, N1q, e1⟩, X1, st1⟩ := cV X0 hx hZ (W := 0) hown (cw4 cx) (rm49 cx a1 a4 p2 p3 ck5 O0 PF1 PV2 PF3 PE4) e0 PE4 (g := (mkF m 1 #[sR a1, sI 0, sI 2, sU, sU] [(vR a1)])) rfl hml rfl (rest := []) rfl rfl rfl rfl (hb hby d16_1) (by decide)
  obtain ⟨_, T2, L2, ⟨rfl, N2q, e2⟩, X2, st2⟩ := cS X1 hx hZ (W := 0) hown (cw12 cx) (rm35 cx 0 2 O0 (by decide : ¬ ((0 : Int32) < (0 : Int32))) (by decide : ¬ ((2 : Int32) < (0 : Int32)))) e1 (g := (mkF m 8 #[sR a1, sI 0, sI 2, sI 2, sU] [(vI 2), (vI 2), (vI 0)])) rfl hml rfl (rest := []) rfl rfl rfl rfl (hb hby d16_8) (by decide)
  refine own_end X2 hlk (v := some (vR a1)) (own_hv hret) (by decide) (by rw [e2]; exact ⟨rfl, (Fr.app (Fr.app N0 N1q) N2q), rfl⟩) fun fs hr => ?_
  show St p e below s₁ (mkF m 0 #[sR a1, sI 0, sI 2, sU, sU] []) _
  refine wal X0 hx hby rfl d16_0 rfl rfl ?_
  refine st1 _ ?_
  refine wis X1 hx hby rfl d16_4 rfl (l' := #[sR a1, sI 0, sI 2, sI 2, sU]) rfl ?_
  refine wil X1 hx hby rfl d16_5 rfl ?_
  refine wil X1 hx hby rfl d16_6 rfl ?_
  refine wil X1 hx hby rfl d16_7 rfl ?_
  refine st2 _ ?_
  refine wil X2 hx hby rfl d16_11 rfl ?_
  refine wfn X2 hx hby rfl d16_12 rfl ((if0 _ _).trans (teq (by decide : (0 : Int32) = (0 : Int32))).2) ?_
  refine wil X2 hx hby rfl d16_15 rfl ?_
  refine wil X2 hx hby rfl d16_16 rfl ?_
  refine wcn X2 hx hby rfl d16_17 rfl (teq (by decide : (2 : Int32) = (2 : Int32))).2 ?_
  refine wal X2 hx hby rfl d16_20 rfl rfl ?_
  exact retOut X2 hx hret rfl (Or.inr (Or.inr (Or.inr (Or.inr ⟨rfl, rfl, rfl⟩)))) (hb hby d16_21) hr
def Qrm72 (Z : State) (a1 : Addr) (h0 : Heap) (n0 : Nat) (v : Option Value) (h : Heap) (L : List Loc) : Prop := v = some (vR a1) ∧ Fr n0 L ∧ h = h0
theorem rm72 (cx : Cx Z a0 w0 w1) (a1 : Addr) (p2 : Int32) (p3 : Int32) (a4 : Addr) (ck5 : ClassId) (O0 : Old Z n0 h0) (PF1 : Fld Z h0 a1 z0 "value" "[B" (vR a4)) (PV2 : Arv Z h0 a4 ck5 .byte (2 : Int32) [(vI p2), (vI p3)] (vI 0)) (PF3 : Fld Z h0 a1 z0 "coder" "B" (vI 0)) (PE4 : Exa Z h0 a1 z0) : Ct l Z ⟨z0, "substring", z9⟩ jdk_42_method_91_code 2 (some (.object z0)) ⟨3, 0, 0, 45⟩ #[(vR a1), (vI 0)] h0 (Qrm72 Z a1 h0 n0) := by
  obtain ⟨hw, hj, hS⟩ := id cx
  refine own_bd (plainFor_of_name pn63) (fun m => ef194 m a1 0) fun p e s m below meth c s₁ hret hlk hZ hx hby hml hown hnm X0 e0 => ?_
  have N0 := Fr.nil n0
  obtain ⟨_, T1, L1, ⟨rfl, N1q, e1⟩, X1, st1⟩ := cV X0 hx hZ (W := 2) hown (cw4 cx) (rm49 cx a1 a4 p2 p3 ck5 O0 PF1 PV2 PF3 PE4) e0 PE4 (g := (mkF m 3 #[sR a1, sI 0] [(vR a1), (vI 0), (vR a1)])) rfl hml rfl (rest := [(vI 0), (vR a1)]) rfl rfl rfl rfl (hb hby d15_3) (by decide)
  obtain ⟨_, T2, L2, ⟨rfl, N2q, e2⟩, X2, st2⟩ := cV X1 hx hZ (W := 0) hown (cw13 cx) (rm71 cx a1 p2 p3 a4 ck5 O0 PF1 PV2 PF3 PE4) e1 PE4 (g := (mkF m 6 #[sR a1, sI 0] [(vI 2), (vI 0), (vR a1)])) rfl hml rfl (rest := []) rfl rfl rfl rfl (hb hby d15_6) (by decide)
  refine own_end X2 hlk (v := some (vR a1)) (own_hv hret) (by decide) (by rw [e2]; exact ⟨rfl, (Fr.app (Fr.app N0 N1q) N2q), rfl⟩) fun fs hr => ?_
  show St p e below s₁ (mkF m 0 #[sR a1, sI 0] []) _
  refine wal X0 hx hby rfl d15_0 rfl rfl ?_
  refine wil X0 hx hby rfl d15_1 rfl ?_
  refine wal X0 hx hby rfl d15_2 rfl rfl ?_
  refine st1 _ ?_
  refine st2 _ ?_
  exact retOut X2 hx hret rfl (Or.inr (Or.inr (Or.inr (Or.inr ⟨rfl, rfl, rfl⟩)))) (hb hby d15_9) hr
def Qrm73 (Z : State) (a1 : Addr) (h0 : Heap) (n0 : Nat) (v : Option Value) (h : Heap) (L : List Loc) : Prop := v = some (vR a1) ∧ Fr n0 L ∧ h = h0
theorem rm73 (cx : Cx Z a0 w0 w1) (a1 : Addr) (p2 : Int32) (p3 : Int32) (a4 : Addr) (ck5 : ClassId) (O0 : Old Z n0 h0) (PF1 : Fld Z h0 a1 z0 "value" "[B" (vR a4)) (PV2 : Arv Z h0 a4 ck5 .byte (2 : Int32) [(vI p2), (vI p3)] (vI 0)) (PF3 : Fld Z h0 a1 z0 "coder" "B" (vI 0)) (PE4 : Exa Z h0 a1 z0) (hc5 : ¬ (p3 = (58 : Int32))) (hc6 : ¬ (p2 = (58 : Int32))) : Ct l Z ⟨z3, "localPart", z5⟩ prog_13_method_17_code 1 (some (.object z0)) ⟨4, 0, 0, 58⟩ #[(vR a1)] h0 (Qrm73 Z a1 h0 n0) := by
  obtain ⟨hw, hj, hS⟩ := id cx
  refine own_bd (plainFor_of_name pn266) (fun m => ef104 m a1) fun p e s m below meth c s₁ hret hlk hZ hx hby hml hown hnm X0 e0 => ?_
  have N0 := Fr.nil n0
  obtain ⟨_, T1, L1, ⟨rfl, N1q, e1⟩, X1, st1⟩ := cV X0 hx hZ (W := 1) hown (cw10 cx) (rm70 cx a1 p2 p3 a4 ck5 O0 PF1 PV2 PF3 PE4 hc5 hc6) e0 PE4 (g := (mkF m 4 #[sR a1] [(vI 58), (vR a1), (vR a1)])) rfl hml rfl (rest := [(vR a1)]) rfl rfl rfl rfl (hb hby d6_4) (by decide)
  obtain ⟨_, T2, L2, ⟨rfl, N2q, e2⟩, X2, st2⟩ := cV X1 hx hZ (W := 0) hown (cw14 cx) (rm72 cx a1 p2 p3 a4 ck5 O0 PF1 PV2 PF3 PE4) e1 PE4 (g := (mkF m 9 #[sR a1] [(vI 0), (vR a1)])) rfl hml rfl (rest := []) rfl rfl rfl rfl (hb hby d6_9) (by decide)
  refine own_end X2 hlk (v := some (vR a1)) (own_hv hret) (by decide) (by rw [e2]; exact ⟨rfl, (Fr.app (Fr.app N0 N1q) N2q), rfl⟩) fun fs hr => ?_
  show St p e below s₁ (mkF m 0 #[sR a1] []) _
  refine wal X0 hx hby rfl d6_0 rfl rfl ?_
  refine wal X0 hx hby rfl d6_1 rfl rfl ?_
  refine wbp X0 hx hby rfl d6_2 ?_
  refine st1 _ ?_
  refine wic X1 hx hby rfl d6_7 ?_
  refine Own.iadd X1.here hx rfl (hb hby d6_8) rfl (by decide : ((-1 : Int32) + (1 : Int32)) = (0 : Int32)) ?_
  refine st2 _ ?_
  exact retOut X2 hx hret rfl (Or.inr (Or.inr (Or.inr (Or.inr ⟨rfl, rfl, rfl⟩)))) (hb hby d6_12) hr
def Qrm74 (Z : State) (p2 : Int32) (h0 : Heap) (n0 : Nat) (v : Option Value) (h : Heap) (L : List Loc) : Prop := v = some (vI (p2 &&& (255 : Int32))) ∧ Fr n0 L ∧ h = h0
theorem rm74 (cx : Cx Z a0 w0 w1) (a1 : Addr) (p2 : Int32) (p3 : Int32) (ck4 : ClassId) (O0 : Old Z n0 h0) (PV1 : Arv Z h0 a1 ck4 .byte (2 : Int32) [(vI p2), (vI p3)] (vI 0)) : Ct l Z ⟨z2, "charAt", "([BI)C"⟩ jdk_43_method_2_code 2 (some .char) ⟨2, 0, 0, 27⟩ #[(vR a1), (vI 0)] h0 (Qrm74 Z p2 h0 n0) := by
  obtain ⟨hw, hj, hS⟩ := id cx
  refine own_bd (plainFor_of_name pn154) (fun m => ef194 m a1 0) fun p e s m below meth c s₁ hret hlk hZ hx hby hml hown hnm X0 e0 => ?_
  have N0 := Fr.nil n0
  obtain ⟨_, T1, L1, ⟨rfl, N1q, e1⟩, X1, st1⟩ := cS X0 hx hZ (W := 0) hown (cw22 cx) (rm40 cx 0 2 O0 (by decide : ¬ ((0 : Int32) < (0 : Int32))) (by decide : (0 : Int32) < (2 : Int32))) e0 (g := (mkF m 3 #[sR a1, sI 0] [(vI 2), (vI 0)])) rfl hml rfl (rest := []) rfl rfl rfl rfl (hb hby d23_3) (by decide)
  have hu0 : ¬ ((p2 &&& (255 : Int32)) < (0 : Int32)) := (by have q0 := own_rng p2; have q1 := (by decide : ((255 : Int32)).toInt = 255); have q2 := (own_mask p2 (255 : Int32) (by decide) : 0 ≤ ((p2 &&& (255 : Int32))).toInt ∧ ((p2 &&& (255 : Int32))).toInt ≤ 255); have q3 := (by decide : ((0 : Int32)).toInt = 0); exact own_ltF (by omega))
  have hu1 : ¬ ((65535 : Int32) < (p2 &&& (255 : Int32))) := (by have q0 := (by decide : ((65535 : Int32)).toInt = 65535); have q1 := own_rng p2; have q2 := (by decide : ((255 : Int32)).toInt = 255); have q3 := (own_mask p2 (255 : Int32) (by decide) : 0 ≤ ((p2 &&& (255 : Int32))).toInt ∧ ((p2 &&& (255 : Int32))).toInt ≤ 255); exact own_ltF (by omega))
  refine own_end X1 hlk (v := some (vI (p2 &&& (255 : Int32)))) (own_hv hret) (by decide) (by rw [e1]; exact ⟨rfl, (Fr.app N0 N1q), rfl⟩) fun fs hr => ?_
  show St p e below s₁ (mkF m 0 #[sR a1, sI 0] []) _
  refine wil X0 hx hby rfl d23_0 rfl ?_
  refine wal X0 hx hby rfl d23_1 rfl rfl ?_
  refine own_alen X0 hx hZ e0 PV1 (g := (mkF m 2 #[sR a1, sI 0] [(vR a1), (vI 0)])) rfl rfl (hb hby d23_2) ?_
  refine st1 _ ?_
  refine wal X1 hx hby rfl d23_6 rfl rfl ?_
  refine wil X1 hx hby rfl d23_7 rfl ?_
  refine own_baloadB X1 hx hZ e1 PV1 (j := 0) (by decide) (v := (vI p2)) rfl (g := (mkF m 8 #[sR a1, sI 0] [(vI 0), (vR a1)])) rfl rfl (hb hby d23_8) ?_
  refine wsp X1 hx hby rfl d23_9 ?_
  refine XS.iand X1.here hx rfl (hb hby d23_12) rfl ?_
  refine Own.i2c X1.here hx rfl (hb hby d23_13) rfl (own_i2c hu0 hu1) ?_
  exact own_retN X1 hx (t := .char) hret (by simp) (hb hby d23_14) (own_narC hu0 hu1) hr
def Qrm75 (Z : State) (p3 : Int32) (h0 : Heap) (n0 : Nat) (v : Option Value) (h : Heap) (L : List Loc) : Prop := v = some (vI (p3 &&& (255 : Int32))) ∧ Fr n0 L ∧ h = h0
theorem rm75 (cx : Cx Z a0 w0 w1) (a1 : Addr) (a2 : Addr) (p3 : Int32) (p4 : Int32) (ck5 : ClassId) (O0 : Old Z n0 h0) (PF1 : Fld Z h0 a1 z0 "coder" "B" (vI 0)) (PE2 : Exa Z h0 a1 z0) (PF3 : Fld Z h0 a1 z0 "value" "[B" (vR a2)) (PV4 : Arv Z h0 a2 ck5 .byte (2 : Int32) [(vI p3), (vI p4)] (vI 0)) : Ct l Z ⟨z0, "charAt", "(I)C"⟩ jdk_42_method_56_code 2 (some .char) ⟨3, 0, 0, 40⟩ #[(vR a1), (vI 0)] h0 (Qrm75 Z p3 h0 n0) := by
  obtain ⟨hw, hj, hS⟩ := id cx
  refine own_bd (plainFor_of_name pn63) (fun m => ef194 m a1 0) fun p e s m below meth c s₁ hret hlk hZ hx hby hml hown hnm X0 e0 => ?_
  have N0 := Fr.nil n0
  obtain ⟨_, T1, L1, ⟨rfl, N1q, e1⟩, X1, st1⟩ := cV X0 hx hZ (W := 0) hown (cw5 cx) (rm6 cx a1 O0 PF1) e0 PE2 (g := (mkF m 1 #[sR a1, sI 0] [(vR a1)])) rfl hml rfl (rest := []) rfl rfl rfl rfl (hb hby d22_1) (by decide)
  obtain ⟨T2, X2, e2, st2⟩ := getF X1 hx hZ hown (host := "") (Or.inl (hw _ m28)) Via.refl e1 PF3 (g := (mkF m 8 #[sR a1, sI 0] [(vR a1)])) rfl rfl (hb hby d22_8)
  obtain ⟨_, T3, L3, ⟨rfl, N3q, e3⟩, X3, st3⟩ := cS X2 hx hZ (W := 0) hown (cw23 cx) (rm74 cx a2 p3 p4 ck5 O0 PV4) e2 (g := (mkF m 12 #[sR a1, sI 0] [(vI 0), (vR a2)])) rfl hml rfl (rest := []) rfl rfl rfl rfl (hb hby d22_12) (by decide)
  have hu0 : ¬ ((p3 &&& (255 : Int32)) < (0 : Int32)) := (by have q0 := own_rng p3; have q1 := (by decide : ((255 : Int32)).toInt = 255); have q2 := (own_mask p3 (255 : Int32) (by decide) : 0 ≤ ((p3 &&& (255 : Int32))).toInt ∧ ((p3 &&& (255 : Int32))).toInt ≤ 255); have q3 := (by decide : ((0 : Int32)).toInt = 0); exact own_ltF (by omega))
  have hu1 : ¬ ((65535 : Int32) < (p3 &&& (255 : Int32))) := (by have q0 := (by decide : ((65535 : Int32)).toInt = 65535); have q1 := own_rng p3; have q2 := (by decide : ((255 : Int32)).toInt = 255); have q3 := (own_mask p3 (255 : Int32) (by decide) : 0 ≤ ((p3 &&& (255 : Int32))).toInt ∧ ((p3 &&& (255 : Int32))).toInt ≤ 255); exact own_ltF (by omega))
  refine own_end X3 hlk (v := some (vI (p3 &&& (255 : Int32)))) (own_hv hret) (by decide) (by rw [e3]; exact ⟨rfl, (Fr.app (Fr.app N0 N1q) N3q), rfl⟩) fun fs hr => ?_
  show St p e below s₁ (mkF m 0 #[sR a1, sI 0] []) _
  refine wal X0 hx hby rfl d22_0 rfl rfl ?_
  refine st1 _ ?_
  refine wfn X1 hx hby rfl d22_4 rfl ((if0 _ _).trans (feq (by decide : ¬ ((1 : Int32) = (0 : Int32)))).1) ?_
  refine wal X1 hx hby rfl d22_7 rfl rfl ?_
  refine st2 _ ?_
  refine wil X2 hx hby rfl d22_11 rfl ?_
  refine st3 _ ?_
  exact own_retN X3 hx (t := .char) hret (by simp) (hb hby d22_15) (own_narC hu0 hu1) hr
def Qrm76 (Z : State) (p3 : Int32) (h0 : Heap) (n0 : Nat) (v : Option Value) (h : Heap) (L : List Loc) : Prop := v = some (vI (p3 &&& (255 : Int32))) ∧ Fr n0 L ∧ h = h0
theorem rm76 (cx : Cx Z a0 w0 w1) (a1 : Addr) (p2 : Int32) (p3 : Int32) (ck4 : ClassId) (O0 : Old Z n0 h0) (PV1 : Arv Z h0 a1 ck4 .byte (2 : Int32) [(vI p2), (vI p3)] (vI 0)) : Ct l Z ⟨z2, "charAt", "([BI)C"⟩ jdk_43_method_2_code 2 (some .char) ⟨2, 0, 0, 27⟩ #[(vR a1), (vI 1)] h0 (Qrm76 Z p3 h0 n0) := by
  obtain ⟨hw, hj, hS⟩ := id cx
  refine own_bd (plainFor_of_name pn154) (fun m => ef194 m a1 1) fun p e s m below meth c s₁ hret hlk hZ hx hby hml hown hnm X0 e0 => ?_
  have N0 := Fr.nil n0
  obtain ⟨_, T1, L1, ⟨rfl, N1q, e1⟩, X1, st1⟩ := cS X0 hx hZ (W := 0) hown (cw22 cx) (rm40 cx 1 2 O0 (by decide : ¬ ((1 : Int32) < (0 : Int32))) (by decide : (1 : Int32) < (2 : Int32))) e0 (g := (mkF m 3 #[sR a1, sI 1] [(vI 2), (vI 1)])) rfl hml rfl (rest := []) rfl rfl rfl rfl (hb hby d23_3) (by decide)
  have hu0 : ¬ ((p3 &&& (255 : Int32)) < (0 : Int32)) := (by have q0 := own_rng p3; have q1 := (by decide : ((255 : Int32)).toInt = 255); have q2 := (own_mask p3 (255 : Int32) (by decide) : 0 ≤ ((p3 &&& (255 : Int32))).toInt ∧ ((p3 &&& (255 : Int32))).toInt ≤ 255); have q3 := (by decide : ((0 : Int32)).toInt = 0); exact own_ltF (by omega))
  have hu1 : ¬ ((65535 : Int32) < (p3 &&& (255 : Int32))) := (by have q0 := (by decide : ((65535 : Int32)).toInt = 65535); have q1 := own_rng p3; have q2 := (by decide : ((255 : Int32)).toInt = 255); have q3 := (own_mask p3 (255 : Int32) (by decide) : 0 ≤ ((p3 &&& (255 : Int32))).toInt ∧ ((p3 &&& (255 : Int32))).toInt ≤ 255); exact own_ltF (by omega))
  refine own_end X1 hlk (v := some (vI (p3 &&& (255 : Int32)))) (own_hv hret) (by decide) (by rw [e1]; exact ⟨rfl, (Fr.app N0 N1q), rfl⟩) fun fs hr => ?_
  show St p e below s₁ (mkF m 0 #[sR a1, sI 1] []) _
  refine wil X0 hx hby rfl d23_0 rfl ?_
  refine wal X0 hx hby rfl d23_1 rfl rfl ?_
  refine own_alen X0 hx hZ e0 PV1 (g := (mkF m 2 #[sR a1, sI 1] [(vR a1), (vI 1)])) rfl rfl (hb hby d23_2) ?_
  refine st1 _ ?_
  refine wal X1 hx hby rfl d23_6 rfl rfl ?_
  refine wil X1 hx hby rfl d23_7 rfl ?_
  refine own_baloadB X1 hx hZ e1 PV1 (j := 1) (by decide) (v := (vI p3)) rfl (g := (mkF m 8 #[sR a1, sI 1] [(vI 1), (vR a1)])) rfl rfl (hb hby d23_8) ?_
  refine wsp X1 hx hby rfl d23_9 ?_
  refine XS.iand X1.here hx rfl (hb hby d23_12) rfl ?_
  refine Own.i2c X1.here hx rfl (hb hby d23_13) rfl (own_i2c hu0 hu1) ?_
  exact own_retN X1 hx (t := .char) hret (by simp) (hb hby d23_14) (own_narC hu0 hu1) hr
def Qrm77 (Z : State) (p4 : Int32) (h0 : Heap) (n0 : Nat) (v : Option Value) (h : Heap) (L : List Loc) : Prop := v = some (vI (p4 &&& (255 : Int32))) ∧ Fr n0 L ∧ h = h0
theorem rm77 (cx : Cx Z a0 w0 w1) (a1 : Addr) (a2 : Addr) (p3 : Int32) (p4 : Int32) (ck5 : ClassId) (O0 : Old Z n0 h0) (PF1 : Fld Z h0 a1 z0 "coder" "B" (vI 0)) (PE2 : Exa Z h0 a1 z0) (PF3 : Fld Z h0 a1 z0 "value" "[B" (vR a2)) (PV4 : Arv Z h0 a2 ck5 .byte (2 : Int32) [(vI p3), (vI p4)] (vI 0)) : Ct l Z ⟨z0, "charAt", "(I)C"⟩ jdk_42_method_56_code 2 (some .char) ⟨3, 0, 0, 40⟩ #[(vR a1), (vI 1)] h0 (Qrm77 Z p4 h0 n0) := by
  obtain ⟨hw, hj, hS⟩ := id cx
  refine own_bd (plainFor_of_name pn63) (fun m => ef194 m a1 1) fun p e s m below meth c s₁ hret hlk hZ hx hby hml hown hnm X0 e0 => ?_
  have N0 := Fr.nil n0
  obtain ⟨_, T1, L1, ⟨rfl, N1q, e1⟩, X1, st1⟩ := cV X0 hx hZ (W := 0) hown (cw5 cx) (rm6 cx a1 O0 PF1) e0 PE2 (g := (mkF m 1 #[sR a1, sI 1] [(vR a1)])) rfl hml rfl (rest := []) rfl rfl rfl rfl (hb hby d22_1) (by decide)
  obtain ⟨T2, X2, e2, st2⟩ := getF X1 hx hZ hown (host := "") (Or.inl (hw _ m28)) Via.refl e1 PF3 (g := (mkF m 8 #[sR a1, sI 1] [(vR a1)])) rfl rfl (hb hby d22_8)
  obtain ⟨_, T3, L3, ⟨rfl, N3q, e3⟩, X3, st3⟩ := cS X2 hx hZ (W := 0) hown (cw23 cx) (rm76 cx a2 p3 p4 ck5 O0 PV4) e2 (g := (mkF m 12 #[sR a1, sI 1] [(vI 1), (vR a2)])) rfl hml rfl (rest := []) rfl rfl rfl rfl (hb hby d22_12) (by decide)
  have hu0 : ¬ ((p4 &&& (255 : Int32)) < (0 : Int32)) := (by have q0 := own_rng p4; have q1 := (by decide : ((255 : Int32)).toInt = 255); have q2 := (own_mask p4 (255 : Int32) (by decide) : 0 ≤ ((p4 &&& (255 : Int32))).toInt ∧ ((p4 &&& (255 : Int32))).toInt ≤ 255); have q3 := (by decide : ((0 : Int32)).toInt = 0); exact own_ltF (by omega))
  have hu1 : ¬ ((65535 : Int32) < (p4 &&& (255 : Int32))) := (by have q0 := (by decide : ((65535 : Int32)).toInt = 65535); have q1 := own_rng p4; have q2 := (by decide : ((255 : Int32)).toInt = 255); have q3 := (own_mask p4 (255 : Int32) (by decide) : 0 ≤ ((p4 &&& (255 : Int32))).toInt ∧ ((p4 &&& (255 : Int32))).toInt ≤ 255); exact own_ltF (by omega))
  refine own_end X3 hlk (v := some (vI (p4 &&& (255 : Int32)))) (own_hv hret) (by decide) (by rw [e3]; exact ⟨rfl, (Fr.app (Fr.app N0 N1q) N3q), rfl⟩) fun fs hr => ?_
  show St p e below s₁ (mkF m 0 #[sR a1, sI 1] []) _
  refine wal X0 hx hby rfl d22_0 rfl rfl ?_
  refine st1 _ ?_
  refine wfn X1 hx hby rfl d22_4 rfl ((if0 _ _).trans (feq (by decide : ¬ ((1 : Int32) = (0 : Int32)))).1) ?_
  refine wal X1 hx hby rfl d22_7 rfl rfl ?_
  refine st2 _ ?_
  refine wil X2 hx hby rfl d22_11 rfl ?_
  refine st3 _ ?_
  exact own_retN X3 hx (t := .char) hret (by simp) (hb hby d22_15) (own_narC hu0 hu1) hr
def Qrm78 (Z : State) (a1 : Addr) (ck2 : ClassId) (p4 : Int32) (p5 : Int32) (p6 : Int32) (h0 : Heap) (n0 : Nat) (v : Option Value) (h : Heap) (L : List Loc) : Prop := v = some (vI 3) ∧ Fr n0 L ∧ Keep h0 h [a1] ∧ Arv Z h a1 ck2 .byte (3 : Int32) [(vI (p4.toInt8.toInt32)), (vI (p5.toInt8.toInt32)), (vI (p6.toInt8.toInt32))] (vI 0)
theorem rm78 (cx : Cx Z a0 w0 w1) (a1 : Addr) (ck2 : ClassId) (a3 : Addr) (p4 : Int32) (p5 : Int32) (p6 : Int32) (ck7 : ClassId) (O0 : Old Z n0 h0) (PV1 : Arv Z h0 a1 ck2 .byte (3 : Int32) [(vI 0), (vI 0), (vI 0)] (vI 0)) (PV2 : Arv Z h0 a3 ck7 .char (3 : Int32) [(vI p4), (vI p5), (vI p6)] (vI 0)) (hc3 : ¬ ((255 : Int32) < p4)) (gn4 : n0 ≤ a1) (pne5 : a3 ≠ a1) (hc6 : ¬ ((255 : Int32) < p5)) (hc7 : ¬ ((255 : Int32) < p6)) : Ct l Z ⟨z6, "compress", "([CI[BII)I"⟩ jdk_52_method_21_code 7 (some .int) ⟨0, 0, 0, 0⟩ #[(vR a3), (vI 0), (vR a1), (vI 0), (vI 3)] h0 (Qrm78 Z a1 ck2 p4 p5 p6 h0 n0) := by
  obtain ⟨hw, hj, hS⟩ := id cx
  refine own_bd (plainFor_of_name pn328) (fun m => ef327 m a3 0 a1 0 3) fun p e s m below meth c s₁ hret hlk hZ hx hby hml hown hnm X0 e0 => ?_
  have N0 := Fr.nil n0
  have hu0 : ¬ ((p4.toInt8.toInt32) < (-128 : Int32)) := (by have q0 := own_rng p4; have q1 := c_i2b p4; have q2 := (by decide : ((-128 : Int32)).toInt = -128); exact own_ltF (by omega))
  have hu1 : ¬ ((127 : Int32) < (p4.toInt8.toInt32)) := (by have q0 := (by decide : ((127 : Int32)).toInt = 127); have q1 := own_rng p4; have q2 := c_i2b p4; exact own_ltF (by omega))
  obtain ⟨T1, h1, L'1, X1, e1, W1, V1, O1, K1, N1, st1⟩ := own_stB X0 hx hZ e0 PV1 O0 (Keep.refl h0 [a1]) N0 gn4 (Or.inl (List.mem_of_getElem? (i := 0) rfl)) (j := (0 : Int32)) 0 (by decide) (Nat.le_of_ble_eq_true rfl) (v := (vI (p4.toInt8.toInt32))) (congrArg Value.int (own_narB hu0 hu1)) (vs' := [(vI (p4.toInt8.toInt32)), (vI 0), (vI 0)]) rfl (g := (mkF m 31 #[sR a3, sI 0, sR a1, sI 0, sI 3, sI 0, sI p4] [(vI (p4.toInt8.toInt32)), (vI 0), (vR a1)])) rfl rfl (hb hby d20_31)
  have f2 : Arv Z h1 a3 ck7 .char (3 : Int32) [(vI p4), (vI p5), (vI p6)] (vI 0) := (PV2.other W1 pne5)
  have hu2 : ¬ ((p5.toInt8.toInt32) < (-128 : Int32)) := (by have q0 := own_rng p5; have q1 := c_i2b p5; have q2 := (by decide : ((-128 : Int32)).toInt = -128); exact own_ltF (by omega))
  have hu3 : ¬ ((127 : Int32) < (p5.toInt8.toInt32)) := (by have q0 := (by decide : ((127 : Int32)).toInt = 127); have q1 := own_rng p5; have q2 := c_i2b p5; exact own_ltF (by omega))
  obtain ⟨T3, h3, L'3, X3, e3, W3, V3, O3, K3, N3, st3⟩ := own_stB X1 hx hZ e1 V1 O1 K1 N1 gn4 (Or.inl (List.mem_of_getElem? (i := 0) rfl)) (j := (1 : Int32)) 1 (by decide) (Nat.le_of_ble_eq_true rfl) (v := (vI (p5.toInt8.toInt32))) (congrArg Value.int (own_narB hu2 hu3)) (vs' := [(vI (p4.toInt8.toInt32)), (vI (p5.toInt8.toInt32)), (vI 0)]) rfl (g := (mkF m 31 #[sR a3, sI 1, sR a1, sI 1, sI 3, sI 1, sI p5] [(vI (p5.toInt8.toInt32)), (vI 1), (vR a1)])) rfl rfl (hb hby d20_31)
  have f4 : Arv Z h3 a3 ck7 .char (3 : Int32) [(vI p4), (vI p5), (vI p6)] (vI 0) := (f2.other W3 pne5)
  have hu4 : ¬ ((p6.toInt8.toInt32) < (-128 : Int32)) := (by have q0 := own_rng p6; have q1 := c_i2b p6; have q2 := (by decide : ((-128 : Int32)).toInt = -128); exact own_ltF (by omega))
  have hu5 : ¬ ((127 : Int32) < (p6.toInt8.toInt32)) := (by have q0 := (by decide : ((127 : Int32)).toInt = 127); have q1 := own_rng p6; have q2 := c_i2b p6; exact own_ltF (by omega))
  obtain ⟨T5, h5, L'5, X5, e5, W5, V5, O5, K5, N5, st5⟩ := own_stB X3 hx hZ e3 V3 O3 K3 N3 gn4 (Or.inl (List.mem_of_getElem? (i := 0) rfl)) (j := (2 : Int32)) 2 (by decide) (Nat.le_of_ble_eq_true rfl) (v := (vI (p6.toInt8.toInt32))) (congrArg Value.int (own_narB hu4 hu5)) (vs' := [(vI (p4.toInt8.toInt32)), (vI (p5.toInt8.toInt32)), (vI (p6.toInt8.toInt32))]) rfl (g := (mkF m 31 #[sR a3, sI 2, sR a1, sI 2, sI 3, sI 2, sI p6] [(vI (p6.toInt8.toInt32)), (vI 2), (vR a1)])) rfl rfl (hb hby d20_31)
  refine own_end X5 hlk (v := some (vI 3)) (own_hv hret) (by decide) (by rw [e5]; exact ⟨rfl, N5, K5, V5⟩) fun fs hr => ?_
  show St p e below s₁ (mkF m 0 #[sR a3, sI 0, sR a1, sI 0, sI 3, sU, sU] []) _
  refine wic X0 hx hby rfl d20_0 ?_
  refine wiS X0 hx hby rfl d20_1 rfl (l' := #[sR a3, sI 0, sR a1, sI 0, sI 3, sI 0, sU]) rfl ?_
  refine wiL X0 hx hby rfl d20_3 rfl ?_
  refine wiL X0 hx hby rfl d20_5 rfl ?_
  refine wcn X0 hx hby rfl d20_7 rfl (tlt (by decide : (0 : Int32) < (3 : Int32))).2.1 ?_
  refine wal X0 hx hby rfl d20_10 rfl rfl ?_
  refine wil X0 hx hby rfl d20_11 rfl ?_
  refine own_caload X0 hx hZ e0 PV2 (j := 0) (by decide) (v := (vI p4)) rfl (g := (mkF m 12 #[sR a3, sI 0, sR a1, sI 0, sI 3, sI 0, sU] [(vI 0), (vR a3)])) rfl rfl (hb hby d20_12) ?_
  refine wiS X0 hx hby rfl d20_13 rfl (l' := #[sR a3, sI 0, sR a1, sI 0, sI 3, sI 0, sI p4]) rfl ?_
  refine wiL X0 hx hby rfl d20_15 rfl ?_
  refine wsp X0 hx hby rfl d20_17 ?_
  refine wcy X0 hx hby rfl (pc0 := 20) (pc' := 26) rfl d20_20 rfl (flt hc3).2.2.2 (by decide) (by decide) ?_
  refine wal X0 hx hby rfl d20_26 rfl rfl ?_
  refine wil X0 hx hby rfl d20_27 rfl ?_
  refine wiL X0 hx hby rfl d20_28 rfl ?_
  refine XS.i2b X0.here hx rfl (hb hby d20_30) rfl ?_
  show St p e below s₁ (mkF m 31 #[sR a3, sI 0, sR a1, sI 0, sI 3, sI 0, sI p4] [(vI (p4.toInt8.toInt32)), (vI 0), (vR a1)]) _
  refine st1 _ ?_
  refine Own.iinc X1.here hx rfl (hb hby d20_32) rfl (by decide : ((0 : Int32) + (1 : Int32)) = (1 : Int32)) (l' := #[sR a3, sI 1, sR a1, sI 0, sI 3, sI 0, sI p4]) rfl ?_
  refine Own.iinc X1.here hx rfl (hb hby d20_35) rfl (by decide : ((0 : Int32) + (1 : Int32)) = (1 : Int32)) (l' := #[sR a3, sI 1, sR a1, sI 1, sI 3, sI 0, sI p4]) rfl ?_
  refine Own.iinc X1.here hx rfl (hb hby d20_38) rfl (by decide : ((0 : Int32) + (1 : Int32)) = (1 : Int32)) (l' := #[sR a3, sI 1, sR a1, sI 1, sI 3, sI 1, sI p4]) rfl ?_
  refine wgt X1 hx hby rfl (pc0 := 41) (pc' := 3) rfl d20_41 (by decide) (by decide) ?_
  refine wiL X1 hx hby rfl d20_3 rfl ?_
  refine wiL X1 hx hby rfl d20_5 rfl ?_
  refine wcn X1 hx hby rfl d20_7 rfl (tlt (by decide : (1 : Int32) < (3 : Int32))).2.1 ?_
  refine wal X1 hx hby rfl d20_10 rfl rfl ?_
  refine wil X1 hx hby rfl d20_11 rfl ?_
  refine own_caload X1 hx hZ e1 f2 (j := 1) (by decide) (v := (vI p5)) rfl (g := (mkF m 12 #[sR a3, sI 1, sR a1, sI 1, sI 3, sI 1, sI p4] [(vI 1), (vR a3)])) rfl rfl (hb hby d20_12) ?_
  refine wiS X1 hx hby rfl d20_13 rfl (l' := #[sR a3, sI 1, sR a1, sI 1, sI 3, sI 1, sI p5]) rfl ?_
  refine wiL X1 hx hby rfl d20_15 rfl ?_
  refine wsp X1 hx hby rfl d20_17 ?_
  refine wcy X1 hx hby rfl (pc0 := 20) (pc' := 26) rfl d20_20 rfl (flt hc6).2.2.2 (by decide) (by decide) ?_
  refine wal X1 hx hby rfl d20_26 rfl rfl ?_
  show St p e below T1 (mkF m 27 #[sR a3, sI 1, sR a1, sI 1, sI 3, sI 1, sI p5] [(vR a1)]) _
  refine wil X1 hx hby rfl d20_27 rfl ?_
  refine wiL X1 hx hby rfl d20_28 rfl ?_
  refine XS.i2b X1.here hx rfl (hb hby d20_30) rfl ?_
  refine st3 _ ?_
  refine Own.iinc X3.here hx rfl (hb hby d20_32) rfl (by decide : ((1 : Int32) + (1 : Int32)) = (2 : Int32)) (l' := #[sR a3, sI 2, sR a1, sI 1, sI 3, sI 1, sI p5]) rfl ?_
  refine Own.iinc X3.here hx rfl (hb hby d20_35) rfl (by decide : ((1 : Int32) + (1 : Int32)) = (2 : Int32)) (l' := #[sR a3, sI 2, sR a1, sI 2, sI 3, sI 1, sI p5]) rfl ?_
  refine Own.iinc X3.here hx rfl (hb hby d20_38) rfl (by decide : ((1 : Int32) + (1 : Int32)) = (2 : Int32)) (l' := #[sR a3, sI 2, sR a1, sI 2, sI 3, sI 2, sI p5]) rfl ?_
  refine wgt X3 hx hby rfl (pc0 := 41) (pc' := 3) rfl d20_41 (by decide) (by decide) ?_
  refine wiL X3 hx hby rfl d20_3 rfl ?_
  refine wiL X3 hx hby rfl d20_5 rfl ?_
  refine wcn X3 hx hby rfl d20_7 rfl (tlt (by decide : (2 : Int32) < (3 : Int32))).2.1 ?_
  refine wal X3 hx hby rfl d20_10 rfl rfl ?_
  refine wil X3 hx hby rfl d20_11 rfl ?_
  refine own_caload X3 hx hZ e3 f4 (j := 2) (by decide) (v := (vI p6)) rfl (g := (mkF m 12 #[sR a3, sI 2, sR a1, sI 2, sI 3, sI 2, sI p5] [(vI 2), (vR a3)])) rfl rfl (hb hby d20_12) ?_
  refine wiS X3 hx hby rfl d20_13 rfl (l' := #[sR a3, sI 2, sR a1, sI 2, sI 3, sI 2, sI p6]) rfl ?_
  refine wiL X3 hx hby rfl d20_15 rfl ?_
  show St p e below T3 (mkF m 17 #[sR a3, sI 2, sR a1, sI 2, sI 3, sI 2, sI p6] [(vI p6)]) _
  refine wsp X3 hx hby rfl d20_17 ?_
  refine wcy X3 hx hby rfl (pc0 := 20) (pc' := 26) rfl d20_20 rfl (flt hc7).2.2.2 (by decide) (by decide) ?_
  refine wal X3 hx hby rfl d20_26 rfl rfl ?_
  refine wil X3 hx hby rfl d20_27 rfl ?_
  refine wiL X3 hx hby rfl d20_28 rfl ?_
  refine XS.i2b X3.here hx rfl (hb hby d20_30) rfl ?_
  refine st5 _ ?_
  refine Own.iinc X5.here hx rfl (hb hby d20_32) rfl (by decide : ((2 : Int32) + (1 : Int32)) = (3 : Int32)) (l' := #[sR a3, sI 3, sR a1, sI 2, sI 3, sI 2, sI p6]) rfl ?_
  refine Own.iinc X5.here hx rfl (hb hby d20_35) rfl (by decide : ((2 : Int32) + (1 : Int32)) = (3 : Int32)) (l' := #[sR a3, sI 3, sR a1, sI 3, sI 3, sI 2, sI p6]) rfl ?_
  refine Own.iinc X5.here hx rfl (hb hby d20_38) rfl (by decide : ((2 : Int32) + (1 : Int32)) = (3 : Int32)) (l' := #[sR a3, sI 3, sR a1, sI 3, sI 3, sI 3, sI p6]) rfl ?_
  refine wgt X5 hx hby rfl (pc0 := 41) (pc' := 3) rfl d20_41 (by decide) (by decide) ?_
  refine wiL X5 hx hby rfl d20_3 rfl ?_
  refine wiL X5 hx hby rfl d20_5 rfl ?_
  refine wcy X5 hx hby rfl (pc0 := 7) (pc' := 44) rfl d20_7 rfl (flt (by decide : ¬ ((3 : Int32) < (3 : Int32)))).2.1 (by decide) (by decide) ?_
  refine wiL X5 hx hby rfl d20_44 rfl ?_
  exact retOut X5 hx hret rfl (Or.inl ⟨rfl, Or.inl rfl, _, rfl⟩) (hb hby d20_46) hr
def Qrm79 (Z : State) (p2 : Int32) (p3 : Int32) (p4 : Int32) (h0 : Heap) (n0 : Nat) (v : Option Value) (h : Heap) (L : List Loc) : Prop := ∃ x0 : Addr, ∃ xk0 : ClassId, v = some (vR x0) ∧ Fr n0 L ∧ Keep h0 h [] ∧ h0.size ≤ x0 ∧ Arv Z h x0 xk0 .byte (3 : Int32) [(vI (p2.toInt8.toInt32)), (vI (p3.toInt8.toInt32)), (vI (p4.toInt8.toInt32))] (vI 0)
theorem rm79 (cx : Cx Z a0 w0 w1) (a1 : Addr) (p2 : Int32) (p3 : Int32) (p4 : Int32) (ck5 : ClassId) (O0 : Old Z n0 h0) (PV1 : Arv Z h0 a1 ck5 .char (3 : Int32) [(vI p2), (vI p3), (vI p4)] (vI 0)) (hc2 : ¬ ((255 : Int32) < p2)) (hc3 : ¬ ((255 : Int32) < p3)) (hc4 : ¬ ((255 : Int32) < p4)) : Ct l Z ⟨z6, "compress", "([CII)[B"⟩ jdk_52_method_16_code 6 (some (.array .byte)) ⟨1, 1, 3, 18⟩ #[(vR a1), (vI 0), (vI 3)] h0 (Qrm79 Z p2 p3 p4 h0 n0) := by
  obtain ⟨hw, hj, hS⟩ := id cx
  refine own_bd (plainFor_of_name pn328) (fun m => ef339 m a1 0 3) fun p e s m below meth c s₁ hret hlk hZ hx hby hml hown hnm X0 e0 => ?_
  have N0 := Fr.nil n0
  obtain ⟨T1, h1, k1, b1, X1, e1, E1, V1, g1, O1, K1, st1⟩ := own_newP X0 hx hZ (aty := .byte) (ty := .byte) (dv := (.int (0 : Int32))) (vs := [(.int (0 : Int32)), (.int (0 : Int32)), (.int (0 : Int32))]) (cap := 3) rfl rfl rfl (hw _ m23) e0 O0 (Keep.refl h0 []) (g := (mkF m 1 #[sR a1, sI 0, sI 3, sU, sU, sU] [(vI 3)])) rfl (hb hby d19_1) rfl (by decide) (by decide) (by decide) (by decide) (by decide)
  have f3 : Arv Z h1 a1 ck5 .char (3 : Int32) [(vI p2), (vI p3), (vI p4)] (vI 0) := (PV1.ext E1)
  obtain ⟨_, T2, L2, ⟨rfl, N2q, Kq2, q2_0⟩, X2, st2⟩ := cS X1 hx hZ (W := 0) hown (cw17 cx) (rm78 cx b1 k1 a1 p2 p3 p4 ck5 O1 V1 f3 hc2 (Nat.le_trans (own_old_le O0) g1) (Nat.ne_of_lt (Nat.lt_of_lt_of_le PV1.lt g1)) hc3 hc4) e1 (g := (mkF m 9 #[sR a1, sI 0, sI 3, sR b1, sU, sU] [(vI 3), (vI 0), (vR b1), (vI 0), (vR a1)])) rfl hml rfl (rest := []) rfl rfl rfl rfl (hb hby d19_9) (by decide)
  have N2 := Fr.app N0 N2q
  have O2 : Old Z n0 T2.heap := O1.keep Kq2 (allS (Nat.le_trans (own_old_le O0) g1) all0)
  have K2 : Keep h0 T2.heap [] := K1.trans Kq2 (allS (Or.inr (Nat.le_trans (Keep.refl h0 []).1 g1)) all0)
  refine own_end X2 hlk (v := some (vR b1)) (own_hv hret) (by decide) ⟨b1, k1, rfl, N2, K2, (Nat.le_trans (Keep.refl h0 []).1 g1), q2_0⟩ fun fs hr => ?_
  show St p e below s₁ (mkF m 0 #[sR a1, sI 0, sI 3, sU, sU, sU] []) _
  refine wil X0 hx hby rfl d19_0 rfl ?_
  refine st1 _ ?_
  refine was X1 hx hby rfl d19_3 rfl rfl (l' := #[sR a1, sI 0, sI 3, sR b1, sU, sU]) rfl ?_
  refine wal X1 hx hby rfl d19_4 rfl rfl ?_
  refine wil X1 hx hby rfl d19_5 rfl ?_
  refine wal X1 hx hby rfl d19_6 rfl rfl ?_
  refine wic X1 hx hby rfl d19_7 ?_
  refine wil X1 hx hby rfl d19_8 rfl ?_
  refine st2 _ ?_
  refine wiS X2 hx hby rfl d19_12 rfl (l' := #[sR a1, sI 0, sI 3, sR b1, sI 3, sU]) rfl ?_
  refine wiL X2 hx hby rfl d19_14 rfl ?_
  refine wil X2 hx hby rfl d19_16 rfl ?_
  refine wcy X2 hx hby rfl (pc0 := 17) (pc' := 57) rfl d19_17 rfl (teq (by decide : (3 : Int32) = (3 : Int32))).1 (by decide) (by decide) ?_
  refine wal X2 hx hby rfl d19_57 rfl rfl ?_
  exact retOut X2 hx hret rfl (Or.inr (Or.inr (Or.inr (Or.inr ⟨rfl, rfl, rfl⟩)))) (hb hby d19_58) hr
def Qrm80 (Z : State) (h0 : Heap) (n0 : Nat) (v : Option Value) (h : Heap) (L : List Loc) : Prop := v = some (vI 0) ∧ Fr n0 L ∧ h = h0
theorem rm80 (cx : Cx Z a0 w0 w1) (a1 : Addr) (p2 : Int32) (p3 : Int32) (p4 : Int32) (ck5 : ClassId) (O0 : Old Z n0 h0) (PV1 : Arv Z h0 a1 ck5 .byte (3 : Int32) [(vI p2), (vI p3), (vI p4)] (vI 0)) : Ct l Z ⟨z6, "coderFromArrayLen", "([BI)B"⟩ jdk_52_method_15_code 2 (some .byte) ⟨0, 0, 0, 0⟩ #[(vR a1), (vI 3)] h0 (Qrm80 Z h0 n0) := by
  obtain ⟨hw, hj, hS⟩ := id cx
  refine own_bd (plainFor_of_name pn328) (fun m => ef194 m a1 3) fun p e s m below meth c s₁ hret hlk hZ hx hby hml hown hnm X0 e0 => ?_
  have N0 := Fr.nil n0
  refine own_end X0 hlk (v := some (vI 0)) (own_hv hret) (by decide) (by rw [e0]; exact ⟨rfl, N0, rfl⟩) fun fs hr => ?_
  show St p e below s₁ (mkF m 0 #[sR a1, sI 3] []) _
  refine wil X0 hx hby rfl d21_0 rfl ?_
  refine wal X0 hx hby rfl d21_1 rfl rfl ?_
  refine own_alen X0 hx hZ e0 PV1 (g := (mkF m 2 #[sR a1, sI 3] [(vR a1), (vI 3)])) rfl rfl (hb hby d21_2) ?_
  refine Own.isub X0.here hx rfl (hb hby d21_3) rfl (by decide : ((3 : Int32) - (3 : Int32)) = (0 : Int32)) ?_
  refine wbp X0 hx hby rfl d21_4 ?_
  refine Own.iushr X0.here hx rfl (hb hby d21_6) rfl (by decide : (((0 : Int32).toUInt32 >>> ((31 : Int32) &&& 31).toUInt32).toInt32) = (0 : Int32)) ?_
  refine Own.i2b X0.here hx rfl (hb hby d21_7) rfl (by decide : ((0 : Int32).toInt8.toInt32) = (0 : Int32)) ?_
  exact retN X0 hx (t := .byte) hret (by simp) (hb hby d21_8) hr
def Qrm81 (Z : State) (a1 : Addr) (p3 : Int32) (p4 : Int32) (p5 : Int32) (h0 : Heap) (n0 : Nat) (v : Option Value) (h : Heap) (L : List Loc) : Prop := ∃ x0 : Addr, ∃ xk0 : ClassId, v = none ∧ Fr n0 L ∧ Keep h0 h [a1] ∧ h0.size ≤ x0 ∧ Arv Z h x0 xk0 .byte (3 : Int32) [(vI (p3.toInt8.toInt32)), (vI (p4.toInt8.toInt32)), (vI (p5.toInt8.toInt32))] (vI 0) ∧ Fld Z h a1 z0 "value" "[B" (vR x0) ∧ Fld Z h a1 z0 "coder" "B" (vI 0)
theorem rm81 (cx : Cx Z a0 w0 w1) (a1 : Addr) (a2 : Addr) (p3 : Int32) (p4 : Int32) (p5 : Int32) (ck6 : ClassId) (O0 : Old Z n0 h0) (PE1 : Exa Z h0 a1 z0) (PF2 : Fld Z h0 a1 z0 "value" "[B" .null) (PF3 : Fld Z h0 a1 z0 "coder" "B" (vI 0)) (PV4 : Arv Z h0 a2 ck6 .char (3 : Int32) [(vI p3), (vI p4), (vI p5)] (vI 0)) (hc5 : ¬ ((255 : Int32) < p3)) (hc6 : ¬ ((255 : Int32) < p4)) (hc7 : ¬ ((255 : Int32) < p5)) (gn8 : n0 ≤ a1) : Ct l Z ⟨z0, "<init>", z13⟩ jdk_42_method_149_code 6 none ⟨2, 1, 3, 35⟩ #[(vR a1), (vR a2), (vI 0), (vI 3), .null] h0 (Qrm81 Z a1 p3 p4 p5 h0 n0) := by
  obtain ⟨hw, hj, hS⟩ := id cx
  refine own_bd (plainFor_of_name pn63) (fun m => ef62 m a1 a2 0 3) fun p e s m below meth c s₁ hret hlk hZ hx hby hml hown hnm X0 e0 => ?_
  have N0 := Fr.nil n0
  obtain ⟨T1, X1, e1, st1⟩ := initO X0 hx hZ hown (hw _ m19) (hw _ m20) (hw _ m21) e0 (g := (mkF m 1 #[sR a1, sR a2, sI 0, sI 3, sN, sU] [(vR a1)])) rfl (by rw [hml]; rfl) rfl (hb hby d4_1) (by decide) (W := 0) (Nat.le_of_eq rfl) (by decide)
  obtain ⟨T2, X2, e2, st2⟩ := getS2 X1 hx hZ hown (host := "") (Or.inl (hw _ m49)) Via.refl e1 (hS.1.ext O0.2) (g := (mkF m 27 #[sR a1, sR a2, sI 0, sI 3, sN, sU] [])) rfl (hb hby d4_27)
  obtain ⟨_, T3, L3, ⟨c3_0, k3_1, rfl, N3q, Kq3, lo3_0, q3_0⟩, X3, st3⟩ := cS X2 hx hZ (W := 0) hown (cw18 cx) (rm79 cx a2 p3 p4 p5 ck6 O0 PV4 hc5 hc6 hc7) e2 (g := (mkF m 36 #[sR a1, sR a2, sI 0, sI 3, sN, sU] [(vI 3), (vI 0), (vR a2)])) rfl hml rfl (rest := []) rfl rfl rfl rfl (hb hby d4_36) (by decide)
  have N3 := Fr.app N0 N3q
  have O3 : Old Z n0 T3.heap := O0.keep Kq3 all0
  have K3 : Keep h0 T3.heap [a1] := (Keep.refl h0 [a1]).trans Kq3 all0
  obtain ⟨_, T4, L4, ⟨rfl, N4q, e4⟩, X4, st4⟩ := cS X3 hx hZ (W := 1) hown (cw19 cx) (rm80 cx c3_0 (p3.toInt8.toInt32) (p4.toInt8.toInt32) (p5.toInt8.toInt32) k3_1 O3 q3_0) (rfl : T3.heap = T3.heap) (g := (mkF m 45 #[sR a1, sR a2, sI 0, sI 3, sN, sR c3_0] [(vI 3), (vR c3_0), (vR a1)])) rfl hml rfl (rest := [(vR a1)]) rfl rfl rfl rfl (hb hby d4_45) (by decide)
  have f5 : Fld Z T3.heap a1 z0 "coder" "B" (vI 0) := (PF3.keep Kq3 nin0)
  have f6 : Exa Z T3.heap a1 z0 := (PE1.keep Kq3)
  obtain ⟨T7, h7, L'7, X7, e7, W7, Fw7, O7, K7, N7, st7⟩ := own_putN X4 hx hZ hown (hw _ m29) Via.refl e4 O3 K3 (Fr.app N3 N4q) gn8 (Or.inl (List.mem_of_getElem? (i := 0) rfl)) f5 f6 (Or.inr ⟨(hw _ m25), rfl, hnm⟩) (hw _ m10) (ty := .byte) (v' := (vI 0)) (by decide) rfl (by decide) (g := (mkF m 48 #[sR a1, sR a2, sI 0, sI 3, sN, sR c3_0] [(vI 0), (vR a1)])) rfl rfl (hb hby d4_48)
  have f8 : Fld Z h7 a1 z0 "value" "[B" .null := ((PF2.keep Kq3 nin0).other W7 (Or.inr (slot_ne (Or.inr (hw _ m24)) (Or.inr (hw _ m25)) (by decide) (t := (.array .byte)) (t' := .byte) (by decide) (by decide))))
  have f9 : Exa Z h7 a1 z0 := (f6.wr W7)
  obtain ⟨T10, h10, L'10, X10, e10, W10, Fw10, O10, K10, N10, st10⟩ := own_put X7 hx hZ hown (host := "") (Or.inl (hw _ m28)) Via.refl e7 O7 K7 N7 gn8 (Or.inl (List.mem_of_getElem? (i := 0) rfl)) f8 f9 (Or.inr ⟨(hw _ m24), rfl, hnm⟩) (hw _ m10) (ty := (.array .byte)) (by decide) rfl rfl (g := (mkF m 54 #[sR a1, sR a2, sI 0, sI 3, sN, sR c3_0] [(vR c3_0), (vR a1)])) rfl rfl (hb hby d4_54)
  have f11 : Arv Z h10 c3_0 k3_1 .byte (3 : Int32) [(vI (p3.toInt8.toInt32)), (vI (p4.toInt8.toInt32)), (vI (p5.toInt8.toInt32))] (vI 0) := ((q3_0.other W7 (Ne.symm (Nat.ne_of_lt (Nat.lt_of_lt_of_le PE1.lt lo3_0)))).other W10 (Ne.symm (Nat.ne_of_lt (Nat.lt_of_lt_of_le PE1.lt lo3_0))))
  have f12 : Fld Z h10 a1 z0 "coder" "B" (vI 0) := (Fw7.other W10 (Or.inr (slot_ne (Or.inr (hw _ m25)) (Or.inr (hw _ m24)) (by decide) (t := .byte) (t' := (.array .byte)) (by decide) (by decide))))
  refine own_end X10 hlk (v := none) (fun _ => rfl) (by decide) (by rw [e10]; exact ⟨c3_0, k3_1, rfl, N10, K10, (Nat.le_trans (Keep.refl h0 [a1]).1 lo3_0), f11, Fw10, f12⟩) fun fs hr => ?_
  show St p e below s₁ (mkF m 0 #[sR a1, sR a2, sI 0, sI 3, sN, sU] []) _
  refine wal X0 hx hby rfl d4_0 rfl rfl ?_
  refine st1 _ ?_
  refine wil X1 hx hby rfl d4_4 rfl ?_
  refine wfy X1 hx hby rfl (pc0 := 5) (pc' := 27) rfl d4_5 rfl ((if0 _ _).trans (feq (by decide : ¬ ((3 : Int32) = (0 : Int32)))).2) (by decide) (by decide) ?_
  refine st2 _ ?_
  refine wfn X2 hx hby rfl d4_30 rfl ((if0 _ _).trans (feq hS.2.1).1) ?_
  refine wal X2 hx hby rfl d4_33 rfl rfl ?_
  refine wil X2 hx hby rfl d4_34 rfl ?_
  refine wil X2 hx hby rfl d4_35 rfl ?_
  refine st3 _ ?_
  refine waS X3 hx hby rfl d4_39 rfl rfl (l' := #[sR a1, sR a2, sI 0, sI 3, sN, sR c3_0]) rfl ?_
  refine wal X3 hx hby rfl d4_41 rfl rfl ?_
  refine waL X3 hx hby rfl d4_42 rfl rfl ?_
  refine wil X3 hx hby rfl d4_44 rfl ?_
  refine st4 _ ?_
  refine st7 _ ?_
  show St p e below T7 (mkF m 51 #[sR a1, sR a2, sI 0, sI 3, sN, sR c3_0] []) _
  refine wal X7 hx hby rfl d4_51 rfl rfl ?_
  refine waL X7 hx hby rfl d4_52 rfl rfl ?_
  refine st10 _ ?_
  exact X10.returnOut hx hret (hb hby d4_57) hr
def Qrm82 (Z : State) (a1 : Addr) (p3 : Int32) (p4 : Int32) (p5 : Int32) (h0 : Heap) (n0 : Nat) (v : Option Value) (h : Heap) (L : List Loc) : Prop := ∃ x0 : Addr, ∃ xk0 : ClassId, v = none ∧ Fr n0 L ∧ Keep h0 h [a1] ∧ h0.size ≤ x0 ∧ Arv Z h x0 xk0 .byte (3 : Int32) [(vI (p3.toInt8.toInt32)), (vI (p4.toInt8.toInt32)), (vI (p5.toInt8.toInt32))] (vI 0) ∧ Fld Z h a1 z0 "value" "[B" (vR x0) ∧ Fld Z h a1 z0 "coder" "B" (vI 0)
theorem rm82 (cx : Cx Z a0 w0 w1) (a1 : Addr) (a2 : Addr) (p3 : Int32) (p4 : Int32) (p5 : Int32) (ck6 : ClassId) (O0 : Old Z n0 h0) (PE1 : Exa Z h0 a1 z0) (PF2 : Fld Z h0 a1 z0 "value" "[B" .null) (PF3 : Fld Z h0 a1 z0 "coder" "B" (vI 0)) (PV4 : Arv Z h0 a2 ck6 .char (3 : Int32) [(vI p3), (vI p4), (vI p5)] (vI 0)) (hc5 : ¬ ((255 : Int32) < p3)) (hc6 : ¬ ((255 : Int32) < p4)) (hc7 : ¬ ((255 : Int32) < p5)) (gn8 : n0 ≤ a1) : Ct l Z ⟨z0, "<init>", "([C)V"⟩ jdk_42_method_3_code 2 none ⟨3, 1, 3, 52⟩ #[(vR a1), (vR a2)] h0 (Qrm82 Z a1 p3 p4 p5 h0 n0) := by
  obtain ⟨hw, hj, hS⟩ := id cx
  refine own_bd (plainFor_of_name pn63) (fun m => ef68 m a1 a2) fun p e s m below meth c s₁ hret hlk hZ hx hby hml hown hnm X0 e0 => ?_
  have N0 := Fr.nil n0
  obtain ⟨_, T1, L1, ⟨c1_0, k1_1, rfl, N1q, Kq1, lo1_0, q1_0, q1_1, q1_2⟩, X1, st1⟩ := cI X0 hx hZ (W := 0) hown (cw0 cx) (rm81 cx a1 a2 p3 p4 p5 ck6 O0 PE1 PF2 PF3 PV4 hc5 hc6 hc7 gn8) e0 (g := (mkF m 6 #[sR a1, sR a2] [.null, (vI 3), (vI 0), (vR a2), (vR a1)])) rfl hml rfl (rest := []) rfl rfl rfl rfl (hb hby d3_6) (by decide)
  have N1 := Fr.app N0 N1q
  have O1 : Old Z n0 T1.heap := O0.keep Kq1 (allS gn8 all0)
  have K1 : Keep h0 T1.heap [a1] := (Keep.refl h0 [a1]).trans Kq1 (allS (Or.inl (List.mem_of_getElem? (i := 0) rfl)) all0)
  refine own_end X1 hlk (v := none) (fun _ => rfl) (by decide) ⟨c1_0, k1_1, rfl, N1, K1, (Nat.le_trans (Keep.refl h0 [a1]).1 lo1_0), q1_0, q1_1, q1_2⟩ fun fs hr => ?_
  show St p e below s₁ (mkF m 0 #[sR a1, sR a2] []) _
  refine wal X0 hx hby rfl d3_0 rfl rfl ?_
  refine wal X0 hx hby rfl d3_1 rfl rfl ?_
  refine wic X0 hx hby rfl d3_2 ?_
  refine wal X0 hx hby rfl d3_3 rfl rfl ?_
  refine own_alen X0 hx hZ e0 PV4 (g := (mkF m 4 #[sR a1, sR a2] [(vR a2), (vI 0), (vR a2), (vR a1)])) rfl rfl (hb hby d3_4) ?_
  refine wan X0 hx hby rfl d3_5 ?_
  refine st1 _ ?_
  exact X1.returnOut hx hret (hb hby d3_9) hr
def Qrm83 (Z : State) (p2 : Int32) (p3 : Int32) (p4 : Int32) (h0 : Heap) (n0 : Nat) (v : Option Value) (h : Heap) (L : List Loc) : Prop := ∃ x0 : Addr, ∃ x1 : Addr, ∃ xk0 : ClassId, v = some (vR x0) ∧ Fr n0 L ∧ Keep h0 h [] ∧ h0.size ≤ x0 ∧ x0 < x1 ∧ Exa Z h x0 z0 ∧ Fld Z h x0 z0 "value" "[B" (vR x1) ∧ Fld Z h x0 z0 "coder" "B" (vI 0) ∧ Arv Z h x1 xk0 .byte (3 : Int32) [(vI (p2.toInt8.toInt32)), (vI (p3.toInt8.toInt32)), (vI (p4.toInt8.toInt32))] (vI 0)
theorem rm83 (cx : Cx Z a0 w0 w1) (a1 : Addr) (p2 : Int32) (p3 : Int32) (p4 : Int32) (p5 : Int32) (ck6 : ClassId) (O0 : Old Z n0 h0) (PV1 : Arv Z h0 a1 ck6 .char (4 : Int32) [(vI p2), (vI p3), (vI p4), (vI p5)] (vI 0)) (hc2 : ¬ (p2 < (0 : Int32))) (hc3 : ¬ ((65535 : Int32) < p2)) (hc4 : ¬ (p3 < (0 : Int32))) (hc5 : ¬ ((65535 : Int32) < p3)) (hc6 : ¬ (p4 < (0 : Int32))) (hc7 : ¬ ((65535 : Int32) < p4)) (hc8 : ¬ ((255 : Int32) < p2)) (hc9 : ¬ ((255 : Int32) < p3)) (hc10 : ¬ ((255 : Int32) < p4)) : Ct l Z ⟨z1, "make", z12⟩ method_4_code 2 (some (.object z0)) ⟨4, 3, 10, 66⟩ #[(vI 3), (vR a1)] h0 (Qrm83 Z p2 p3 p4 h0 n0) := by
  obtain ⟨hw, hj, hS⟩ := id cx
  refine own_bd (plainFor_of_name pn11) (fun m => ef73 m 3 a1) fun p e s m below meth c s₁ hret hlk hZ hx hby hml hown hnm X0 e0 => ?_
  have N0 := Fr.nil n0
  obtain ⟨T1, h1, b1, X1, e1, E1, A1, D1, g1, O1, K1, st1⟩ := own_newO X0 hx hZ hown (hw _ m9) (hw _ m10) (hw _ m11) e0 O0 (Keep.refl h0 []) (g := (mkF m 70 #[sI 3, sR a1] [])) rfl (hb hby d2_70) (by decide) (by decide)
  have F1_1 : Fld Z h1 b1 z0 "value" "[B" .null := D1 (Or.inr (hw _ m24)) (ty := (.array .byte)) (by decide)
  have F1_2 : Fld Z h1 b1 z0 "coder" "B" (vI 0) := D1 (Or.inr (hw _ m25)) (ty := .byte) (by decide)
  obtain ⟨T2, h2, k2, b2, X2, e2, E2, V2, g2, O2, K2, st2⟩ := own_newP X1 hx hZ (aty := .char) (ty := .char) (dv := (.int (0 : Int32))) (vs := [(.int (0 : Int32)), (.int (0 : Int32)), (.int (0 : Int32))]) (cap := 3) rfl rfl rfl (hw _ m1) e1 O1 K1 (g := (mkF m 75 #[sI 3, sR a1] [(vI 3), (vR b1), (vR b1)])) rfl (hb hby d2_75) rfl (by decide) (by decide) (by decide) (by decide) (by decide)
  have f3 : Arv Z h2 a1 ck6 .char (4 : Int32) [(vI p2), (vI p3), (vI p4), (vI p5)] (vI 0) := ((PV1.ext E1).ext E2)
  obtain ⟨T4, h4, L'4, X4, e4, W4, V4, O4, K4, N4, st4⟩ := own_stC X2 hx hZ e2 V2 O2 K2 N0 (Nat.le_trans (own_old_le O1) g2) (Or.inr (Nat.le_trans K1.1 g2)) (j := (0 : Int32)) 0 (by decide) (Nat.le_of_ble_eq_true rfl) (v := (vI p2)) (congrArg Value.int (own_narC hc2 hc3)) (vs' := [(vI p2), (vI 0), (vI 0)]) rfl (g := (mkF m 82 #[sI 3, sR a1] [(vI p2), (vI 0), (vR b2), (vR b2), (vR b1), (vR b1)])) rfl rfl (hb hby d2_82)
  have ne5 : a1 ≠ b2 := (Nat.ne_of_lt (Nat.lt_of_lt_of_le (Nat.lt_of_lt_of_le PV1.lt E1.1) g2))
  have f6 : Arv Z h4 a1 ck6 .char (4 : Int32) [(vI p2), (vI p3), (vI p4), (vI p5)] (vI 0) := (f3.other W4 ne5)
  obtain ⟨T7, h7, L'7, X7, e7, W7, V7, O7, K7, N7, st7⟩ := own_stC X4 hx hZ e4 V4 O4 K4 N4 (Nat.le_trans (own_old_le O1) g2) (Or.inr (Nat.le_trans K1.1 g2)) (j := (1 : Int32)) 1 (by decide) (Nat.le_of_ble_eq_true rfl) (v := (vI p3)) (congrArg Value.int (own_narC hc4 hc5)) (vs' := [(vI p2), (vI p3), (vI 0)]) rfl (g := (mkF m 88 #[sI 3, sR a1] [(vI p3), (vI 1), (vR b2), (vR b2), (vR b1), (vR b1)])) rfl rfl (hb hby d2_88)
  have f8 : Arv Z h7 a1 ck6 .char (4 : Int32) [(vI p2), (vI p3), (vI p4), (vI p5)] (vI 0) := (f6.other W7 ne5)
  obtain ⟨T9, h9, L'9, X9, e9, W9, V9, O9, K9, N9, st9⟩ := own_stC X7 hx hZ e7 V7 O7 K7 N7 (Nat.le_trans (own_old_le O1) g2) (Or.inr (Nat.le_trans K1.1 g2)) (j := (2 : Int32)) 2 (by decide) (Nat.le_of_ble_eq_true rfl) (v := (vI p4)) (congrArg Value.int (own_narC hc6 hc7)) (vs' := [(vI p2), (vI p3), (vI p4)]) rfl (g := (mkF m 94 #[sI 3, sR a1] [(vI p4), (vI 2), (vR b2), (vR b2), (vR b1), (vR b1)])) rfl rfl (hb hby d2_94)
  have f11 : Exa Z h9 b1 z0 := ((((A1.ext E2).wr W4).wr W7).wr W9)
  have f12 : Fld Z h9 b1 z0 "value" "[B" .null := ((((F1_1.ext E2).other W4 (Or.inl (Nat.ne_of_lt (Nat.lt_of_lt_of_le A1.lt g2)))).other W7 (Or.inl (Nat.ne_of_lt (Nat.lt_of_lt_of_le A1.lt g2)))).other W9 (Or.inl (Nat.ne_of_lt (Nat.lt_of_lt_of_le A1.lt g2))))
  have f13 : Fld Z h9 b1 z0 "coder" "B" (vI 0) := ((((F1_2.ext E2).other W4 (Or.inl (Nat.ne_of_lt (Nat.lt_of_lt_of_le A1.lt g2)))).other W7 (Or.inl (Nat.ne_of_lt (Nat.lt_of_lt_of_le A1.lt g2)))).other W9 (Or.inl (Nat.ne_of_lt (Nat.lt_of_lt_of_le A1.lt g2))))
  obtain ⟨_, T10, L10, ⟨c10_0, k10_1, rfl, N10q, Kq10, lo10_0, q10_0, q10_1, q10_2⟩, X10, st10⟩ := cI X9 hx hZ (W := 1) hown (cw1 cx) (rm82 cx b1 b2 p2 p3 p4 k2 O9 f11 f12 f13 V9 hc8 hc9 hc10 (Nat.le_trans (own_old_le O0) g1)) e9 (g := (mkF m 95 #[sI 3, sR a1] [(vR b2), (vR b1), (vR b1)])) rfl hml rfl (rest := [(vR b1)]) rfl rfl rfl rfl (hb hby d2_95) (by decide)
  have N10 := Fr.app N9 N10q
  have O10 : Old Z n0 T10.heap := O9.keep Kq10 (allS (Nat.le_trans (own_old_le O0) g1) all0)
  have K10 : Keep h0 T10.heap [] := K9.trans Kq10 (allS (Or.inr (Nat.le_trans (Keep.refl h0 []).1 g1)) all0)
  have f14 : Exa Z T10.heap b1 z0 := (f11.keep Kq10)
  refine own_end X10 hlk (v := some (vR b1)) (own_hv hret) (by decide) ⟨b1, c10_0, k10_1, rfl, N10, K10, (Nat.le_trans (Keep.refl h0 []).1 g1), (Nat.lt_of_lt_of_le (Nat.lt_of_lt_of_le A1.lt (Nat.le_trans (Nat.le_trans (Nat.le_trans E2.1 (Nat.le_of_eq W4.size.symm)) (Nat.le_of_eq W7.size.symm)) (Nat.le_of_eq W9.size.symm))) lo10_0), f14, q10_1, q10_2, q10_0⟩ fun fs hr => ?_
  show St p e below s₁ (mkF m 0 #[sI 3, sR a1] []) _
  refine wil X0 hx hby rfl d2_0 rfl ?_
  refine wfy X0 hx hby rfl (pc0 := 1) (pc' := 15) rfl d2_1 rfl ((if0 _ _).trans (feq (by decide : ¬ ((3 : Int32) = (0 : Int32)))).2) (by decide) (by decide) ?_
  refine wil X0 hx hby rfl d2_15 rfl ?_
  refine wic X0 hx hby rfl d2_16 ?_
  refine wcy X0 hx hby rfl (pc0 := 17) (pc' := 37) rfl d2_17 rfl (feq (by decide : ¬ ((3 : Int32) = (1 : Int32)))).2 (by decide) (by decide) ?_
  refine wil X0 hx hby rfl d2_37 rfl ?_
  refine wic X0 hx hby rfl d2_38 ?_
  refine wcy X0 hx hby rfl (pc0 := 39) (pc' := 65) rfl d2_39 rfl (feq (by decide : ¬ ((3 : Int32) = (2 : Int32)))).2 (by decide) (by decide) ?_
  refine wil X0 hx hby rfl d2_65 rfl ?_
  refine wic X0 hx hby rfl d2_66 ?_
  refine wcn X0 hx hby rfl d2_67 rfl (teq (by decide : (3 : Int32) = (3 : Int32))).2 ?_
  refine st1 _ ?_
  refine wdu X1 hx hby rfl d2_73 rfl rfl ?_
  refine wic X1 hx hby rfl d2_74 ?_
  refine st2 _ ?_
  refine wdu X2 hx hby rfl d2_77 rfl rfl ?_
  show St p e below T2 (mkF m 78 #[sI 3, sR a1] [(vR b2), (vR b2), (vR b1), (vR b1)]) _
  refine wic X2 hx hby rfl d2_78 ?_
  refine wal X2 hx hby rfl d2_79 rfl rfl ?_
  refine wic X2 hx hby rfl d2_80 ?_
  refine own_caload X2 hx hZ e2 f3 (j := 0) (by decide) (v := (vI p2)) rfl (g := (mkF m 81 #[sI 3, sR a1] [(vI 0), (vR a1), (vI 0), (vR b2), (vR b2), (vR b1), (vR b1)])) rfl rfl (hb hby d2_81) ?_
  refine st4 _ ?_
  refine wdu X4 hx hby rfl d2_83 rfl rfl ?_
  refine wic X4 hx hby rfl d2_84 ?_
  refine wal X4 hx hby rfl d2_85 rfl rfl ?_
  refine wic X4 hx hby rfl d2_86 ?_
  refine own_caload X4 hx hZ e4 f6 (j := 1) (by decide) (v := (vI p3)) rfl (g := (mkF m 87 #[sI 3, sR a1] [(vI 1), (vR a1), (vI 1), (vR b2), (vR b2), (vR b1), (vR b1)])) rfl rfl (hb hby d2_87) ?_
  refine st7 _ ?_
  refine wdu X7 hx hby rfl d2_89 rfl rfl ?_
  refine wic X7 hx hby rfl d2_90 ?_
  refine wal X7 hx hby rfl d2_91 rfl rfl ?_
  refine wic X7 hx hby rfl d2_92 ?_
  refine own_caload X7 hx hZ e7 f8 (j := 2) (by decide) (v := (vI p4)) rfl (g := (mkF m 93 #[sI 3, sR a1] [(vI 2), (vR a1), (vI 2), (vR b2), (vR b2), (vR b1), (vR b1)])) rfl rfl (hb hby d2_93) ?_
  show St p e below T7 (mkF m 94 #[sI 3, sR a1] [(vI p4), (vI 2), (vR b2), (vR b2), (vR b1), (vR b1)]) _
  refine st9 _ ?_
  refine st10 _ ?_
  exact retOut X10 hx hret rfl (Or.inr (Or.inr (Or.inr (Or.inr ⟨rfl, rfl, rfl⟩)))) (hb hby d2_98) hr
def Qrm84 (Z : State) (h0 : Heap) (n0 : Nat) (v : Option Value) (h : Heap) (L : List Loc) : Prop := v = some (vI 3) ∧ Fr n0 L ∧ h = h0
theorem rm84 (cx : Cx Z a0 w0 w1) (a1 : Addr) (a2 : Addr) (p3 : Int32) (p4 : Int32) (p5 : Int32) (ck6 : ClassId) (O0 : Old Z n0 h0) (PF1 : Fld Z h0 a1 z0 "value" "[B" (vR a2)) (PV2 : Arv Z h0 a2 ck6 .byte (3 : Int32) [(vI p3), (vI p4), (vI p5)] (vI 0)) (PF3 : Fld Z h0 a1 z0 "coder" "B" (vI 0)) (PE4 : Exa Z h0 a1 z0) : Ct l Z ⟨z0, "length", "()I"⟩ jdk_42_method_54_code 1 (some .int) ⟨1, 0, 0, 13⟩ #[(vR a1)] h0 (Qrm84 Z h0 n0) := by
  obtain ⟨hw, hj, hS⟩ := id cx
  refine own_bd (plainFor_of_name pn63) (fun m => ef104 m a1) fun p e s m below meth c s₁ hret hlk hZ hx hby hml hown hnm X0 e0 => ?_
  have N0 := Fr.nil n0
  obtain ⟨T1, X1, e1, st1⟩ := getF X0 hx hZ hown (host := "") (Or.inl (hw _ m28)) Via.refl e0 PF1 (g := (mkF m 1 #[sR a1] [(vR a1)])) rfl rfl (hb hby d8_1)
  obtain ⟨_, T2, L2, ⟨rfl, N2q, e2⟩, X2, st2⟩ := cV X1 hx hZ (W := 1) hown (cw3 cx) (rm4 cx a1 O0 PF3) e1 PE4 (g := (mkF m 6 #[sR a1] [(vR a1), (vI 3)])) rfl hml rfl (rest := [(vI 3)]) rfl rfl rfl rfl (hb hby d8_6) (by decide)
  refine own_end X2 hlk (v := some (vI 3)) (own_hv hret) (by decide) (by rw [e2]; exact ⟨rfl, (Fr.app N0 N2q), rfl⟩) fun fs hr => ?_
  show St p e below s₁ (mkF m 0 #[sR a1] []) _
  refine wal X0 hx hby rfl d8_0 rfl rfl ?_
  refine st1 _ ?_
  refine own_alen X1 hx hZ e1 PV2 (g := (mkF m 4 #[sR a1] [(vR a2)])) rfl rfl (hb hby d8_4) ?_
  refine wal X1 hx hby rfl d8_5 rfl rfl ?_
  refine st2 _ ?_
  refine Own.ishr X2.here hx rfl (hb hby d8_9) rfl (by decide : ((3 : Int32) >>> ((0 : Int32) &&& 31)) = (3 : Int32)) ?_
  exact retOut X2 hx hret rfl (Or.inl ⟨rfl, Or.inl rfl, _, rfl⟩) (hb hby d8_10) hr
def Qrm85 (Z : State) (h0 : Heap) (n0 : Nat) (v : Option Value) (h : Heap) (L : List Loc) : Prop := v = some (vI 2) ∧ Fr n0 L ∧ h = h0
theorem rm85 (cx : Cx Z a0 w0 w1) (a1 : Addr) (p2 : Int32) (p3 : Int32) (p4 : Int32) (ck5 : ClassId) (O0 : Old Z n0 h0) (PV1 : Arv Z h0 a1 ck5 .byte (3 : Int32) [(vI p2), (vI p3), (vI p4)] (vI 0)) (hc2 : p4 = (58 : Int32)) : Ct l Z ⟨z2, z4, "([BII)I"⟩ jdk_43_method_27_code 4 (some .int) ⟨1, 0, 0, 13⟩ #[(vR a1), (vI 58), (vI 2)] h0 (Qrm85 Z h0 n0) := by
  obtain ⟨hw, hj, hS⟩ := id cx
  refine own_bd (plainFor_of_name pn154) (fun m => ef183 m a1 58 2) fun p e s m below meth c s₁ hret hlk hZ hx hby hml hown hnm X0 e0 => ?_
  have N0 := Fr.nil n0
  obtain ⟨_, T1, L1, ⟨rfl, N1q, e1⟩, X1, st1⟩ := cS X0 hx hZ (W := 0) hown (cw6 cx) (rm7 cx 58 O0 (by decide : ¬ ((58 : Int32) < (0 : Int32))) (by decide : ¬ ((255 : Int32) < (58 : Int32)))) e0 (g := (mkF m 1 #[sR a1, sI 58, sI 2, sU] [(vI 58)])) rfl hml rfl (rest := []) rfl rfl rfl rfl (hb hby d12_1) (by decide)
  obtain ⟨_, T2, L2, ⟨rfl, N2q, e2⟩, X2, st2⟩ := cS X1 hx hZ (W := 0) hown (cw7 cx) (rm8 cx 2 O0) e1 (g := (mkF m 14 #[sR a1, sI 58, sI 2, sU] [(vI 2), (vI 2)])) rfl hml rfl (rest := []) rfl rfl rfl rfl (hb hby d12_14) (by decide)
  refine own_end X2 hlk (v := some (vI 2)) (own_hv hret) (by decide) (by rw [e2]; exact ⟨rfl, (Fr.app (Fr.app N0 N1q) N2q), rfl⟩) fun fs hr => ?_
  show St p e below s₁ (mkF m 0 #[sR a1, sI 58, sI 2, sU] []) _
  refine wil X0 hx hby rfl d12_0 rfl ?_
  refine st1 _ ?_
  refine wfy X1 hx hby rfl (pc0 := 4) (pc' := 9) rfl d12_4 rfl ((if0 _ _).trans (feq (by decide : ¬ ((1 : Int32) = (0 : Int32)))).2) (by decide) (by decide) ?_
  refine wil X1 hx hby rfl d12_9 rfl ?_
  refine wal X1 hx hby rfl d12_10 rfl rfl ?_
  refine own_alen X1 hx hZ e1 PV1 (g := (mkF m 11 #[sR a1, sI 58, sI 2, sU] [(vR a1), (vI 2)])) rfl rfl (hb hby d12_11) ?_
  refine wic X1 hx hby rfl d12_12 ?_
  refine Own.isub X1.here hx rfl (hb hby d12_13) rfl (by decide : ((3 : Int32) - (1 : Int32)) = (2 : Int32)) ?_
  refine st2 _ ?_
  refine wis X2 hx hby rfl d12_17 rfl (l' := #[sR a1, sI 58, sI 2, sI 2]) rfl ?_
  refine wil X2 hx hby rfl d12_18 rfl ?_
  refine wfn X2 hx hby rfl d12_19 rfl ((if0 _ _).trans (flt (by decide : ¬ ((2 : Int32) < (0 : Int32)))).1) ?_
  refine wal X2 hx hby rfl d12_22 rfl rfl ?_
  refine wil X2 hx hby rfl d12_23 rfl ?_
  refine own_baloadB X2 hx hZ e2 PV1 (j := 2) (by decide) (v := (vI p4)) rfl (g := (mkF m 24 #[sR a1, sI 58, sI 2, sI 2] [(vI 2), (vR a1)])) rfl rfl (hb hby d12_24) ?_
  refine wil X2 hx hby rfl d12_25 rfl ?_
  show St p e below T2 (mkF m 26 #[sR a1, sI 58, sI 2, sI 2] [(vI 58), (vI p4)]) _
  refine Own.i2b X2.here hx rfl (hb hby d12_26) rfl (by decide : ((58 : Int32).toInt8.toInt32) = (58 : Int32)) ?_
  refine wcn X2 hx hby rfl d12_27 rfl (teq hc2).2 ?_
  refine wil X2 hx hby rfl d12_30 rfl ?_
  exact retOut X2 hx hret rfl (Or.inl ⟨rfl, Or.inl rfl, _, rfl⟩) (hb hby d12_31) hr
def Qrm86 (Z : State) (h0 : Heap) (n0 : Nat) (v : Option Value) (h : Heap) (L : List Loc) : Prop := v = some (vI 2) ∧ Fr n0 L ∧ h = h0
theorem rm86 (cx : Cx Z a0 w0 w1) (a1 : Addr) (a2 : Addr) (p3 : Int32) (p4 : Int32) (p5 : Int32) (ck6 : ClassId) (O0 : Old Z n0 h0) (PF1 : Fld Z h0 a1 z0 "coder" "B" (vI 0)) (PE2 : Exa Z h0 a1 z0) (PF3 : Fld Z h0 a1 z0 "value" "[B" (vR a2)) (PV4 : Arv Z h0 a2 ck6 .byte (3 : Int32) [(vI p3), (vI p4), (vI p5)] (vI 0)) (hc5 : p5 = (58 : Int32)) : Ct l Z ⟨z0, z4, "(II)I"⟩ jdk_42_method_83_code 3 (some .int) ⟨2, 0, 0, 28⟩ #[(vR a1), (vI 58), (vI 2)] h0 (Qrm86 Z h0 n0) := by
  obtain ⟨hw, hj, hS⟩ := id cx
  refine own_bd (plainFor_of_name pn63) (fun m => ef189 m a1 58 2) fun p e s m below meth c s₁ hret hlk hZ hx hby hml hown hnm X0 e0 => ?_
  have N0 := Fr.nil n0
  obtain ⟨_, T1, L1, ⟨rfl, N1q, e1⟩, X1, st1⟩ := cV X0 hx hZ (W := 0) hown (cw5 cx) (rm6 cx a1 O0 PF1) e0 PE2 (g := (mkF m 1 #[sR a1, sI 58, sI 2] [(vR a1)])) rfl hml rfl (rest := []) rfl rfl rfl rfl (hb hby d10_1) (by decide)
  obtain ⟨T2, X2, e2, st2⟩ := getF X1 hx hZ hown (host := "") (Or.inl (hw _ m28)) Via.refl e1 PF3 (g := (mkF m 8 #[sR a1, sI 58, sI 2] [(vR a1)])) rfl rfl (hb hby d10_8)
  obtain ⟨_, T3, L3, ⟨rfl, N3q, e3⟩, X3, st3⟩ := cS X2 hx hZ (W := 0) hown (cw8 cx) (rm85 cx a2 p3 p4 p5 ck6 O0 PV4 hc5) e2 (g := (mkF m 13 #[sR a1, sI 58, sI 2] [(vI 2), (vI 58), (vR a2)])) rfl hml rfl (rest := []) rfl rfl rfl rfl (hb hby d10_13) (by decide)
  refine own_end X3 hlk (v := some (vI 2)) (own_hv hret) (by decide) (by rw [e3]; exact ⟨rfl, (Fr.app (Fr.app N0 N1q) N3q), rfl⟩) fun fs hr => ?_
  show St p e below s₁ (mkF m 0 #[sR a1, sI 58, sI 2] []) _
  refine wal X0 hx hby rfl d10_0 rfl rfl ?_
  refine st1 _ ?_
  refine wfn X1 hx hby rfl d10_4 rfl ((if0 _ _).trans (feq (by decide : ¬ ((1 : Int32) = (0 : Int32)))).1) ?_
  refine wal X1 hx hby rfl d10_7 rfl rfl ?_
  refine st2 _ ?_
  refine wil X2 hx hby rfl d10_11 rfl ?_
  refine wil X2 hx hby rfl d10_12 rfl ?_
  refine st3 _ ?_
  refine wgt X3 hx hby rfl (pc0 := 16) (pc' := 28) rfl d10_16 (by decide) (by decide) ?_
  exact retOut X3 hx hret rfl (Or.inl ⟨rfl, Or.inl rfl, _, rfl⟩) (hb hby d10_28) hr
def Qrm87 (Z : State) (h0 : Heap) (n0 : Nat) (v : Option Value) (h : Heap) (L : List Loc) : Prop := v = some (vI 2) ∧ Fr n0 L ∧ h = h0
theorem rm87 (cx : Cx Z a0 w0 w1) (a1 : Addr) (p2 : Int32) (p3 : Int32) (p4 : Int32) (a5 : Addr) (ck6 : ClassId) (O0 : Old Z n0 h0) (PF1 : Fld Z h0 a1 z0 "value" "[B" (vR a5)) (PV2 : Arv Z h0 a5 ck6 .byte (3 : Int32) [(vI p2), (vI p3), (vI p4)] (vI 0)) (PF3 : Fld Z h0 a1 z0 "coder" "B" (vI 0)) (PE4 : Exa Z h0 a1 z0) (hc5 : p4 = (58 : Int32)) : Ct l Z ⟨z0, z4, "(I)I"⟩ jdk_42_method_82_code 2 (some .int) ⟨3, 0, 0, 42⟩ #[(vR a1), (vI 58)] h0 (Qrm87 Z h0 n0) := by
  obtain ⟨hw, hj, hS⟩ := id cx
  refine own_bd (plainFor_of_name pn63) (fun m => ef194 m a1 58) fun p e s m below meth c s₁ hret hlk hZ hx hby hml hown hnm X0 e0 => ?_
  have N0 := Fr.nil n0
  obtain ⟨_, T1, L1, ⟨rfl, N1q, e1⟩, X1, st1⟩ := cV X0 hx hZ (W := 2) hown (cw4 cx) (rm84 cx a1 a5 p2 p3 p4 ck6 O0 PF1 PV2 PF3 PE4) e0 PE4 (g := (mkF m 3 #[sR a1, sI 58] [(vR a1), (vI 58), (vR a1)])) rfl hml rfl (rest := [(vI 58), (vR a1)]) rfl rfl rfl rfl (hb hby d7_3) (by decide)
  obtain ⟨_, T2, L2, ⟨rfl, N2q, e2⟩, X2, st2⟩ := cV X1 hx hZ (W := 0) hown (cw9 cx) (rm86 cx a1 a5 p2 p3 p4 ck6 O0 PF3 PE4 PF1 PV2 hc5) e1 PE4 (g := (mkF m 8 #[sR a1, sI 58] [(vI 2), (vI 58), (vR a1)])) rfl hml rfl (rest := []) rfl rfl rfl rfl (hb hby d7_8) (by decide)
  refine own_end X2 hlk (v := some (vI 2)) (own_hv hret) (by decide) (by rw [e2]; exact ⟨rfl, (Fr.app (Fr.app N0 N1q) N2q), rfl⟩) fun fs hr => ?_
  show St p e below s₁ (mkF m 0 #[sR a1, sI 58] []) _
  refine wal X0 hx hby rfl d7_0 rfl rfl ?_
  refine wil X0 hx hby rfl d7_1 rfl ?_
  refine wal X0 hx hby rfl d7_2 rfl rfl ?_
  refine st1 _ ?_
  refine wic X1 hx hby rfl d7_6 ?_
  refine Own.isub X1.here hx rfl (hb hby d7_7) rfl (by decide : ((3 : Int32) - (1 : Int32)) = (2 : Int32)) ?_
  refine st2 _ ?_
  exact retOut X2 hx hret rfl (Or.inl ⟨rfl, Or.inl rfl, _, rfl⟩) (hb hby d7_11) hr
def Qrm88 (Z : State) (h0 : Heap) (n0 : Nat) (v : Option Value) (h : Heap) (L : List Loc) : Prop := ∃ x0 : Addr, ∃ x1 : Addr, ∃ xk0 : ClassId, v = some (vR x0) ∧ Fr n0 L ∧ Keep h0 h [] ∧ Exa Z h x0 z0 ∧ Fld Z h x0 z0 "coder" "B" (vI 0) ∧ Fld Z h x0 z0 "value" "[B" (vR x1) ∧ Arv Z h x1 xk0 .byte (0 : Int32) [] (vI 0)
theorem rm88 (cx : Cx Z a0 w0 w1) (a1 : Addr) (O0 : Old Z n0 h0) : CtW EL [] l Z ⟨z2, "newString", z11⟩ jdk_43_method_47_code 3 (some (.object z0)) ⟨0, 2, 4, 0⟩ #[(vR a1), (vI 3), (vI 0)] h0 (Qrm88 Z h0 n0) := by
  obtain ⟨hw, hj, hS⟩ := id cx
  refine own_bdW (plainFor_of_name pn154) (fun m => ef189 m a1 3 0) fun p e s m below meth c s₁ hret hlk hZ hx hby hml hown hnm X0 e0 hh C0 hsx hS0 => ?_
  have N0 := Fr.nil n0
  obtain ⟨sa1, T1, h1, k11, sb1, k1, X1, e1, E1, hS1, hk1, hZ1, hown1, A1, Fc1, Fv1, V1, la1, lb1, Cq1, -, hn1, st1⟩ := ldcCH X0 hx hZ hown (hw _ m117) (own_str hw hj) e0 hS0 (Nat.le_refl _) (own_EW hw hj) (List.mem_of_getElem? (i := 1) rfl) C0.1 (vs := []) (z := (0 : Int32)) ⟨by decide, by decide⟩ (by decide) (by decide) (g := (mkF m 4 #[sR a1, sI 3, sI 0] [])) rfl (hb hby d26_4) (n := 0) (by decide) (by decide) (by decide) (by decide)
  have O1 : Old Z n0 h1 := O0.ext E1
  have K1 : Keep h0 h1 [] := (Keep.refl h0 []).ext E1
  have C1 := C0.trans Cq1
  refine own_endW X1 hlk (v := some (vR sa1)) (own_hv hret) hS1 hk1 (by decide) hh e1 C1 hZ1 (own_EW hw hj) (by rw [e1]; exact ⟨sa1, sb1, k1, rfl, N0, K1, A1, Fc1, Fv1, V1⟩) fun fs hr => ?_
  show St p e below s₁ (mkF m 0 #[sR a1, sI 3, sI 0] []) _
  refine wil X0 hx hby rfl d26_0 rfl ?_
  refine wfn X0 hx hby rfl d26_1 rfl ((if0 _ _).trans (teq (by decide : (0 : Int32) = (0 : Int32))).2) ?_
  refine st1 _ ?_
  exact retOut X1 hx hret rfl (Or.inr (Or.inr (Or.inr (Or.inr ⟨rfl, rfl, rfl⟩)))) (hb hby d26_6) hr
def Qrm89 (Z : State) (h0 : Heap) (n0 : Nat) (v : Option Value) (h : Heap) (L : List Loc) : Prop := ∃ x0 : Addr, ∃ x1 : Addr, ∃ xk0 : ClassId, v = some (vR x0) ∧ Fr n0 L ∧ Keep h0 h [] ∧ Exa Z h x0 z0 ∧ Fld Z h x0 z0 "coder" "B" (vI 0) ∧ Fld Z h x0 z0 "value" "[B" (vR x1) ∧ Arv Z h x1 xk0 .byte (0 : Int32) [] (vI 0)
theorem rm89 (cx : Cx Z a0 w0 w1) (a1 : Addr) (p2 : Int32) (p3 : Int32) (p4 : Int32) (a5 : Addr) (ck6 : ClassId) (O0 : Old Z n0 h0) (PF1 : Fld Z h0 a1 z0 "value" "[B" (vR a5)) (PV2 : Arv Z h0 a5 ck6 .byte (3 : Int32) [(vI p2), (vI p3), (vI p4)] (vI 0)) (PF3 : Fld Z h0 a1 z0 "coder" "B" (vI 0)) (PE4 : Exa Z h0 a1 z0) : CtW EL [] l Z ⟨z0, "substring", z8⟩ jdk_42_method_92_code 5 (some (.object z0)) ⟨2, 2, 4, 29⟩ #[(vR a1), (vI 3), (vI 3)] h0 (Qrm89 Z h0 n0) := by
  obtain ⟨hw, hj, hS⟩ := id cx
  refine own_bdW (plainFor_of_name pn63) (fun m => ef255 m a1 3 3) fun p e s m below meth c s₁ hret hlk hZ hx hby hml hown hnm X0 e0 hh C0 hsx hS0 => ?_
  have N0 := Fr.nil n0
  have sf1 := (sf0 : ∀ x ∈ [], Safe Z EL s.vm h0 x)
  obtain ⟨_, T1, L1, ⟨rfl, N1q, e1⟩, X1, st1⟩ := cV X0 hx hZ (W := 0) hown (cw4 cx) (rm84 cx a1 a5 p2 p3 p4 ck6 O0 PF1 PV2 PF3 PE4) e0 PE4 (g := (mkF m 1 #[sR a1, sI 3, sI 3, sU, sU] [(vR a1)])) rfl hml rfl (rest := []) rfl rfl rfl rfl (hb hby d16_1) (by decide)
  have sf2 := (sf0 : ∀ x ∈ [], Safe Z EL s.vm h0 x)
  obtain ⟨_, T2, L2, ⟨rfl, N2q, e2⟩, X2, st2⟩ := cS X1 hx hZ (W := 0) hown (cw12 cx) (rm13 cx 3 O0 (by decide : ¬ ((3 : Int32) < (0 : Int32)))) e1 (g := (mkF m 8 #[sR a1, sI 3, sI 3, sI 3, sU] [(vI 3), (vI 3), (vI 3)])) rfl hml rfl (rest := []) rfl rfl rfl rfl (hb hby d16_8) (by decide)
  have sf3 := (sf0 : ∀ x ∈ [], Safe Z EL s.vm h0 x)
  obtain ⟨_, T3, L3, ⟨rfl, N3q, e3⟩, X3, st3⟩ := cV X2 hx hZ (W := 0) hown (cw5 cx) (rm6 cx a1 O0 PF3) e2 PE4 (g := (mkF m 28 #[sR a1, sI 3, sI 3, sI 3, sI 0] [(vR a1)])) rfl hml rfl (rest := []) rfl rfl rfl rfl (hb hby d16_28) (by decide)
  obtain ⟨T4, X4, e4, st4⟩ := getF X3 hx hZ hown (host := "") (Or.inl (hw _ m28)) Via.refl e3 PF1 (g := (mkF m 35 #[sR a1, sI 3, sI 3, sI 3, sI 0] [(vR a1)])) rfl rfl (hb hby d16_35)
  obtain ⟨_, T5, L5, ⟨c5_0, c5_1, k5_2, rfl, N5q, Kq5, q5_0, q5_1, q5_2, q5_3⟩, hS5, hZ5, hown5, Cq5, X5, st5⟩ := cSW X4 hx hZ (W := 0) hown (cw20 cx) (rm88 cx a5 O0) e4 hS0 (Nat.le_refl _) (own_EW hw hj) C0.1 own_sx0 (g := (mkF m 41 #[sR a1, sI 3, sI 3, sI 3, sI 0] [(vI 0), (vI 3), (vR a5)])) rfl hml rfl (rest := []) rfl rfl rfl rfl (hb hby d16_41) (by decide)
  have N5 := Fr.app (Fr.app (Fr.app (Fr.app N0 N1q) N2q) N3q) N5q
  have C5 := C0.trans Cq5
  have O5 : Old Z n0 T5.heap := O0.keep Kq5 all0
  have K5 : Keep h0 T5.heap [] := (Keep.refl h0 []).trans Kq5 all0
  refine own_endW X5 hlk (v := some (vR c5_0)) (own_hv hret) hS5 (Nat.le_refl _) (by decide) hh (rfl : T5.heap = T5.heap) C5 hZ5 (own_EW hw hj) ⟨c5_0, c5_1, k5_2, rfl, N5, K5, q5_0, q5_1, q5_2, q5_3⟩ fun fs hr => ?_
  show St p e below s₁ (mkF m 0 #[sR a1, sI 3, sI 3, sU, sU] []) _
  refine wal X0 hx hby rfl d16_0 rfl rfl ?_
  refine st1 _ ?_
  refine wis X1 hx hby rfl d16_4 rfl (l' := #[sR a1, sI 3, sI 3, sI 3, sU]) rfl ?_
  refine wil X1 hx hby rfl d16_5 rfl ?_
  refine wil X1 hx hby rfl d16_6 rfl ?_
  refine wil X1 hx hby rfl d16_7 rfl ?_
  refine st2 _ ?_
  refine wil X2 hx hby rfl d16_11 rfl ?_
  refine wfy X2 hx hby rfl (pc0 := 12) (pc' := 22) rfl d16_12 rfl ((if0 _ _).trans (feq (by decide : ¬ ((3 : Int32) = (0 : Int32)))).2) (by decide) (by decide) ?_
  refine wil X2 hx hby rfl d16_22 rfl ?_
  refine wil X2 hx hby rfl d16_23 rfl ?_
  refine Own.isub X2.here hx rfl (hb hby d16_24) rfl (by decide : ((3 : Int32) - (3 : Int32)) = (0 : Int32)) ?_
  refine wiS X2 hx hby rfl d16_25 rfl (l' := #[sR a1, sI 3, sI 3, sI 3, sI 0]) rfl ?_
  refine wal X2 hx hby rfl d16_27 rfl rfl ?_
  refine st3 _ ?_
  refine wfn X3 hx hby rfl d16_31 rfl ((if0 _ _).trans (feq (by decide : ¬ ((1 : Int32) = (0 : Int32)))).1) ?_
  show St p e below T3 (mkF m 34 #[sR a1, sI 3, sI 3, sI 3, sI 0] []) _
  refine wal X3 hx hby rfl d16_34 rfl rfl ?_
  refine st4 _ ?_
  refine wil X4 hx hby rfl d16_38 rfl ?_
  refine wiL X4 hx hby rfl d16_39 rfl ?_
  refine st5 _ ?_
  refine wgt X5 hx hby rfl (pc0 := 44) (pc' := 57) rfl d16_44 (by decide) (by decide) ?_
  exact retOut X5 hx hret rfl (Or.inr (Or.inr (Or.inr (Or.inr ⟨rfl, rfl, rfl⟩)))) (hb hby d16_57) hr
def Qrm90 (Z : State) (h0 : Heap) (n0 : Nat) (v : Option Value) (h : Heap) (L : List Loc) : Prop := ∃ x0 : Addr, ∃ x1 : Addr, ∃ xk0 : ClassId, v = some (vR x0) ∧ Fr n0 L ∧ Keep h0 h [] ∧ Exa Z h x0 z0 ∧ Fld Z h x0 z0 "coder" "B" (vI 0) ∧ Fld Z h x0 z0 "value" "[B" (vR x1) ∧ Arv Z h x1 xk0 .byte (0 : Int32) [] (vI 0)
theorem rm90 (cx : Cx Z a0 w0 w1) (a1 : Addr) (p2 : Int32) (p3 : Int32) (p4 : Int32) (a5 : Addr) (ck6 : ClassId) (O0 : Old Z n0 h0) (PF1 : Fld Z h0 a1 z0 "value" "[B" (vR a5)) (PV2 : Arv Z h0 a5 ck6 .byte (3 : Int32) [(vI p2), (vI p3), (vI p4)] (vI 0)) (PF3 : Fld Z h0 a1 z0 "coder" "B" (vI 0)) (PE4 : Exa Z h0 a1 z0) : CtW EL [] l Z ⟨z0, "substring", z9⟩ jdk_42_method_91_code 2 (some (.object z0)) ⟨3, 2, 4, 45⟩ #[(vR a1), (vI 3)] h0 (Qrm90 Z h0 n0) := by
  obtain ⟨hw, hj, hS⟩ := id cx
  refine own_bdW (plainFor_of_name pn63) (fun m => ef194 m a1 3) fun p e s m below meth c s₁ hret hlk hZ hx hby hml hown hnm X0 e0 hh C0 hsx hS0 => ?_
  have N0 := Fr.nil n0
  have sf1 := (sf0 : ∀ x ∈ [], Safe Z EL s.vm h0 x)
  obtain ⟨_, T1, L1, ⟨rfl, N1q, e1⟩, X1, st1⟩ := cV X0 hx hZ (W := 2) hown (cw4 cx) (rm84 cx a1 a5 p2 p3 p4 ck6 O0 PF1 PV2 PF3 PE4) e0 PE4 (g := (mkF m 3 #[sR a1, sI 3] [(vR a1), (vI 3), (vR a1)])) rfl hml rfl (rest := [(vI 3), (vR a1)]) rfl rfl rfl rfl (hb hby d15_3) (by decide)
  obtain ⟨_, T2, L2, ⟨c2_0, c2_1, k2_2, rfl, N2q, Kq2, q2_0, q2_1, q2_2, q2_3⟩, hS2, hZ2, hown2, Cq2, X2, st2⟩ := cVW X1 hx hZ (W := 0) hown (cw13 cx) (rm89 cx a1 p2 p3 p4 a5 ck6 O0 PF1 PV2 PF3 PE4) e1 hS0 (Nat.le_refl _) (own_EW hw hj) C0.1 own_sx0 PE4 (g := (mkF m 6 #[sR a1, sI 3] [(vI 3), (vI 3), (vR a1)])) rfl hml rfl (rest := []) rfl rfl rfl rfl (hb hby d15_6) (by decide)
  have N2 := Fr.app (Fr.app N0 N1q) N2q
  have C2 := C0.trans Cq2
  have O2 : Old Z n0 T2.heap := O0.keep Kq2 all0
  have K2 : Keep h0 T2.heap [] := (Keep.refl h0 []).trans Kq2 all0
  refine own_endW X2 hlk (v := some (vR c2_0)) (own_hv hret) hS2 (Nat.le_refl _) (by decide) hh (rfl : T2.heap = T2.heap) C2 hZ2 (own_EW hw hj) ⟨c2_0, c2_1, k2_2, rfl, N2, K2, q2_0, q2_1, q2_2, q2_3⟩ fun fs hr => ?_
  show St p e below s₁ (mkF m 0 #[sR a1, sI 3] []) _
  refine wal X0 hx hby rfl d15_0 rfl rfl ?_
  refine wil X0 hx hby rfl d15_1 rfl ?_
  refine wal X0 hx hby rfl d15_2 rfl rfl ?_
  refine st1 _ ?_
  refine st2 _ ?_
  exact retOut X2 hx hret rfl (Or.inr (Or.inr (Or.inr (Or.inr ⟨rfl, rfl, rfl⟩)))) (hb hby d15_9) hr
def Qrm91 (Z : State) (h0 : Heap) (n0 : Nat) (v : Option Value) (h : Heap) (L : List Loc) : Prop := ∃ x0 : Addr, ∃ x1 : Addr, ∃ xk0 : ClassId, v = some (vR x0) ∧ Fr n0 L ∧ Keep h0 h [] ∧ Exa Z h x0 z0 ∧ Fld Z h x0 z0 "coder" "B" (vI 0) ∧ Fld Z h x0 z0 "value" "[B" (vR x1) ∧ Arv Z h x1 xk0 .byte (0 : Int32) [] (vI 0)
theorem rm91 (cx : Cx Z a0 w0 w1) (a1 : Addr) (p2 : Int32) (p3 : Int32) (p4 : Int32) (a5 : Addr) (ck6 : ClassId) (O0 : Old Z n0 h0) (PF1 : Fld Z h0 a1 z0 "value" "[B" (vR a5)) (PV2 : Arv Z h0 a5 ck6 .byte (3 : Int32) [(vI p2), (vI p3), (vI p4)] (vI 0)) (PF3 : Fld Z h0 a1 z0 "coder" "B" (vI 0)) (PE4 : Exa Z h0 a1 z0) (hc5 : p4 = (58 : Int32)) : CtW EL [] l Z ⟨z3, "localPart", z5⟩ prog_13_method_17_code 1 (some (.object z0)) ⟨4, 2, 4, 58⟩ #[(vR a1)] h0 (Qrm91 Z h0 n0) := by
  obtain ⟨hw, hj, hS⟩ := id cx
  refine own_bdW (plainFor_of_name pn266) (fun m => ef104 m a1) fun p e s m below meth c s₁ hret hlk hZ hx hby hml hown hnm X0 e0 hh C0 hsx hS0 => ?_
  have N0 := Fr.nil n0
  have sf1 := (sf0 : ∀ x ∈ [], Safe Z EL s.vm h0 x)
  obtain ⟨_, T1, L1, ⟨rfl, N1q, e1⟩, X1, st1⟩ := cV X0 hx hZ (W := 1) hown (cw10 cx) (rm87 cx a1 p2 p3 p4 a5 ck6 O0 PF1 PV2 PF3 PE4 hc5) e0 PE4 (g := (mkF m 4 #[sR a1] [(vI 58), (vR a1), (vR a1)])) rfl hml rfl (rest := [(vR a1)]) rfl rfl rfl rfl (hb hby d6_4) (by decide)
  obtain ⟨_, T2, L2, ⟨c2_0, c2_1, k2_2, rfl, N2q, Kq2, q2_0, q2_1, q2_2, q2_3⟩, hS2, hZ2, hown2, Cq2, X2, st2⟩ := cVW X1 hx hZ (W := 0) hown (cw14 cx) (rm90 cx a1 p2 p3 p4 a5 ck6 O0 PF1 PV2 PF3 PE4) e1 hS0 (Nat.le_refl _) (own_EW hw hj) C0.1 own_sx0 PE4 (g := (mkF m 9 #[sR a1] [(vI 3), (vR a1)])) rfl hml rfl (rest := []) rfl rfl rfl rfl (hb hby d6_9) (by decide)
  have N2 := Fr.app (Fr.app N0 N1q) N2q
  have C2 := C0.trans Cq2
  have O2 : Old Z n0 T2.heap := O0.keep Kq2 all0
  have K2 : Keep h0 T2.heap [] := (Keep.refl h0 []).trans Kq2 all0
  refine own_endW X2 hlk (v := some (vR c2_0)) (own_hv hret) hS2 (Nat.le_refl _) (by decide) hh (rfl : T2.heap = T2.heap) C2 hZ2 (own_EW hw hj) ⟨c2_0, c2_1, k2_2, rfl, N2, K2, q2_0, q2_1, q2_2, q2_3⟩ fun fs hr => ?_
  show St p e below s₁ (mkF m 0 #[sR a1] []) _
  refine wal X0 hx hby rfl d6_0 rfl rfl ?_
  refine wal X0 hx hby rfl d6_1 rfl rfl ?_
  refine wbp X0 hx hby rfl d6_2 ?_
  refine st1 _ ?_
  refine wic X1 hx hby rfl d6_7 ?_
  refine Own.iadd X1.here hx rfl (hb hby d6_8) rfl (by decide : ((2 : Int32) + (1 : Int32)) = (3 : Int32)) ?_
  refine st2 _ ?_
  exact retOut X2 hx hret rfl (Or.inr (Or.inr (Or.inr (Or.inr ⟨rfl, rfl, rfl⟩)))) (hb hby d6_12) hr
def Qrm92 (Z : State) (h0 : Heap) (n0 : Nat) (v : Option Value) (h : Heap) (L : List Loc) : Prop := v = some (vI 1) ∧ Fr n0 L ∧ h = h0
theorem rm92 (cx : Cx Z a0 w0 w1) (a1 : Addr) (p2 : Int32) (p3 : Int32) (p4 : Int32) (ck5 : ClassId) (O0 : Old Z n0 h0) (PV1 : Arv Z h0 a1 ck5 .byte (3 : Int32) [(vI p2), (vI p3), (vI p4)] (vI 0)) (hc2 : ¬ (p4 = (58 : Int32))) (hc3 : p3 = (58 : Int32)) : Ct l Z ⟨z2, z4, "([BII)I"⟩ jdk_43_method_27_code 4 (some .int) ⟨1, 0, 0, 13⟩ #[(vR a1), (vI 58), (vI 2)] h0 (Qrm92 Z h0 n0) := by
  obtain ⟨hw, hj, hS⟩ := id cx
  refine own_bd (plainFor_of_name pn154) (fun m => ef183 m a1 58 2) fun p e s m below meth c s₁ hret hlk hZ hx hby hml hown hnm X0 e0 => ?_
  have N0 := Fr.nil n0
  obtain ⟨_, T1, L1, ⟨rfl, N1q, e1⟩, X1, st1⟩ := cS X0 hx hZ (W := 0) hown (cw6 cx) (rm7 cx 58 O0 (by decide : ¬ ((58 : Int32) < (0 : Int32))) (by decide : ¬ ((255 : Int32) < (58 : Int32)))) e0 (g := (mkF m 1 #[sR a1, sI 58, sI 2, sU] [(vI 58)])) rfl hml rfl (rest := []) rfl rfl rfl rfl (hb hby d12_1) (by decide)
  obtain ⟨_, T2, L2, ⟨rfl, N2q, e2⟩, X2, st2⟩ := cS X1 hx hZ (W := 0) hown (cw7 cx) (rm8 cx 2 O0) e1 (g := (mkF m 14 #[sR a1, sI 58, sI 2, sU] [(vI 2), (vI 2)])) rfl hml rfl (rest := []) rfl rfl rfl rfl (hb hby d12_14) (by decide)
  refine own_end X2 hlk (v := some (vI 1)) (own_hv hret) (by decide) (by rw [e2]; exact ⟨rfl, (Fr.app (Fr.app N0 N1q) N2q), rfl⟩) fun fs hr => ?_
  show St p e below s₁ (mkF m 0 #[sR a1, sI 58, sI 2, sU] []) _
  refine wil X0 hx hby rfl d12_0 rfl ?_
  refine st1 _ ?_
  refine wfy X1 hx hby rfl (pc0 := 4) (pc' := 9) rfl d12_4 rfl ((if0 _ _).trans (feq (by decide : ¬ ((1 : Int32) = (0 : Int32)))).2) (by decide) (by decide) ?_
  refine wil X1 hx hby rfl d12_9 rfl ?_
  refine wal X1 hx hby rfl d12_10 rfl rfl ?_
  refine own_alen X1 hx hZ e1 PV1 (g := (mkF m 11 #[sR a1, sI 58, sI 2, sU] [(vR a1), (vI 2)])) rfl rfl (hb hby d12_11) ?_
  refine wic X1 hx hby rfl d12_12 ?_
  refine Own.isub X1.here hx rfl (hb hby d12_13) rfl (by decide : ((3 : Int32) - (1 : Int32)) = (2 : Int32)) ?_
  refine st2 _ ?_
  refine wis X2 hx hby rfl d12_17 rfl (l' := #[sR a1, sI 58, sI 2, sI 2]) rfl ?_
  refine wil X2 hx hby rfl d12_18 rfl ?_
  refine wfn X2 hx hby rfl d12_19 rfl ((if0 _ _).trans (flt (by decide : ¬ ((2 : Int32) < (0 : Int32)))).1) ?_
  refine wal X2 hx hby rfl d12_22 rfl rfl ?_
  refine wil X2 hx hby rfl d12_23 rfl ?_
  refine own_baloadB X2 hx hZ e2 PV1 (j := 2) (by decide) (v := (vI p4)) rfl (g := (mkF m 24 #[sR a1, sI 58, sI 2, sI 2] [(vI 2), (vR a1)])) rfl rfl (hb hby d12_24) ?_
  refine wil X2 hx hby rfl d12_25 rfl ?_
  show St p e below T2 (mkF m 26 #[sR a1, sI 58, sI 2, sI 2] [(vI 58), (vI p4)]) _
  refine Own.i2b X2.here hx rfl (hb hby d12_26) rfl (by decide : ((58 : Int32).toInt8.toInt32) = (58 : Int32)) ?_
  refine wcy X2 hx hby rfl (pc0 := 27) (pc' := 32) rfl d12_27 rfl (feq hc2).2 (by decide) (by decide) ?_
  refine Own.iinc X2.here hx rfl (hb hby d12_32) rfl (by decide : ((2 : Int32) + (-1 : Int32)) = (1 : Int32)) (l' := #[sR a1, sI 58, sI 2, sI 1]) rfl ?_
  refine wgt X2 hx hby rfl (pc0 := 35) (pc' := 18) rfl d12_35 (by decide) (by decide) ?_
  refine wil X2 hx hby rfl d12_18 rfl ?_
  refine wfn X2 hx hby rfl d12_19 rfl ((if0 _ _).trans (flt (by decide : ¬ ((1 : Int32) < (0 : Int32)))).1) ?_
  refine wal X2 hx hby rfl d12_22 rfl rfl ?_
  refine wil X2 hx hby rfl d12_23 rfl ?_
  refine own_baloadB X2 hx hZ e2 PV1 (j := 1) (by decide) (v := (vI p3)) rfl (g := (mkF m 24 #[sR a1, sI 58, sI 2, sI 1] [(vI 1), (vR a1)])) rfl rfl (hb hby d12_24) ?_
  refine wil X2 hx hby rfl d12_25 rfl ?_
  refine Own.i2b X2.here hx rfl (hb hby d12_26) rfl (by decide : ((58 : Int32).toInt8.toInt32) = (58 : Int32)) ?_
  refine wcn X2 hx hby rfl d12_27 rfl (teq hc3).2 ?_
  refine wil X2 hx hby rfl d12_30 rfl ?_
  exact retOut X2 hx hret rfl (Or.inl ⟨rfl, Or.inl rfl, _, rfl⟩) (hb hby d12_31) hr
def Qrm93 (Z : State) (h0 : Heap) (n0 : Nat) (v : Option Value) (h : Heap) (L : List Loc) : Prop := v = some (vI 1) ∧ Fr n0 L ∧ h = h0
theorem rm93 (cx : Cx Z a0 w0 w1) (a1 : Addr) (a2 : Addr) (p3 : Int32) (p4 : Int32) (p5 : Int32) (ck6 : ClassId) (O0 : Old Z n0 h0) (PF1 : Fld Z h0 a1 z0 "coder" "B" (vI 0)) (PE2 : Exa Z h0 a1 z0) (PF3 : Fld Z h0 a1 z0 "value" "[B" (vR a2)) (PV4 : Arv Z h0 a2 ck6 .byte (3 : Int32) [(vI p3), (vI p4), (vI p5)] (vI 0)) (hc5 : ¬ (p5 = (58 : Int32))) (hc6 : p4 = (58 : Int32)) : Ct l Z ⟨z0, z4, "(II)I"⟩ jdk_42_method_83_code 3 (some .int) ⟨2, 0, 0, 28⟩ #[(vR a1), (vI 58), (vI 2)] h0 (Qrm93 Z h0 n0) := by
  obtain ⟨hw, hj, hS⟩ := id cx
  refine own_bd (plainFor_of_name pn63) (fun m => ef189 m a1 58 2) fun p e s m below meth c s₁ hret hlk hZ hx hby hml hown hnm X0 e0 => ?_
  have N0 := Fr.nil n0
  obtain ⟨_, T1, L1, ⟨rfl, N1q, e1⟩, X1, st1⟩ := cV X0 hx hZ (W := 0) hown (cw5 cx) (rm6 cx a1 O0 PF1) e0 PE2 (g := (mkF m 1 #[sR a1, sI 58, sI 2] [(vR a1)])) rfl hml rfl (rest := []) rfl rfl rfl rfl (hb hby d10_1) (by decide)
  obtain ⟨T2, X2, e2, st2⟩ := getF X1 hx hZ hown (host := "") (Or.inl (hw _ m28)) Via.refl e1 PF3 (g := (mkF m 8 #[sR a1, sI 58, sI 2] [(vR a1)])) rfl rfl (hb hby d10_8)
  obtain ⟨_, T3, L3, ⟨rfl, N3q, e3⟩, X3, st3⟩ := cS X2 hx hZ (W := 0) hown (cw8 cx) (rm92 cx a2 p3 p4 p5 ck6 O0 PV4 hc5 hc6) e2 (g := (mkF m 13 #[sR a1, sI 58, sI 2] [(vI 2), (vI 58), (vR a2)])) rfl hml rfl (rest := []) rfl rfl rfl rfl (hb hby d10_13) (by decide)
  refine own_end X3 hlk (v := some (vI 1)) (own_hv hret) (by decide) (by rw [e3]; exact ⟨rfl, (Fr.app (Fr.app N0 N1q) N3q), rfl⟩) fun fs hr => ?_
  show St p e below s₁ (mkF m 0 #[sR a1, sI 58, sI 2] []) _
  refine wal X0 hx hby rfl d10_0 rfl rfl ?_
  refine st1 _ ?_
  refine wfn X1 hx hby rfl d10_4 rfl ((if0 _ _).trans (feq (by decide : ¬ ((1 : Int32) = (0 : Int32)))).1) ?_
  refine wal X1 hx hby rfl d10_7 rfl rfl ?_
  refine st2 _ ?_
  refine wil X2 hx hby rfl d10_11 rfl ?_
  refine wil X2 hx hby rfl d10_12 rfl ?_
  refine st3 _ ?_
  refine wgt X3 hx hby rfl (pc0 := 16) (pc' := 28) rfl d10_16 (by decide) (by decide) ?_
  exact retOut X3 hx hret rfl (Or.inl ⟨rfl, Or.inl rfl, _, rfl⟩) (hb hby d10_28) hr
def Qrm94 (Z : State) (h0 : Heap) (n0 : Nat) (v : Option Value) (h : Heap) (L : List Loc) : Prop := v = some (vI 1) ∧ Fr n0 L ∧ h = h0
theorem rm94 (cx : Cx Z a0 w0 w1) (a1 : Addr) (p2 : Int32) (p3 : Int32) (p4 : Int32) (a5 : Addr) (ck6 : ClassId) (O0 : Old Z n0 h0) (PF1 : Fld Z h0 a1 z0 "value" "[B" (vR a5)) (PV2 : Arv Z h0 a5 ck6 .byte (3 : Int32) [(vI p2), (vI p3), (vI p4)] (vI 0)) (PF3 : Fld Z h0 a1 z0 "coder" "B" (vI 0)) (PE4 : Exa Z h0 a1 z0) (hc5 : ¬ (p4 = (58 : Int32))) (hc6 : p3 = (58 : Int32)) : Ct l Z ⟨z0, z4, "(I)I"⟩ jdk_42_method_82_code 2 (some .int) ⟨3, 0, 0, 42⟩ #[(vR a1), (vI 58)] h0 (Qrm94 Z h0 n0) := by
  obtain ⟨hw, hj, hS⟩ := id cx
  refine own_bd (plainFor_of_name pn63) (fun m => ef194 m a1 58) fun p e s m below meth c s₁ hret hlk hZ hx hby hml hown hnm X0 e0 => ?_
  have N0 := Fr.nil n0
  obtain ⟨_, T1, L1, ⟨rfl, N1q, e1⟩, X1, st1⟩ := cV X0 hx hZ (W := 2) hown (cw4 cx) (rm84 cx a1 a5 p2 p3 p4 ck6 O0 PF1 PV2 PF3 PE4) e0 PE4 (g := (mkF m 3 #[sR a1, sI 58] [(vR a1), (vI 58), (vR a1)])) rfl hml rfl (rest := [(vI 58), (vR a1)]) rfl rfl rfl rfl (hb hby d7_3) (by decide)
  obtain ⟨_, T2, L2, ⟨rfl, N2q, e2⟩, X2, st2⟩ := cV X1 hx hZ (W := 0) hown (cw9 cx) (rm93 cx a1 a5 p2 p3 p4 ck6 O0 PF3 PE4 PF1 PV2 hc5 hc6) e1 PE4 (g := (mkF m 8 #[sR a1, sI 58] [(vI 2), (vI 58), (vR a1)])) rfl hml rfl (rest := []) rfl rfl rfl rfl (hb hby d7_8) (by decide)
  refine own_end X2 hlk (v := some (vI 1)) (own_hv hret) (by decide) (by rw [e2]; exact ⟨rfl, (Fr.app (Fr.app N0 N1q) N2q), rfl⟩) fun fs hr => ?_
  show St p e below s₁ (mkF m 0 #[sR a1, sI 58] []) _
  refine wal X0 hx hby rfl d7_0 rfl rfl ?_
  refine wil X0 hx hby rfl d7_1 rfl ?_
  refine wal X0 hx hby rfl d7_2 rfl rfl ?_
  refine st1 _ ?_
  refine wic X1 hx hby rfl d7_6 ?_
  refine Own.isub X1.here hx rfl (hb hby d7_7) rfl (by decide : ((3 : Int32) - (1 : Int32)) = (2 : Int32)) ?_
  refine st2 _ ?_
  exact retOut X2 hx hret rfl (Or.inl ⟨rfl, Or.inl rfl, _, rfl⟩) (hb hby d7_11) hr
def Qrm95 (Z : State) (p4 : Int32) (h0 : Heap) (n0 : Nat) (v : Option Value) (h : Heap) (L : List Loc) : Prop := ∃ x0 : Addr, ∃ xk0 : ClassId, v = some (vR x0) ∧ Fr n0 L ∧ Keep h0 h [] ∧ h0.size ≤ x0 ∧ Arv Z h x0 xk0 .byte (1 : Int32) [(vI p4)] (vI 0)
theorem rm95 (cx : Cx Z a0 w0 w1) (a1 : Addr) (p2 : Int32) (p3 : Int32) (p4 : Int32) (ck5 : ClassId) (O0 : Old Z n0 h0) (PV1 : Arv Z h0 a1 ck5 .byte (3 : Int32) [(vI p2), (vI p3), (vI p4)] (vI 0)) : Ct l Z ⟨z7, z14, "([BII)[B"⟩ jdk_65_method_133_code 5 (some (.array .byte)) ⟨1, 1, 1, 18⟩ #[(vR a1), (vI 2), (vI 3)] h0 (Qrm95 Z p4 h0 n0) := by
  obtain ⟨hw, hj, hS⟩ := id cx
  refine own_bd (plainFor_of_name pn495) (fun m => ef255 m a1 2 3) fun p e s m below meth c s₁ hret hlk hZ hx hby hml hown hnm X0 e0 => ?_
  have N0 := Fr.nil n0
  obtain ⟨_, T1, L1, ⟨rfl, N1q, e1⟩, X1, st1⟩ := cS X0 hx hZ (W := 0) hown (cw25 cx) (rm60 cx 2 3 O0 (by decide : ¬ ((3 : Int32) < (2 : Int32)))) e0 (g := (mkF m 2 #[sR a1, sI 2, sI 3, sU, sU] [(vI 3), (vI 2)])) rfl hml rfl (rest := []) rfl rfl rfl rfl (hb hby d28_2) (by decide)
  obtain ⟨T2, h2, k2, b2, X2, e2, E2, V2, g2, O2, K2, st2⟩ := own_newP X1 hx hZ (aty := .byte) (ty := .byte) (dv := (.int (0 : Int32))) (vs := [(.int (0 : Int32))]) (cap := 1) rfl rfl rfl (hw _ m23) e1 O0 (Keep.refl h0 []) (g := (mkF m 10 #[sR a1, sI 2, sI 3, sI 1, sU] [(vI 1)])) rfl (hb hby d28_10) rfl (by decide) (by decide) (by decide) (by decide) (by decide)
  have f3 : Arv Z h2 a1 ck5 .byte (3 : Int32) [(vI p2), (vI p3), (vI p4)] (vI 0) := (PV1.ext E2)
  obtain ⟨_, T4, L4, ⟨rfl, N4q, e4⟩, X4, st4⟩ := cS X2 hx hZ (W := 4) hown (cw26 cx) (rm8 cx 1 O2) e2 (g := (mkF m 24 #[sR a1, sI 2, sI 3, sI 1, sR b2] [(vI 1), (vI 1), (vI 0), (vR b2), (vI 2), (vR a1)])) rfl hml rfl (rest := [(vI 0), (vR b2), (vI 2), (vR a1)]) rfl rfl rfl rfl (hb hby d28_24) (by decide)
  obtain ⟨T5, h5, L'5, X5, e5, N5, Kq5, V5, st5⟩ := cpA X4 hx hZ hown (hw _ m130) (hw _ m133) (hw _ m131) (hw _ m132) e4 f3 V2 (us := [(vI p4)]) (Or.inl ⟨rfl, rfl⟩) (by decide) (by decide) (by decide) (by decide) (by decide) rfl (by decide) (Fr.app (Fr.app N0 N1q) N4q) (Nat.le_trans (own_old_le O0) g2) (g := (mkF m 27 #[sR a1, sI 2, sI 3, sI 1, sR b2] [(vI 1), (vI 0), (vR b2), (vI 2), (vR a1)])) rfl (by rw [hml]; rfl) rfl (hb hby d28_27) (by decide) (W := 0) (Nat.le_of_eq rfl) (by decide)
  have O5 : Old Z n0 h5 := O2.keep Kq5 (allS (Nat.le_trans (own_old_le O0) g2) all0)
  have K5 : Keep h0 h5 [] := K2.trans Kq5 (allS (Or.inr (Nat.le_trans (Keep.refl h0 []).1 g2)) all0)
  have V5' : Arv Z h5 b2 k2 .byte (1 : Int32) [(vI p4)] (vI 0) := V5
  refine own_end X5 hlk (v := some (vR b2)) (own_hv hret) (by decide) (by rw [e5]; exact ⟨b2, k2, rfl, N5, K5, (Nat.le_trans (Keep.refl h0 []).1 g2), V5'⟩) fun fs hr => ?_
  show St p e below s₁ (mkF m 0 #[sR a1, sI 2, sI 3, sU, sU] []) _
  refine wil X0 hx hby rfl d28_0 rfl ?_
  refine wil X0 hx hby rfl d28_1 rfl ?_
  refine st1 _ ?_
  refine wil X1 hx hby rfl d28_5 rfl ?_
  refine wil X1 hx hby rfl d28_6 rfl ?_
  refine Own.isub X1.here hx rfl (hb hby d28_7) rfl (by decide : ((3 : Int32) - (2 : Int32)) = (1 : Int32)) ?_
  refine wis X1 hx hby rfl d28_8 rfl (l' := #[sR a1, sI 2, sI 3, sI 1, sU]) rfl ?_
  refine wil X1 hx hby rfl d28_9 rfl ?_
  refine st2 _ ?_
  refine waS X2 hx hby rfl d28_12 rfl rfl (l' := #[sR a1, sI 2, sI 3, sI 1, sR b2]) rfl ?_
  refine wal X2 hx hby rfl d28_14 rfl rfl ?_
  refine wil X2 hx hby rfl d28_15 rfl ?_
  refine waL X2 hx hby rfl d28_16 rfl rfl ?_
  refine wic X2 hx hby rfl d28_18 ?_
  refine wal X2 hx hby rfl d28_19 rfl rfl ?_
  refine own_alen X2 hx hZ e2 f3 (g := (mkF m 20 #[sR a1, sI 2, sI 3, sI 1, sR b2] [(vR a1), (vI 0), (vR b2), (vI 2), (vR a1)])) rfl rfl (hb hby d28_20) ?_
  show St p e below T2 (mkF m 21 #[sR a1, sI 2, sI 3, sI 1, sR b2] [(vI 3), (vI 0), (vR b2), (vI 2), (vR a1)]) _
  refine wil X2 hx hby rfl d28_21 rfl ?_
  refine Own.isub X2.here hx rfl (hb hby d28_22) rfl (by decide : ((3 : Int32) - (2 : Int32)) = (1 : Int32)) ?_
  refine wil X2 hx hby rfl d28_23 rfl ?_
  refine st4 _ ?_
  refine st5 _ ?_
  refine waL X5 hx hby rfl d28_30 rfl rfl ?_
  exact retOut X5 hx hret rfl (Or.inr (Or.inr (Or.inr (Or.inr ⟨rfl, rfl, rfl⟩)))) (hb hby d28_32) hr
def Qrm96 (Z : State) (p4 : Int32) (h0 : Heap) (n0 : Nat) (v : Option Value) (h : Heap) (L : List Loc) : Prop := ∃ x0 : Addr, ∃ xk0 : ClassId, v = some (vR x0) ∧ Fr n0 L ∧ Keep h0 h [] ∧ h0.size ≤ x0 ∧ Arv Z h x0 xk0 .byte (1 : Int32) [(vI p4)] (vI 0)
theorem rm96 (cx : Cx Z a0 w0 w1) (a1 : Addr) (p2 : Int32) (p3 : Int32) (p4 : Int32) (ck5 : ClassId) (O0 : Old Z n0 h0) (PV1 : Arv Z h0 a1 ck5 .byte (3 : Int32) [(vI p2), (vI p3), (vI p4)] (vI 0)) : Ct l Z ⟨z7, z15, "([BII)[B"⟩ jdk_65_method_132_code 3 (some (.array .byte)) ⟨2, 1, 1, 34⟩ #[(vR a1), (vI 2), (vI 3)] h0 (Qrm96 Z p4 h0 n0) := by
  obtain ⟨hw, hj, hS⟩ := id cx
  refine own_bd (plainFor_of_name pn495) (fun m => ef189 m a1 2 3) fun p e s m below meth c s₁ hret hlk hZ hx hby hml hown hnm X0 e0 => ?_
  have N0 := Fr.nil n0
  obtain ⟨_, T1, L1, ⟨c1_0, k1_1, rfl, N1q, Kq1, lo1_0, q1_0⟩, X1, st1⟩ := cS X0 hx hZ (W := 0) hown (cw27 cx) (rm95 cx a1 p2 p3 p4 ck5 O0 PV1) e0 (g := (mkF m 13 #[sR a1, sI 2, sI 3] [(vI 3), (vI 2), (vR a1)])) rfl hml rfl (rest := []) rfl rfl rfl rfl (hb hby d27_13) (by decide)
  have N1 := Fr.app N0 N1q
  have O1 : Old Z n0 T1.heap := O0.keep Kq1 all0
  have K1 : Keep h0 T1.heap [] := (Keep.refl h0 []).trans Kq1 all0
  refine own_end X1 hlk (v := some (vR c1_0)) (own_hv hret) (by decide) ⟨c1_0, k1_1, rfl, N1, K1, (Nat.le_trans (Keep.refl h0 []).1 lo1_0), q1_0⟩ fun fs hr => ?_
  show St p e below s₁ (mkF m 0 #[sR a1, sI 2, sI 3] []) _
  refine wil X0 hx hby rfl d27_0 rfl ?_
  refine wfy X0 hx hby rfl (pc0 := 1) (pc' := 10) rfl d27_1 rfl ((if0 _ _).trans (feq (by decide : ¬ ((2 : Int32) = (0 : Int32)))).2) (by decide) (by decide) ?_
  refine wal X0 hx hby rfl d27_10 rfl rfl ?_
  refine wil X0 hx hby rfl d27_11 rfl ?_
  refine wil X0 hx hby rfl d27_12 rfl ?_
  refine st1 _ ?_
  exact retOut X1 hx hret rfl (Or.inr (Or.inr (Or.inr (Or.inr ⟨rfl, rfl, rfl⟩)))) (hb hby d27_16) hr
def Qrm97 (Z : State) (p4 : Int32) (h0 : Heap) (n0 : Nat) (v : Option Value) (h : Heap) (L : List Loc) : Prop := ∃ x0 : Addr, ∃ x1 : Addr, ∃ xk0 : ClassId, v = some (vR x0) ∧ Fr n0 L ∧ Keep h0 h [] ∧ h0.size ≤ x0 ∧ x0 < x1 ∧ Exa Z h x0 z0 ∧ Fld Z h x0 z0 "value" "[B" (vR x1) ∧ Fld Z h x0 z0 "coder" "B" (vI 0) ∧ Arv Z h x1 xk0 .byte (1 : Int32) [(vI p4)] (vI 0)
theorem rm97 (cx : Cx Z a0 w0 w1) (a1 : Addr) (p2 : Int32) (p3 : Int32) (p4 : Int32) (ck5 : ClassId) (O0 : Old Z n0 h0) (PV1 : Arv Z h0 a1 ck5 .byte (3 : Int32) [(vI p2), (vI p3), (vI p4)] (vI 0)) : Ct l Z ⟨z2, "newString", z11⟩ jdk_43_method_47_code 3 (some (.object z0)) ⟨3, 2, 5, 50⟩ #[(vR a1), (vI 2), (vI 1)] h0 (Qrm97 Z p4 h0 n0) := by
  obtain ⟨hw, hj, hS⟩ := id cx
  refine own_bd (plainFor_of_name pn154) (fun m => ef189 m a1 2 1) fun p e s m below meth c s₁ hret hlk hZ hx hby hml hown hnm X0 e0 => ?_
  have N0 := Fr.nil n0
  obtain ⟨T1, h1, b1, X1, e1, E1, A1, D1, g1, O1, K1, st1⟩ := own_newO X0 hx hZ hown (hw _ m118) (hw _ m10) (hw _ m11) e0 O0 (Keep.refl h0 []) (g := (mkF m 7 #[sR a1, sI 2, sI 1] [])) rfl (hb hby d26_7) (by decide) (by decide)
  have F1_1 : Fld Z h1 b1 z0 "value" "[B" .null := D1 (Or.inr (hw _ m24)) (ty := (.array .byte)) (by decide)
  have F1_2 : Fld Z h1 b1 z0 "coder" "B" (vI 0) := D1 (Or.inr (hw _ m25)) (ty := .byte) (by decide)
  have f3 : Arv Z h1 a1 ck5 .byte (3 : Int32) [(vI p2), (vI p3), (vI p4)] (vI 0) := (PV1.ext E1)
  obtain ⟨_, T2, L2, ⟨c2_0, k2_1, rfl, N2q, Kq2, lo2_0, q2_0⟩, X2, st2⟩ := cS X1 hx hZ (W := 2) hown (cw28 cx) (rm96 cx a1 p2 p3 p4 ck5 O1 f3) e1 (g := (mkF m 16 #[sR a1, sI 2, sI 1] [(vI 3), (vI 2), (vR a1), (vR b1), (vR b1)])) rfl hml rfl (rest := [(vR b1), (vR b1)]) rfl rfl rfl rfl (hb hby d26_16) (by decide)
  have N2 := Fr.app N0 N2q
  have O2 : Old Z n0 T2.heap := O1.keep Kq2 all0
  have K2 : Keep h0 T2.heap [] := K1.trans Kq2 all0
  have f5 : Exa Z T2.heap b1 z0 := (A1.keep Kq2)
  have f6 : Fld Z T2.heap b1 z0 "value" "[B" .null := (F1_1.keep Kq2 nin0)
  have f7 : Fld Z T2.heap b1 z0 "coder" "B" (vI 0) := (F1_2.keep Kq2 nin0)
  obtain ⟨_, T4, L4, ⟨rfl, N4q, Kq4, q4_0, q4_1⟩, X4, st4⟩ := cI X2 hx hZ (W := 1) hown (cw29 cx) (rm63 cx b1 c2_0 O2 f5 f6 f7 (Nat.le_trans (own_old_le O0) g1)) (rfl : T2.heap = T2.heap) (g := (mkF m 20 #[sR a1, sI 2, sI 1] [(vI 0), (vR c2_0), (vR b1), (vR b1)])) rfl hml rfl (rest := [(vR b1)]) rfl rfl rfl rfl (hb hby d26_20) (by decide)
  have N4 := Fr.app N2 N4q
  have O4 : Old Z n0 T4.heap := O2.keep Kq4 (allS (Nat.le_trans (own_old_le O0) g1) all0)
  have K4 : Keep h0 T4.heap [] := K2.trans Kq4 (allS (Or.inr (Nat.le_trans (Keep.refl h0 []).1 g1)) all0)
  have f8 : Exa Z T4.heap b1 z0 := (f5.keep Kq4)
  have f9 : Arv Z T4.heap c2_0 k2_1 .byte (1 : Int32) [(vI p4)] (vI 0) := (q2_0.keep Kq4 (ninS (Ne.symm (Nat.ne_of_lt (Nat.lt_of_lt_of_le A1.lt lo2_0))) nin0))
  refine own_end X4 hlk (v := some (vR b1)) (own_hv hret) (by decide) ⟨b1, c2_0, k2_1, rfl, N4, K4, (Nat.le_trans (Keep.refl h0 []).1 g1), (Nat.lt_of_lt_of_le A1.lt lo2_0), f8, q4_0, q4_1, f9⟩ fun fs hr => ?_
  show St p e below s₁ (mkF m 0 #[sR a1, sI 2, sI 1] []) _
  refine wil X0 hx hby rfl d26_0 rfl ?_
  refine wfy X0 hx hby rfl (pc0 := 1) (pc' := 7) rfl d26_1 rfl ((if0 _ _).trans (feq (by decide : ¬ ((1 : Int32) = (0 : Int32)))).2) (by decide) (by decide) ?_
  refine st1 _ ?_
  refine wdu X1 hx hby rfl d26_10 rfl rfl ?_
  refine wal X1 hx hby rfl d26_11 rfl rfl ?_
  refine wil X1 hx hby rfl d26_12 rfl ?_
  refine wil X1 hx hby rfl d26_13 rfl ?_
  refine wil X1 hx hby rfl d26_14 rfl ?_
  refine Own.iadd X1.here hx rfl (hb hby d26_15) rfl (by decide : ((2 : Int32) + (1 : Int32)) = (3 : Int32)) ?_
  refine st2 _ ?_
  refine wic X2 hx hby rfl d26_19 ?_
  refine st4 _ ?_
  exact retOut X4 hx hret rfl (Or.inr (Or.inr (Or.inr (Or.inr ⟨rfl, rfl, rfl⟩)))) (hb hby d26_23) hr
def Qrm98 (Z : State) (p4 : Int32) (h0 : Heap) (n0 : Nat) (v : Option Value) (h : Heap) (L : List Loc) : Prop := ∃ x0 : Addr, ∃ x1 : Addr, ∃ xk0 : ClassId, v = some (vR x0) ∧ Fr n0 L ∧ Keep h0 h [] ∧ h0.size ≤ x0 ∧ x0 < x1 ∧ Exa Z h x0 z0 ∧ Fld Z h x0 z0 "value" "[B" (vR x1) ∧ Fld Z h x0 z0 "coder" "B" (vI 0) ∧ Arv Z h x1 xk0 .byte (1 : Int32) [(vI p4)] (vI 0)
theorem rm98 (cx : Cx Z a0 w0 w1) (a1 : Addr) (p2 : Int32) (p3 : Int32) (p4 : Int32) (a5 : Addr) (ck6 : ClassId) (O0 : Old Z n0 h0) (PF1 : Fld Z h0 a1 z0 "value" "[B" (vR a5)) (PV2 : Arv Z h0 a5 ck6 .byte (3 : Int32) [(vI p2), (vI p3), (vI p4)] (vI 0)) (PF3 : Fld Z h0 a1 z0 "coder" "B" (vI 0)) (PE4 : Exa Z h0 a1 z0) : Ct l Z ⟨z0, "substring", z8⟩ jdk_42_method_92_code 5 (some (.object z0)) ⟨4, 2, 5, 64⟩ #[(vR a1), (vI 2), (vI 3)] h0 (Qrm98 Z p4 h0 n0) := by
  obtain ⟨hw, hj, hS⟩ := id cx
  refine own_bd (plainFor_of_name pn63) (fun m => ef255 m a1 2 3) fun p e s m below meth c s₁ hret hlk hZ hx hby hml hown hnm X0 e0 => ?_
  have N0 := Fr.nil n0
  obtain ⟨_, T1, L1, ⟨rfl, N1q, e1⟩, X1, st1⟩ := cV X0 hx hZ (W := 0) hown (cw4 cx) (rm84 cx a1 a5 p2 p3 p4 ck6 O0 PF1 PV2 PF3 PE4) e0 PE4 (g := (mkF m 1 #[sR a1, sI 2, sI 3, sU, sU] [(vR a1)])) rfl hml rfl (rest := []) rfl rfl rfl rfl (hb hby d16_1) (by decide)
  obtain ⟨_, T2, L2, ⟨rfl, N2q, e2⟩, X2, st2⟩ := cS X1 hx hZ (W := 0) hown (cw12 cx) (rm35 cx 2 3 O0 (by decide : ¬ ((2 : Int32) < (0 : Int32))) (by decide : ¬ ((3 : Int32) < (2 : Int32)))) e1 (g := (mkF m 8 #[sR a1, sI 2, sI 3, sI 3, sU] [(vI 3), (vI 3), (vI 2)])) rfl hml rfl (rest := []) rfl rfl rfl rfl (hb hby d16_8) (by decide)
  obtain ⟨_, T3, L3, ⟨rfl, N3q, e3⟩, X3, st3⟩ := cV X2 hx hZ (W := 0) hown (cw5 cx) (rm6 cx a1 O0 PF3) e2 PE4 (g := (mkF m 28 #[sR a1, sI 2, sI 3, sI 3, sI 1] [(vR a1)])) rfl hml rfl (rest := []) rfl rfl rfl rfl (hb hby d16_28) (by decide)
  obtain ⟨T4, X4, e4, st4⟩ := getF X3 hx hZ hown (host := "") (Or.inl (hw _ m28)) Via.refl e3 PF1 (g := (mkF m 35 #[sR a1, sI 2, sI 3, sI 3, sI 1] [(vR a1)])) rfl rfl (hb hby d16_35)
  obtain ⟨_, T5, L5, ⟨c5_0, c5_1, k5_2, rfl, N5q, Kq5, lo5_0, lo5_1, q5_0, q5_1, q5_2, q5_3⟩, X5, st5⟩ := cS X4 hx hZ (W := 0) hown (cw20 cx) (rm97 cx a5 p2 p3 p4 ck6 O0 PV2) e4 (g := (mkF m 41 #[sR a1, sI 2, sI 3, sI 3, sI 1] [(vI 1), (vI 2), (vR a5)])) rfl hml rfl (rest := []) rfl rfl rfl rfl (hb hby d16_41) (by decide)
  have N5 := Fr.app (Fr.app (Fr.app (Fr.app N0 N1q) N2q) N3q) N5q
  have O5 : Old Z n0 T5.heap := O0.keep Kq5 all0
  have K5 : Keep h0 T5.heap [] := (Keep.refl h0 []).trans Kq5 all0
  refine own_end X5 hlk (v := some (vR c5_0)) (own_hv hret) (by decide) ⟨c5_0, c5_1, k5_2, rfl, N5, K5, (Nat.le_trans (Keep.refl h0 []).1 lo5_0), lo5_1, q5_0, q5_1, q5_2, q5_3⟩ fun fs hr => ?_
  show St p e below s₁ (mkF m 0 #[sR a1, sI 2, sI 3, sU, sU] []) _
  refine wal X0 hx hby rfl d16_0 rfl rfl ?_
  refine st1 _ ?_
  refine wis X1 hx hby rfl d16_4 rfl (l' := #[sR a1, sI 2, sI 3, sI 3, sU]) rfl ?_
  refine wil X1 hx hby rfl d16_5 rfl ?_
  refine wil X1 hx hby rfl d16_6 rfl ?_
  refine wil X1 hx hby rfl d16_7 rfl ?_
  refine st2 _ ?_
  refine wil X2 hx hby rfl d16_11 rfl ?_
  refine wfy X2 hx hby rfl (pc0 := 12) (pc' := 22) rfl d16_12 rfl ((if0 _ _).trans (feq (by decide : ¬ ((2 : Int32) = (0 : Int32)))).2) (by decide) (by decide) ?_
  refine wil X2 hx hby rfl d16_22 rfl ?_
  refine wil X2 hx hby rfl d16_23 rfl ?_
  refine Own.isub X2.here hx rfl (hb hby d16_24) rfl (by decide : ((3 : Int32) - (2 : Int32)) = (1 : Int32)) ?_
  refine wiS X2 hx hby rfl d16_25 rfl (l' := #[sR a1, sI 2, sI 3, sI 3, sI 1]) rfl ?_
  refine wal X2 hx hby rfl d16_27 rfl rfl ?_
  refine st3 _ ?_
  refine wfn X3 hx hby rfl d16_31 rfl ((if0 _ _).trans (feq (by decide : ¬ ((1 : Int32) = (0 : Int32)))).1) ?_
  show St p e below T3 (mkF m 34 #[sR a1, sI 2, sI 3, sI 3, sI 1] []) _
  refine wal X3 hx hby rfl d16_34 rfl rfl ?_
  refine st4 _ ?_
  refine wil X4 hx hby rfl d16_38 rfl ?_
  refine wiL X4 hx hby rfl d16_39 rfl ?_
  refine st5 _ ?_
  refine wgt X5 hx hby rfl (pc0 := 44) (pc' := 57) rfl d16_44 (by decide) (by decide) ?_
  exact retOut X5 hx hret rfl (Or.inr (Or.inr (Or.inr (Or.inr ⟨rfl, rfl, rfl⟩)))) (hb hby d16_57) hr
def Qrm99 (Z : State) (p4 : Int32) (h0 : Heap) (n0 : Nat) (v : Option Value) (h : Heap) (L : List Loc) : Prop := ∃ x0 : Addr, ∃ x1 : Addr, ∃ xk0 : ClassId, v = some (vR x0) ∧ Fr n0 L ∧ Keep h0 h [] ∧ h0.size ≤ x0 ∧ x0 < x1 ∧ Exa Z h x0 z0 ∧ Fld Z h x0 z0 "value" "[B" (vR x1) ∧ Fld Z h x0 z0 "coder" "B" (vI 0) ∧ Arv Z h x1 xk0 .byte (1 : Int32) [(vI p4)] (vI 0)
theorem rm99 (cx : Cx Z a0 w0 w1) (a1 : Addr) (p2 : Int32) (p3 : Int32) (p4 : Int32) (a5 : Addr) (ck6 : ClassId) (O0 : Old Z n0 h0) (PF1 : Fld Z h0 a1 z0 "value" "[B" (vR a5)) (PV2 : Arv Z h0 a5 ck6 .byte (3 : Int32) [(vI p2), (vI p3), (vI p4)] (vI 0)) (PF3 : Fld Z h0 a1 z0 "coder" "B" (vI 0)) (PE4 : Exa Z h0 a1 z0) : Ct l Z ⟨z0, "substring", z9⟩ jdk_42_method_91_code 2 (some (.object z0)) ⟨5, 2, 5, 80⟩ #[(vR a1), (vI 2)] h0 (Qrm99 Z p4 h0 n0) := by
  obtain ⟨hw, hj, hS⟩ := id cx
  refine own_bd (plainFor_of_name pn63) (fun m => ef194 m a1 2) fun p e s m below meth c s₁ hret hlk hZ hx hby hml hown hnm X0 e0 => ?_
  have N0 := Fr.nil n0
  obtain ⟨_, T1, L1, ⟨rfl, N1q, e1⟩, X1, st1⟩ := cV X0 hx hZ (W := 2) hown (cw4 cx) (rm84 cx a1 a5 p2 p3 p4 ck6 O0 PF1 PV2 PF3 PE4) e0 PE4 (g := (mkF m 3 #[sR a1, sI 2] [(vR a1), (vI 2), (vR a1)])) rfl hml rfl (rest := [(vI 2), (vR a1)]) rfl rfl rfl rfl (hb hby d15_3) (by decide)
  obtain ⟨_, T2, L2, ⟨c2_0, c2_1, k2_2, rfl, N2q, Kq2, lo2_0, lo2_1, q2_0, q2_1, q2_2, q2_3⟩, X2, st2⟩ := cV X1 hx hZ (W := 0) hown (cw13 cx) (rm98 cx a1 p2 p3 p4 a5 ck6 O0 PF1 PV2 PF3 PE4) e1 PE4 (g := (mkF m 6 #[sR a1, sI 2] [(vI 3), (vI 2), (vR a1)])) rfl hml rfl (rest := []) rfl rfl rfl rfl (hb hby d15_6) (by decide)
  have N2 := Fr.app (Fr.app N0 N1q) N2q
  have O2 : Old Z n0 T2.heap := O0.keep Kq2 all0
  have K2 : Keep h0 T2.heap [] := (Keep.refl h0 []).trans Kq2 all0
  refine own_end X2 hlk (v := some (vR c2_0)) (own_hv hret) (by decide) ⟨c2_0, c2_1, k2_2, rfl, N2, K2, (Nat.le_trans (Keep.refl h0 []).1 lo2_0), lo2_1, q2_0, q2_1, q2_2, q2_3⟩ fun fs hr => ?_
  show St p e below s₁ (mkF m 0 #[sR a1, sI 2] []) _
  refine wal X0 hx hby rfl d15_0 rfl rfl ?_
  refine wil X0 hx hby rfl d15_1 rfl ?_
  refine wal X0 hx hby rfl d15_2 rfl rfl ?_
  refine st1 _ ?_
  refine st2 _ ?_
  exact retOut X2 hx hret rfl (Or.inr (Or.inr (Or.inr (Or.inr ⟨rfl, rfl, rfl⟩)))) (hb hby d15_9) hr
def Qrm100 (Z : State) (p4 : Int32) (h0 : Heap) (n0 : Nat) (v : Option Value) (h : Heap) (L : List Loc) : Prop := ∃ x0 : Addr, ∃ x1 : Addr, ∃ xk0 : ClassId, v = some (vR x0) ∧ Fr n0 L ∧ Keep h0 h [] ∧ h0.size ≤ x0 ∧ x0 < x1 ∧ Exa Z h x0 z0 ∧ Fld Z h x0 z0 "value" "[B" (vR x1) ∧ Fld Z h x0 z0 "coder" "B" (vI 0) ∧ Arv Z h x1 xk0 .byte (1 : Int32) [(vI p4)] (vI 0)
theorem rm100 (cx : Cx Z a0 w0 w1) (a1 : Addr) (p2 : Int32) (p3 : Int32) (p4 : Int32) (a5 : Addr) (ck6 : ClassId) (O0 : Old Z n0 h0) (PF1 : Fld Z h0 a1 z0 "value" "[B" (vR a5)) (PV2 : Arv Z h0 a5 ck6 .byte (3 : Int32) [(vI p2), (vI p3), (vI p4)] (vI 0)) (PF3 : Fld Z h0 a1 z0 "coder" "B" (vI 0)) (PE4 : Exa Z h0 a1 z0) (hc5 : ¬ (p4 = (58 : Int32))) (hc6 : p3 = (58 : Int32)) : Ct l Z ⟨z3, "localPart", z5⟩ prog_13_method_17_code 1 (some (.object z0)) ⟨6, 2, 5, 93⟩ #[(vR a1)] h0 (Qrm100 Z p4 h0 n0) := by
  obtain ⟨hw, hj, hS⟩ := id cx
  refine own_bd (plainFor_of_name pn266) (fun m => ef104 m a1) fun p e s m below meth c s₁ hret hlk hZ hx hby hml hown hnm X0 e0 => ?_
  have N0 := Fr.nil n0
  obtain ⟨_, T1, L1, ⟨rfl, N1q, e1⟩, X1, st1⟩ := cV X0 hx hZ (W := 1) hown (cw10 cx) (rm94 cx a1 p2 p3 p4 a5 ck6 O0 PF1 PV2 PF3 PE4 hc5 hc6) e0 PE4 (g := (mkF m 4 #[sR a1] [(vI 58), (vR a1), (vR a1)])) rfl hml rfl (rest := [(vR a1)]) rfl rfl rfl rfl (hb hby d6_4) (by decide)
  obtain ⟨_, T2, L2, ⟨c2_0, c2_1, k2_2, rfl, N2q, Kq2, lo2_0, lo2_1, q2_0, q2_1, q2_2, q2_3⟩, X2, st2⟩ := cV X1 hx hZ (W := 0) hown (cw14 cx) (rm99 cx a1 p2 p3 p4 a5 ck6 O0 PF1 PV2 PF3 PE4) e1 PE4 (g := (mkF m 9 #[sR a1] [(vI 2), (vR a1)])) rfl hml rfl (rest := []) rfl rfl rfl rfl (hb hby d6_9) (by decide)
  have N2 := Fr.app (Fr.app N0 N1q) N2q
  have O2 : Old Z n0 T2.heap := O0.keep Kq2 all0
  have K2 : Keep h0 T2.heap [] := (Keep.refl h0 []).trans Kq2 all0
  refine own_end X2 hlk (v := some (vR c2_0)) (own_hv hret) (by decide) ⟨c2_0, c2_1, k2_2, rfl, N2, K2, (Nat.le_trans (Keep.refl h0 []).1 lo2_0), lo2_1, q2_0, q2_1, q2_2, q2_3⟩ fun fs hr => ?_
  show St p e below s₁ (mkF m 0 #[sR a1] []) _
  refine wal X0 hx hby rfl d6_0 rfl rfl ?_
  refine wal X0 hx hby rfl d6_1 rfl rfl ?_
  refine wbp X0 hx hby rfl d6_2 ?_
  refine st1 _ ?_
  refine wic X1 hx hby rfl d6_7 ?_
  refine Own.iadd X1.here hx rfl (hb hby d6_8) rfl (by decide : ((1 : Int32) + (1 : Int32)) = (2 : Int32)) ?_
  refine st2 _ ?_
  exact retOut X2 hx hret rfl (Or.inr (Or.inr (Or.inr (Or.inr ⟨rfl, rfl, rfl⟩)))) (hb hby d6_12) hr
def Qrm101 (Z : State) (h0 : Heap) (n0 : Nat) (v : Option Value) (h : Heap) (L : List Loc) : Prop := v = some (vI 0) ∧ Fr n0 L ∧ h = h0
theorem rm101 (cx : Cx Z a0 w0 w1) (a1 : Addr) (p2 : Int32) (p3 : Int32) (p4 : Int32) (ck5 : ClassId) (O0 : Old Z n0 h0) (PV1 : Arv Z h0 a1 ck5 .byte (3 : Int32) [(vI p2), (vI p3), (vI p4)] (vI 0)) (hc2 : ¬ (p4 = (58 : Int32))) (hc3 : ¬ (p3 = (58 : Int32))) (hc4 : p2 = (58 : Int32)) : Ct l Z ⟨z2, z4, "([BII)I"⟩ jdk_43_method_27_code 4 (some .int) ⟨1, 0, 0, 13⟩ #[(vR a1), (vI 58), (vI 2)] h0 (Qrm101 Z h0 n0) := by
  obtain ⟨hw, hj, hS⟩ := id cx
  refine own_bd (plainFor_of_name pn154) (fun m => ef183 m a1 58 2) fun p e s m below meth c s₁ hret hlk hZ hx hby hml hown hnm X0 e0 => ?_
  have N0 := Fr.nil n0
  obtain ⟨_, T1, L1, ⟨rfl, N1q, e1⟩, X1, st1⟩ := cS X0 hx hZ (W := 0) hown (cw6 cx) (rm7 cx 58 O0 (by decide : ¬ ((58 : Int32) < (0 : Int32))) (by decide : ¬ ((255 : Int32) < (58 : Int32)))) e0 (g := (mkF m 1 #[sR a1, sI 58, sI 2, sU] [(vI 58)])) rfl hml rfl (rest := []) rfl rfl rfl rfl (hb hby d12_1) (by decide)
  obtain ⟨_, T2, L2, ⟨rfl, N2q, e2⟩, X2, st2⟩ := cS X1 hx hZ (W := 0) hown (cw7 cx) (rm8 cx 2 O0) e1 (g := (mkF m 14 #[sR a1, sI 58, sI 2, sU] [(vI 2), (vI 2)])) rfl hml rfl (rest := []) rfl rfl rfl rfl (hb hby d12_14) (by decide)
  refine own_end X2 hlk (v := some (vI 0)) (own_hv hret) (by decide) (by rw [e2]; exact ⟨rfl, (Fr.app (Fr.app N0 N1q) N2q), rfl⟩) fun fs hr => ?_
  show St p e below s₁ (mkF m 0 #[sR a1, sI 58, sI 2, sU] []) _
  refine wil X0 hx hby rfl d12_0 rfl ?_
  refine st1 _ ?_
  refine wfy X1 hx hby rfl (pc0 := 4) (pc' := 9) rfl d12_4 rfl ((if0 _ _).trans (feq (by decide : ¬ ((1 : Int32) = (0 : Int32)))).2) (by decide) (by decide) ?_
  refine wil X1 hx hby rfl d12_9 rfl ?_
  refine wal X1 hx hby rfl d12_10 rfl rfl ?_
  refine own_alen X1 hx hZ e1 PV1 (g := (mkF m 11 #[sR a1, sI 58, sI 2, sU] [(vR a1), (vI 2)])) rfl rfl (hb hby d12_11) ?_
  refine wic X1 hx hby rfl d12_12 ?_
  refine Own.isub X1.here hx rfl (hb hby d12_13) rfl (by decide : ((3 : Int32) - (1 : Int32)) = (2 : Int32)) ?_
  refine st2 _ ?_
  refine wis X2 hx hby rfl d12_17 rfl (l' := #[sR a1, sI 58, sI 2, sI 2]) rfl ?_
  refine wil X2 hx hby rfl d12_18 rfl ?_
  refine wfn X2 hx hby rfl d12_19 rfl ((if0 _ _).trans (flt (by decide : ¬ ((2 : Int32) < (0 : Int32)))).1) ?_
  refine wal X2 hx hby rfl d12_22 rfl rfl ?_
  refine wil X2 hx hby rfl d12_23 rfl ?_
  refine own_baloadB X2 hx hZ e2 PV1 (j := 2) (by decide) (v := (vI p4)) rfl (g := (mkF m 24 #[sR a1, sI 58, sI 2, sI 2] [(vI 2), (vR a1)])) rfl rfl (hb hby d12_24) ?_
  refine wil X2 hx hby rfl d12_25 rfl ?_
  show St p e below T2 (mkF m 26 #[sR a1, sI 58, sI 2, sI 2] [(vI 58), (vI p4)]) _
  refine Own.i2b X2.here hx rfl (hb hby d12_26) rfl (by decide : ((58 : Int32).toInt8.toInt32) = (58 : Int32)) ?_
  refine wcy X2 hx hby rfl (pc0 := 27) (pc' := 32) rfl d12_27 rfl (feq hc2).2 (by decide) (by decide) ?_
  refine Own.iinc X2.here hx rfl (hb hby d12_32) rfl (by decide : ((2 : Int32) + (-1 : Int32)) = (1 : Int32)) (l' := #[sR a1, sI 58, sI 2, sI 1]) rfl ?_
  refine wgt X2 hx hby rfl (pc0 := 35) (pc' := 18) rfl d12_35 (by decide) (by decide) ?_
  refine wil X2 hx hby rfl d12_18 rfl ?_
  refine wfn X2 hx hby rfl d12_19 rfl ((if0 _ _).trans (flt (by decide : ¬ ((1 : Int32) < (0 : Int32)))).1) ?_
  refine wal X2 hx hby rfl d12_22 rfl rfl ?_
  refine wil X2 hx hby rfl d12_23 rfl ?_
  refine own_baloadB X2 hx hZ e2 PV1 (j := 1) (by decide) (v := (vI p3)) rfl (g := (mkF m 24 #[sR a1, sI 58, sI 2, sI 1] [(vI 1), (vR a1)])) rfl rfl (hb hby d12_24) ?_
  refine wil X2 hx hby rfl d12_25 rfl ?_
  refine Own.i2b X2.here hx rfl (hb hby d12_26) rfl (by decide : ((58 : Int32).toInt8.toInt32) = (58 : Int32)) ?_
  refine wcy X2 hx hby rfl (pc0 := 27) (pc' := 32) rfl d12_27 rfl (feq hc3).2 (by decide) (by decide) ?_
  refine Own.iinc X2.here hx rfl (hb hby d12_32) rfl (by decide : ((1 : Int32) + (-1 : Int32)) = (0 : Int32)) (l' := #[sR a1, sI 58, sI 2, sI 0]) rfl ?_
  refine wgt X2 hx hby rfl (pc0 := 35) (pc' := 18) rfl d12_35 (by decide) (by decide) ?_
  refine wil X2 hx hby rfl d12_18 rfl ?_
  refine wfn X2 hx hby rfl d12_19 rfl ((if0 _ _).trans (flt (by decide : ¬ ((0 : Int32) < (0 : Int32)))).1) ?_
  show St p e below T2 (mkF m 22 #[sR a1, sI 58, sI 2, sI 0] []) _
  refine wal X2 hx hby rfl d12_22 rfl rfl ?_
  refine wil X2 hx hby rfl d12_23 rfl ?_
  refine own_baloadB X2 hx hZ e2 PV1 (j := 0) (by decide) (v := (vI p2)) rfl (g := (mkF m 24 #[sR a1, sI 58, sI 2, sI 0] [(vI 0), (vR a1)])) rfl rfl (hb hby d12_24) ?_
  refine wil X2 hx hby rfl d12_25 rfl ?_
  refine Own.i2b X2.here hx rfl (hb hby d12_26) rfl (by decide : ((58 : Int32).toInt8.toInt32) = (58 : Int32)) ?_
  refine wcn X2 hx hby rfl d12_27 rfl (teq hc4).2 ?_
  refine wil X2 hx hby rfl d12_30 rfl ?_
  exact retOut X2 hx hret rfl (Or.inl ⟨rfl, Or.inl rfl, _, rfl⟩) (hb hby d12_31) hr
def Qrm102 (Z : State) (h0 : Heap) (n0 : Nat) (v : Option Value) (h : Heap) (L : List Loc) : Prop := v = some (vI 0) ∧ Fr n0 L ∧ h = h0
theorem rm102 (cx : Cx Z a0 w0 w1) (a1 : Addr) (a2 : Addr) (p3 : Int32) (p4 : Int32) (p5 : Int32) (ck6 : ClassId) (O0 : Old Z n0 h0) (PF1 : Fld Z h0 a1 z0 "coder" "B" (vI 0)) (PE2 : Exa Z h0 a1 z0) (PF3 : Fld Z h0 a1 z0 "value" "[B" (vR a2)) (PV4 : Arv Z h0 a2 ck6 .byte (3 : Int32) [(vI p3), (vI p4), (vI p5)] (vI 0)) (hc5 : ¬ (p5 = (58 : Int32))) (hc6 : ¬ (p4 = (58 : Int32))) (hc7 : p3 = (58 : Int32)) : Ct l Z ⟨z0, z4, "(II)I"⟩ jdk_42_method_83_code 3 (some .int) ⟨2, 0, 0, 28⟩ #[(vR a1), (vI 58), (vI 2)] h0 (Qrm102 Z h0 n0) := by
  obtain ⟨hw, hj, hS⟩ := id cx
  refine own_bd (plainFor_of_name pn63) (fun m => ef189 m a1 58 2) fun p e s m below meth c s₁ hret hlk hZ hx hby hml hown hnm X0 e0 => ?_
  have N0 := Fr.nil n0
  obtain ⟨_, T1, L1, ⟨rfl, N1q, e1⟩, X1, st1⟩ := cV X0 hx hZ (W := 0) hown (cw5 cx) (rm6 cx a1 O0 PF1) e0 PE2 (g := (mkF m 1 #[sR a1, sI 58, sI 2] [(vR a1)])) rfl hml rfl (rest := []) rfl rfl rfl rfl (hb hby d10_1) (by decide)
  obtain ⟨T2, X2, e2, st2⟩ := getF X1 hx hZ hown (host := "") (Or.inl (hw _ m28)) Via.refl e1 PF3 (g := (mkF m 8 #[sR a1, sI 58, sI 2] [(vR a1)])) rfl rfl (hb hby d10_8)
  obtain ⟨_, T3, L3, ⟨rfl, N3q, e3⟩, X3, st3⟩ := cS X2 hx hZ (W := 0) hown (cw8 cx) (rm101 cx a2 p3 p4 p5 ck6 O0 PV4 hc5 hc6 hc7) e2 (g := (mkF m 13 #[sR a1, sI 58, sI 2] [(vI 2), (vI 58), (vR a2)])) rfl hml rfl (rest := []) rfl rfl rfl rfl (hb hby d10_13) (by decide)
  refine own_end X3 hlk (v := some (vI 0)) (own_hv hret) (by decide) (by rw [e3]; exact ⟨rfl, (Fr.app (Fr.app N0 N1q) N3q), rfl⟩) fun fs hr => ?_
  show St p e below s₁ (mkF m 0 #[sR a1, sI 58, sI 2] []) _
  refine wal X0 hx hby rfl d10_0 rfl rfl ?_
  refine st1 _ ?_
  refine wfn X1 hx hby rfl d10_4 rfl ((if0 _ _).trans (feq (by decide : ¬ ((1 : Int32) = (0 : Int32)))).1) ?_
  refine wal X1 hx hby rfl d10_7 rfl rfl ?_
  refine st2 _ ?_
  refine wil X2 hx hby rfl d10_11 rfl ?_
  refine wil X2 hx hby rfl d10_12 rfl ?_
  refine st3 _ ?_
  refine wgt X3 hx hby rfl (pc0 := 16) (pc' := 28) rfl d10_16 (by decide) (by decide) ?_
  exact retOut X3 hx hret rfl (Or.inl ⟨rfl, Or.inl rfl, _, rfl⟩) (hb hby d10_28) hr
def Qrm103 (Z : State) (h0 : Heap) (n0 : Nat) (v : Option Value) (h : Heap) (L : List Loc) : Prop := v = some (vI 0) ∧ Fr n0 L ∧ h = h0
theorem rm103 (cx : Cx Z a0 w0 w1) (a1 : Addr) (p2 : Int32) (p3 : Int32) (p4 : Int32) (a5 : Addr) (ck6 : ClassId) (O0 : Old Z n0 h0) (PF1 : Fld Z h0 a1 z0 "value" "[B" (vR a5)) (PV2 : Arv Z h0 a5 ck6 .byte (3 : Int32) [(vI p2), (vI p3), (vI p4)] (vI 0)) (PF3 : Fld Z h0 a1 z0 "coder" "B" (vI 0)) (PE4 : Exa Z h0 a1 z0) (hc5 : ¬ (p4 = (58 : Int32))) (hc6 : ¬ (p3 = (58 : Int32))) (hc7 : p2 = (58 : Int32)) : Ct l Z ⟨z0, z4, "(I)I"⟩ jdk_42_method_82_code 2 (some .int) ⟨3, 0, 0, 42⟩ #[(vR a1), (vI 58)] h0 (Qrm103 Z h0 n0) := by
  obtain ⟨hw, hj, hS⟩ := id cx
  refine own_bd (plainFor_of_name pn63) (fun m => ef194 m a1 58) fun p e s m below meth c s₁ hret hlk hZ hx hby hml hown hnm X0 e0 => ?_
  have N0 := Fr.nil n0
  obtain ⟨_, T1, L1, ⟨rfl, N1q, e1⟩, X1, st1⟩ := cV X0 hx hZ (W := 2) hown (cw4 cx) (rm84 cx a1 a5 p2 p3 p4 ck6 O0 PF1 PV2 PF3 PE4) e0 PE4 (g := (mkF m 3 #[sR a1, sI 58] [(vR a1), (vI 58), (vR a1)])) rfl hml rfl (rest := [(vI 58), (vR a1)]) rfl rfl rfl rfl (hb hby d7_3) (by decide)
  obtain ⟨_, T2, L2, ⟨rfl, N2q, e2⟩, X2, st2⟩ := cV X1 hx hZ (W := 0) hown (cw9 cx) (rm102 cx a1 a5 p2 p3 p4 ck6 O0 PF3 PE4 PF1 PV2 hc5 hc6 hc7) e1 PE4 (g := (mkF m 8 #[sR a1, sI 58] [(vI 2), (vI 58), (vR a1)])) rfl hml rfl (rest := []) rfl rfl rfl rfl (hb hby d7_8) (by decide)
  refine own_end X2 hlk (v := some (vI 0)) (own_hv hret) (by decide) (by rw [e2]; exact ⟨rfl, (Fr.app (Fr.app N0 N1q) N2q), rfl⟩) fun fs hr => ?_
  show St p e below s₁ (mkF m 0 #[sR a1, sI 58] []) _
  refine wal X0 hx hby rfl d7_0 rfl rfl ?_
  refine wil X0 hx hby rfl d7_1 rfl ?_
  refine wal X0 hx hby rfl d7_2 rfl rfl ?_
  refine st1 _ ?_
  refine wic X1 hx hby rfl d7_6 ?_
  refine Own.isub X1.here hx rfl (hb hby d7_7) rfl (by decide : ((3 : Int32) - (1 : Int32)) = (2 : Int32)) ?_
  refine st2 _ ?_
  exact retOut X2 hx hret rfl (Or.inl ⟨rfl, Or.inl rfl, _, rfl⟩) (hb hby d7_11) hr
def Qrm104 (Z : State) (p3 : Int32) (p4 : Int32) (h0 : Heap) (n0 : Nat) (v : Option Value) (h : Heap) (L : List Loc) : Prop := ∃ x0 : Addr, ∃ xk0 : ClassId, v = some (vR x0) ∧ Fr n0 L ∧ Keep h0 h [] ∧ h0.size ≤ x0 ∧ Arv Z h x0 xk0 .byte (2 : Int32) [(vI p3), (vI p4)] (vI 0)
theorem rm104 (cx : Cx Z a0 w0 w1) (a1 : Addr) (p2 : Int32) (p3 : Int32) (p4 : Int32) (ck5 : ClassId) (O0 : Old Z n0 h0) (PV1 : Arv Z h0 a1 ck5 .byte (3 : Int32) [(vI p2), (vI p3), (vI p4)] (vI 0)) : Ct l Z ⟨z7, z14, "([BII)[B"⟩ jdk_65_method_133_code 5 (some (.array .byte)) ⟨1, 1, 2, 18⟩ #[(vR a1), (vI 1), (vI 3)] h0 (Qrm104 Z p3 p4 h0 n0) := by
  obtain ⟨hw, hj, hS⟩ := id cx
  refine own_bd (plainFor_of_name pn495) (fun m => ef255 m a1 1 3) fun p e s m below meth c s₁ hret hlk hZ hx hby hml hown hnm X0 e0 => ?_
  have N0 := Fr.nil n0
  obtain ⟨_, T1, L1, ⟨rfl, N1q, e1⟩, X1, st1⟩ := cS X0 hx hZ (W := 0) hown (cw25 cx) (rm60 cx 1 3 O0 (by decide : ¬ ((3 : Int32) < (1 : Int32)))) e0 (g := (mkF m 2 #[sR a1, sI 1, sI 3, sU, sU] [(vI 3), (vI 1)])) rfl hml rfl (rest := []) rfl rfl rfl rfl (hb hby d28_2) (by decide)
  obtain ⟨T2, h2, k2, b2, X2, e2, E2, V2, g2, O2, K2, st2⟩ := own_newP X1 hx hZ (aty := .byte) (ty := .byte) (dv := (.int (0 : Int32))) (vs := [(.int (0 : Int32)), (.int (0 : Int32))]) (cap := 2) rfl rfl rfl (hw _ m23) e1 O0 (Keep.refl h0 []) (g := (mkF m 10 #[sR a1, sI 1, sI 3, sI 2, sU] [(vI 2)])) rfl (hb hby d28_10) rfl (by decide) (by decide) (by decide) (by decide) (by decide)
  have f3 : Arv Z h2 a1 ck5 .byte (3 : Int32) [(vI p2), (vI p3), (vI p4)] (vI 0) := (PV1.ext E2)
  obtain ⟨_, T4, L4, ⟨rfl, N4q, e4⟩, X4, st4⟩ := cS X2 hx hZ (W := 4) hown (cw26 cx) (rm8 cx 2 O2) e2 (g := (mkF m 24 #[sR a1, sI 1, sI 3, sI 2, sR b2] [(vI 2), (vI 2), (vI 0), (vR b2), (vI 1), (vR a1)])) rfl hml rfl (rest := [(vI 0), (vR b2), (vI 1), (vR a1)]) rfl rfl rfl rfl (hb hby d28_24) (by decide)
  obtain ⟨T5, h5, L'5, X5, e5, N5, Kq5, V5, st5⟩ := cpA X4 hx hZ hown (hw _ m130) (hw _ m133) (hw _ m131) (hw _ m132) e4 f3 V2 (us := [(vI p3), (vI p4)]) (Or.inl ⟨rfl, rfl⟩) (by decide) (by decide) (by decide) (by decide) (by decide) rfl (by decide) (Fr.app (Fr.app N0 N1q) N4q) (Nat.le_trans (own_old_le O0) g2) (g := (mkF m 27 #[sR a1, sI 1, sI 3, sI 2, sR b2] [(vI 2), (vI 0), (vR b2), (vI 1), (vR a1)])) rfl (by rw [hml]; rfl) rfl (hb hby d28_27) (by decide) (W := 0) (Nat.le_of_eq rfl) (by decide)
  have O5 : Old Z n0 h5 := O2.keep Kq5 (allS (Nat.le_trans (own_old_le O0) g2) all0)
  have K5 : Keep h0 h5 [] := K2.trans Kq5 (allS (Or.inr (Nat.le_trans (Keep.refl h0 []).1 g2)) all0)
  have V5' : Arv Z h5 b2 k2 .byte (2 : Int32) [(vI p3), (vI p4)] (vI 0) := V5
  refine own_end X5 hlk (v := some (vR b2)) (own_hv hret) (by decide) (by rw [e5]; exact ⟨b2, k2, rfl, N5, K5, (Nat.le_trans (Keep.refl h0 []).1 g2), V5'⟩) fun fs hr => ?_
  show St p e below s₁ (mkF m 0 #[sR a1, sI 1, sI 3, sU, sU] []) _
  refine wil X0 hx hby rfl d28_0 rfl ?_
  refine wil X0 hx hby rfl d28_1 rfl ?_
  refine st1 _ ?_
  refine wil X1 hx hby rfl d28_5 rfl ?_
  refine wil X1 hx hby rfl d28_6 rfl ?_
  refine Own.isub X1.here hx rfl (hb hby d28_7) rfl (by decide : ((3 : Int32) - (1 : Int32)) = (2 : Int32)) ?_
  refine wis X1 hx hby rfl d28_8 rfl (l' := #[sR a1, sI 1, sI 3, sI 2, sU]) rfl ?_
  refine wil X1 hx hby rfl d28_9 rfl ?_
  refine st2 _ ?_
  refine waS X2 hx hby rfl d28_12 rfl rfl (l' := #[sR a1, sI 1, sI 3, sI 2, sR b2]) rfl ?_
  refine wal X2 hx hby rfl d28_14 rfl rfl ?_
  refine wil X2 hx hby rfl d28_15 rfl ?_
  refine waL X2 hx hby rfl d28_16 rfl rfl ?_
  refine wic X2 hx hby rfl d28_18 ?_
  refine wal X2 hx hby rfl d28_19 rfl rfl ?_
  refine own_alen X2 hx hZ e2 f3 (g := (mkF m 20 #[sR a1, sI 1, sI 3, sI 2, sR b2] [(vR a1), (vI 0), (vR b2), (vI 1), (vR a1)])) rfl rfl (hb hby d28_20) ?_
  show St p e below T2 (mkF m 21 #[sR a1, sI 1, sI 3, sI 2, sR b2] [(vI 3), (vI 0), (vR b2), (vI 1), (vR a1)]) _
  refine wil X2 hx hby rfl d28_21 rfl ?_
  refine Own.isub X2.here hx rfl (hb hby d28_22) rfl (by decide : ((3 : Int32) - (1 : Int32)) = (2 : Int32)) ?_
  refine wil X2 hx hby rfl d28_23 rfl ?_
  refine st4 _ ?_
  refine st5 _ ?_
  refine waL X5 hx hby rfl d28_30 rfl rfl ?_
  exact retOut X5 hx hret rfl (Or.inr (Or.inr (Or.inr (Or.inr ⟨rfl, rfl, rfl⟩)))) (hb hby d28_32) hr
def Qrm105 (Z : State) (p3 : Int32) (p4 : Int32) (h0 : Heap) (n0 : Nat) (v : Option Value) (h : Heap) (L : List Loc) : Prop := ∃ x0 : Addr, ∃ xk0 : ClassId, v = some (vR x0) ∧ Fr n0 L ∧ Keep h0 h [] ∧ h0.size ≤ x0 ∧ Arv Z h x0 xk0 .byte (2 : Int32) [(vI p3), (vI p4)] (vI 0)
theorem rm105 (cx : Cx Z a0 w0 w1) (a1 : Addr) (p2 : Int32) (p3 : Int32) (p4 : Int32) (ck5 : ClassId) (O0 : Old Z n0 h0) (PV1 : Arv Z h0 a1 ck5 .byte (3 : Int32) [(vI p2), (vI p3), (vI p4)] (vI 0)) : Ct l Z ⟨z7, z15, "([BII)[B"⟩ jdk_65_method_132_code 3 (some (.array .byte)) ⟨2, 1, 2, 34⟩ #[(vR a1), (vI 1), (vI 3)] h0 (Qrm105 Z p3 p4 h0 n0) := by
  obtain ⟨hw, hj, hS⟩ := id cx
  refine own_bd (plainFor_of_name pn495) (fun m => ef189 m a1 1 3) fun p e s m below meth c s₁ hret hlk hZ hx hby hml hown hnm X0 e0 => ?_
  have N0 := Fr.nil n0
  obtain ⟨_, T1, L1, ⟨c1_0, k1_1, rfl, N1q, Kq1, lo1_0, q1_0⟩, X1, st1⟩ := cS X0 hx hZ (W := 0) hown (cw27 cx) (rm104 cx a1 p2 p3 p4 ck5 O0 PV1) e0 (g := (mkF m 13 #[sR a1, sI 1, sI 3] [(vI 3), (vI 1), (vR a1)])) rfl hml rfl (rest := []) rfl rfl rfl rfl (hb hby d27_13) (by decide)
  have N1 := Fr.app N0 N1q
  have O1 : Old Z n0 T1.heap := O0.keep Kq1 all0
  have K1 : Keep h0 T1.heap [] := (Keep.refl h0 []).trans Kq1 all0
  refine own_end X1 hlk (v := some (vR c1_0)) (own_hv hret) (by decide) ⟨c1_0, k1_1, rfl, N1, K1, (Nat.le_trans (Keep.refl h0 []).1 lo1_0), q1_0⟩ fun fs hr => ?_
  show St p e below s₁ (mkF m 0 #[sR a1, sI 1, sI 3] []) _
  refine wil X0 hx hby rfl d27_0 rfl ?_
  refine wfy X0 hx hby rfl (pc0 := 1) (pc' := 10) rfl d27_1 rfl ((if0 _ _).trans (feq (by decide : ¬ ((1 : Int32) = (0 : Int32)))).2) (by decide) (by decide) ?_
  refine wal X0 hx hby rfl d27_10 rfl rfl ?_
  refine wil X0 hx hby rfl d27_11 rfl ?_
  refine wil X0 hx hby rfl d27_12 rfl ?_
  refine st1 _ ?_
  exact retOut X1 hx hret rfl (Or.inr (Or.inr (Or.inr (Or.inr ⟨rfl, rfl, rfl⟩)))) (hb hby d27_16) hr
def Qrm106 (Z : State) (p3 : Int32) (p4 : Int32) (h0 : Heap) (n0 : Nat) (v : Option Value) (h : Heap) (L : List Loc) : Prop := ∃ x0 : Addr, ∃ x1 : Addr, ∃ xk0 : ClassId, v = some (vR x0) ∧ Fr n0 L ∧ Keep h0 h [] ∧ h0.size ≤ x0 ∧ x0 < x1 ∧ Exa Z h x0 z0 ∧ Fld Z h x0 z0 "value" "[B" (vR x1) ∧ Fld Z h x0 z0 "coder" "B" (vI 0) ∧ Arv Z h x1 xk0 .byte (2 : Int32) [(vI p3), (vI p4)] (vI 0)
theorem rm106 (cx : Cx Z a0 w0 w1) (a1 : Addr) (p2 : Int32) (p3 : Int32) (p4 : Int32) (ck5 : ClassId) (O0 : Old Z n0 h0) (PV1 : Arv Z h0 a1 ck5 .byte (3 : Int32) [(vI p2), (vI p3), (vI p4)] (vI 0)) : Ct l Z ⟨z2, "newString", z11⟩ jdk_43_method_47_code 3 (some (.object z0)) ⟨3, 2, 6, 50⟩ #[(vR a1), (vI 1), (vI 2)] h0 (Qrm106 Z p3 p4 h0 n0) := by
  obtain ⟨hw, hj, hS⟩ := id cx
  refine own_bd (plainFor_of_name pn154) (fun m => ef189 m a1 1 2) fun p e s m below meth c s₁ hret hlk hZ hx hby hml hown hnm X0 e0 => ?_
  have N0 := Fr.nil n0
  obtain ⟨T1, h1, b1, X1, e1, E1, A1, D1, g1, O1, K1, st1⟩ := own_newO X0 hx hZ hown (hw _ m118) (hw _ m10) (hw _ m11) e0 O0 (Keep.refl h0 []) (g := (mkF m 7 #[sR a1, sI 1, sI 2] [])) rfl (hb hby d26_7) (by decide) (by decide)
  have F1_1 : Fld Z h1 b1 z0 "value" "[B" .null := D1 (Or.inr (hw _ m24)) (ty := (.array .byte)) (by decide)
  have F1_2 : Fld Z h1 b1 z0 "coder" "B" (vI 0) := D1 (Or.inr (hw _ m25)) (ty := .byte) (by decide)
  have f3 : Arv Z h1 a1 ck5 .byte (3 : Int32) [(vI p2), (vI p3), (vI p4)] (vI 0) := (PV1.ext E1)
  obtain ⟨_, T2, L2, ⟨c2_0, k2_1, rfl, N2q, Kq2, lo2_0, q2_0⟩, X2, st2⟩ := cS X1 hx hZ (W := 2) hown (cw28 cx) (rm105 cx a1 p2 p3 p4 ck5 O1 f3) e1 (g := (mkF m 16 #[sR a1, sI 1, sI 2] [(vI 3), (vI 1), (vR a1), (vR b1), (vR b1)])) rfl hml rfl (rest := [(vR b1), (vR b1)]) rfl rfl rfl rfl (hb hby d26_16) (by decide)
  have N2 := Fr.app N0 N2q
  have O2 : Old Z n0 T2.heap := O1.keep Kq2 all0
  have K2 : Keep h0 T2.heap [] := K1.trans Kq2 all0
  have f5 : Exa Z T2.heap b1 z0 := (A1.keep Kq2)
  have f6 : Fld Z T2.heap b1 z0 "value" "[B" .null := (F1_1.keep Kq2 nin0)
  have f7 : Fld Z T2.heap b1 z0 "coder" "B" (vI 0) := (F1_2.keep Kq2 nin0)
  obtain ⟨_, T4, L4, ⟨rfl, N4q, Kq4, q4_0, q4_1⟩, X4, st4⟩ := cI X2 hx hZ (W := 1) hown (cw29 cx) (rm63 cx b1 c2_0 O2 f5 f6 f7 (Nat.le_trans (own_old_le O0) g1)) (rfl : T2.heap = T2.heap) (g := (mkF m 20 #[sR a1, sI 1, sI 2] [(vI 0), (vR c2_0), (vR b1), (vR b1)])) rfl hml rfl (rest := [(vR b1)]) rfl rfl rfl rfl (hb hby d26_20) (by decide)
  have N4 := Fr.app N2 N4q
  have O4 : Old Z n0 T4.heap := O2.keep Kq4 (allS (Nat.le_trans (own_old_le O0) g1) all0)
  have K4 : Keep h0 T4.heap [] := K2.trans Kq4 (allS (Or.inr (Nat.le_trans (Keep.refl h0 []).1 g1)) all0)
  have f8 : Exa Z T4.heap b1 z0 := (f5.keep Kq4)
  have f9 : Arv Z T4.heap c2_0 k2_1 .byte (2 : Int32) [(vI p3), (vI p4)] (vI 0) := (q2_0.keep Kq4 (ninS (Ne.symm (Nat.ne_of_lt (Nat.lt_of_lt_of_le A1.lt lo2_0))) nin0))
  refine own_end X4 hlk (v := some (vR b1)) (own_hv hret) (by decide) ⟨b1, c2_0, k2_1, rfl, N4, K4, (Nat.le_trans (Keep.refl h0 []).1 g1), (Nat.lt_of_lt_of_le A1.lt lo2_0), f8, q4_0, q4_1, f9⟩ fun fs hr => ?_
  show St p e below s₁ (mkF m 0 #[sR a1, sI 1, sI 2] []) _
  refine wil X0 hx hby rfl d26_0 rfl ?_
  refine wfy X0 hx hby rfl (pc0 := 1) (pc' := 7) rfl d26_1 rfl ((if0 _ _).trans (feq (by decide : ¬ ((2 : Int32) = (0 : Int32)))).2) (by decide) (by decide) ?_
  refine st1 _ ?_
  refine wdu X1 hx hby rfl d26_10 rfl rfl ?_
  refine wal X1 hx hby rfl d26_11 rfl rfl ?_
  refine wil X1 hx hby rfl d26_12 rfl ?_
  refine wil X1 hx hby rfl d26_13 rfl ?_
  refine wil X1 hx hby rfl d26_14 rfl ?_
  refine Own.iadd X1.here hx rfl (hb hby d26_15) rfl (by decide : ((1 : Int32) + (2 : Int32)) = (3 : Int32)) ?_
  refine st2 _ ?_
  refine wic X2 hx hby rfl d26_19 ?_
  refine st4 _ ?_
  exact retOut X4 hx hret rfl (Or.inr (Or.inr (Or.inr (Or.inr ⟨rfl, rfl, rfl⟩)))) (hb hby d26_23) hr
def Qrm107 (Z : State) (p3 : Int32) (p4 : Int32) (h0 : Heap) (n0 : Nat) (v : Option Value) (h : Heap) (L : List Loc) : Prop := ∃ x0 : Addr, ∃ x1 : Addr, ∃ xk0 : ClassId, v = some (vR x0) ∧ Fr n0 L ∧ Keep h0 h [] ∧ h0.size ≤ x0 ∧ x0 < x1 ∧ Exa Z h x0 z0 ∧ Fld Z h x0 z0 "value" "[B" (vR x1) ∧ Fld Z h x0 z0 "coder" "B" (vI 0) ∧ Arv Z h x1 xk0 .byte (2 : Int32) [(vI p3), (vI p4)] (vI 0)
theorem rm107 (cx : Cx Z a0 w0 w1) (a1 : Addr) (p2 : Int32) (p3 : Int32) (p4 : Int32) (a5 : Addr) (ck6 : ClassId) (O0 : Old Z n0 h0) (PF1 : Fld Z h0 a1 z0 "value" "[B" (vR a5)) (PV2 : Arv Z h0 a5 ck6 .byte (3 : Int32) [(vI p2), (vI p3), (vI p4)] (vI 0)) (PF3 : Fld Z h0 a1 z0 "coder" "B" (vI 0)) (PE4 : Exa Z h0 a1 z0) : Ct l Z ⟨z0, "substring", z8⟩ jdk_42_method_92_code 5 (some (.object z0)) ⟨4, 2, 6, 64⟩ #[(vR a1), (vI 1), (vI 3)] h0 (Qrm107 Z p3 p4 h0 n0) := by
  obtain ⟨hw, hj, hS⟩ := id cx
  refine own_bd (plainFor_of_name pn63) (fun m => ef255 m a1 1 3) fun p e s m below meth c s₁ hret hlk hZ hx hby hml hown hnm X0 e0 => ?_
  have N0 := Fr.nil n0
  obtain ⟨_, T1, L1, ⟨rfl, N1q, e1⟩, X1, st1⟩ := cV X0 hx hZ (W := 0) hown (cw4 cx) (rm84 cx a1 a5 p2 p3 p4 ck6 O0 PF1 PV2 PF3 PE4) e0 PE4 (g := (mkF m 1 #[sR a1, sI 1, sI 3, sU, sU] [(vR a1)])) rfl hml rfl (rest := []) rfl rfl rfl rfl (hb hby d16_1) (by decide)
  obtain ⟨_, T2, L2, ⟨rfl, N2q, e2⟩, X2, st2⟩ := cS X1 hx hZ (W := 0) hown (cw12 cx) (rm35 cx 1 3 O0 (by decide : ¬ ((1 : Int32) < (0 : Int32))) (by decide : ¬ ((3 : Int32) < (1 : Int32)))) e1 (g := (mkF m 8 #[sR a1, sI 1, sI 3, sI 3, sU] [(vI 3), (vI 3), (vI 1)])) rfl hml rfl (rest := []) rfl rfl rfl rfl (hb hby d16_8) (by decide)
  obtain ⟨_, T3, L3, ⟨rfl, N3q, e3⟩, X3, st3⟩ := cV X2 hx hZ (W := 0) hown (cw5 cx) (rm6 cx a1 O0 PF3) e2 PE4 (g := (mkF m 28 #[sR a1, sI 1, sI 3, sI 3, sI 2] [(vR a1)])) rfl hml rfl (rest := []) rfl rfl rfl rfl (hb hby d16_28) (by decide)
  obtain ⟨T4, X4, e4, st4⟩ := getF X3 hx hZ hown (host := "") (Or.inl (hw _ m28)) Via.refl e3 PF1 (g := (mkF m 35 #[sR a1, sI 1, sI 3, sI 3, sI 2] [(vR a1)])) rfl rfl (hb hby d16_35)
  obtain ⟨_, T5, L5, ⟨c5_0, c5_1, k5_2, rfl, N5q, Kq5, lo5_0, lo5_1, q5_0, q5_1, q5_2, q5_3⟩, X5, st5⟩ := cS X4 hx hZ (W := 0) hown (cw20 cx) (rm106 cx a5 p2 p3 p4 ck6 O0 PV2) e4 (g := (mkF m 41 #[sR a1, sI 1, sI 3, sI 3, sI 2] [(vI 2), (vI 1), (vR a5)])) rfl hml rfl (rest := []) rfl rfl rfl rfl (hb hby d16_41) (by decide)
  have N5 := Fr.app (Fr.app (Fr.app (Fr.app N0 N1q) N2q) N3q) N5q
  have O5 : Old Z n0 T5.heap := O0.keep Kq5 all0
  have K5 : Keep h0 T5.heap [] := (Keep.refl h0 []).trans Kq5 all0
  refine own_end X5 hlk (v := some (vR c5_0)) (own_hv hret) (by decide) ⟨c5_0, c5_1, k5_2, rfl, N5, K5, (Nat.le_trans (Keep.refl h0 []).1 lo5_0), lo5_1, q5_0, q5_1, q5_2, q5_3⟩ fun fs hr => ?_
  show St p e below s₁ (mkF m 0 #[sR a1, sI 1, sI 3, sU, sU] []) _
  refine wal X0 hx hby rfl d16_0 rfl rfl ?_
  refine st1 _ ?_
  refine wis X1 hx hby rfl d16_4 rfl (l' := #[sR a1, sI 1, sI 3, sI 3, sU]) rfl ?_
  refine wil X1 hx hby rfl d16_5 rfl ?_
  refine wil X1 hx hby rfl d16_6 rfl ?_
  refine wil X1 hx hby rfl d16_7 rfl ?_
  refine st2 _ ?_
  refine wil X2 hx hby rfl d16_11 rfl ?_
  refine wfy X2 hx hby rfl (pc0 := 12) (pc' := 22) rfl d16_12 rfl ((if0 _ _).trans (feq (by decide : ¬ ((1 : Int32) = (0 : Int32)))).2) (by decide) (by decide) ?_
  refine wil X2 hx hby rfl d16_22 rfl ?_
  refine wil X2 hx hby rfl d16_23 rfl ?_
  refine Own.isub X2.here hx rfl (hb hby d16_24) rfl (by decide : ((3 : Int32) - (1 : Int32)) = (2 : Int32)) ?_
  refine wiS X2 hx hby rfl d16_25 rfl (l' := #[sR a1, sI 1, sI 3, sI 3, sI 2]) rfl ?_
  refine wal X2 hx hby rfl d16_27 rfl rfl ?_
  refine st3 _ ?_
  refine wfn X3 hx hby rfl d16_31 rfl ((if0 _ _).trans (feq (by decide : ¬ ((1 : Int32) = (0 : Int32)))).1) ?_
  show St p e below T3 (mkF m 34 #[sR a1, sI 1, sI 3, sI 3, sI 2] []) _
  refine wal X3 hx hby rfl d16_34 rfl rfl ?_
  refine st4 _ ?_
  refine wil X4 hx hby rfl d16_38 rfl ?_
  refine wiL X4 hx hby rfl d16_39 rfl ?_
  refine st5 _ ?_
  refine wgt X5 hx hby rfl (pc0 := 44) (pc' := 57) rfl d16_44 (by decide) (by decide) ?_
  exact retOut X5 hx hret rfl (Or.inr (Or.inr (Or.inr (Or.inr ⟨rfl, rfl, rfl⟩)))) (hb hby d16_57) hr
def Qrm108 (Z : State) (p3 : Int32) (p4 : Int32) (h0 : Heap) (n0 : Nat) (v : Option Value) (h : Heap) (L : List Loc) : Prop := ∃ x0 : Addr, ∃ x1 : Addr, ∃ xk0 : ClassId, v = some (vR x0) ∧ Fr n0 L ∧ Keep h0 h [] ∧ h0.size ≤ x0 ∧ x0 < x1 ∧ Exa Z h x0 z0 ∧ Fld Z h x0 z0 "value" "[B" (vR x1) ∧ Fld Z h x0 z0 "coder" "B" (vI 0) ∧ Arv Z h x1 xk0 .byte (2 : Int32) [(vI p3), (vI p4)] (vI 0)
theorem rm108 (cx : Cx Z a0 w0 w1) (a1 : Addr) (p2 : Int32) (p3 : Int32) (p4 : Int32) (a5 : Addr) (ck6 : ClassId) (O0 : Old Z n0 h0) (PF1 : Fld Z h0 a1 z0 "value" "[B" (vR a5)) (PV2 : Arv Z h0 a5 ck6 .byte (3 : Int32) [(vI p2), (vI p3), (vI p4)] (vI 0)) (PF3 : Fld Z h0 a1 z0 "coder" "B" (vI 0)) (PE4 : Exa Z h0 a1 z0) : Ct l Z ⟨z0, "substring", z9⟩ jdk_42_method_91_code 2 (some (.object z0)) ⟨5, 2, 6, 80⟩ #[(vR a1), (vI 1)] h0 (Qrm108 Z p3 p4 h0 n0) := by
  obtain ⟨hw, hj, hS⟩ := id cx
  refine own_bd (plainFor_of_name pn63) (fun m => ef194 m a1 1) fun p e s m below meth c s₁ hret hlk hZ hx hby hml hown hnm X0 e0 => ?_
  have N0 := Fr.nil n0
  obtain ⟨_, T1, L1, ⟨rfl, N1q, e1⟩, X1, st1⟩ := cV X0 hx hZ (W := 2) hown (cw4 cx) (rm84 cx a1 a5 p2 p3 p4 ck6 O0 PF1 PV2 PF3 PE4) e0 PE4 (g := (mkF m 3 #[sR a1, sI 1] [(vR a1), (vI 1), (vR a1)])) rfl hml rfl (rest := [(vI 1), (vR a1)]) rfl rfl rfl rfl (hb hby d15_3) (by decide)
  obtain ⟨_, T2, L2, ⟨c2_0, c2_1, k2_2, rfl, N2q, Kq2, lo2_0, lo2_1, q2_0, q2_1, q2_2, q2_3⟩, X2, st2⟩ := cV X1 hx hZ (W := 0) hown (cw13 cx) (rm107 cx a1 p2 p3 p4 a5 ck6 O0 PF1 PV2 PF3 PE4) e1 PE4 (g := (mkF m 6 #[sR a1, sI 1] [(vI 3), (vI 1), (vR a1)])) rfl hml rfl (rest := []) rfl rfl rfl rfl (hb hby d15_6) (by decide)
  have N2 := Fr.app (Fr.app N0 N1q) N2q
  have O2 : Old Z n0 T2.heap := O0.keep Kq2 all0
  have K2 : Keep h0 T2.heap [] := (Keep.refl h0 []).trans Kq2 all0
  refine own_end X2 hlk (v := some (vR c2_0)) (own_hv hret) (by decide) ⟨c2_0, c2_1, k2_2, rfl, N2, K2, (Nat.le_trans (Keep.refl h0 []).1 lo2_0), lo2_1, q2_0, q2_1, q2_2, q2_3⟩ fun fs hr => ?_
  show St p e below s₁ (mkF m 0 #[sR a1, sI 1] []) _
  refine wal X0 hx hby rfl d15_0 rfl rfl ?_
  refine wil X0 hx hby rfl d15_1 rfl ?_
  refine wal X0 hx hby rfl d15_2 rfl rfl ?_
  refine st1 _ ?_
  refine st2 _ ?_
  exact retOut X2 hx hret rfl (Or.inr (Or.inr (Or.inr (Or.inr ⟨rfl, rfl, rfl⟩)))) (hb hby d15_9) hr
def Qrm109 (Z : State) (p3 : Int32) (p4 : Int32) (h0 : Heap) (n0 : Nat) (v : Option Value) (h : Heap) (L : List Loc) : Prop := ∃ x0 : Addr, ∃ x1 : Addr, ∃ xk0 : ClassId, v = some (vR x0) ∧ Fr n0 L ∧ Keep h0 h [] ∧ h0.size ≤ x0 ∧ x0 < x1 ∧ Exa Z h x0 z0 ∧ Fld Z h x0 z0 "value" "[B" (vR x1) ∧ Fld Z h x0 z0 "coder" "B" (vI 0) ∧ Arv Z h x1 xk0 .byte (2 : Int32) [(vI p3), (vI p4)] (vI 0)
theorem rm109 (cx : Cx Z a0 w0 w1) (a1 : Addr) (p2 : Int32) (p3 : Int32) (p4 : Int32) (a5 : Addr) (ck6 : ClassId) (O0 : Old Z n0 h0) (PF1 : Fld Z h0 a1 z0 "value" "[B" (vR a5)) (PV2 : Arv Z h0 a5 ck6 .byte (3 : Int32) [(vI p2), (vI p3), (vI p4)] (vI 0)) (PF3 : Fld Z h0 a1 z0 "coder" "B" (vI 0)) (PE4 : Exa Z h0 a1 z0) (hc5 : ¬ (p4 = (58 : Int32))) (hc6 : ¬ (p3 = (58 : Int32))) (hc7 : p2 = (58 : Int32)) : Ct l Z ⟨z3, "localPart", z5⟩ prog_13_method_17_code 1 (some (.object z0)) ⟨6, 2, 6, 93⟩ #[(vR a1)] h0 (Qrm109 Z p3 p4 h0 n0) := by
  obtain ⟨hw, hj, hS⟩ := id cx
  refine own_bd (plainFor_of_name pn266) (fun m => ef104 m a1) fun p e s m below meth c s₁ hret hlk hZ hx hby hml hown hnm X0 e0 => ?_
  have N0 := Fr.nil n0
  obtain ⟨_, T1, L1, ⟨rfl, N1q, e1⟩, X1, st1⟩ := cV X0 hx hZ (W := 1) hown (cw10 cx) (rm103 cx a1 p2 p3 p4 a5 ck6 O0 PF1 PV2 PF3 PE4 hc5 hc6 hc7) e0 PE4 (g := (mkF m 4 #[sR a1] [(vI 58), (vR a1), (vR a1)])) rfl hml rfl (rest := [(vR a1)]) rfl rfl rfl rfl (hb hby d6_4) (by decide)
  obtain ⟨_, T2, L2, ⟨c2_0, c2_1, k2_2, rfl, N2q, Kq2, lo2_0, lo2_1, q2_0, q2_1, q2_2, q2_3⟩, X2, st2⟩ := cV X1 hx hZ (W := 0) hown (cw14 cx) (rm108 cx a1 p2 p3 p4 a5 ck6 O0 PF1 PV2 PF3 PE4) e1 PE4 (g := (mkF m 9 #[sR a1] [(vI 1), (vR a1)])) rfl hml rfl (rest := []) rfl rfl rfl rfl (hb hby d6_9) (by decide)
  have N2 := Fr.app (Fr.app N0 N1q) N2q
  have O2 : Old Z n0 T2.heap := O0.keep Kq2 all0
  have K2 : Keep h0 T2.heap [] := (Keep.refl h0 []).trans Kq2 all0
  refine own_end X2 hlk (v := some (vR c2_0)) (own_hv hret) (by decide) ⟨c2_0, c2_1, k2_2, rfl, N2, K2, (Nat.le_trans (Keep.refl h0 []).1 lo2_0), lo2_1, q2_0, q2_1, q2_2, q2_3⟩ fun fs hr => ?_
  show St p e below s₁ (mkF m 0 #[sR a1] []) _
  refine wal X0 hx hby rfl d6_0 rfl rfl ?_
  refine wal X0 hx hby rfl d6_1 rfl rfl ?_
  refine wbp X0 hx hby rfl d6_2 ?_
  refine st1 _ ?_
  refine wic X1 hx hby rfl d6_7 ?_
  refine Own.iadd X1.here hx rfl (hb hby d6_8) rfl (by decide : ((0 : Int32) + (1 : Int32)) = (1 : Int32)) ?_
  refine st2 _ ?_
  exact retOut X2 hx hret rfl (Or.inr (Or.inr (Or.inr (Or.inr ⟨rfl, rfl, rfl⟩)))) (hb hby d6_12) hr
def Qrm110 (Z : State) (h0 : Heap) (n0 : Nat) (v : Option Value) (h : Heap) (L : List Loc) : Prop := v = some (vI (-1)) ∧ Fr n0 L ∧ h = h0
theorem rm110 (cx : Cx Z a0 w0 w1) (a1 : Addr) (p2 : Int32) (p3 : Int32) (p4 : Int32) (ck5 : ClassId) (O0 : Old Z n0 h0) (PV1 : Arv Z h0 a1 ck5 .byte (3 : Int32) [(vI p2), (vI p3), (vI p4)] (vI 0)) (hc2 : ¬ (p4 = (58 : Int32))) (hc3 : ¬ (p3 = (58 : Int32))) (hc4 : ¬ (p2 = (58 : Int32))) : Ct l Z ⟨z2, z4, "([BII)I"⟩ jdk_43_method_27_code 4 (some .int) ⟨1, 0, 0, 13⟩ #[(vR a1), (vI 58), (vI 2)] h0 (Qrm110 Z h0 n0) := by
  obtain ⟨hw, hj, hS⟩ := id cx
  refine own_bd (plainFor_of_name pn154) (fun m => ef183 m a1 58 2) fun p e s m below meth c s₁ hret hlk hZ hx hby hml hown hnm X0 e0 => ?_
  have N0 := Fr.nil n0
  obtain ⟨_, T1, L1, ⟨rfl, N1q, e1⟩, X1, st1⟩ := cS X0 hx hZ (W := 0) hown (cw6 cx) (rm7 cx 58 O0 (by decide : ¬ ((58 : Int32) < (0 : Int32))) (by decide : ¬ ((255 : Int32) < (58 : Int32)))) e0 (g := (mkF m 1 #[sR a1, sI 58, sI 2, sU] [(vI 58)])) rfl hml rfl (rest := []) rfl rfl rfl rfl (hb hby d12_1) (by decide)
  obtain ⟨_, T2, L2, ⟨rfl, N2q, e2⟩, X2, st2⟩ := cS X1 hx hZ (W := 0) hown (cw7 cx) (rm8 cx 2 O0) e1 (g := (mkF m 14 #[sR a1, sI 58, sI 2, sU] [(vI 2), (vI 2)])) rfl hml rfl (rest := []) rfl rfl rfl rfl (hb hby d12_14) (by decide)
  refine own_end X2 hlk (v := some (vI (-1))) (own_hv hret) (by decide) (by rw [e2]; exact ⟨rfl, (Fr.app (Fr.app N0 N1q) N2q), rfl⟩) fun fs hr => ?_
  show St p e below s₁ (mkF m 0 #[sR a1, sI 58, sI 2, sU] []) _
  refine wil X0 hx hby rfl d12_0 rfl ?_
  refine st1 _ ?_
  refine wfy X1 hx hby rfl (pc0 := 4) (pc' := 9) rfl d12_4 rfl ((if0 _ _).trans (feq (by decide : ¬ ((1 : Int32) = (0 : Int32)))).2) (by decide) (by decide) ?_
  refine wil X1 hx hby rfl d12_9 rfl ?_
  refine wal X1 hx hby rfl d12_10 rfl rfl ?_
  refine own_alen X1 hx hZ e1 PV1 (g := (mkF m 11 #[sR a1, sI 58, sI 2, sU] [(vR a1), (vI 2)])) rfl rfl (hb hby d12_11) ?_
  refine wic X1 hx hby rfl d12_12 ?_
  refine Own.isub X1.here hx rfl (hb hby d12_13) rfl (by decide : ((3 : Int32) - (1 : Int32)) = (2 : Int32)) ?_
  refine st2 _ ?_
  refine wis X2 hx hby rfl d12_17 rfl (l' := #[sR a1, sI 58, sI 2, sI 2]) rfl ?_
  refine wil X2 hx hby rfl d12_18 rfl ?_
  refine wfn X2 hx hby rfl d12_19 rfl ((if0 _ _).trans (flt (by decide : ¬ ((2 : Int32) < (0 : Int32)))).1) ?_
  refine wal X2 hx hby rfl d12_22 rfl rfl ?_
  refine wil X2 hx hby rfl d12_23 rfl ?_
  refine own_baloadB X2 hx hZ e2 PV1 (j := 2) (by decide) (v := (vI p4)) rfl (g := (mkF m 24 #[sR a1, sI 58, sI 2, sI 2] [(vI 2), (vR a1)])) rfl rfl (hb hby d12_24) ?_
  refine wil X2 hx hby rfl d12_25 rfl ?_
  show St p e below T2 (mkF m 26 #[sR a1, sI 58, sI 2, sI 2] [(vI 58), (vI p4)]) _
  refine Own.i2b X2.here hx rfl (hb hby d12_26) rfl (by decide : ((58 : Int32).toInt8.toInt32) = (58 : Int32)) ?_
  refine wcy X2 hx hby rfl (pc0 := 27) (pc' := 32) rfl d12_27 rfl (feq hc2).2 (by decide) (by decide) ?_
  refine Own.iinc X2.here hx rfl (hb hby d12_32) rfl (by decide : ((2 : Int32) + (-1 : Int32)) = (1 : Int32)) (l' := #[sR a1, sI 58, sI 2, sI 1]) rfl ?_
  refine wgt X2 hx hby rfl (pc0 := 35) (pc' := 18) rfl d12_35 (by decide) (by decide) ?_
  refine wil X2 hx hby rfl d12_18 rfl ?_
  refine wfn X2 hx hby rfl d12_19 rfl ((if0 _ _).trans (flt (by decide : ¬ ((1 : Int32) < (0 : Int32)))).1) ?_
  refine wal X2 hx hby rfl d12_22 rfl rfl ?_
  refine wil X2 hx hby rfl d12_23 rfl ?_
  refine own_baloadB X2 hx hZ e2 PV1 (j := 1) (by decide) (v := (vI p3)) rfl (g := (mkF m 24 #[sR a1, sI 58, sI 2, sI 1] [(vI 1), (vR a1)])) rfl rfl (hb hby d12_24) ?_
  refine wil X2 hx hby rfl d12_25 rfl ?_
  refine Own.i2b X2.here hx rfl (hb hby d12_26) rfl (by decide : ((58 : Int32).toInt8.toInt32) = (58 : Int32)) ?_
  refine wcy X2 hx hby rfl (pc0 := 27) (pc' := 32) rfl d12_27 rfl (feq hc3).2 (by decide) (by decide) ?_
  refine Own.iinc X2.here hx rfl (hb hby d12_32) rfl (by decide : ((1 : Int32) + (-1 : Int32)) = (0 : Int32)) (l' := #[sR a1, sI 58, sI 2, sI 0]) rfl ?_
  refine wgt X2 hx hby rfl (pc0 := 35) (pc' := 18) rfl d12_35 (by decide) (by decide) ?_
  refine wil X2 hx hby rfl d12_18 rfl ?_
  refine wfn X2 hx hby rfl d12_19 rfl ((if0 _ _).trans (flt (by decide : ¬ ((0 : Int32) < (0 : Int32)))).1) ?_
  show St p e below T2 (mkF m 22 #[sR a1, sI 58, sI 2, sI 0] []) _
  refine wal X2 hx hby rfl d12_22 rfl rfl ?_
  refine wil X2 hx hby rfl d12_23 rfl ?_
  refine own_baloadB X2 hx hZ e2 PV1 (j := 0) (by decide) (v := (vI p2)) rfl (g := (mkF m 24 #[sR a1, sI 58, sI 2, sI 0] [(vI 0), (vR a1)])) rfl rfl (hb hby d12_24) ?_
  refine wil X2 hx hby rfl d12_25 rfl ?_
  refine Own.i2b X2.here hx rfl (hb hby d12_26) rfl (by decide : ((58 : Int32).toInt8.toInt32) = (58 : Int32)) ?_
  refine wcy X2 hx hby rfl (pc0 := 27) (pc' := 32) rfl d12_27 rfl (feq hc4).2 (by decide) (by decide) ?_
  refine Own.iinc X2.here hx rfl (hb hby d12_32) rfl (by decide : ((0 : Int32) + (-1 : Int32)) = (-1 : Int32)) (l' := #[sR a1, sI 58, sI 2, sI (-1)]) rfl ?_
  refine wgt X2 hx hby rfl (pc0 := 35) (pc' := 18) rfl d12_35 (by decide) (by decide) ?_
  refine wil X2 hx hby rfl d12_18 rfl ?_
  refine wfy X2 hx hby rfl (pc0 := 19) (pc' := 38) rfl d12_19 rfl ((if0 _ _).trans (tlt (by decide : (-1 : Int32) < (0 : Int32))).1) (by decide) (by decide) ?_
  refine wic X2 hx hby rfl d12_38 ?_
  exact retOut X2 hx hret rfl (Or.inl ⟨rfl, Or.inl rfl, _, rfl⟩) (hb hby d12_39) hr
def Qrm111 (Z : State) (h0 : Heap) (n0 : Nat) (v : Option Value) (h : Heap) (L : List Loc) : Prop := v = some (vI (-1)) ∧ Fr n0 L ∧ h = h0
theorem rm111 (cx : Cx Z a0 w0 w1) (a1 : Addr) (a2 : Addr) (p3 : Int32) (p4 : Int32) (p5 : Int32) (ck6 : ClassId) (O0 : Old Z n0 h0) (PF1 : Fld Z h0 a1 z0 "coder" "B" (vI 0)) (PE2 : Exa Z h0 a1 z0) (PF3 : Fld Z h0 a1 z0 "value" "[B" (vR a2)) (PV4 : Arv Z h0 a2 ck6 .byte (3 : Int32) [(vI p3), (vI p4), (vI p5)] (vI 0)) (hc5 : ¬ (p5 = (58 : Int32))) (hc6 : ¬ (p4 = (58 : Int32))) (hc7 : ¬ (p3 = (58 : Int32))) : Ct l Z ⟨z0, z4, "(II)I"⟩ jdk_42_method_83_code 3 (some .int) ⟨2, 0, 0, 28⟩ #[(vR a1), (vI 58), (vI 2)] h0 (Qrm111 Z h0 n0) := by
  obtain ⟨hw, hj, hS⟩ := id cx
  refine own_bd (plainFor_of_name pn63) (fun m => ef189 m a1 58 2) fun p e s m below meth c s₁ hret hlk hZ hx hby hml hown hnm X0 e0 => ?_
  have N0 := Fr.nil n0
  obtain ⟨_, T1, L1, ⟨rfl, N1q, e1⟩, X1, st1⟩ := cV X0 hx hZ (W := 0) hown (cw5 cx) (rm6 cx a1 O0 PF1) e0 PE2 (g := (mkF m 1 #[sR a1, sI 58, sI 2] [(vR a1)])) rfl hml rfl (rest := []) rfl rfl rfl rfl (hb hby d10_1) (by decide)
  obtain ⟨T2, X2, e2, st2⟩ := getF X1 hx hZ hown (host := "") (Or.inl (hw _ m28)) Via.refl e1 PF3 (g := (mkF m 8 #[sR a1, sI 58, sI 2] [(vR a1)])) rfl rfl (hb hby d10_8)
  obtain ⟨_, T3, L3, ⟨rfl, N3q, e3⟩, X3, st3⟩ := cS X2 hx hZ (W := 0) hown (cw8 cx) (rm110 cx a2 p3 p4 p5 ck6 O0 PV4 hc5 hc6 hc7) e2 (g := (mkF m 13 #[sR a1, sI 58, sI 2] [(vI 2), (vI 58), (vR a2)])) rfl hml rfl (rest := []) rfl rfl rfl rfl (hb hby d10_13) (by decide)
  refine own_end X3 hlk (v := some (vI (-1))) (own_hv hret) (by decide) (by rw [e3]; exact ⟨rfl, (Fr.app (Fr.app N0 N1q) N3q), rfl⟩) fun fs hr => ?_
  show St p e below s₁ (mkF m 0 #[sR a1, sI 58, sI 2] []) _
  refine wal X0 hx hby rfl d10_0 rfl rfl ?_
  refine st1 _ ?_
  refine wfn X1 hx hby rfl d10_4 rfl ((if0 _ _).trans (feq (by decide : ¬ ((1 : Int32) = (0 : Int32)))).1) ?_
  refine wal X1 hx hby rfl d10_7 rfl rfl ?_
  refine st2 _ ?_
  refine wil X2 hx hby rfl d10_11 rfl ?_
  refine wil X2 hx hby rfl d10_12 rfl ?_
  refine st3 _ ?_
  refine wgt X3 hx hby rfl (pc0 := 16) (pc' := 28) rfl d10_16 (by decide) (by decide) ?_
  exact retOut X3 hx hret rfl (Or.inl ⟨rfl, Or.inl rfl, _, rfl⟩) (hb hby d10_28) hr
def Qrm112 (Z : State) (h0 : Heap) (n0 : Nat) (v : Option Value) (h : Heap) (L : List Loc) : Prop := v = some (vI (-1)) ∧ Fr n0 L ∧ h = h0
theorem rm112 (cx : Cx Z a0 w0 w1) (a1 : Addr) (p2 : Int32) (p3 : Int32) (p4 : Int32) (a5 : Addr) (ck6 : ClassId) (O0 : Old Z n0 h0) (PF1 : Fld Z h0 a1 z0 "value" "[B" (vR a5)) (PV2 : Arv Z h0 a5 ck6 .byte (3 : Int32) [(vI p2), (vI p3), (vI p4)] (vI 0)) (PF3 : Fld Z h0 a1 z0 "coder" "B" (vI 0)) (PE4 : Exa Z h0 a1 z0) (hc5 : ¬ (p4 = (58 : Int32))) (hc6 : ¬ (p3 = (58 : Int32))) (hc7 : ¬ (p2 = (58 : Int32))) : Ct l Z ⟨z0, z4, "(I)I"⟩ jdk_42_method_82_code 2 (some .int) ⟨3, 0, 0, 42⟩ #[(vR a1), (vI 58)] h0 (Qrm112 Z h0 n0) := by
  obtain ⟨hw, hj, hS⟩ := id cx
  refine own_bd (plainFor_of_name pn63) (fun m => ef194 m a1 58) fun p e s m below meth c s₁ hret hlk hZ hx hby hml hown hnm X0 e0 => ?_
  have N0 := Fr.nil n0
  obtain ⟨_, T1, L1, ⟨rfl, N1q, e1⟩, X1, st1⟩ := cV X0 hx hZ (W := 2) hown (cw4 cx) (rm84 cx a1 a5 p2 p3 p4 ck6 O0 PF1 PV2 PF3 PE4) e0 PE4 (g := (mkF m 3 #[sR a1, sI 58] [(vR a1), (vI 58), (vR a1)])) rfl hml rfl (rest := [(vI 58), (vR a1)]) rfl rfl rfl rfl (hb hby d7_3) (by decide)
  obtain ⟨_, T2, L2, ⟨rfl, N2q, e2⟩, X2, st2⟩ := cV X1 hx hZ (W := 0) hown (cw9 cx) (rm111 cx a1 a5 p2 p3 p4 ck6 O0 PF3 PE4 PF1 PV2 hc5 hc6 hc7) e1 PE4 (g := (mkF m 8 #[sR a1, sI 58] [(vI 2), (vI 58), (vR a1)])) rfl hml rfl (rest := []) rfl rfl rfl rfl (hb hby d7_8) (by decide)
  refine own_end X2 hlk (v := some (vI (-1))) (own_hv hret) (by decide) (by rw [e2]; exact ⟨rfl, (Fr.app (Fr.app N0 N1q) N2q), rfl⟩) fun fs hr => ?_
  show St p e below s₁ (mkF m 0 #[sR a1, sI 58] []) _
  refine wal X0 hx hby rfl d7_0 rfl rfl ?_
  refine wil X0 hx hby rfl d7_1 rfl ?_
  refine wal X0 hx hby rfl d7_2 rfl rfl ?_
  refine st1 _ ?_
  refine wic X1 hx hby rfl d7_6 ?_
  refine Own.isub X1.here hx rfl (hb hby d7_7) rfl (by decide : ((3 : Int32) - (1 : Int32)) = (2 : Int32)) ?_
  refine st2 _ ?_
  exact retOut X2 hx hret rfl (Or.inl ⟨rfl, Or.inl rfl, _, rfl⟩) (hb hby d7_11) hr
def Qrm113 (Z : State) (a1 : Addr) (h0 : Heap) (n0 : Nat) (v : Option Value) (h : Heap) (L : List Loc) : Prop := v = some (vR a1) ∧ Fr n0 L ∧ h = h0
theorem rm113 (cx : Cx Z a0 w0 w1) (a1 : Addr) (p2 : Int32) (p3 : Int32) (p4 : Int32) (a5 : Addr) (ck6 : ClassId) (O0 : Old Z n0 h0) (PF1 : Fld Z h0 a1 z0 "value" "[B" (vR a5)) (PV2 : Arv Z h0 a5 ck6 .byte (3 : Int32) [(vI p2), (vI p3), (vI p4)] (vI 0)) (PF3 : Fld Z h0 a1 z0 "coder" "B" (vI 0)) (PE4 : Exa Z h0 a1 z0) : Ct l Z ⟨z0, "substring", z8⟩ jdk_42_method_92_code 5 (some (.object z0)) ⟨2, 0, 0, 29⟩ #[(vR a1), (vI 0), (vI 3)] h0 (Qrm113 Z a1 h0 n0) := by
  obtain ⟨hw, hj, hS⟩ := id cx
  refine own_bd (plainFor_of_name pn63) (fun m => ef255 m a1 0 3) fun p e s m below meth c s₁ hret hlk hZ hx hby hml hown hnm X0 e0 => ?_
  have N0 := Fr.nil n0
  obtain ⟨_, T1, L1, ⟨rfl, N1q, e1⟩, X1, st1⟩ := cV X0 hx hZ (W := 0) hown (cw4 cx) (rm84 cx a1 a5 p2 p3 p4 ck6 O0 PF1 PV2 PF3 PE4) e0 PE4 (g := (mkF m 1 #[sR a1, sI 0, sI 3, sU, sU] [(vR a1)])) rfl hml rfl (rest := []) rfl rfl rfl rfl (hb hby d16_1) (by decide)
  obtain ⟨_, T2, L2, ⟨rfl, N2q, e2⟩, X2, st2⟩ := cS X1 hx hZ (W := 0) hown (cw12 cx) (rm35 cx 0 3 O0 (by decide : ¬ ((0 : Int32) < (0 : Int32))) (by decide : ¬ ((3 : Int32) < (0 : Int32)))) e1 (g := (mkF m 8 #[sR a1, sI 0, sI 3, sI 3, sU] [(vI 3), (vI 3), (vI 0)])) rfl hml rfl (rest := []) rfl rfl rfl rfl (hb hby d16_8) (by decide)
  refine own_end X2 hlk (v := some (vR a1)) (own_hv hret) (by decide) (by rw [e2]; exact ⟨rfl, (Fr.app (Fr.app N0 N1q) N2q), rfl⟩) fun fs hr => ?_
  show St p e below s₁ (mkF m 0 #[sR a1, sI 0, sI 3, sU, sU] []) _
  refine wal X0 hx hby rfl d16_0 rfl rfl ?_
  refine st1 _ ?_
  refine wis X1 hx hby rfl d16_4 rfl (l' := #[sR a1, sI 0, sI 3, sI 3, sU]) rfl ?_
  refine wil X1 hx hby rfl d16_5 rfl ?_
  refine wil X1 hx hby rfl d16_6 rfl ?_
  refine wil X1 hx hby rfl d16_7 rfl ?_
  refine st2 _ ?_
  refine wil X2 hx hby rfl d16_11 rfl ?_
  refine wfn X2 hx hby rfl d16_12 rfl ((if0 _ _).trans (teq (by decide : (0 : Int32) = (0 : Int32))).2) ?_
  refine wil X2 hx hby rfl d16_15 rfl ?_
  refine wil X2 hx hby rfl d16_16 rfl ?_
  refine wcn X2 hx hby rfl d16_17 rfl (teq (by decide : (3 : Int32) = (3 : Int32))).2 ?_
  refine wal X2 hx hby rfl d16_20 rfl rfl ?_
  exact retOut X2 hx hret rfl (Or.inr (Or.inr (Or.inr (Or.inr ⟨rfl, rfl, rfl⟩)))) (hb hby d16_21) hr
def Qrm114 (Z : State) (a1 : Addr) (h0 : Heap) (n0 : Nat) (v : Option Value) (h : Heap) (L : List Loc) : Prop := v = some (vR a1) ∧ Fr n0 L ∧ h = h0
theorem rm114 (cx : Cx Z a0 w0 w1) (a1 : Addr) (p2 : Int32) (p3 : Int32) (p4 : Int32) (a5 : Addr) (ck6 : ClassId) (O0 : Old Z n0 h0) (PF1 : Fld Z h0 a1 z0 "value" "[B" (vR a5)) (PV2 : Arv Z h0 a5 ck6 .byte (3 : Int32) [(vI p2), (vI p3), (vI p4)] (vI 0)) (PF3 : Fld Z h0 a1 z0 "coder" "B" (vI 0)) (PE4 : Exa Z h0 a1 z0) : Ct l Z ⟨z0, "substring", z9⟩ jdk_42_method_91_code 2 (some (.object z0)) ⟨3, 0, 0, 45⟩ #[(vR a1), (vI 0)] h0 (Qrm114 Z a1 h0 n0) := by
  obtain ⟨hw, hj, hS⟩ := id cx
  refine own_bd (plainFor_of_name pn63) (fun m => ef194 m a1 0) fun p e s m below meth c s₁ hret hlk hZ hx hby hml hown hnm X0 e0 => ?_
  have N0 := Fr.nil n0
  obtain ⟨_, T1, L1, ⟨rfl, N1q, e1⟩, X1, st1⟩ := cV X0 hx hZ (W := 2) hown (cw4 cx) (rm84 cx a1 a5 p2 p3 p4 ck6 O0 PF1 PV2 PF3 PE4) e0 PE4 (g := (mkF m 3 #[sR a1, sI 0] [(vR a1), (vI 0), (vR a1)])) rfl hml rfl (rest := [(vI 0), (vR a1)]) rfl rfl rfl rfl (hb hby d15_3) (by decide)
  obtain ⟨_, T2, L2, ⟨rfl, N2q, e2⟩, X2, st2⟩ := cV X1 hx hZ (W := 0) hown (cw13 cx) (rm113 cx a1 p2 p3 p4 a5 ck6 O0 PF1 PV2 PF3 PE4) e1 PE4 (g := (mkF m 6 #[sR a1, sI 0] [(vI 3), (vI 0), (vR a1)])) rfl hml rfl (rest := []) rfl rfl rfl rfl (hb hby d15_6) (by decide)
  refine own_end X2 hlk (v := some (vR a1)) (own_hv hret) (by decide) (by rw [e2]; exact ⟨rfl, (Fr.app (Fr.app N0 N1q) N2q), rfl⟩) fun fs hr => ?_
  show St p e below s₁ (mkF m 0 #[sR a1, sI 0] []) _
  refine wal X0 hx hby rfl d15_0 rfl rfl ?_
  refine wil X0 hx hby rfl d15_1 rfl ?_
  refine wal X0 hx hby rfl d15_2 rfl rfl ?_
  refine st1 _ ?_
  refine st2 _ ?_
  exact retOut X2 hx hret rfl (Or.inr (Or.inr (Or.inr (Or.inr ⟨rfl, rfl, rfl⟩)))) (hb hby d15_9) hr
def Qrm115 (Z : State) (a1 : Addr) (h0 : Heap) (n0 : Nat) (v : Option Value) (h : Heap) (L : List Loc) : Prop := v = some (vR a1) ∧ Fr n0 L ∧ h = h0
theorem rm115 (cx : Cx Z a0 w0 w1) (a1 : Addr) (p2 : Int32) (p3 : Int32) (p4 : Int32) (a5 : Addr) (ck6 : ClassId) (O0 : Old Z n0 h0) (PF1 : Fld Z h0 a1 z0 "value" "[B" (vR a5)) (PV2 : Arv Z h0 a5 ck6 .byte (3 : Int32) [(vI p2), (vI p3), (vI p4)] (vI 0)) (PF3 : Fld Z h0 a1 z0 "coder" "B" (vI 0)) (PE4 : Exa Z h0 a1 z0) (hc5 : ¬ (p4 = (58 : Int32))) (hc6 : ¬ (p3 = (58 : Int32))) (hc7 : ¬ (p2 = (58 : Int32))) : Ct l Z ⟨z3, "localPart", z5⟩ prog_13_method_17_code 1 (some (.object z0)) ⟨4, 0, 0, 58⟩ #[(vR a1)] h0 (Qrm115 Z a1 h0 n0) := by
  obtain ⟨hw, hj, hS⟩ := id cx
  refine own_bd (plainFor_of_name pn266) (fun m => ef104 m a1) fun p e s m below meth c s₁ hret hlk hZ hx hby hml hown hnm X0 e0 => ?_
  have N0 := Fr.nil n0
  obtain ⟨_, T1, L1, ⟨rfl, N1q, e1⟩, X1, st1⟩ := cV X0 hx hZ (W := 1) hown (cw10 cx) (rm112 cx a1 p2 p3 p4 a5 ck6 O0 PF1 PV2 PF3 PE4 hc5 hc6 hc7) e0 PE4 (g := (mkF m 4 #[sR a1] [(vI 58), (vR a1), (vR a1)])) rfl hml rfl (rest := [(vR a1)]) rfl rfl rfl rfl (hb hby d6_4) (by decide)
  obtain ⟨_, T2, L2, ⟨rfl, N2q, e2⟩, X2, st2⟩ := cV X1 hx hZ (W := 0) hown (cw14 cx) (rm114 cx a1 p2 p3 p4 a5 ck6 O0 PF1 PV2 PF3 PE4) e1 PE4 (g := (mkF m 9 #[sR a1] [(vI 0), (vR a1)])) rfl hml rfl (rest := []) rfl rfl rfl rfl (hb hby d6_9) (by decide)
  refine own_end X2 hlk (v := some (vR a1)) (own_hv hret) (by decide) (by rw [e2]; exact ⟨rfl, (Fr.app (Fr.app N0 N1q) N2q), rfl⟩) fun fs hr => ?_
  show St p e below s₁ (mkF m 0 #[sR a1] []) _
  refine wal X0 hx hby rfl d6_0 rfl rfl ?_
  refine wal X0 hx hby rfl d6_1 rfl rfl ?_
  refine wbp X0 hx hby rfl d6_2 ?_
  refine st1 _ ?_
  refine wic X1 hx hby rfl d6_7 ?_
  refine Own.iadd X1.here hx rfl (hb hby d6_8) rfl (by decide : ((-1 : Int32) + (1 : Int32)) = (0 : Int32)) ?_
  refine st2 _ ?_
  exact retOut X2 hx hret rfl (Or.inr (Or.inr (Or.inr (Or.inr ⟨rfl, rfl, rfl⟩)))) (hb hby d6_12) hr
def Qrm116 (Z : State) (p2 : Int32) (h0 : Heap) (n0 : Nat) (v : Option Value) (h : Heap) (L : List Loc) : Prop := v = some (vI (p2 &&& (255 : Int32))) ∧ Fr n0 L ∧ h = h0
theorem rm116 (cx : Cx Z a0 w0 w1) (a1 : Addr) (p2 : Int32) (p3 : Int32) (p4 : Int32) (ck5 : ClassId) (O0 : Old Z n0 h0) (PV1 : Arv Z h0 a1 ck5 .byte (3 : Int32) [(vI p2), (vI p3), (vI p4)] (vI 0)) : Ct l Z ⟨z2, "charAt", "([BI)C"⟩ jdk_43_method_2_code 2 (some .char) ⟨2, 0, 0, 27⟩ #[(vR a1), (vI 0)] h0 (Qrm116 Z p2 h0 n0) := by
  obtain ⟨hw, hj, hS⟩ := id cx
  refine own_bd (plainFor_of_name pn154) (fun m => ef194 m a1 0) fun p e s m below meth c s₁ hret hlk hZ hx hby hml hown hnm X0 e0 => ?_
  have N0 := Fr.nil n0
  obtain ⟨_, T1, L1, ⟨rfl, N1q, e1⟩, X1, st1⟩ := cS X0 hx hZ (W := 0) hown (cw22 cx) (rm40 cx 0 3 O0 (by decide : ¬ ((0 : Int32) < (0 : Int32))) (by decide : (0 : Int32) < (3 : Int32))) e0 (g := (mkF m 3 #[sR a1, sI 0] [(vI 3), (vI 0)])) rfl hml rfl (rest := []) rfl rfl rfl rfl (hb hby d23_3) (by decide)
  have hu0 : ¬ ((p2 &&& (255 : Int32)) < (0 : Int32)) := (by have q0 := own_rng p2; have q1 := (by decide : ((255 : Int32)).toInt = 255); have q2 := (own_mask p2 (255 : Int32) (by decide) : 0 ≤ ((p2 &&& (255 : Int32))).toInt ∧ ((p2 &&& (255 : Int32))).toInt ≤ 255); have q3 := (by decide : ((0 : Int32)).toInt = 0); exact own_ltF (by omega))
  have hu1 : ¬ ((65535 : Int32) < (p2 &&& (255 : Int32))) := (by have q0 := (by decide : ((65535 : Int32)).toInt = 65535); have q1 := own_rng p2; have q2 := (by decide : ((255 : Int32)).toInt = 255); have q3 := (own_mask p2 (255 : Int32) (by decide) : 0 ≤ ((p2 &&& (255 : Int32))).toInt ∧ ((p2 &&& (255 : Int32))).toInt ≤ 255); exact own_ltF (by omega))
  refine own_end X1 hlk (v := some (vI (p2 &&& (255 : Int32)))) (own_hv hret) (by decide) (by rw [e1]; exact ⟨rfl, (Fr.app N0 N1q), rfl⟩) fun fs hr => ?_
  show St p e below s₁ (mkF m 0 #[sR a1, sI 0] []) _
  refine wil X0 hx hby rfl d23_0 rfl ?_
  refine wal X0 hx hby rfl d23_1 rfl rfl ?_
  refine own_alen X0 hx hZ e0 PV1 (g := (mkF m 2 #[sR a1, sI 0] [(vR a1), (vI 0)])) rfl rfl (hb hby d23_2) ?_
  refine st1 _ ?_
  refine wal X1 hx hby rfl d23_6 rfl rfl ?_
  refine wil X1 hx hby rfl d23_7 rfl ?_
  refine own_baloadB X1 hx hZ e1 PV1 (j := 0) (by decide) (v := (vI p2)) rfl (g := (mkF m 8 #[sR a1, sI 0] [(vI 0), (vR a1)])) rfl rfl (hb hby d23_8) ?_
  refine wsp X1 hx hby rfl d23_9 ?_
  refine XS.iand X1.here hx rfl (hb hby d23_12) rfl ?_
  refine Own.i2c X1.here hx rfl (hb hby d23_13) rfl (own_i2c hu0 hu1) ?_
  exact own_retN X1 hx (t := .char) hret (by simp) (hb hby d23_14) (own_narC hu0 hu1) hr
def Qrm117 (Z : State) (p3 : Int32) (h0 : Heap) (n0 : Nat) (v : Option Value) (h : Heap) (L : List Loc) : Prop := v = some (vI (p3 &&& (255 : Int32))) ∧ Fr n0 L ∧ h = h0
theorem rm117 (cx : Cx Z a0 w0 w1) (a1 : Addr) (a2 : Addr) (p3 : Int32) (p4 : Int32) (p5 : Int32) (ck6 : ClassId) (O0 : Old Z n0 h0) (PF1 : Fld Z h0 a1 z0 "coder" "B" (vI 0)) (PE2 : Exa Z h0 a1 z0) (PF3 : Fld Z h0 a1 z0 "value" "[B" (vR a2)) (PV4 : Arv Z h0 a2 ck6 .byte (3 : Int32) [(vI p3), (vI p4), (vI p5)] (vI 0)) : Ct l Z ⟨z0, "charAt", "(I)C"⟩ jdk_42_method_56_code 2 (some .char) ⟨3, 0, 0, 40⟩ #[(vR a1), (vI 0)] h0 (Qrm117 Z p3 h0 n0) := by
  obtain ⟨hw, hj, hS⟩ := id cx
  refine own_bd (plainFor_of_name pn63) (fun m => ef194 m a1 0) fun p e s m below meth c s₁ hret hlk hZ hx hby hml hown hnm X0 e0 => ?_
  have N0 := Fr.nil n0
  obtain ⟨_, T1, L1, ⟨rfl, N1q, e1⟩, X1, st1⟩ := cV X0 hx hZ (W := 0) hown (cw5 cx) (rm6 cx a1 O0 PF1) e0 PE2 (g := (mkF m 1 #[sR a1, sI 0] [(vR a1)])) rfl hml rfl (rest := []) rfl rfl rfl rfl (hb hby d22_1) (by decide)
  obtain ⟨T2, X2, e2, st2⟩ := getF X1 hx hZ hown (host := "") (Or.inl (hw _ m28)) Via.refl e1 PF3 (g := (mkF m 8 #[sR a1, sI 0] [(vR a1)])) rfl rfl (hb hby d22_8)
  obtain ⟨_, T3, L3, ⟨rfl, N3q, e3⟩, X3, st3⟩ := cS X2 hx hZ (W := 0) hown (cw23 cx) (rm116 cx a2 p3 p4 p5 ck6 O0 PV4) e2 (g := (mkF m 12 #[sR a1, sI 0] [(vI 0), (vR a2)])) rfl hml rfl (rest := []) rfl rfl rfl rfl (hb hby d22_12) (by decide)
  have hu0 : ¬ ((p3 &&& (255 : Int32)) < (0 : Int32)) := (by have q0 := own_rng p3; have q1 := (by decide : ((255 : Int32)).toInt = 255); have q2 := (own_mask p3 (255 : Int32) (by decide) : 0 ≤ ((p3 &&& (255 : Int32))).toInt ∧ ((p3 &&& (255 : Int32))).toInt ≤ 255); have q3 := (by decide : ((0 : Int32)).toInt = 0); exact own_ltF (by omega))
  have hu1 : ¬ ((65535 : Int32) < (p3 &&& (255 : Int32))) := (by have q0 := (by decide : ((65535 : Int32)).toInt = 65535); have q1 := own_rng p3; have q2 := (by decide : ((255 : Int32)).toInt = 255); have q3 := (own_mask p3 (255 : Int32) (by decide) : 0 ≤ ((p3 &&& (255 : Int32))).toInt ∧ ((p3 &&& (255 : Int32))).toInt ≤ 255); exact own_ltF (by omega))
  refine own_end X3 hlk (v := some (vI (p3 &&& (255 : Int32)))) (own_hv hret) (by decide) (by rw [e3]; exact ⟨rfl, (Fr.app (Fr.app N0 N1q) N3q), rfl⟩) fun fs hr => ?_
  show St p e below s₁ (mkF m 0 #[sR a1, sI 0] []) _
  refine wal X0 hx hby rfl d22_0 rfl rfl ?_
  refine st1 _ ?_
  refine wfn X1 hx hby rfl d22_4 rfl ((if0 _ _).trans (feq (by decide : ¬ ((1 : Int32) = (0 : Int32)))).1) ?_
  refine wal X1 hx hby rfl d22_7 rfl rfl ?_
  refine st2 _ ?_
  refine wil X2 hx hby rfl d22_11 rfl ?_
  refine st3 _ ?_
  exact own_retN X3 hx (t := .char) hret (by simp) (hb hby d22_15) (own_narC hu0 hu1) hr
def Qrm118 (Z : State) (p3 : Int32) (h0 : Heap) (n0 : Nat) (v : Option Value) (h : Heap) (L : List Loc) : Prop := v = some (vI (p3 &&& (255 : Int32))) ∧ Fr n0 L ∧ h = h0
theorem rm118 (cx : Cx Z a0 w0 w1) (a1 : Addr) (p2 : Int32) (p3 : Int32) (p4 : Int32) (ck5 : ClassId) (O0 : Old Z n0 h0) (PV1 : Arv Z h0 a1 ck5 .byte (3 : Int32) [(vI p2), (vI p3), (vI p4)] (vI 0)) : Ct l Z ⟨z2, "charAt", "([BI)C"⟩ jdk_43_method_2_code 2 (some .char) ⟨2, 0, 0, 27⟩ #[(vR a1), (vI 1)] h0 (Qrm118 Z p3 h0 n0) := by
  obtain ⟨hw, hj, hS⟩ := id cx
  refine own_bd (plainFor_of_name pn154) (fun m => ef194 m a1 1) fun p e s m below meth c s₁ hret hlk hZ hx hby hml hown hnm X0 e0 => ?_
  have N0 := Fr.nil n0
  obtain ⟨_, T1, L1, ⟨rfl, N1q, e1⟩, X1, st1⟩ := cS X0 hx hZ (W := 0) hown (cw22 cx) (rm40 cx 1 3 O0 (by decide : ¬ ((1 : Int32) < (0 : Int32))) (by decide : (1 : Int32) < (3 : Int32))) e0 (g := (mkF m 3 #[sR a1, sI 1] [(vI 3), (vI 1)])) rfl hml rfl (rest := []) rfl rfl rfl rfl (hb hby d23_3) (by decide)
  have hu0 : ¬ ((p3 &&& (255 : Int32)) < (0 : Int32)) := (by have q0 := own_rng p3; have q1 := (by decide : ((255 : Int32)).toInt = 255); have q2 := (own_mask p3 (255 : Int32) (by decide) : 0 ≤ ((p3 &&& (255 : Int32))).toInt ∧ ((p3 &&& (255 : Int32))).toInt ≤ 255); have q3 := (by decide : ((0 : Int32)).toInt = 0); exact own_ltF (by omega))
  have hu1 : ¬ ((65535 : Int32) < (p3 &&& (255 : Int32))) := (by have q0 := (by decide : ((65535 : Int32)).toInt = 65535); have q1 := own_rng p3; have q2 := (by decide : ((255 : Int32)).toInt = 255); have q3 := (own_mask p3 (255 : Int32) (by decide) : 0 ≤ ((p3 &&& (255 : Int32))).toInt ∧ ((p3 &&& (255 : Int32))).toInt ≤ 255); exact own_ltF (by omega))
  refine own_end X1 hlk (v := some (vI (p3 &&& (255 : Int32)))) (own_hv hret) (by decide) (by rw [e1]; exact ⟨rfl, (Fr.app N0 N1q), rfl⟩) fun fs hr => ?_
  show St p e below s₁ (mkF m 0 #[sR a1, sI 1] []) _
  refine wil X0 hx hby rfl d23_0 rfl ?_
  refine wal X0 hx hby rfl d23_1 rfl rfl ?_
  refine own_alen X0 hx hZ e0 PV1 (g := (mkF m 2 #[sR a1, sI 1] [(vR a1), (vI 1)])) rfl rfl (hb hby d23_2) ?_
  refine st1 _ ?_
  refine wal X1 hx hby rfl d23_6 rfl rfl ?_
  refine wil X1 hx hby rfl d23_7 rfl ?_
  refine own_baloadB X1 hx hZ e1 PV1 (j := 1) (by decide) (v := (vI p3)) rfl (g := (mkF m 8 #[sR a1, sI 1] [(vI 1), (vR a1)])) rfl rfl (hb hby d23_8) ?_
  refine wsp X1 hx hby rfl d23_9 ?_
  refine XS.iand X1.here hx rfl (hb hby d23_12) rfl ?_
  refine Own.i2c X1.here hx rfl (hb hby d23_13) rfl (own_i2c hu0 hu1) ?_
  exact own_retN X1 hx (t := .char) hret (by simp) (hb hby d23_14) (own_narC hu0 hu1) hr
def Qrm119 (Z : State) (p4 : Int32) (h0 : Heap) (n0 : Nat) (v : Option Value) (h : Heap) (L : List Loc) : Prop := v = some (vI (p4 &&& (255 : Int32))) ∧ Fr n0 L ∧ h = h0
theorem rm119 (cx : Cx Z a0 w0 w1) (a1 : Addr) (a2 : Addr) (p3 : Int32) (p4 : Int32) (p5 : Int32) (ck6 : ClassId) (O0 : Old Z n0 h0) (PF1 : Fld Z h0 a1 z0 "coder" "B" (vI 0)) (PE2 : Exa Z h0 a1 z0) (PF3 : Fld Z h0 a1 z0 "value" "[B" (vR a2)) (PV4 : Arv Z h0 a2 ck6 .byte (3 : Int32) [(vI p3), (vI p4), (vI p5)] (vI 0)) : Ct l Z ⟨z0, "charAt", "(I)C"⟩ jdk_42_method_56_code 2 (some .char) ⟨3, 0, 0, 40⟩ #[(vR a1), (vI 1)] h0 (Qrm119 Z p4 h0 n0) := by
  obtain ⟨hw, hj, hS⟩ := id cx
  refine own_bd (plainFor_of_name pn63) (fun m => ef194 m a1 1) fun p e s m below meth c s₁ hret hlk hZ hx hby hml hown hnm X0 e0 => ?_
  have N0 := Fr.nil n0
  obtain ⟨_, T1, L1, ⟨rfl, N1q, e1⟩, X1, st1⟩ := cV X0 hx hZ (W := 0) hown (cw5 cx) (rm6 cx a1 O0 PF1) e0 PE2 (g := (mkF m 1 #[sR a1, sI 1] [(vR a1)])) rfl hml rfl (rest := []) rfl rfl rfl rfl (hb hby d22_1) (by decide)
  obtain ⟨T2, X2, e2, st2⟩ := getF X1 hx hZ hown (host := "") (Or.inl (hw _ m28)) Via.refl e1 PF3 (g := (mkF m 8 #[sR a1, sI 1] [(vR a1)])) rfl rfl (hb hby d22_8)
  obtain ⟨_, T3, L3, ⟨rfl, N3q, e3⟩, X3, st3⟩ := cS X2 hx hZ (W := 0) hown (cw23 cx) (rm118 cx a2 p3 p4 p5 ck6 O0 PV4) e2 (g := (mkF m 12 #[sR a1, sI 1] [(vI 1), (vR a2)])) rfl hml rfl (rest := []) rfl rfl rfl rfl (hb hby d22_12) (by decide)
  have hu0 : ¬ ((p4 &&& (255 : Int32)) < (0 : Int32)) := (by have q0 := own_rng p4; have q1 := (by decide : ((255 : Int32)).toInt = 255); have q2 := (own_mask p4 (255 : Int32) (by decide) : 0 ≤ ((p4 &&& (255 : Int32))).toInt ∧ ((p4 &&& (255 : Int32))).toInt ≤ 255); have q3 := (by decide : ((0 : Int32)).toInt = 0); exact own_ltF (by omega))
  have hu1 : ¬ ((65535 : Int32) < (p4 &&& (255 : Int32))) := (by have q0 := (by decide : ((65535 : Int32)).toInt = 65535); have q1 := own_rng p4; have q2 := (by decide : ((255 : Int32)).toInt = 255); have q3 := (own_mask p4 (255 : Int32) (by decide) : 0 ≤ ((p4 &&& (255 : Int32))).toInt ∧ ((p4 &&& (255 : Int32))).toInt ≤ 255); exact own_ltF (by omega))
  refine own_end X3 hlk (v := some (vI (p4 &&& (255 : Int32)))) (own_hv hret) (by decide) (by rw [e3]; exact ⟨rfl, (Fr.app (Fr.app N0 N1q) N3q), rfl⟩) fun fs hr => ?_
  show St p e below s₁ (mkF m 0 #[sR a1, sI 1] []) _
  refine wal X0 hx hby rfl d22_0 rfl rfl ?_
  refine st1 _ ?_
  refine wfn X1 hx hby rfl d22_4 rfl ((if0 _ _).trans (feq (by decide : ¬ ((1 : Int32) = (0 : Int32)))).1) ?_
  refine wal X1 hx hby rfl d22_7 rfl rfl ?_
  refine st2 _ ?_
  refine wil X2 hx hby rfl d22_11 rfl ?_
  refine st3 _ ?_
  exact own_retN X3 hx (t := .char) hret (by simp) (hb hby d22_15) (own_narC hu0 hu1) hr
def Qrm120 (Z : State) (p4 : Int32) (h0 : Heap) (n0 : Nat) (v : Option Value) (h : Heap) (L : List Loc) : Prop := v = some (vI (p4 &&& (255 : Int32))) ∧ Fr n0 L ∧ h = h0
theorem rm120 (cx : Cx Z a0 w0 w1) (a1 : Addr) (p2 : Int32) (p3 : Int32) (p4 : Int32) (ck5 : ClassId) (O0 : Old Z n0 h0) (PV1 : Arv Z h0 a1 ck5 .byte (3 : Int32) [(vI p2), (vI p3), (vI p4)] (vI 0)) : Ct l Z ⟨z2, "charAt", "([BI)C"⟩ jdk_43_method_2_code 2 (some .char) ⟨2, 0, 0, 27⟩ #[(vR a1), (vI 2)] h0 (Qrm120 Z p4 h0 n0) := by
  obtain ⟨hw, hj, hS⟩ := id cx
  refine own_bd (plainFor_of_name pn154) (fun m => ef194 m a1 2) fun p e s m below meth c s₁ hret hlk hZ hx hby hml hown hnm X0 e0 => ?_
  have N0 := Fr.nil n0
  obtain ⟨_, T1, L1, ⟨rfl, N1q, e1⟩, X1, st1⟩ := cS X0 hx hZ (W := 0) hown (cw22 cx) (rm40 cx 2 3 O0 (by decide : ¬ ((2 : Int32) < (0 : Int32))) (by decide : (2 : Int32) < (3 : Int32))) e0 (g := (mkF m 3 #[sR a1, sI 2] [(vI 3), (vI 2)])) rfl hml rfl (rest := []) rfl rfl rfl rfl (hb hby d23_3) (by decide)
  have hu0 : ¬ ((p4 &&& (255 : Int32)) < (0 : Int32)) := (by have q0 := own_rng p4; have q1 := (by decide : ((255 : Int32)).toInt = 255); have q2 := (own_mask p4 (255 : Int32) (by decide) : 0 ≤ ((p4 &&& (255 : Int32))).toInt ∧ ((p4 &&& (255 : Int32))).toInt ≤ 255); have q3 := (by decide : ((0 : Int32)).toInt = 0); exact own_ltF (by omega))
  have hu1 : ¬ ((65535 : Int32) < (p4 &&& (255 : Int32))) := (by have q0 := (by decide : ((65535 : Int32)).toInt = 65535); have q1 := own_rng p4; have q2 := (by decide : ((255 : Int32)).toInt = 255); have q3 := (own_mask p4 (255 : Int32) (by decide) : 0 ≤ ((p4 &&& (255 : Int32))).toInt ∧ ((p4 &&& (255 : Int32))).toInt ≤ 255); exact own_ltF (by omega))
  refine own_end X1 hlk (v := some (vI (p4 &&& (255 : Int32)))) (own_hv hret) (by decide) (by rw [e1]; exact ⟨rfl, (Fr.app N0 N1q), rfl⟩) fun fs hr => ?_
  show St p e below s₁ (mkF m 0 #[sR a1, sI 2] []) _
  refine wil X0 hx hby rfl d23_0 rfl ?_
  refine wal X0 hx hby rfl d23_1 rfl rfl ?_
  refine own_alen X0 hx hZ e0 PV1 (g := (mkF m 2 #[sR a1, sI 2] [(vR a1), (vI 2)])) rfl rfl (hb hby d23_2) ?_
  refine st1 _ ?_
  refine wal X1 hx hby rfl d23_6 rfl rfl ?_
  refine wil X1 hx hby rfl d23_7 rfl ?_
  refine own_baloadB X1 hx hZ e1 PV1 (j := 2) (by decide) (v := (vI p4)) rfl (g := (mkF m 8 #[sR a1, sI 2] [(vI 2), (vR a1)])) rfl rfl (hb hby d23_8) ?_
  refine wsp X1 hx hby rfl d23_9 ?_
  refine XS.iand X1.here hx rfl (hb hby d23_12) rfl ?_
  refine Own.i2c X1.here hx rfl (hb hby d23_13) rfl (own_i2c hu0 hu1) ?_
  exact own_retN X1 hx (t := .char) hret (by simp) (hb hby d23_14) (own_narC hu0 hu1) hr
def Qrm121 (Z : State) (p5 : Int32) (h0 : Heap) (n0 : Nat) (v : Option Value) (h : Heap) (L : List Loc) : Prop := v = some (vI (p5 &&& (255 : Int32))) ∧ Fr n0 L ∧ h = h0
theorem rm121 (cx : Cx Z a0 w0 w1) (a1 : Addr) (a2 : Addr) (p3 : Int32) (p4 : Int32) (p5 : Int32) (ck6 : ClassId) (O0 : Old Z n0 h0) (PF1 : Fld Z h0 a1 z0 "coder" "B" (vI 0)) (PE2 : Exa Z h0 a1 z0) (PF3 : Fld Z h0 a1 z0 "value" "[B" (vR a2)) (PV4 : Arv Z h0 a2 ck6 .byte (3 : Int32) [(vI p3), (vI p4), (vI p5)] (vI 0)) : Ct l Z ⟨z0, "charAt", "(I)C"⟩ jdk_42_method_56_code 2 (some .char) ⟨3, 0, 0, 40⟩ #[(vR a1), (vI 2)] h0 (Qrm121 Z p5 h0 n0) := by
  obtain ⟨hw, hj, hS⟩ := id cx
  refine own_bd (plainFor_of_name pn63) (fun m => ef194 m a1 2) fun p e s m below meth c s₁ hret hlk hZ hx hby hml hown hnm X0 e0 => ?_
  have N0 := Fr.nil n0
  obtain ⟨_, T1, L1, ⟨rfl, N1q, e1⟩, X1, st1⟩ := cV X0 hx hZ (W := 0) hown (cw5 cx) (rm6 cx a1 O0 PF1) e0 PE2 (g := (mkF m 1 #[sR a1, sI 2] [(vR a1)])) rfl hml rfl (rest := []) rfl rfl rfl rfl (hb hby d22_1) (by decide)
  obtain ⟨T2, X2, e2, st2⟩ := getF X1 hx hZ hown (host := "") (Or.inl (hw _ m28)) Via.refl e1 PF3 (g := (mkF m 8 #[sR a1, sI 2] [(vR a1)])) rfl rfl (hb hby d22_8)
  obtain ⟨_, T3, L3, ⟨rfl, N3q, e3⟩, X3, st3⟩ := cS X2 hx hZ (W := 0) hown (cw23 cx) (rm120 cx a2 p3 p4 p5 ck6 O0 PV4) e2 (g := (mkF m 12 #[sR a1, sI 2] [(vI 2), (vR a2)])) rfl hml rfl (rest := []) rfl rfl rfl rfl (hb hby d22_12) (by decide)
  have hu0 : ¬ ((p5 &&& (255 : Int32)) < (0 : Int32)) := (by have q0 := own_rng p5; have q1 := (by decide : ((255 : Int32)).toInt = 255); have q2 := (own_mask p5 (255 : Int32) (by decide) : 0 ≤ ((p5 &&& (255 : Int32))).toInt ∧ ((p5 &&& (255 : Int32))).toInt ≤ 255); have q3 := (by decide : ((0 : Int32)).toInt = 0); exact own_ltF (by omega))
  have hu1 : ¬ ((65535 : Int32) < (p5 &&& (255 : Int32))) := (by have q0 := (by decide : ((65535 : Int32)).toInt = 65535); have q1 := own_rng p5; have q2 := (by decide : ((255 : Int32)).toInt = 255); have q3 := (own_mask p5 (255 : Int32) (by decide) : 0 ≤ ((p5 &&& (255 : Int32))).toInt ∧ ((p5 &&& (255 : Int32))).toInt ≤ 255); exact own_ltF (by omega))
  refine own_end X3 hlk (v := some (vI (p5 &&& (255 : Int32)))) (own_hv hret) (by decide) (by rw [e3]; exact ⟨rfl, (Fr.app (Fr.app N0 N1q) N3q), rfl⟩) fun fs hr => ?_
  show St p e below s₁ (mkF m 0 #[sR a1, sI 2] []) _
  refine wal X0 hx hby rfl d22_0 rfl rfl ?_
  refine st1 _ ?_
  refine wfn X1 hx hby rfl d22_4 rfl ((if0 _ _).trans (feq (by decide : ¬ ((1 : Int32) = (0 : Int32)))).1) ?_
  refine wal X1 hx hby rfl d22_7 rfl rfl ?_
  refine st2 _ ?_
  refine wil X2 hx hby rfl d22_11 rfl ?_
  refine st3 _ ?_
  exact own_retN X3 hx (t := .char) hret (by simp) (hb hby d22_15) (own_narC hu0 hu1) hr
def Qrm122 (Z : State) (a1 : Addr) (ck2 : ClassId) (p4 : Int32) (p5 : Int32) (p6 : Int32) (p7 : Int32) (h0 : Heap) (n0 : Nat) (v : Option Value) (h : Heap) (L : List Loc) : Prop := v = some (vI 4) ∧ Fr n0 L ∧ Keep h0 h [a1] ∧ Arv Z h a1 ck2 .byte (4 : Int32) [(vI (p4.toInt8.toInt32)), (vI (p5.toInt8.toInt32)), (vI (p6.toInt8.toInt32)), (vI (p7.toInt8.toInt32))] (vI 0)
theorem rm122 (cx : Cx Z a0 w0 w1) (a1 : Addr) (ck2 : ClassId) (a3 : Addr) (p4 : Int32) (p5 : Int32) (p6 : Int32) (p7 : Int32) (ck8 : ClassId) (O0 : Old Z n0 h0) (PV1 : Arv Z h0 a1 ck2 .byte (4 : Int32) [(vI 0), (vI 0), (vI 0), (vI 0)] (vI 0)) (PV2 : Arv Z h0 a3 ck8 .char (4 : Int32) [(vI p4), (vI p5), (vI p6), (vI p7)] (vI 0)) (hc3 : ¬ ((255 : Int32) < p4)) (gn4 : n0 ≤ a1) (pne5 : a3 ≠ a1) (hc6 : ¬ ((255 : Int32) < p5)) (hc7 : ¬ ((255 : Int32) < p6)) (hc8 : ¬ ((255 : Int32) < p7)) : Ct l Z ⟨z6, "compress", "([CI[BII)I"⟩ jdk_52_method_21_code 7 (some .int) ⟨0, 0, 0, 0⟩ #[(vR a3), (vI 0), (vR a1), (vI 0), (vI 4)] h0 (Qrm122 Z a1 ck2 p4 p5 p6 p7 h0 n0) := by
  obtain ⟨hw, hj, hS⟩ := id cx
  refine own_bd (plainFor_of_name pn328) (fun m => ef327 m a3 0 a1 0 4) fun p e s m below meth c s₁ hret hlk hZ hx hby hml hown hnm X0 e0 => ?_
  have N0 := Fr.nil n0
  have hu0 : ¬ ((p4.toInt8.toInt32) < (-128 : Int32)) := (by have q0 := own_rng p4; have q1 := c_i2b p4; have q2 := (by decide : ((-128 : Int32)).toInt = -128); exact own_ltF (by omega))
  have hu1 : ¬ ((127 : Int32) < (p4.toInt8.toInt32)) := (by have q0 := (by decide : ((127 : Int32)).toInt = 127); have q1 := own_rng p4; have q2 := c_i2b p4; exact own_ltF (by omega))
  obtain ⟨T1, h1, L'1, X1, e1, W1, V1, O1, K1, N1, st1⟩ := own_stB X0 hx hZ e0 PV1 O0 (Keep.refl h0 [a1]) N0 gn4 (Or.inl (List.mem_of_getElem? (i := 0) rfl)) (j := (0 : Int32)) 0 (by decide) (Nat.le_of_ble_eq_true rfl) (v := (vI (p4.toInt8.toInt32))) (congrArg Value.int (own_narB hu0 hu1)) (vs' := [(vI (p4.toInt8.toInt32)), (vI 0), (vI 0), (vI 0)]) rfl (g := (mkF m 31 #[sR a3, sI 0, sR a1, sI 0, sI 4, sI 0, sI p4] [(vI (p4.toInt8.toInt32)), (vI 0), (vR a1)])) rfl rfl (hb hby d20_31)
  have f2 : Arv Z h1 a3 ck8 .char (4 : Int32) [(vI p4), (vI p5), (vI p6), (vI p7)] (vI 0) := (PV2.other W1 pne5)
  have hu2 : ¬ ((p5.toInt8.toInt32) < (-128 : Int32)) := (by have q0 := own_rng p5; have q1 := c_i2b p5; have q2 := (by decide : ((-128 : Int32)).toInt = -128); exact own_ltF (by omega))
  have hu3 : ¬ ((127 : Int32) < (p5.toInt8.toInt32)) := (by have q0 := (by decide : ((127 : Int32)).toInt = 127); have q1 := own_rng p5; have q2 := c_i2b p5; exact own_ltF (by omega))
  obtain ⟨T3, h3, L'3, X3, e3, W3, V3, O3, K3, N3, st3⟩ := own_stB X1 hx hZ e1 V1 O1 K1 N1 gn4 (Or.inl (List.mem_of_getElem? (i := 0) rfl)) (j := (1 : Int32)) 1 (by decide) (Nat.le_of_ble_eq_true rfl) (v := (vI (p5.toInt8.toInt32))) (congrArg Value.int (own_narB hu2 hu3)) (vs' := [(vI (p4.toInt8.toInt32)), (vI (p5.toInt8.toInt32)), (vI 0), (vI 0)]) rfl (g := (mkF m 31 #[sR a3, sI 1, sR a1, sI 1, sI 4, sI 1, sI p5] [(vI (p5.toInt8.toInt32)), (vI 1), (vR a1)])) rfl rfl (hb hby d20_31)
  have f4 : Arv Z h3 a3 ck8 .char (4 : Int32) [(vI p4), (vI p5), (vI p6), (vI p7)] (vI 0) := (f2.other W3 pne5)
  have hu4 : ¬ ((p6.toInt8.toInt32) < (-128 : Int32)) := (by have q0 := own_rng p6; have q1 := c_i2b p6; have q2 := (by decide : ((-128 : Int32)).toInt = -128); exact own_ltF (by omega))
  have hu5 : ¬ ((127 : Int32) < (p6.toInt8.toInt32)) := (by have q0 := (by decide : ((127 : Int32)).toInt = 127); have q1 := own_rng p6; have q2 := c_i2b p6; exact own_ltF (by omega))
  obtain ⟨T5, h5, L'5, X5, e5, W5, V5, O5, K5, N5, st5⟩ := own_stB X3 hx hZ e3 V3 O3 K3 N3 gn4 (Or.inl (List.mem_of_getElem? (i := 0) rfl)) (j := (2 : Int32)) 2 (by decide) (Nat.le_of_ble_eq_true rfl) (v := (vI (p6.toInt8.toInt32))) (congrArg Value.int (own_narB hu4 hu5)) (vs' := [(vI (p4.toInt8.toInt32)), (vI (p5.toInt8.toInt32)), (vI (p6.toInt8.toInt32)), (vI 0)]) rfl (g := (mkF m 31 #[sR a3, sI 2, sR a1, sI 2, sI 4, sI 2, sI p6] [(vI (p6.toInt8.toInt32)), (vI 2), (vR a1)])) rfl rfl (hb hby d20_31)
  have f6 : Arv Z h5 a3 ck8 .char (4 : Int32) [(vI p4), (vI p5), (vI p6), (vI p7)] (vI 0) := (f4.other W5 pne5)
  have hu6 : ¬ ((p7.toInt8.toInt32) < (-128 : Int32)) := (by have q0 := own_rng p7; have q1 := c_i2b p7; have q2 := (by decide : ((-128 : Int32)).toInt = -128); exact own_ltF (by omega))
  have hu7 : ¬ ((127 : Int32) < (p7.toInt8.toInt32)) := (by have q0 := (by decide : ((127 : Int32)).toInt = 127); have q1 := own_rng p7; have q2 := c_i2b p7; exact own_ltF (by omega))
  obtain ⟨T7, h7, L'7, X7, e7, W7, V7, O7, K7, N7, st7⟩ := own_stB X5 hx hZ e5 V5 O5 K5 N5 gn4 (Or.inl (List.mem_of_getElem? (i := 0) rfl)) (j := (3 : Int32)) 3 (by decide) (Nat.le_of_ble_eq_true rfl) (v := (vI (p7.toInt8.toInt32))) (congrArg Value.int (own_narB hu6 hu7)) (vs' := [(vI (p4.toInt8.toInt32)), (vI (p5.toInt8.toInt32)), (vI (p6.toInt8.toInt32)), (vI (p7.toInt8.toInt32))]) rfl (g := (mkF m 31 #[sR a3, sI 3, sR a1, sI 3, sI 4, sI 3, sI p7] [(vI (p7.toInt8.toInt32)), (vI 3), (vR a1)])) rfl rfl (hb hby d20_31)
  refine own_end X7 hlk (v := some (vI 4)) (own_hv hret) (by decide) (by rw [e7]; exact ⟨rfl, N7, K7, V7⟩) fun fs hr => ?_
  show St p e below s₁ (mkF m 0 #[sR a3, sI 0, sR a1, sI 0, sI 4, sU, sU] []) _
  refine wic X0 hx hby rfl d20_0 ?_
  refine wiS X0 hx hby rfl d20_1 rfl (l' := #[sR a3, sI 0, sR a1, sI 0, sI 4, sI 0, sU]) rfl ?_
  refine wiL X0 hx hby rfl d20_3 rfl ?_
  refine wiL X0 hx hby rfl d20_5 rfl ?_
  refine wcn X0 hx hby rfl d20_7 rfl (tlt (by decide : (0 : Int32) < (4 : Int32))).2.1 ?_
  refine wal X0 hx hby rfl d20_10 rfl rfl ?_
  refine wil X0 hx hby rfl d20_11 rfl ?_
  refine own_caload X0 hx hZ e0 PV2 (j := 0) (by decide) (v := (vI p4)) rfl (g := (mkF m 12 #[sR a3, sI 0, sR a1, sI 0, sI 4, sI 0, sU] [(vI 0), (vR a3)])) rfl rfl (hb hby d20_12) ?_
  refine wiS X0 hx hby rfl d20_13 rfl (l' := #[sR a3, sI 0, sR a1, sI 0, sI 4, sI 0, sI p4]) rfl ?_
  refine wiL X0 hx hby rfl d20_15 rfl ?_
  refine wsp X0 hx hby rfl d20_17 ?_
  refine wcy X0 hx hby rfl (pc0 := 20) (pc' := 26) rfl d20_20 rfl (flt hc3).2.2.2 (by decide) (by decide) ?_
  refine wal X0 hx hby rfl d20_26 rfl rfl ?_
  refine wil X0 hx hby rfl d20_27 rfl ?_
  refine wiL X0 hx hby rfl d20_28 rfl ?_
  refine XS.i2b X0.here hx rfl (hb hby d20_30) rfl ?_
  show St p e below s₁ (mkF m 31 #[sR a3, sI 0, sR a1, sI 0, sI 4, sI 0, sI p4] [(vI (p4.toInt8.toInt32)), (vI 0), (vR a1)]) _
  refine st1 _ ?_
  refine Own.iinc X1.here hx rfl (hb hby d20_32) rfl (by decide : ((0 : Int32) + (1 : Int32)) = (1 : Int32)) (l' := #[sR a3, sI 1, sR a1, sI 0, sI 4, sI 0, sI p4]) rfl ?_
  refine Own.iinc X1.here hx rfl (hb hby d20_35) rfl (by decide : ((0 : Int32) + (1 : Int32)) = (1 : Int32)) (l' := #[sR a3, sI 1, sR a1, sI 1, sI 4, sI 0, sI p4]) rfl ?_
  refine Own.iinc X1.here hx rfl (hb hby d20_38) rfl (by decide : ((0 : Int32) + (1 : Int32)) = (1 : Int32)) (l' := #[sR a3, sI 1, sR a1, sI 1, sI 4, sI 1, sI p4]) rfl ?_
  refine wgt X1 hx hby rfl (pc0 := 41) (pc' := 3) rfl d20_41 (by decide) (by decide) ?_
  refine wiL X1 hx hby rfl d20_3 rfl ?_
  refine wiL X1 hx hby rfl d20_5 rfl ?_
  refine wcn X1 hx hby rfl d20_7 rfl (tlt (by decide : (1 : Int32) < (4 : Int32))).2.1 ?_
  refine wal X1 hx hby rfl d20_10 rfl rfl ?_
  refine wil X1 hx hby rfl d20_11 rfl ?_
  refine own_caload X1 hx hZ e1 f2 (j := 1) (by decide) (v := (vI p5)) rfl (g := (mkF m 12 #[sR a3, sI 1, sR a1, sI 1, sI 4, sI 1, sI p4] [(vI 1), (vR a3)])) rfl rfl (hb hby d20_12) ?_
  refine wiS X1 hx hby rfl d20_13 rfl (l' := #[sR a3, sI 1, sR a1, sI 1, sI 4, sI 1, sI p5]) rfl ?_
  refine wiL X1 hx hby rfl d20_15 rfl ?_
  refine wsp X1 hx hby rfl d20_17 ?_
  refine wcy X1 hx hby rfl (pc0 := 20) (pc' := 26) rfl d20_20 rfl (flt hc6).2.2.2 (by decide) (by decide) ?_
  refine wal X1 hx hby rfl d20_26 rfl rfl ?_
  show St p e below T1 (mkF m 27 #[sR a3, sI 1, sR a1, sI 1, sI 4, sI 1, sI p5] [(vR a1)]) _
  refine wil X1 hx hby rfl d20_27 rfl ?_
  refine wiL X1 hx hby rfl d20_28 rfl ?_
  refine XS.i2b X1.here hx rfl (hb hby d20_30) rfl ?_
  refine st3 _ ?_
  refine Own.iinc X3.here hx rfl (hb hby d20_32) rfl (by decide : ((1 : Int32) + (1 : Int32)) = (2 : Int32)) (l' := #[sR a3, sI 2, sR a1, sI 1, sI 4, sI 1, sI p5]) rfl ?_
  refine Own.iinc X3.here hx rfl (hb hby d20_35) rfl (by decide : ((1 : Int32) + (1 : Int32)) = (2 : Int32)) (l' := #[sR a3, sI 2, sR a1, sI 2, sI 4, sI 1, sI p5]) rfl ?_
  refine Own.iinc X3.here hx rfl (hb hby d20_38) rfl (by decide : ((1 : Int32) + (1 : Int32)) = (2 : Int32)) (l' := #[sR a3, sI 2, sR a1, sI 2, sI 4, sI 2, sI p5]) rfl ?_
  refine wgt X3 hx hby rfl (pc0 := 41) (pc' := 3) rfl d20_41 (by decide) (by decide) ?_
  refine wiL X3 hx hby rfl d20_3 rfl ?_
  refine wiL X3 hx hby rfl d20_5 rfl ?_
  refine wcn X3 hx hby rfl d20_7 rfl (tlt (by decide : (2 : Int32) < (4 : Int32))).2.1 ?_
  refine wal X3 hx hby rfl d20_10 rfl rfl ?_
  refine wil X3 hx hby rfl d20_11 rfl ?_
  refine own_caload X3 hx hZ e3 f4 (j := 2) (by decide) (v := (vI p6)) rfl (g := (mkF m 12 #[sR a3, sI 2, sR a1, sI 2, sI 4, sI 2, sI p5] [(vI 2), (vR a3)])) rfl rfl (hb hby d20_12) ?_
  refine wiS X3 hx hby rfl d20_13 rfl (l' := #[sR a3, sI 2, sR a1, sI 2, sI 4, sI 2, sI p6]) rfl ?_
  refine wiL X3 hx hby rfl d20_15 rfl ?_
  show St p e below T3 (mkF m 17 #[sR a3, sI 2, sR a1, sI 2, sI 4, sI 2, sI p6] [(vI p6)]) _
  refine wsp X3 hx hby rfl d20_17 ?_
  refine wcy X3 hx hby rfl (pc0 := 20) (pc' := 26) rfl d20_20 rfl (flt hc7).2.2.2 (by decide) (by decide) ?_
  refine wal X3 hx hby rfl d20_26 rfl rfl ?_
  refine wil X3 hx hby rfl d20_27 rfl ?_
  refine wiL X3 hx hby rfl d20_28 rfl ?_
  refine XS.i2b X3.here hx rfl (hb hby d20_30) rfl ?_
  refine st5 _ ?_
  refine Own.iinc X5.here hx rfl (hb hby d20_32) rfl (by decide : ((2 : Int32) + (1 : Int32)) = (3 : Int32)) (l' := #[sR a3, sI 3, sR a1, sI 2, sI 4, sI 2, sI p6]) rfl ?_
  refine Own.iinc X5.here hx rfl (hb hby d20_35) rfl (by decide : ((2 : Int32) + (1 : Int32)) = (3 : Int32)) (l' := #[sR a3, sI 3, sR a1, sI 3, sI 4, sI 2, sI p6]) rfl ?_
  refine Own.iinc X5.here hx rfl (hb hby d20_38) rfl (by decide : ((2 : Int32) + (1 : Int32)) = (3 : Int32)) (l' := #[sR a3, sI 3, sR a1, sI 3, sI 4, sI 3, sI p6]) rfl ?_
  refine wgt X5 hx hby rfl (pc0 := 41) (pc' := 3) rfl d20_41 (by decide) (by decide) ?_
  refine wiL X5 hx hby rfl d20_3 rfl ?_
  refine wiL X5 hx hby rfl d20_5 rfl ?_
  refine wcn X5 hx hby rfl d20_7 rfl (tlt (by decide : (3 : Int32) < (4 : Int32))).2.1 ?_
  refine wal X5 hx hby rfl d20_10 rfl rfl ?_
  refine wil X5 hx hby rfl d20_11 rfl ?_
  show St p e below T5 (mkF m 12 #[sR a3, sI 3, sR a1, sI 3, sI 4, sI 3, sI p6] [(vI 3), (vR a3)]) _
  refine own_caload X5 hx hZ e5 f6 (j := 3) (by decide) (v := (vI p7)) rfl (g := (mkF m 12 #[sR a3, sI 3, sR a1, sI 3, sI 4, sI 3, sI p6] [(vI 3), (vR a3)])) rfl rfl (hb hby d20_12) ?_
  refine wiS X5 hx hby rfl d20_13 rfl (l' := #[sR a3, sI 3, sR a1, sI 3, sI 4, sI 3, sI p7]) rfl ?_
  refine wiL X5 hx hby rfl d20_15 rfl ?_
  refine wsp X5 hx hby rfl d20_17 ?_
  refine wcy X5 hx hby rfl (pc0 := 20) (pc' := 26) rfl d20_20 rfl (flt hc8).2.2.2 (by decide) (by decide) ?_
  refine wal X5 hx hby rfl d20_26 rfl rfl ?_
  refine wil X5 hx hby rfl d20_27 rfl ?_
  refine wiL X5 hx hby rfl d20_28 rfl ?_
  refine XS.i2b X5.here hx rfl (hb hby d20_30) rfl ?_
  refine st7 _ ?_
  refine Own.iinc X7.here hx rfl (hb hby d20_32) rfl (by decide : ((3 : Int32) + (1 : Int32)) = (4 : Int32)) (l' := #[sR a3, sI 4, sR a1, sI 3, sI 4, sI 3, sI p7]) rfl ?_
  refine Own.iinc X7.here hx rfl (hb hby d20_35) rfl (by decide : ((3 : Int32) + (1 : Int32)) = (4 : Int32)) (l' := #[sR a3, sI 4, sR a1, sI 4, sI 4, sI 3, sI p7]) rfl ?_
  refine Own.iinc X7.here hx rfl (hb hby d20_38) rfl (by decide : ((3 : Int32) + (1 : Int32)) = (4 : Int32)) (l' := #[sR a3, sI 4, sR a1, sI 4, sI 4, sI 4, sI p7]) rfl ?_
  refine wgt X7 hx hby rfl (pc0 := 41) (pc' := 3) rfl d20_41 (by decide) (by decide) ?_
  refine wiL X7 hx hby rfl d20_3 rfl ?_
  refine wiL X7 hx hby rfl d20_5 rfl ?_
  show St p e below T7 (mkF m 7 #[sR a3, sI 4, sR a1, sI 4, sI 4, sI 4, sI p7] [(vI 4), (vI 4)]) _
  refine wcy X7 hx hby rfl (pc0 := 7) (pc' := 44) rfl d20_7 rfl (flt (by decide : ¬ ((4 : Int32) < (4 : Int32)))).2.1 (by decide) (by decide) ?_
  refine wiL X7 hx hby rfl d20_44 rfl ?_
  exact retOut X7 hx hret rfl (Or.inl ⟨rfl, Or.inl rfl, _, rfl⟩) (hb hby d20_46) hr
def Qrm123 (Z : State) (p2 : Int32) (p3 : Int32) (p4 : Int32) (p5 : Int32) (h0 : Heap) (n0 : Nat) (v : Option Value) (h : Heap) (L : List Loc) : Prop := ∃ x0 : Addr, ∃ xk0 : ClassId, v = some (vR x0) ∧ Fr n0 L ∧ Keep h0 h [] ∧ h0.size ≤ x0 ∧ Arv Z h x0 xk0 .byte (4 : Int32) [(vI (p2.toInt8.toInt32)), (vI (p3.toInt8.toInt32)), (vI (p4.toInt8.toInt32)), (vI (p5.toInt8.toInt32))] (vI 0)
theorem rm123 (cx : Cx Z a0 w0 w1) (a1 : Addr) (p2 : Int32) (p3 : Int32) (p4 : Int32) (p5 : Int32) (ck6 : ClassId) (O0 : Old Z n0 h0) (PV1 : Arv Z h0 a1 ck6 .char (4 : Int32) [(vI p2), (vI p3), (vI p4), (vI p5)] (vI 0)) (hc2 : ¬ ((255 : Int32) < p2)) (hc3 : ¬ ((255 : Int32) < p3)) (hc4 : ¬ ((255 : Int32) < p4)) (hc5 : ¬ ((255 : Int32) < p5)) : Ct l Z ⟨z6, "compress", "([CII)[B"⟩ jdk_52_method_16_code 6 (some (.array .byte)) ⟨1, 1, 4, 18⟩ #[(vR a1), (vI 0), (vI 4)] h0 (Qrm123 Z p2 p3 p4 p5 h0 n0) := by
  obtain ⟨hw, hj, hS⟩ := id cx
  refine own_bd (plainFor_of_name pn328) (fun m => ef339 m a1 0 4) fun p e s m below meth c s₁ hret hlk hZ hx hby hml hown hnm X0 e0 => ?_
  have N0 := Fr.nil n0
  obtain ⟨T1, h1, k1, b1, X1, e1, E1, V1, g1, O1, K1, st1⟩ := own_newP X0 hx hZ (aty := .byte) (ty := .byte) (dv := (.int (0 : Int32))) (vs := [(.int (0 : Int32)), (.int (0 : Int32)), (.int (0 : Int32)), (.int (0 : Int32))]) (cap := 4) rfl rfl rfl (hw _ m23) e0 O0 (Keep.refl h0 []) (g := (mkF m 1 #[sR a1, sI 0, sI 4, sU, sU, sU] [(vI 4)])) rfl (hb hby d19_1) rfl (by decide) (by decide) (by decide) (by decide) (by decide)
  have f3 : Arv Z h1 a1 ck6 .char (4 : Int32) [(vI p2), (vI p3), (vI p4), (vI p5)] (vI 0) := (PV1.ext E1)
  obtain ⟨_, T2, L2, ⟨rfl, N2q, Kq2, q2_0⟩, X2, st2⟩ := cS X1 hx hZ (W := 0) hown (cw17 cx) (rm122 cx b1 k1 a1 p2 p3 p4 p5 ck6 O1 V1 f3 hc2 (Nat.le_trans (own_old_le O0) g1) (Nat.ne_of_lt (Nat.lt_of_lt_of_le PV1.lt g1)) hc3 hc4 hc5) e1 (g := (mkF m 9 #[sR a1, sI 0, sI 4, sR b1, sU, sU] [(vI 4), (vI 0), (vR b1), (vI 0), (vR a1)])) rfl hml rfl (rest := []) rfl rfl rfl rfl (hb hby d19_9) (by decide)
  have N2 := Fr.app N0 N2q
  have O2 : Old Z n0 T2.heap := O1.keep Kq2 (allS (Nat.le_trans (own_old_le O0) g1) all0)
  have K2 : Keep h0 T2.heap [] := K1.trans Kq2 (allS (Or.inr (Nat.le_trans (Keep.refl h0 []).1 g1)) all0)
  refine own_end X2 hlk (v := some (vR b1)) (own_hv hret) (by decide) ⟨b1, k1, rfl, N2, K2, (Nat.le_trans (Keep.refl h0 []).1 g1), q2_0⟩ fun fs hr => ?_
  show St p e below s₁ (mkF m 0 #[sR a1, sI 0, sI 4, sU, sU, sU] []) _
  refine wil X0 hx hby rfl d19_0 rfl ?_
  refine st1 _ ?_
  refine was X1 hx hby rfl d19_3 rfl rfl (l' := #[sR a1, sI 0, sI 4, sR b1, sU, sU]) rfl ?_
  refine wal X1 hx hby rfl d19_4 rfl rfl ?_
  refine wil X1 hx hby rfl d19_5 rfl ?_
  refine wal X1 hx hby rfl d19_6 rfl rfl ?_
  refine wic X1 hx hby rfl d19_7 ?_
  refine wil X1 hx hby rfl d19_8 rfl ?_
  refine st2 _ ?_
  refine wiS X2 hx hby rfl d19_12 rfl (l' := #[sR a1, sI 0, sI 4, sR b1, sI 4, sU]) rfl ?_
  refine wiL X2 hx hby rfl d19_14 rfl ?_
  refine wil X2 hx hby rfl d19_16 rfl ?_
  refine wcy X2 hx hby rfl (pc0 := 17) (pc' := 57) rfl d19_17 rfl (teq (by decide : (4 : Int32) = (4 : Int32))).1 (by decide) (by decide) ?_
  refine wal X2 hx hby rfl d19_57 rfl rfl ?_
  exact retOut X2 hx hret rfl (Or.inr (Or.inr (Or.inr (Or.inr ⟨rfl, rfl, rfl⟩)))) (hb hby d19_58) hr
def Qrm124 (Z : State) (h0 : Heap) (n0 : Nat) (v : Option Value) (h : Heap) (L : List Loc) : Prop := v = some (vI 0) ∧ Fr n0 L ∧ h = h0
theorem rm124 (cx : Cx Z a0 w0 w1) (a1 : Addr) (p2 : Int32) (p3 : Int32) (p4 : Int32) (p5 : Int32) (ck6 : ClassId) (O0 : Old Z n0 h0) (PV1 : Arv Z h0 a1 ck6 .byte (4 : Int32) [(vI p2), (vI p3), (vI p4), (vI p5)] (vI 0)) : Ct l Z ⟨z6, "coderFromArrayLen", "([BI)B"⟩ jdk_52_method_15_code 2 (some .byte) ⟨0, 0, 0, 0⟩ #[(vR a1), (vI 4)] h0 (Qrm124 Z h0 n0) := by
  obtain ⟨hw, hj, hS⟩ := id cx
  refine own_bd (plainFor_of_name pn328) (fun m => ef194 m a1 4) fun p e s m below meth c s₁ hret hlk hZ hx hby hml hown hnm X0 e0 => ?_
  have N0 := Fr.nil n0
  refine own_end X0 hlk (v := some (vI 0)) (own_hv hret) (by decide) (by rw [e0]; exact ⟨rfl, N0, rfl⟩) fun fs hr => ?_
  show St p e below s₁ (mkF m 0 #[sR a1, sI 4] []) _
  refine wil X0 hx hby rfl d21_0 rfl ?_
  refine wal X0 hx hby rfl d21_1 rfl rfl ?_
  refine own_alen X0 hx hZ e0 PV1 (g := (mkF m 2 #[sR a1, sI 4] [(vR a1), (vI 4)])) rfl rfl (hb hby d21_2) ?_
  refine Own.isub X0.here hx rfl (hb hby d21_3) rfl (by decide : ((4 : Int32) - (4 : Int32)) = (0 : Int32)) ?_
  refine wbp X0 hx hby rfl d21_4 ?_
  refine Own.iushr X0.here hx rfl (hb hby d21_6) rfl (by decide : (((0 : Int32).toUInt32 >>> ((31 : Int32) &&& 31).toUInt32).toInt32) = (0 : Int32)) ?_
  refine Own.i2b X0.here hx rfl (hb hby d21_7) rfl (by decide : ((0 : Int32).toInt8.toInt32) = (0 : Int32)) ?_
  exact retN X0 hx (t := .byte) hret (by simp) (hb hby d21_8) hr
def Qrm125 (Z : State) (a1 : Addr) (p3 : Int32) (p4 : Int32) (p5 : Int32) (p6 : Int32) (h0 : Heap) (n0 : Nat) (v : Option Value) (h : Heap) (L : List Loc) : Prop := ∃ x0 : Addr, ∃ xk0 : ClassId, v = none ∧ Fr n0 L ∧ Keep h0 h [a1] ∧ h0.size ≤ x0 ∧ Arv Z h x0 xk0 .byte (4 : Int32) [(vI (p3.toInt8.toInt32)), (vI (p4.toInt8.toInt32)), (vI (p5.toInt8.toInt32)), (vI (p6.toInt8.toInt32))] (vI 0) ∧ Fld Z h a1 z0 "value" "[B" (vR x0) ∧ Fld Z h a1 z0 "coder" "B" (vI 0)
theorem rm125 (cx : Cx Z a0 w0 w1) (a1 : Addr) (a2 : Addr) (p3 : Int32) (p4 : Int32) (p5 : Int32) (p6 : Int32) (ck7 : ClassId) (O0 : Old Z n0 h0) (PE1 : Exa Z h0 a1 z0) (PF2 : Fld Z h0 a1 z0 "value" "[B" .null) (PF3 : Fld Z h0 a1 z0 "coder" "B" (vI 0)) (PV4 : Arv Z h0 a2 ck7 .char (4 : Int32) [(vI p3), (vI p4), (vI p5), (vI p6)] (vI 0)) (hc5 : ¬ ((255 : Int32) < p3)) (hc6 : ¬ ((255 : Int32) < p4)) (hc7 : ¬ ((255 : Int32) < p5)) (hc8 : ¬ ((255 : Int32) < p6)) (gn9 : n0 ≤ a1) : Ct l Z ⟨z0, "<init>", z13⟩ jdk_42_method_149_code 6 none ⟨2, 1, 4, 35⟩ #[(vR a1), (vR a2), (vI 0), (vI 4), .null] h0 (Qrm125 Z a1 p3 p4 p5 p6 h0 n0) := by
  obtain ⟨hw, hj, hS⟩ := id cx
  refine own_bd (plainFor_of_name pn63) (fun m => ef62 m a1 a2 0 4) fun p e s m below meth c s₁ hret hlk hZ hx hby hml hown hnm X0 e0 => ?_
  have N0 := Fr.nil n0
  obtain ⟨T1, X1, e1, st1⟩ := initO X0 hx hZ hown (hw _ m19) (hw _ m20) (hw _ m21) e0 (g := (mkF m 1 #[sR a1, sR a2, sI 0, sI 4, sN, sU] [(vR a1)])) rfl (by rw [hml]; rfl) rfl (hb hby d4_1) (by decide) (W := 0) (Nat.le_of_eq rfl) (by decide)
  obtain ⟨T2, X2, e2, st2⟩ := getS2 X1 hx hZ hown (host := "") (Or.inl (hw _ m49)) Via.refl e1 (hS.1.ext O0.2) (g := (mkF m 27 #[sR a1, sR a2, sI 0, sI 4, sN, sU] [])) rfl (hb hby d4_27)
  obtain ⟨_, T3, L3, ⟨c3_0, k3_1, rfl, N3q, Kq3, lo3_0, q3_0⟩, X3, st3⟩ := cS X2 hx hZ (W := 0) hown (cw18 cx) (rm123 cx a2 p3 p4 p5 p6 ck7 O0 PV4 hc5 hc6 hc7 hc8) e2 (g := (mkF m 36 #[sR a1, sR a2, sI 0, sI 4, sN, sU] [(vI 4), (vI 0), (vR a2)])) rfl hml rfl (rest := []) rfl rfl rfl rfl (hb hby d4_36) (by decide)
  have N3 := Fr.app N0 N3q
  have O3 : Old Z n0 T3.heap := O0.keep Kq3 all0
  have K3 : Keep h0 T3.heap [a1] := (Keep.refl h0 [a1]).trans Kq3 all0
  obtain ⟨_, T4, L4, ⟨rfl, N4q, e4⟩, X4, st4⟩ := cS X3 hx hZ (W := 1) hown (cw19 cx) (rm124 cx c3_0 (p3.toInt8.toInt32) (p4.toInt8.toInt32) (p5.toInt8.toInt32) (p6.toInt8.toInt32) k3_1 O3 q3_0) (rfl : T3.heap = T3.heap) (g := (mkF m 45 #[sR a1, sR a2, sI 0, sI 4, sN, sR c3_0] [(vI 4), (vR c3_0), (vR a1)])) rfl hml rfl (rest := [(vR a1)]) rfl rfl rfl rfl (hb hby d4_45) (by decide)
  have f5 : Fld Z T3.heap a1 z0 "coder" "B" (vI 0) := (PF3.keep Kq3 nin0)
  have f6 : Exa Z T3.heap a1 z0 := (PE1.keep Kq3)
  obtain ⟨T7, h7, L'7, X7, e7, W7, Fw7, O7, K7, N7, st7⟩ := own_putN X4 hx hZ hown (hw _ m29) Via.refl e4 O3 K3 (Fr.app N3 N4q) gn9 (Or.inl (List.mem_of_getElem? (i := 0) rfl)) f5 f6 (Or.inr ⟨(hw _ m25), rfl, hnm⟩) (hw _ m10) (ty := .byte) (v' := (vI 0)) (by decide) rfl (by decide) (g := (mkF m 48 #[sR a1, sR a2, sI 0, sI 4, sN, sR c3_0] [(vI 0), (vR a1)])) rfl rfl (hb hby d4_48)
  have f8 : Fld Z h7 a1 z0 "value" "[B" .null := ((PF2.keep Kq3 nin0).other W7 (Or.inr (slot_ne (Or.inr (hw _ m24)) (Or.inr (hw _ m25)) (by decide) (t := (.array .byte)) (t' := .byte) (by decide) (by decide))))
  have f9 : Exa Z h7 a1 z0 := (f6.wr W7)
  obtain ⟨T10, h10, L'10, X10, e10, W10, Fw10, O10, K10, N10, st10⟩ := own_put X7 hx hZ hown (host := "") (Or.inl (hw _ m28)) Via.refl e7 O7 K7 N7 gn9 (Or.inl (List.mem_of_getElem? (i := 0) rfl)) f8 f9 (Or.inr ⟨(hw _ m24), rfl, hnm⟩) (hw _ m10) (ty := (.array .byte)) (by decide) rfl rfl (g := (mkF m 54 #[sR a1, sR a2, sI 0, sI 4, sN, sR c3_0] [(vR c3_0), (vR a1)])) rfl rfl (hb hby d4_54)
  have f11 : Arv Z h10 c3_0 k3_1 .byte (4 : Int32) [(vI (p3.toInt8.toInt32)), (vI (p4.toInt8.toInt32)), (vI (p5.toInt8.toInt32)), (vI (p6.toInt8.toInt32))] (vI 0) := ((q3_0.other W7 (Ne.symm (Nat.ne_of_lt (Nat.lt_of_lt_of_le PE1.lt lo3_0)))).other W10 (Ne.symm (Nat.ne_of_lt (Nat.lt_of_lt_of_le PE1.lt lo3_0))))
  have f12 : Fld Z h10 a1 z0 "coder" "B" (vI 0) := (Fw7.other W10 (Or.inr (slot_ne (Or.inr (hw _ m25)) (Or.inr (hw _ m24)) (by decide) (t := .byte) (t' := (.array .byte)) (by decide) (by decide))))
  refine own_end X10 hlk (v := none) (fun _ => rfl) (by decide) (by rw [e10]; exact ⟨c3_0, k3_1, rfl, N10, K10, (Nat.le_trans (Keep.refl h0 [a1]).1 lo3_0), f11, Fw10, f12⟩) fun fs hr => ?_
  show St p e below s₁ (mkF m 0 #[sR a1, sR a2, sI 0, sI 4, sN, sU] []) _
  refine wal X0 hx hby rfl d4_0 rfl rfl ?_
  refine st1 _ ?_
  refine wil X1 hx hby rfl d4_4 rfl ?_
  refine wfy X1 hx hby rfl (pc0 := 5) (pc' := 27) rfl d4_5 rfl ((if0 _ _).trans (feq (by decide : ¬ ((4 : Int32) = (0 : Int32)))).2) (by decide) (by decide) ?_
  refine st2 _ ?_
  refine wfn X2 hx hby rfl d4_30 rfl ((if0 _ _).trans (feq hS.2.1).1) ?_
  refine wal X2 hx hby rfl d4_33 rfl rfl ?_
  refine wil X2 hx hby rfl d4_34 rfl ?_
  refine wil X2 hx hby rfl d4_35 rfl ?_
  refine st3 _ ?_
  refine waS X3 hx hby rfl d4_39 rfl rfl (l' := #[sR a1, sR a2, sI 0, sI 4, sN, sR c3_0]) rfl ?_
  refine wal X3 hx hby rfl d4_41 rfl rfl ?_
  refine waL X3 hx hby rfl d4_42 rfl rfl ?_
  refine wil X3 hx hby rfl d4_44 rfl ?_
  refine st4 _ ?_
  refine st7 _ ?_
  show St p e below T7 (mkF m 51 #[sR a1, sR a2, sI 0, sI 4, sN, sR c3_0] []) _
  refine wal X7 hx hby rfl d4_51 rfl rfl ?_
  refine waL X7 hx hby rfl d4_52 rfl rfl ?_
  refine st10 _ ?_
  exact X10.returnOut hx hret (hb hby d4_57) hr
def Qrm126 (Z : State) (a1 : Addr) (p3 : Int32) (p4 : Int32) (p5 : Int32) (p6 : Int32) (h0 : Heap) (n0 : Nat) (v : Option Value) (h : Heap) (L : List Loc) : Prop := ∃ x0 : Addr, ∃ xk0 : ClassId, v = none ∧ Fr n0 L ∧ Keep h0 h [a1] ∧ h0.size ≤ x0 ∧ Arv Z h x0 xk0 .byte (4 : Int32) [(vI (p3.toInt8.toInt32)), (vI (p4.toInt8.toInt32)), (vI (p5.toInt8.toInt32)), (vI (p6.toInt8.toInt32))] (vI 0) ∧ Fld Z h a1 z0 "value" "[B" (vR x0) ∧ Fld Z h a1 z0 "coder" "B" (vI 0)
theorem rm126 (cx : Cx Z a0 w0 w1) (a1 : Addr) (a2 : Addr) (p3 : Int32) (p4 : Int32) (p5 : Int32) (p6 : Int32) (ck7 : ClassId) (O0 : Old Z n0 h0) (PE1 : Exa Z h0 a1 z0) (PF2 : Fld Z h0 a1 z0 "value" "[B" .null) (PF3 : Fld Z h0 a1 z0 "coder" "B" (vI 0)) (PV4 : Arv Z h0 a2 ck7 .char (4 : Int32) [(vI p3), (vI p4), (vI p5), (vI p6)] (vI 0)) (hc5 : ¬ ((255 : Int32) < p3)) (hc6 : ¬ ((255 : Int32) < p4)) (hc7 : ¬ ((255 : Int32) < p5)) (hc8 : ¬ ((255 : Int32) < p6)) (gn9 : n0 ≤ a1) : Ct l Z ⟨z0, "<init>", "([C)V"⟩ jdk_42_method_3_code 2 none ⟨3, 1, 4, 52⟩ #[(vR a1), (vR a2)] h0 (Qrm126 Z a1 p3 p4 p5 p6 h0 n0) := by
  obtain ⟨hw, hj, hS⟩ := id cx
  refine own_bd (plainFor_of_name pn63) (fun m => ef68 m a1 a2) fun p e s m below meth c s₁ hret hlk hZ hx hby hml hown hnm X0 e0 => ?_
  have N0 := Fr.nil n0
  obtain ⟨_, T1, L1, ⟨c1_0, k1_1, rfl, N1q, Kq1, lo1_0, q1_0, q1_1, q1_2⟩, X1, st1⟩ := cI X0 hx hZ (W := 0) hown (cw0 cx) (rm125 cx a1 a2 p3 p4 p5 p6 ck7 O0 PE1 PF2 PF3 PV4 hc5 hc6 hc7 hc8 gn9) e0 (g := (mkF m 6 #[sR a1, sR a2] [.null, (vI 4), (vI 0), (vR a2), (vR a1)])) rfl hml rfl (rest := []) rfl rfl rfl rfl (hb hby d3_6) (by decide)
  have N1 := Fr.app N0 N1q
  have O1 : Old Z n0 T1.heap := O0.keep Kq1 (allS gn9 all0)
  have K1 : Keep h0 T1.heap [a1] := (Keep.refl h0 [a1]).trans Kq1 (allS (Or.inl (List.mem_of_getElem? (i := 0) rfl)) all0)
  refine own_end X1 hlk (v := none) (fun _ => rfl) (by decide) ⟨c1_0, k1_1, rfl, N1, K1, (Nat.le_trans (Keep.refl h0 [a1]).1 lo1_0), q1_0, q1_1, q1_2⟩ fun fs hr => ?_
  show St p e below s₁ (mkF m 0 #[sR a1, sR a2] []) _
  refine wal X0 hx hby rfl d3_0 rfl rfl ?_
  refine wal X0 hx hby rfl d3_1 rfl rfl ?_
  refine wic X0 hx hby rfl d3_2 ?_
  refine wal X0 hx hby rfl d3_3 rfl rfl ?_
  refine own_alen X0 hx hZ e0 PV4 (g := (mkF m 4 #[sR a1, sR a2] [(vR a2), (vI 0), (vR a2), (vR a1)])) rfl rfl (hb hby d3_4) ?_
  refine wan X0 hx hby rfl d3_5 ?_
  refine st1 _ ?_
  exact X1.returnOut hx hret (hb hby d3_9) hr
def Qrm127 (Z : State) (p2 : Int32) (p3 : Int32) (p4 : Int32) (p5 : Int32) (h0 : Heap) (n0 : Nat) (v : Option Value) (h : Heap) (L : List Loc) : Prop := ∃ x0 : Addr, ∃ x1 : Addr, ∃ xk0 : ClassId, v = some (vR x0) ∧ Fr n0 L ∧ Keep h0 h [] ∧ h0.size ≤ x0 ∧ x0 < x1 ∧ Exa Z h x0 z0 ∧ Fld Z h x0 z0 "value" "[B" (vR x1) ∧ Fld Z h x0 z0 "coder" "B" (vI 0) ∧ Arv Z h x1 xk0 .byte (4 : Int32) [(vI (p2.toInt8.toInt32)), (vI (p3.toInt8.toInt32)), (vI (p4.toInt8.toInt32)), (vI (p5.toInt8.toInt32))] (vI 0)
theorem rm127 (cx : Cx Z a0 w0 w1) (a1 : Addr) (p2 : Int32) (p3 : Int32) (p4 : Int32) (p5 : Int32) (ck6 : ClassId) (O0 : Old Z n0 h0) (PV1 : Arv Z h0 a1 ck6 .char (4 : Int32) [(vI p2), (vI p3), (vI p4), (vI p5)] (vI 0)) (hc2 : ¬ (p2 < (0 : Int32))) (hc3 : ¬ ((65535 : Int32) < p2)) (hc4 : ¬ (p3 < (0 : Int32))) (hc5 : ¬ ((65535 : Int32) < p3)) (hc6 : ¬ (p4 < (0 : Int32))) (hc7 : ¬ ((65535 : Int32) < p4)) (hc8 : ¬ (p5 < (0 : Int32))) (hc9 : ¬ ((65535 : Int32) < p5)) (hc10 : ¬ ((255 : Int32) < p2)) (hc11 : ¬ ((255 : Int32) < p3)) (hc12 : ¬ ((255 : Int32) < p4)) (hc13 : ¬ ((255 : Int32) < p5)) : Ct l Z ⟨z1, "make", z12⟩ method_4_code 2 (some (.object z0)) ⟨4, 3, 12, 66⟩ #[(vI 4), (vR a1)] h0 (Qrm127 Z p2 p3 p4 p5 h0 n0) := by
  obtain ⟨hw, hj, hS⟩ := id cx
  refine own_bd (plainFor_of_name pn11) (fun m => ef73 m 4 a1) fun p e s m below meth c s₁ hret hlk hZ hx hby hml hown hnm X0 e0 => ?_
  have N0 := Fr.nil n0
  obtain ⟨T1, h1, b1, X1, e1, E1, A1, D1, g1, O1, K1, st1⟩ := own_newO X0 hx hZ hown (hw _ m9) (hw _ m10) (hw _ m11) e0 O0 (Keep.refl h0 []) (g := (mkF m 99 #[sI 4, sR a1] [])) rfl (hb hby d2_99) (by decide) (by decide)
  have F1_1 : Fld Z h1 b1 z0 "value" "[B" .null := D1 (Or.inr (hw _ m24)) (ty := (.array .byte)) (by decide)
  have F1_2 : Fld Z h1 b1 z0 "coder" "B" (vI 0) := D1 (Or.inr (hw _ m25)) (ty := .byte) (by decide)
  obtain ⟨T2, h2, k2, b2, X2, e2, E2, V2, g2, O2, K2, st2⟩ := own_newP X1 hx hZ (aty := .char) (ty := .char) (dv := (.int (0 : Int32))) (vs := [(.int (0 : Int32)), (.int (0 : Int32)), (.int (0 : Int32)), (.int (0 : Int32))]) (cap := 4) rfl rfl rfl (hw _ m1) e1 O1 K1 (g := (mkF m 104 #[sI 4, sR a1] [(vI 4), (vR b1), (vR b1)])) rfl (hb hby d2_104) rfl (by decide) (by decide) (by decide) (by decide) (by decide)
  have f3 : Arv Z h2 a1 ck6 .char (4 : Int32) [(vI p2), (vI p3), (vI p4), (vI p5)] (vI 0) := ((PV1.ext E1).ext E2)
  obtain ⟨T4, h4, L'4, X4, e4, W4, V4, O4, K4, N4, st4⟩ := own_stC X2 hx hZ e2 V2 O2 K2 N0 (Nat.le_trans (own_old_le O1) g2) (Or.inr (Nat.le_trans K1.1 g2)) (j := (0 : Int32)) 0 (by decide) (Nat.le_of_ble_eq_true rfl) (v := (vI p2)) (congrArg Value.int (own_narC hc2 hc3)) (vs' := [(vI p2), (vI 0), (vI 0), (vI 0)]) rfl (g := (mkF m 111 #[sI 4, sR a1] [(vI p2), (vI 0), (vR b2), (vR b2), (vR b1), (vR b1)])) rfl rfl (hb hby d2_111)
  have ne5 : a1 ≠ b2 := (Nat.ne_of_lt (Nat.lt_of_lt_of_le (Nat.lt_of_lt_of_le PV1.lt E1.1) g2))
  have f6 : Arv Z h4 a1 ck6 .char (4 : Int32) [(vI p2), (vI p3), (vI p4), (vI p5)] (vI 0) := (f3.other W4 ne5)
  obtain ⟨T7, h7, L'7, X7, e7, W7, V7, O7, K7, N7, st7⟩ := own_stC X4 hx hZ e4 V4 O4 K4 N4 (Nat.le_trans (own_old_le O1) g2) (Or.inr (Nat.le_trans K1.1 g2)) (j := (1 : Int32)) 1 (by decide) (Nat.le_of_ble_eq_true rfl) (v := (vI p3)) (congrArg Value.int (own_narC hc4 hc5)) (vs' := [(vI p2), (vI p3), (vI 0), (vI 0)]) rfl (g := (mkF m 117 #[sI 4, sR a1] [(vI p3), (vI 1), (vR b2), (vR b2), (vR b1), (vR b1)])) rfl rfl (hb hby d2_117)
  have f8 : Arv Z h7 a1 ck6 .char (4 : Int32) [(vI p2), (vI p3), (vI p4), (vI p5)] (vI 0) := (f6.other W7 ne5)
  obtain ⟨T9, h9, L'9, X9, e9, W9, V9, O9, K9, N9, st9⟩ := own_stC X7 hx hZ e7 V7 O7 K7 N7 (Nat.le_trans (own_old_le O1) g2) (Or.inr (Nat.le_trans K1.1 g2)) (j := (2 : Int32)) 2 (by decide) (Nat.le_of_ble_eq_true rfl) (v := (vI p4)) (congrArg Value.int (own_narC hc6 hc7)) (vs' := [(vI p2), (vI p3), (vI p4), (vI 0)]) rfl (g := (mkF m 123 #[sI 4, sR a1] [(vI p4), (vI 2), (vR b2), (vR b2), (vR b1), (vR b1)])) rfl rfl (hb hby d2_123)
  have f10 : Arv Z h9 a1 ck6 .char (4 : Int32) [(vI p2), (vI p3), (vI p4), (vI p5)] (vI 0) := (f8.other W9 ne5)
  obtain ⟨T11, h11, L'11, X11, e11, W11, V11, O11, K11, N11, st11⟩ := own_stC X9 hx hZ e9 V9 O9 K9 N9 (Nat.le_trans (own_old_le O1) g2) (Or.inr (Nat.le_trans K1.1 g2)) (j := (3 : Int32)) 3 (by decide) (Nat.le_of_ble_eq_true rfl) (v := (vI p5)) (congrArg Value.int (own_narC hc8 hc9)) (vs' := [(vI p2), (vI p3), (vI p4), (vI p5)]) rfl (g := (mkF m 129 #[sI 4, sR a1] [(vI p5), (vI 3), (vR b2), (vR b2), (vR b1), (vR b1)])) rfl rfl (hb hby d2_129)
  have f13 : Exa Z h11 b1 z0 := (((((A1.ext E2).wr W4).wr W7).wr W9).wr W11)
  have f14 : Fld Z h11 b1 z0 "value" "[B" .null := (((((F1_1.ext E2).other W4 (Or.inl (Nat.ne_of_lt (Nat.lt_of_lt_of_le A1.lt g2)))).other W7 (Or.inl (Nat.ne_of_lt (Nat.lt_of_lt_of_le A1.lt g2)))).other W9 (Or.inl (Nat.ne_of_lt (Nat.lt_of_lt_of_le A1.lt g2)))).other W11 (Or.inl (Nat.ne_of_lt (Nat.lt_of_lt_of_le A1.lt g2))))
  have f15 : Fld Z h11 b1 z0 "coder" "B" (vI 0) := (((((F1_2.ext E2).other W4 (Or.inl (Nat.ne_of_lt (Nat.lt_of_lt_of_le A1.lt g2)))).other W7 (Or.inl (Nat.ne_of_lt (Nat.lt_of_lt_of_le A1.lt g2)))).other W9 (Or.inl (Nat.ne_of_lt (Nat.lt_of_lt_of_le A1.lt g2)))).other W11 (Or.inl (Nat.ne_of_lt (Nat.lt_of_lt_of_le A1.lt g2))))
  obtain ⟨_, T12, L12, ⟨c12_0, k12_1, rfl, N12q, Kq12, lo12_0, q12_0, q12_1, q12_2⟩, X12, st12⟩ := cI X11 hx hZ (W := 1) hown (cw1 cx) (rm126 cx b1 b2 p2 p3 p4 p5 k2 O11 f13 f14 f15 V11 hc10 hc11 hc12 hc13 (Nat.le_trans (own_old_le O0) g1)) e11 (g := (mkF m 130 #[sI 4, sR a1] [(vR b2), (vR b1), (vR b1)])) rfl hml rfl (rest := [(vR b1)]) rfl rfl rfl rfl (hb hby d2_130) (by decide)
  have N12 := Fr.app N11 N12q
  have O12 : Old Z n0 T12.heap := O11.keep Kq12 (allS (Nat.le_trans (own_old_le O0) g1) all0)
  have K12 : Keep h0 T12.heap [] := K11.trans Kq12 (allS (Or.inr (Nat.le_trans (Keep.refl h0 []).1 g1)) all0)
  have f16 : Exa Z T12.heap b1 z0 := (f13.keep Kq12)
  refine own_end X12 hlk (v := some (vR b1)) (own_hv hret) (by decide) ⟨b1, c12_0, k12_1, rfl, N12, K12, (Nat.le_trans (Keep.refl h0 []).1 g1), (Nat.lt_of_lt_of_le (Nat.lt_of_lt_of_le A1.lt (Nat.le_trans (Nat.le_trans (Nat.le_trans (Nat.le_trans E2.1 (Nat.le_of_eq W4.size.symm)) (Nat.le_of_eq W7.size.symm)) (Nat.le_of_eq W9.size.symm)) (Nat.le_of_eq W11.size.symm))) lo12_0), f16, q12_1, q12_2, q12_0⟩ fun fs hr => ?_
  show St p e below s₁ (mkF m 0 #[sI 4, sR a1] []) _
  refine wil X0 hx hby rfl d2_0 rfl ?_
  refine wfy X0 hx hby rfl (pc0 := 1) (pc' := 15) rfl d2_1 rfl ((if0 _ _).trans (feq (by decide : ¬ ((4 : Int32) = (0 : Int32)))).2) (by decide) (by decide) ?_
  refine wil X0 hx hby rfl d2_15 rfl ?_
  refine wic X0 hx hby rfl d2_16 ?_
  refine wcy X0 hx hby rfl (pc0 := 17) (pc' := 37) rfl d2_17 rfl (feq (by decide : ¬ ((4 : Int32) = (1 : Int32)))).2 (by decide) (by decide) ?_
  refine wil X0 hx hby rfl d2_37 rfl ?_
  refine wic X0 hx hby rfl d2_38 ?_
  refine wcy X0 hx hby rfl (pc0 := 39) (pc' := 65) rfl d2_39 rfl (feq (by decide : ¬ ((4 : Int32) = (2 : Int32)))).2 (by decide) (by decide) ?_
  refine wil X0 hx hby rfl d2_65 rfl ?_
  refine wic X0 hx hby rfl d2_66 ?_
  refine wcy X0 hx hby rfl (pc0 := 67) (pc' := 99) rfl d2_67 rfl (feq (by decide : ¬ ((4 : Int32) = (3 : Int32)))).2 (by decide) (by decide) ?_
  refine st1 _ ?_
  refine wdu X1 hx hby rfl d2_102 rfl rfl ?_
  refine wic X1 hx hby rfl d2_103 ?_
  refine st2 _ ?_
  refine wdu X2 hx hby rfl d2_106 rfl rfl ?_
  show St p e below T2 (mkF m 107 #[sI 4, sR a1] [(vR b2), (vR b2), (vR b1), (vR b1)]) _
  refine wic X2 hx hby rfl d2_107 ?_
  refine wal X2 hx hby rfl d2_108 rfl rfl ?_
  refine wic X2 hx hby rfl d2_109 ?_
  refine own_caload X2 hx hZ e2 f3 (j := 0) (by decide) (v := (vI p2)) rfl (g := (mkF m 110 #[sI 4, sR a1] [(vI 0), (vR a1), (vI 0), (vR b2), (vR b2), (vR b1), (vR b1)])) rfl rfl (hb hby d2_110) ?_
  refine st4 _ ?_
  refine wdu X4 hx hby rfl d2_112 rfl rfl ?_
  refine wic X4 hx hby rfl d2_113 ?_
  refine wal X4 hx hby rfl d2_114 rfl rfl ?_
  refine wic X4 hx hby rfl d2_115 ?_
  refine own_caload X4 hx hZ e4 f6 (j := 1) (by decide) (v := (vI p3)) rfl (g := (mkF m 116 #[sI 4, sR a1] [(vI 1), (vR a1), (vI 1), (vR b2), (vR b2), (vR b1), (vR b1)])) rfl rfl (hb hby d2_116) ?_
  refine st7 _ ?_
  refine wdu X7 hx hby rfl d2_118 rfl rfl ?_
  refine wic X7 hx hby rfl d2_119 ?_
  refine wal X7 hx hby rfl d2_120 rfl rfl ?_
  refine wic X7 hx hby rfl d2_121 ?_
  refine own_caload X7 hx hZ e7 f8 (j := 2) (by decide) (v := (vI p4)) rfl (g := (mkF m 122 #[sI 4, sR a1] [(vI 2), (vR a1), (vI 2), (vR b2), (vR b2), (vR b1), (vR b1)])) rfl rfl (hb hby d2_122) ?_
  show St p e below T7 (mkF m 123 #[sI 4, sR a1] [(vI p4), (vI 2), (vR b2), (vR b2), (vR b1), (vR b1)]) _
  refine st9 _ ?_
  refine wdu X9 hx hby rfl d2_124 rfl rfl ?_
  refine wic X9 hx hby rfl d2_125 ?_
  refine wal X9 hx hby rfl d2_126 rfl rfl ?_
  refine wic X9 hx hby rfl d2_127 ?_
  refine own_caload X9 hx hZ e9 f10 (j := 3) (by decide) (v := (vI p5)) rfl (g := (mkF m 128 #[sI 4, sR a1] [(vI 3), (vR a1), (vI 3), (vR b2), (vR b2), (vR b1), (vR b1)])) rfl rfl (hb hby d2_128) ?_
  refine st11 _ ?_
  refine st12 _ ?_
  exact retOut X12 hx hret rfl (Or.inr (Or.inr (Or.inr (Or.inr ⟨rfl, rfl, rfl⟩)))) (hb hby d2_133) hr
def Qrm128 (Z : State) (h0 : Heap) (n0 : Nat) (v : Option Value) (h : Heap) (L : List Loc) : Prop := v = some (vI 4) ∧ Fr n0 L ∧ h = h0
theorem rm128 (cx : Cx Z a0 w0 w1) (a1 : Addr) (a2 : Addr) (p3 : Int32) (p4 : Int32) (p5 : Int32) (p6 : Int32) (ck7 : ClassId) (O0 : Old Z n0 h0) (PF1 : Fld Z h0 a1 z0 "value" "[B" (vR a2)) (PV2 : Arv Z h0 a2 ck7 .byte (4 : Int32) [(vI p3), (vI p4), (vI p5), (vI p6)] (vI 0)) (PF3 : Fld Z h0 a1 z0 "coder" "B" (vI 0)) (PE4 : Exa Z h0 a1 z0) : Ct l Z ⟨z0, "length", "()I"⟩ jdk_42_method_54_code 1 (some .int) ⟨1, 0, 0, 13⟩ #[(vR a1)] h0 (Qrm128 Z h0 n0) := by
  obtain ⟨hw, hj, hS⟩ := id cx
  refine own_bd (plainFor_of_name pn63) (fun m => ef104 m a1) fun p e s m below meth c s₁ hret hlk hZ hx hby hml hown hnm X0 e0 => ?_
  have N0 := Fr.nil n0
  obtain ⟨T1, X1, e1, st1⟩ := getF X0 hx hZ hown (host := "") (Or.inl (hw _ m28)) Via.refl e0 PF1 (g := (mkF m 1 #[sR a1] [(vR a1)])) rfl rfl (hb hby d8_1)
  obtain ⟨_, T2, L2, ⟨rfl, N2q, e2⟩, X2, st2⟩ := cV X1 hx hZ (W := 1) hown (cw3 cx) (rm4 cx a1 O0 PF3) e1 PE4 (g := (mkF m 6 #[sR a1] [(vR a1), (vI 4)])) rfl hml rfl (rest := [(vI 4)]) rfl rfl rfl rfl (hb hby d8_6) (by decide)
  refine own_end X2 hlk (v := some (vI 4)) (own_hv hret) (by decide) (by rw [e2]; exact ⟨rfl, (Fr.app N0 N2q), rfl⟩) fun fs hr => ?_
  show St p e below s₁ (mkF m 0 #[sR a1] []) _
  refine wal X0 hx hby rfl d8_0 rfl rfl ?_
  refine st1 _ ?_
  refine own_alen X1 hx hZ e1 PV2 (g := (mkF m 4 #[sR a1] [(vR a2)])) rfl rfl (hb hby d8_4) ?_
  refine wal X1 hx hby rfl d8_5 rfl rfl ?_
  refine st2 _ ?_
  refine Own.ishr X2.here hx rfl (hb hby d8_9) rfl (by decide : ((4 : Int32) >>> ((0 : Int32) &&& 31)) = (4 : Int32)) ?_
  exact retOut X2 hx hret rfl (Or.inl ⟨rfl, Or.inl rfl, _, rfl⟩) (hb hby d8_10) hr
def Qrm129 (Z : State) (h0 : Heap) (n0 : Nat) (v : Option Value) (h : Heap) (L : List Loc) : Prop := v = some (vI 3) ∧ Fr n0 L ∧ h = h0
theorem rm129 (cx : Cx Z a0 w0 w1) (a1 : Addr) (p2 : Int32) (p3 : Int32) (p4 : Int32) (p5 : Int32) (ck6 : ClassId) (O0 : Old Z n0 h0) (PV1 : Arv Z h0 a1 ck6 .byte (4 : Int32) [(vI p2), (vI p3), (vI p4), (vI p5)] (vI 0)) (hc2 : p5 = (58 : Int32)) : Ct l Z ⟨z2, z4, "([BII)I"⟩ jdk_43_method_27_code 4 (some .int) ⟨1, 0, 0, 13⟩ #[(vR a1), (vI 58), (vI 3)] h0 (Qrm129 Z h0 n0) := by
  obtain ⟨hw, hj, hS⟩ := id cx
  refine own_bd (plainFor_of_name pn154) (fun m => ef183 m a1 58 3) fun p e s m below meth c s₁ hret hlk hZ hx hby hml hown hnm X0 e0 => ?_
  have N0 := Fr.nil n0
  obtain ⟨_, T1, L1, ⟨rfl, N1q, e1⟩, X1, st1⟩ := cS X0 hx hZ (W := 0) hown (cw6 cx) (rm7 cx 58 O0 (by decide : ¬ ((58 : Int32) < (0 : Int32))) (by decide : ¬ ((255 : Int32) < (58 : Int32)))) e0 (g := (mkF m 1 #[sR a1, sI 58, sI 3, sU] [(vI 58)])) rfl hml rfl (rest := []) rfl rfl rfl rfl (hb hby d12_1) (by decide)
  obtain ⟨_, T2, L2, ⟨rfl, N2q, e2⟩, X2, st2⟩ := cS X1 hx hZ (W := 0) hown (cw7 cx) (rm8 cx 3 O0) e1 (g := (mkF m 14 #[sR a1, sI 58, sI 3, sU] [(vI 3), (vI 3)])) rfl hml rfl (rest := []) rfl rfl rfl rfl (hb hby d12_14) (by decide)
  refine own_end X2 hlk (v := some (vI 3)) (own_hv hret) (by decide) (by rw [e2]; exact ⟨rfl, (Fr.app (Fr.app N0 N1q) N2q), rfl⟩) fun fs hr => ?_
  show St p e below s₁ (mkF m 0 #[sR a1, sI 58, sI 3, sU] []) _
  refine wil X0 hx hby rfl d12_0 rfl ?_
  refine st1 _ ?_
  refine wfy X1 hx hby rfl (pc0 := 4) (pc' := 9) rfl d12_4 rfl ((if0 _ _).trans (feq (by decide : ¬ ((1 : Int32) = (0 : Int32)))).2) (by decide) (by decide) ?_
  refine wil X1 hx hby rfl d12_9 rfl ?_
  refine wal X1 hx hby rfl d12_10 rfl rfl ?_
  refine own_alen X1 hx hZ e1 PV1 (g := (mkF m 11 #[sR a1, sI 58, sI 3, sU] [(vR a1), (vI 3)])) rfl rfl (hb hby d12_11) ?_
  refine wic X1 hx hby rfl d12_12 ?_
  refine Own.isub X1.here hx rfl (hb hby d12_13) rfl (by decide : ((4 : Int32) - (1 : Int32)) = (3 : Int32)) ?_
  refine st2 _ ?_
  refine wis X2 hx hby rfl d12_17 rfl (l' := #[sR a1, sI 58, sI 3, sI 3]) rfl ?_
  refine wil X2 hx hby rfl d12_18 rfl ?_
  refine wfn X2 hx hby rfl d12_19 rfl ((if0 _ _).trans (flt (by decide : ¬ ((3 : Int32) < (0 : Int32)))).1) ?_
  refine wal X2 hx hby rfl d12_22 rfl rfl ?_
  refine wil X2 hx hby rfl d12_23 rfl ?_
  refine own_baloadB X2 hx hZ e2 PV1 (j := 3) (by decide) (v := (vI p5)) rfl (g := (mkF m 24 #[sR a1, sI 58, sI 3, sI 3] [(vI 3), (vR a1)])) rfl rfl (hb hby d12_24) ?_
  refine wil X2 hx hby rfl d12_25 rfl ?_
  show St p e below T2 (mkF m 26 #[sR a1, sI 58, sI 3, sI 3] [(vI 58), (vI p5)]) _
  refine Own.i2b X2.here hx rfl (hb hby d12_26) rfl (by decide : ((58 : Int32).toInt8.toInt32) = (58 : Int32)) ?_
  refine wcn X2 hx hby rfl d12_27 rfl (teq hc2).2 ?_
  refine wil X2 hx hby rfl d12_30 rfl ?_
  exact retOut X2 hx hret rfl (Or.inl ⟨rfl, Or.inl rfl, _, rfl⟩) (hb hby d12_31) hr
def Qrm130 (Z : State) (h0 : Heap) (n0 : Nat) (v : Option Value) (h : Heap) (L : List Loc) : Prop := v = some (vI 3) ∧ Fr n0 L ∧ h = h0
theorem rm130 (cx : Cx Z a0 w0 w1) (a1 : Addr) (a2 : Addr) (p3 : Int32) (p4 : Int32) (p5 : Int32) (p6 : Int32) (ck7 : ClassId) (O0 : Old Z n0 h0) (PF1 : Fld Z h0 a1 z0 "coder" "B" (vI 0)) (PE2 : Exa Z h0 a1 z0) (PF3 : Fld Z h0 a1 z0 "value" "[B" (vR a2)) (PV4 : Arv Z h0 a2 ck7 .byte (4 : Int32) [(vI p3), (vI p4), (vI p5), (vI p6)] (vI 0)) (hc5 : p6 = (58 : Int32)) : Ct l Z ⟨z0, z4, "(II)I"⟩ jdk_42_method_83_code 3 (some .int) ⟨2, 0, 0, 28⟩ #[(vR a1), (vI 58), (vI 3)] h0 (Qrm130 Z h0 n0) := by
  obtain ⟨hw, hj, hS⟩ := id cx
  refine own_bd (plainFor_of_name pn63) (fun m => ef189 m a1 58 3) fun p e s m below meth c s₁ hret hlk hZ hx hby hml hown hnm X0 e0 => ?_
  have N0 := Fr.nil n0
  obtain ⟨_, T1, L1, ⟨rfl, N1q, e1⟩, X1, st1⟩ := cV X0 hx hZ (W := 0) hown (cw5 cx) (rm6 cx a1 O0 PF1) e0 PE2 (g := (mkF m 1 #[sR a1, sI 58, sI 3] [(vR a1)])) rfl hml rfl (rest := []) rfl rfl rfl rfl (hb hby d10_1) (by decide)
  obtain ⟨T2, X2, e2, st2⟩ := getF X1 hx hZ hown (host := "") (Or.inl (hw _ m28)) Via.refl e1 PF3 (g := (mkF m 8 #[sR a1, sI 58, sI 3] [(vR a1)])) rfl rfl (hb hby d10_8)
  obtain ⟨_, T3, L3, ⟨rfl, N3q, e3⟩, X3, st3⟩ := cS X2 hx hZ (W := 0) hown (cw8 cx) (rm129 cx a2 p3 p4 p5 p6 ck7 O0 PV4 hc5) e2 (g := (mkF m 13 #[sR a1, sI 58, sI 3] [(vI 3), (vI 58), (vR a2)])) rfl hml rfl (rest := []) rfl rfl rfl rfl (hb hby d10_13) (by decide)
  refine own_end X3 hlk (v := some (vI 3)) (own_hv hret) (by decide) (by rw [e3]; exact ⟨rfl, (Fr.app (Fr.app N0 N1q) N3q), rfl⟩) fun fs hr => ?_
  show St p e below s₁ (mkF m 0 #[sR a1, sI 58, sI 3] []) _
  refine wal X0 hx hby rfl d10_0 rfl rfl ?_
  refine st1 _ ?_
  refine wfn X1 hx hby rfl d10_4 rfl ((if0 _ _).trans (feq (by decide : ¬ ((1 : Int32) = (0 : Int32)))).1) ?_
  refine wal X1 hx hby rfl d10_7 rfl rfl ?_
  refine st2 _ ?_
  refine wil X2 hx hby rfl d10_11 rfl ?_
  refine wil X2 hx hby rfl d10_12 rfl ?_
  refine st3 _ ?_
  refine wgt X3 hx hby rfl (pc0 := 16) (pc' := 28) rfl d10_16 (by decide) (by decide) ?_
  exact retOut X3 hx hret rfl (Or.inl ⟨rfl, Or.inl rfl, _, rfl⟩) (hb hby d10_28) hr
def Qrm131 (Z : State) (h0 : Heap) (n0 : Nat) (v : Option Value) (h : Heap) (L : List Loc) : Prop := v = some (vI 3) ∧ Fr n0 L ∧ h = h0
theorem rm131 (cx : Cx Z a0 w0 w1) (a1 : Addr) (p2 : Int32) (p3 : Int32) (p4 : Int32) (p5 : Int32) (a6 : Addr) (ck7 : ClassId) (O0 : Old Z n0 h0) (PF1 : Fld Z h0 a1 z0 "value" "[B" (vR a6)) (PV2 : Arv Z h0 a6 ck7 .byte (4 : Int32) [(vI p2), (vI p3), (vI p4), (vI p5)] (vI 0)) (PF3 : Fld Z h0 a1 z0 "coder" "B" (vI 0)) (PE4 : Exa Z h0 a1 z0) (hc5 : p5 = (58 : Int32)) : Ct l Z ⟨z0, z4, "(I)I"⟩ jdk_42_method_82_code 2 (some .int) ⟨3, 0, 0, 42⟩ #[(vR a1), (vI 58)] h0 (Qrm131 Z h0 n0) := by
  obtain ⟨hw, hj, hS⟩ := id cx
  refine own_bd (plainFor_of_name pn63) (fun m => ef194 m a1 58) fun p e s m below meth c s₁ hret hlk hZ hx hby hml hown hnm X0 e0 => ?_
  have N0 := Fr.nil n0
  obtain ⟨_, T1, L1, ⟨rfl, N1q, e1⟩, X1, st1⟩ := cV X0 hx hZ (W := 2) hown (cw4 cx) (rm128 cx a1 a6 p2 p3 p4 p5 ck7 O0 PF1 PV2 PF3 PE4) e0 PE4 (g := (mkF m 3 #[sR a1, sI 58] [(vR a1), (vI 58), (vR a1)])) rfl hml rfl (rest := [(vI 58), (vR a1)]) rfl rfl rfl rfl (hb hby d7_3) (by decide)
  obtain ⟨_, T2, L2, ⟨rfl, N2q, e2⟩, X2, st2⟩ := cV X1 hx hZ (W := 0) hown (cw9 cx) (rm130 cx a1 a6 p2 p3 p4 p5 ck7 O0 PF3 PE4 PF1 PV2 hc5) e1 PE4 (g := (mkF m 8 #[sR a1, sI 58] [(vI 3), (vI 58), (vR a1)])) rfl hml rfl (rest := []) rfl rfl rfl rfl (hb hby d7_8) (by decide)
  refine own_end X2 hlk (v := some (vI 3)) (own_hv hret) (by decide) (by rw [e2]; exact ⟨rfl, (Fr.app (Fr.app N0 N1q) N2q), rfl⟩) fun fs hr => ?_
  show St p e below s₁ (mkF m 0 #[sR a1, sI 58] []) _
  refine wal X0 hx hby rfl d7_0 rfl rfl ?_
  refine wil X0 hx hby rfl d7_1 rfl ?_
  refine wal X0 hx hby rfl d7_2 rfl rfl ?_
  refine st1 _ ?_
  refine wic X1 hx hby rfl d7_6 ?_
  refine Own.isub X1.here hx rfl (hb hby d7_7) rfl (by decide : ((4 : Int32) - (1 : Int32)) = (3 : Int32)) ?_
  refine st2 _ ?_
  exact retOut X2 hx hret rfl (Or.inl ⟨rfl, Or.inl rfl, _, rfl⟩) (hb hby d7_11) hr
def Qrm132 (Z : State) (h0 : Heap) (n0 : Nat) (v : Option Value) (h : Heap) (L : List Loc) : Prop := ∃ x0 : Addr, ∃ x1 : Addr, ∃ xk0 : ClassId, v = some (vR x0) ∧ Fr n0 L ∧ Keep h0 h [] ∧ Exa Z h x0 z0 ∧ Fld Z h x0 z0 "coder" "B" (vI 0) ∧ Fld Z h x0 z0 "value" "[B" (vR x1) ∧ Arv Z h x1 xk0 .byte (0 : Int32) [] (vI 0)
theorem rm132 (cx : Cx Z a0 w0 w1) (a1 : Addr) (O0 : Old Z n0 h0) : CtW EL [] l Z ⟨z2, "newString", z11⟩ jdk_43_method_47_code 3 (some (.object z0)) ⟨0, 2, 4, 0⟩ #[(vR a1), (vI 4), (vI 0)] h0 (Qrm132 Z h0 n0) := by
  obtain ⟨hw, hj, hS⟩ := id cx
  refine own_bdW (plainFor_of_name pn154) (fun m => ef189 m a1 4 0) fun p e s m below meth c s₁ hret hlk hZ hx hby hml hown hnm X0 e0 hh C0 hsx hS0 => ?_
  have N0 := Fr.nil n0
  obtain ⟨sa1, T1, h1, k11, sb1, k1, X1, e1, E1, hS1, hk1, hZ1, hown1, A1, Fc1, Fv1, V1, la1, lb1, Cq1, -, hn1, st1⟩ := ldcCH X0 hx hZ hown (hw _ m117) (own_str hw hj) e0 hS0 (Nat.le_refl _) (own_EW hw hj) (List.mem_of_getElem? (i := 1) rfl) C0.1 (vs := []) (z := (0 : Int32)) ⟨by decide, by decide⟩ (by decide) (by decide) (g := (mkF m 4 #[sR a1, sI 4, sI 0] [])) rfl (hb hby d26_4) (n := 0) (by decide) (by decide) (by decide) (by decide)
  have O1 : Old Z n0 h1 := O0.ext E1
  have K1 : Keep h0 h1 [] := (Keep.refl h0 []).ext E1
  have C1 := C0.trans Cq1
  refine own_endW X1 hlk (v := some (vR sa1)) (own_hv hret) hS1 hk1 (by decide) hh e1 C1 hZ1 (own_EW hw hj) (by rw [e1]; exact ⟨sa1, sb1, k1, rfl, N0, K1, A1, Fc1, Fv1, V1⟩) fun fs hr => ?_
  show St p e below s₁ (mkF m 0 #[sR a1, sI 4, sI 0] []) _
  refine wil X0 hx hby rfl d26_0 rfl ?_
  refine wfn X0 hx hby rfl d26_1 rfl ((if0 _ _).trans (teq (by decide : (0 : Int32) = (0 : Int32))).2) ?_
  refine st1 _ ?_
  exact retOut X1 hx hret rfl (Or.inr (Or.inr (Or.inr (Or.inr ⟨rfl, rfl, rfl⟩)))) (hb hby d26_6) hr
def Qrm133 (Z : State) (h0 : Heap) (n0 : Nat) (v : Option Value) (h : Heap) (L : List Loc) : Prop := ∃ x0 : Addr, ∃ x1 : Addr, ∃ xk0 : ClassId, v = some (vR x0) ∧ Fr n0 L ∧ Keep h0 h [] ∧ Exa Z h x0 z0 ∧ Fld Z h x0 z0 "coder" "B" (vI 0) ∧ Fld Z h x0 z0 "value" "[B" (vR x1) ∧ Arv Z h x1 xk0 .byte (0 : Int32) [] (vI 0)
theorem rm133 (cx : Cx Z a0 w0 w1) (a1 : Addr) (p2 : Int32) (p3 : Int32) (p4 : Int32) (p5 : Int32) (a6 : Addr) (ck7 : ClassId) (O0 : Old Z n0 h0) (PF1 : Fld Z h0 a1 z0 "value" "[B" (vR a6)) (PV2 : Arv Z h0 a6 ck7 .byte (4 : Int32) [(vI p2), (vI p3), (vI p4), (vI p5)] (vI 0)) (PF3 : Fld Z h0 a1 z0 "coder" "B" (vI 0)) (PE4 : Exa Z h0 a1 z0) : CtW EL [] l Z ⟨z0, "substring", z8⟩ jdk_42_method_92_code 5 (some (.object z0)) ⟨2, 2, 4, 29⟩ #[(vR a1), (vI 4), (vI 4)] h0 (Qrm133 Z h0 n0) := by
  obtain ⟨hw, hj, hS⟩ := id cx
  refine own_bdW (plainFor_of_name pn63) (fun m => ef255 m a1 4 4) fun p e s m below meth c s₁ hret hlk hZ hx hby hml hown hnm X0 e0 hh C0 hsx hS0 => ?_
  have N0 := Fr.nil n0
  have sf1 := (sf0 : ∀ x ∈ [], Safe Z EL s.vm h0 x)
  obtain ⟨_, T1, L1, ⟨rfl, N1q, e1⟩, X1, st1⟩ := cV X0 hx hZ (W := 0) hown (cw4 cx) (rm128 cx a1 a6 p2 p3 p4 p5 ck7 O0 PF1 PV2 PF3 PE4) e0 PE4 (g := (mkF m 1 #[sR a1, sI 4, sI 4, sU, sU] [(vR a1)])) rfl hml rfl (rest := []) rfl rfl rfl rfl (hb hby d16_1) (by decide)
  have sf2 := (sf0 : ∀ x ∈ [], Safe Z EL s.vm h0 x)
  obtain ⟨_, T2, L2, ⟨rfl, N2q, e2⟩, X2, st2⟩ := cS X1 hx hZ (W := 0) hown (cw12 cx) (rm13 cx 4 O0 (by decide : ¬ ((4 : Int32) < (0 : Int32)))) e1 (g := (mkF m 8 #[sR a1, sI 4, sI 4, sI 4, sU] [(vI 4), (vI 4), (vI 4)])) rfl hml rfl (rest := []) rfl rfl rfl rfl (hb hby d16_8) (by decide)
  have sf3 := (sf0 : ∀ x ∈ [], Safe Z EL s.vm h0 x)
  obtain ⟨_, T3, L3, ⟨rfl, N3q, e3⟩, X3, st3⟩ := cV X2 hx hZ (W := 0) hown (cw5 cx) (rm6 cx a1 O0 PF3) e2 PE4 (g := (mkF m 28 #[sR a1, sI 4, sI 4, sI 4, sI 0] [(vR a1)])) rfl hml rfl (rest := []) rfl rfl rfl rfl (hb hby d16_28) (by decide)
  obtain ⟨T4, X4, e4, st4⟩ := getF X3 hx hZ hown (host := "") (Or.inl (hw _ m28)) Via.refl e3 PF1 (g := (mkF m 35 #[sR a1, sI 4, sI 4, sI 4, sI 0] [(vR a1)])) rfl rfl (hb hby d16_35)
  obtain ⟨_, T5, L5, ⟨c5_0, c5_1, k5_2, rfl, N5q, Kq5, q5_0, q5_1, q5_2, q5_3⟩, hS5, hZ5, hown5, Cq5, X5, st5⟩ := cSW X4 hx hZ (W := 0) hown (cw20 cx) (rm132 cx a6 O0) e4 hS0 (Nat.le_refl _) (own_EW hw hj) C0.1 own_sx0 (g := (mkF m 41 #[sR a1, sI 4, sI 4, sI 4, sI 0] [(vI 0), (vI 4), (vR a6)])) rfl hml rfl (rest := []) rfl rfl rfl rfl (hb hby d16_41) (by decide)
  have N5 := Fr.app (Fr.app (Fr.app (Fr.app N0 N1q) N2q) N3q) N5q
  have C5 := C0.trans Cq5
  have O5 : Old Z n0 T5.heap := O0.keep Kq5 all0
  have K5 : Keep h0 T5.heap [] := (Keep.refl h0 []).trans Kq5 all0
  refine own_endW X5 hlk (v := some (vR c5_0)) (own_hv hret) hS5 (Nat.le_refl _) (by decide) hh (rfl : T5.heap = T5.heap) C5 hZ5 (own_EW hw hj) ⟨c5_0, c5_1, k5_2, rfl, N5, K5, q5_0, q5_1, q5_2, q5_3⟩ fun fs hr => ?_
  show St p e below s₁ (mkF m 0 #[sR a1, sI 4, sI 4, sU, sU] []) _
  refine wal X0 hx hby rfl d16_0 rfl rfl ?_
  refine st1 _ ?_
  refine wis X1 hx hby rfl d16_4 rfl (l' := #[sR a1, sI 4, sI 4, sI 4, sU]) rfl ?_
  refine wil X1 hx hby rfl d16_5 rfl ?_
  refine wil X1 hx hby rfl d16_6 rfl ?_
  refine wil X1 hx hby rfl d16_7 rfl ?_
  refine st2 _ ?_
  refine wil X2 hx hby rfl d16_11 rfl ?_
  refine wfy X2 hx hby rfl (pc0 := 12) (pc' := 22) rfl d16_12 rfl ((if0 _ _).trans (feq (by decide : ¬ ((4 : Int32) = (0 : Int32)))).2) (by decide) (by decide) ?_
  refine wil X2 hx hby rfl d16_22 rfl ?_
  refine wil X2 hx hby rfl d16_23 rfl ?_
  refine Own.isub X2.here hx rfl (hb hby d16_24) rfl (by decide : ((4 : Int32) - (4 : Int32)) = (0 : Int32)) ?_
  refine wiS X2 hx hby rfl d16_25 rfl (l' := #[sR a1, sI 4, sI 4, sI 4, sI 0]) rfl ?_
  refine wal X2 hx hby rfl d16_27 rfl rfl ?_
  refine st3 _ ?_
  refine wfn X3 hx hby rfl d16_31 rfl ((if0 _ _).trans (feq (by decide : ¬ ((1 : Int32) = (0 : Int32)))).1) ?_
  show St p e below T3 (mkF m 34 #[sR a1, sI 4, sI 4, sI 4, sI 0] []) _
  refine wal X3 hx hby rfl d16_34 rfl rfl ?_
  refine st4 _ ?_
  refine wil X4 hx hby rfl d16_38 rfl ?_
  refine wiL X4 hx hby rfl d16_39 rfl ?_
  refine st5 _ ?_
  refine wgt X5 hx hby rfl (pc0 := 44) (pc' := 57) rfl d16_44 (by decide) (by decide) ?_
  exact retOut X5 hx hret rfl (Or.inr (Or.inr (Or.inr (Or.inr ⟨rfl, rfl, rfl⟩)))) (hb hby d16_57) hr
def Qrm134 (Z : State) (h0 : Heap) (n0 : Nat) (v : Option Value) (h : Heap) (L : List Loc) : Prop := ∃ x0 : Addr, ∃ x1 : Addr, ∃ xk0 : ClassId, v = some (vR x0) ∧ Fr n0 L ∧ Keep h0 h [] ∧ Exa Z h x0 z0 ∧ Fld Z h x0 z0 "coder" "B" (vI 0) ∧ Fld Z h x0 z0 "value" "[B" (vR x1) ∧ Arv Z h x1 xk0 .byte (0 : Int32) [] (vI 0)
theorem rm134 (cx : Cx Z a0 w0 w1) (a1 : Addr) (p2 : Int32) (p3 : Int32) (p4 : Int32) (p5 : Int32) (a6 : Addr) (ck7 : ClassId) (O0 : Old Z n0 h0) (PF1 : Fld Z h0 a1 z0 "value" "[B" (vR a6)) (PV2 : Arv Z h0 a6 ck7 .byte (4 : Int32) [(vI p2), (vI p3), (vI p4), (vI p5)] (vI 0)) (PF3 : Fld Z h0 a1 z0 "coder" "B" (vI 0)) (PE4 : Exa Z h0 a1 z0) : CtW EL [] l Z ⟨z0, "substring", z9⟩ jdk_42_method_91_code 2 (some (.object z0)) ⟨3, 2, 4, 45⟩ #[(vR a1), (vI 4)] h0 (Qrm134 Z h0 n0) := by
  obtain ⟨hw, hj, hS⟩ := id cx
  refine own_bdW (plainFor_of_name pn63) (fun m => ef194 m a1 4) fun p e s m below meth c s₁ hret hlk hZ hx hby hml hown hnm X0 e0 hh C0 hsx hS0 => ?_
  have N0 := Fr.nil n0
  have sf1 := (sf0 : ∀ x ∈ [], Safe Z EL s.vm h0 x)
  obtain ⟨_, T1, L1, ⟨rfl, N1q, e1⟩, X1, st1⟩ := cV X0 hx hZ (W := 2) hown (cw4 cx) (rm128 cx a1 a6 p2 p3 p4 p5 ck7 O0 PF1 PV2 PF3 PE4) e0 PE4 (g := (mkF m 3 #[sR a1, sI 4] [(vR a1), (vI 4), (vR a1)])) rfl hml rfl (rest := [(vI 4), (vR a1)]) rfl rfl rfl rfl (hb hby d15_3) (by decide)
  obtain ⟨_, T2, L2, ⟨c2_0, c2_1, k2_2, rfl, N2q, Kq2, q2_0, q2_1, q2_2, q2_3⟩, hS2, hZ2, hown2, Cq2, X2, st2⟩ := cVW X1 hx hZ (W := 0) hown (cw13 cx) (rm133 cx a1 p2 p3 p4 p5 a6 ck7 O0 PF1 PV2 PF3 PE4) e1 hS0 (Nat.le_refl _) (own_EW hw hj) C0.1 own_sx0 PE4 (g := (mkF m 6 #[sR a1, sI 4] [(vI 4), (vI 4), (vR a1)])) rfl hml rfl (rest := []) rfl rfl rfl rfl (hb hby d15_6) (by decide)
  have N2 := Fr.app (Fr.app N0 N1q) N2q
  have C2 := C0.trans Cq2
  have O2 : Old Z n0 T2.heap := O0.keep Kq2 all0
  have K2 : Keep h0 T2.heap [] := (Keep.refl h0 []).trans Kq2 all0
  refine own_endW X2 hlk (v := some (vR c2_0)) (own_hv hret) hS2 (Nat.le_refl _) (by decide) hh (rfl : T2.heap = T2.heap) C2 hZ2 (own_EW hw hj) ⟨c2_0, c2_1, k2_2, rfl, N2, K2, q2_0, q2_1, q2_2, q2_3⟩ fun fs hr => ?_
  show St p e below s₁ (mkF m 0 #[sR a1, sI 4] []) _
  refine wal X0 hx hby rfl d15_0 rfl rfl ?_
  refine wil X0 hx hby rfl d15_1 rfl ?_
  refine wal X0 hx hby rfl d15_2 rfl rfl ?_
  refine st1 _ ?_
  refine st2 _ ?_
  exact retOut X2 hx hret rfl (Or.inr (Or.inr (Or.inr (Or.inr ⟨rfl, rfl, rfl⟩)))) (hb hby d15_9) hr
def Qrm135 (Z : State) (h0 : Heap) (n0 : Nat) (v : Option Value) (h : Heap) (L : List Loc) : Prop := ∃ x0 : Addr, ∃ x1 : Addr, ∃ xk0 : ClassId, v = some (vR x0) ∧ Fr n0 L ∧ Keep h0 h [] ∧ Exa Z h x0 z0 ∧ Fld Z h x0 z0 "coder" "B" (vI 0) ∧ Fld Z h x0 z0 "value" "[B" (vR x1) ∧ Arv Z h x1 xk0 .byte (0 : Int32) [] (vI 0)
theorem rm135 (cx : Cx Z a0 w0 w1) (a1 : Addr) (p2 : Int32) (p3 : Int32) (p4 : Int32) (p5 : Int32) (a6 : Addr) (ck7 : ClassId) (O0 : Old Z n0 h0) (PF1 : Fld Z h0 a1 z0 "value" "[B" (vR a6)) (PV2 : Arv Z h0 a6 ck7 .byte (4 : Int32) [(vI p2), (vI p3), (vI p4), (vI p5)] (vI 0)) (PF3 : Fld Z h0 a1 z0 "coder" "B" (vI 0)) (PE4 : Exa Z h0 a1 z0) (hc5 : p5 = (58 : Int32)) : CtW EL [] l Z ⟨z3, "localPart", z5⟩ prog_13_method_17_code 1 (some (.object z0)) ⟨4, 2, 4, 58⟩ #[(vR a1)] h0 (Qrm135 Z h0 n0) := by
  obtain ⟨hw, hj, hS⟩ := id cx
  refine own_bdW (plainFor_of_name pn266) (fun m => ef104 m a1) fun p e s m below meth c s₁ hret hlk hZ hx hby hml hown hnm X0 e0 hh C0 hsx hS0 => ?_
  have N0 := Fr.nil n0
  have sf1 := (sf0 : ∀ x ∈ [], Safe Z EL s.vm h0 x)
  obtain ⟨_, T1, L1, ⟨rfl, N1q, e1⟩, X1, st1⟩ := cV X0 hx hZ (W := 1) hown (cw10 cx) (rm131 cx a1 p2 p3 p4 p5 a6 ck7 O0 PF1 PV2 PF3 PE4 hc5) e0 PE4 (g := (mkF m 4 #[sR a1] [(vI 58), (vR a1), (vR a1)])) rfl hml rfl (rest := [(vR a1)]) rfl rfl rfl rfl (hb hby d6_4) (by decide)
  obtain ⟨_, T2, L2, ⟨c2_0, c2_1, k2_2, rfl, N2q, Kq2, q2_0, q2_1, q2_2, q2_3⟩, hS2, hZ2, hown2, Cq2, X2, st2⟩ := cVW X1 hx hZ (W := 0) hown (cw14 cx) (rm134 cx a1 p2 p3 p4 p5 a6 ck7 O0 PF1 PV2 PF3 PE4) e1 hS0 (Nat.le_refl _) (own_EW hw hj) C0.1 own_sx0 PE4 (g := (mkF m 9 #[sR a1] [(vI 4), (vR a1)])) rfl hml rfl (rest := []) rfl rfl rfl rfl (hb hby d6_9) (by decide)
  have N2 := Fr.app (Fr.app N0 N1q) N2q
  have C2 := C0.trans Cq2
  have O2 : Old Z n0 T2.heap := O0.keep Kq2 all0
  have K2 : Keep h0 T2.heap [] := (Keep.refl h0 []).trans Kq2 all0
  refine own_endW X2 hlk (v := some (vR c2_0)) (own_hv hret) hS2 (Nat.le_refl _) (by decide) hh (rfl : T2.heap = T2.heap) C2 hZ2 (own_EW hw hj) ⟨c2_0, c2_1, k2_2, rfl, N2, K2, q2_0, q2_1, q2_2, q2_3⟩ fun fs hr => ?_
  show St p e below s₁ (mkF m 0 #[sR a1] []) _
  refine wal X0 hx hby rfl d6_0 rfl rfl ?_
  refine wal X0 hx hby rfl d6_1 rfl rfl ?_
  refine wbp X0 hx hby rfl d6_2 ?_
  refine st1 _ ?_
  refine wic X1 hx hby rfl d6_7 ?_
  refine Own.iadd X1.here hx rfl (hb hby d6_8) rfl (by decide : ((3 : Int32) + (1 : Int32)) = (4 : Int32)) ?_
  refine st2 _ ?_
  exact retOut X2 hx hret rfl (Or.inr (Or.inr (Or.inr (Or.inr ⟨rfl, rfl, rfl⟩)))) (hb hby d6_12) hr
def Qrm136 (Z : State) (h0 : Heap) (n0 : Nat) (v : Option Value) (h : Heap) (L : List Loc) : Prop := v = some (vI 2) ∧ Fr n0 L ∧ h = h0
theorem rm136 (cx : Cx Z a0 w0 w1) (a1 : Addr) (p2 : Int32) (p3 : Int32) (p4 : Int32) (p5 : Int32) (ck6 : ClassId) (O0 : Old Z n0 h0) (PV1 : Arv Z h0 a1 ck6 .byte (4 : Int32) [(vI p2), (vI p3), (vI p4), (vI p5)] (vI 0)) (hc2 : ¬ (p5 = (58 : Int32))) (hc3 : p4 = (58 : Int32)) : Ct l Z ⟨z2, z4, "([BII)I"⟩ jdk_43_method_27_code 4 (some .int) ⟨1, 0, 0, 13⟩ #[(vR a1), (vI 58), (vI 3)] h0 (Qrm136 Z h0 n0) := by
  obtain ⟨hw, hj, hS⟩ := id cx
  refine own_bd (plainFor_of_name pn154) (fun m => ef183 m a1 58 3) fun p e s m below meth c s₁ hret hlk hZ hx hby hml hown hnm X0 e0 => ?_
  have N0 := Fr.nil n0
  obtain ⟨_, T1, L1, ⟨rfl, N1q, e1⟩, X1, st1⟩ := cS X0 hx hZ (W := 0) hown (cw6 cx) (rm7 cx 58 O0 (by decide : ¬ ((58 : Int32) < (0 : Int32))) (by decide : ¬ ((255 : Int32) < (58 : Int32)))) e0 (g := (mkF m 1 #[sR a1, sI 58, sI 3, sU] [(vI 58)])) rfl hml rfl (rest := []) rfl rfl rfl rfl (hb hby d12_1) (by decide)
  obtain ⟨_, T2, L2, ⟨rfl, N2q, e2⟩, X2, st2⟩ := cS X1 hx hZ (W := 0) hown (cw7 cx) (rm8 cx 3 O0) e1 (g := (mkF m 14 #[sR a1, sI 58, sI 3, sU] [(vI 3), (vI 3)])) rfl hml rfl (rest := []) rfl rfl rfl rfl (hb hby d12_14) (by decide)
  refine own_end X2 hlk (v := some (vI 2)) (own_hv hret) (by decide) (by rw [e2]; exact ⟨rfl, (Fr.app (Fr.app N0 N1q) N2q), rfl⟩) fun fs hr => ?_
  show St p e below s₁ (mkF m 0 #[sR a1, sI 58, sI 3, sU] []) _
  refine wil X0 hx hby rfl d12_0 rfl ?_
  refine st1 _ ?_
  refine wfy X1 hx hby rfl (pc0 := 4) (pc' := 9) rfl d12_4 rfl ((if0 _ _).trans (feq (by decide : ¬ ((1 : Int32) = (0 : Int32)))).2) (by decide) (by decide) ?_
  refine wil X1 hx hby rfl d12_9 rfl ?_
  refine wal X1 hx hby rfl d12_10 rfl rfl ?_
  refine own_alen X1 hx hZ e1 PV1 (g := (mkF m 11 #[sR a1, sI 58, sI 3, sU] [(vR a1), (vI 3)])) rfl rfl (hb hby d12_11) ?_
  refine wic X1 hx hby rfl d12_12 ?_
  refine Own.isub X1.here hx rfl (hb hby d12_13) rfl (by decide : ((4 : Int32) - (1 : Int32)) = (3 : Int32)) ?_
  refine st2 _ ?_
  refine wis X2 hx hby rfl d12_17 rfl (l' := #[sR a1, sI 58, sI 3, sI 3]) rfl ?_
  refine wil X2 hx hby rfl d12_18 rfl ?_
  refine wfn X2 hx hby rfl d12_19 rfl ((if0 _ _).trans (flt (by decide : ¬ ((3 : Int32) < (0 : Int32)))).1) ?_
  refine wal X2 hx hby rfl d12_22 rfl rfl ?_
  refine wil X2 hx hby rfl d12_23 rfl ?_
  refine own_baloadB X2 hx hZ e2 PV1 (j := 3) (by decide) (v := (vI p5)) rfl (g := (mkF m 24 #[sR a1, sI 58, sI 3, sI 3] [(vI 3), (vR a1)])) rfl rfl (hb hby d12_24) ?_
  refine wil X2 hx hby rfl d12_25 rfl ?_
  show St p e below T2 (mkF m 26 #[sR a1, sI 58, sI 3, sI 3] [(vI 58), (vI p5)]) _
  refine Own.i2b X2.here hx rfl (hb hby d12_26) rfl (by decide : ((58 : Int32).toInt8.toInt32) = (58 : Int32)) ?_
  refine wcy X2 hx hby rfl (pc0 := 27) (pc' := 32) rfl d12_27 rfl (feq hc2).2 (by decide) (by decide) ?_
  refine Own.iinc X2.here hx rfl (hb hby d12_32) rfl (by decide : ((3 : Int32) + (-1 : Int32)) = (2 : Int32)) (l' := #[sR a1, sI 58, sI 3, sI 2]) rfl ?_
  refine wgt X2 hx hby rfl (pc0 := 35) (pc' := 18) rfl d12_35 (by decide) (by decide) ?_
  refine wil X2 hx hby rfl d12_18 rfl ?_
  refine wfn X2 hx hby rfl d12_19 rfl ((if0 _ _).trans (flt (by decide : ¬ ((2 : Int32) < (0 : Int32)))).1) ?_
  refine wal X2 hx hby rfl d12_22 rfl rfl ?_
  refine wil X2 hx hby rfl d12_23 rfl ?_
  refine own_baloadB X2 hx hZ e2 PV1 (j := 2) (by decide) (v := (vI p4)) rfl (g := (mkF m 24 #[sR a1, sI 58, sI 3, sI 2] [(vI 2), (vR a1)])) rfl rfl (hb hby d12_24) ?_
  refine wil X2 hx hby rfl d12_25 rfl ?_
  refine Own.i2b X2.here hx rfl (hb hby d12_26) rfl (by decide : ((58 : Int32).toInt8.toInt32) = (58 : Int32)) ?_
  refine wcn X2 hx hby rfl d12_27 rfl (teq hc3).2 ?_
  refine wil X2 hx hby rfl d12_30 rfl ?_
  exact retOut X2 hx hret rfl (Or.inl ⟨rfl, Or.inl rfl, _, rfl⟩) (hb hby d12_31) hr
def Qrm137 (Z : State) (h0 : Heap) (n0 : Nat) (v : Option Value) (h : Heap) (L : List Loc) : Prop := v = some (vI 2) ∧ Fr n0 L ∧ h = h0
theorem rm137 (cx : Cx Z a0 w0 w1) (a1 : Addr) (a2 : Addr) (p3 : Int32) (p4 : Int32) (p5 : Int32) (p6 : Int32) (ck7 : ClassId) (O0 : Old Z n0 h0) (PF1 : Fld Z h0 a1 z0 "coder" "B" (vI 0)) (PE2 : Exa Z h0 a1 z0) (PF3 : Fld Z h0 a1 z0 "value" "[B" (vR a2)) (PV4 : Arv Z h0 a2 ck7 .byte (4 : Int32) [(vI p3), (vI p4), (vI p5), (vI p6)] (vI 0)) (hc5 : ¬ (p6 = (58 : Int32))) (hc6 : p5 = (58 : Int32)) : Ct l Z ⟨z0, z4, "(II)I"⟩ jdk_42_method_83_code 3 (some .int) ⟨2, 0, 0, 28⟩ #[(vR a1), (vI 58), (vI 3)] h0 (Qrm137 Z h0 n0) := by
  obtain ⟨hw, hj, hS⟩ := id cx
  refine own_bd (plainFor_of_name pn63) (fun m => ef189 m a1 58 3) fun p e s m below meth c s₁ hret hlk hZ hx hby hml hown hnm X0 e0 => ?_
  have N0 := Fr.nil n0
  obtain ⟨_, T1, L1, ⟨rfl, N1q, e1⟩, X1, st1⟩ := cV X0 hx hZ (W := 0) hown (cw5 cx) (rm6 cx a1 O0 PF1) e0 PE2 (g := (mkF m 1 #[sR a1, sI 58, sI 3] [(vR a1)])) rfl hml rfl (rest := []) rfl rfl rfl rfl (hb hby d10_1) (by decide)
  obtain ⟨T2, X2, e2, st2⟩ := getF X1 hx hZ hown (host := "") (Or.inl (hw _ m28)) Via.refl e1 PF3 (g := (mkF m 8 #[sR a1, sI 58, sI 3] [(vR a1)])) rfl rfl (hb hby d10_8)
  obtain ⟨_, T3, L3, ⟨rfl, N3q, e3⟩, X3, st3⟩ := cS X2 hx hZ (W := 0) hown (cw8 cx) (rm136 cx a2 p3 p4 p5 p6 ck7 O0 PV4 hc5 hc6) e2 (g := (mkF m 13 #[sR a1, sI 58, sI 3] [(vI 3), (vI 58), (vR a2)])) rfl hml rfl (rest := []) rfl rfl rfl rfl (hb hby d10_13) (by decide)
  refine own_end X3 hlk (v := some (vI 2)) (own_hv hret) (by decide) (by rw [e3]; exact ⟨rfl, (Fr.app (Fr.app N0 N1q) N3q), rfl⟩) fun fs hr => ?_
  show St p e below s₁ (mkF m 0 #[sR a1, sI 58, sI 3] []) _
  refine wal X0 hx hby rfl d10_0 rfl rfl ?_
  refine st1 _ ?_
  refine wfn X1 hx hby rfl d10_4 rfl ((if0 _ _).trans (feq (by decide : ¬ ((1 : Int32) = (0 : Int32)))).1) ?_
  refine wal X1 hx hby rfl d10_7 rfl rfl ?_
  refine st2 _ ?_
  refine wil X2 hx hby rfl d10_11 rfl ?_
  refine wil X2 hx hby rfl d10_12 rfl ?_
  refine st3 _ ?_
  refine wgt X3 hx hby rfl (pc0 := 16) (pc' := 28) rfl d10_16 (by decide) (by decide) ?_
  exact retOut X3 hx hret rfl (Or.inl ⟨rfl, Or.inl rfl, _, rfl⟩) (hb hby d10_28) hr
def Qrm138 (Z : State) (h0 : Heap) (n0 : Nat) (v : Option Value) (h : Heap) (L : List Loc) : Prop := v = some (vI 2) ∧ Fr n0 L ∧ h = h0
theorem rm138 (cx : Cx Z a0 w0 w1) (a1 : Addr) (p2 : Int32) (p3 : Int32) (p4 : Int32) (p5 : Int32) (a6 : Addr) (ck7 : ClassId) (O0 : Old Z n0 h0) (PF1 : Fld Z h0 a1 z0 "value" "[B" (vR a6)) (PV2 : Arv Z h0 a6 ck7 .byte (4 : Int32) [(vI p2), (vI p3), (vI p4), (vI p5)] (vI 0)) (PF3 : Fld Z h0 a1 z0 "coder" "B" (vI 0)) (PE4 : Exa Z h0 a1 z0) (hc5 : ¬ (p5 = (58 : Int32))) (hc6 : p4 = (58 : Int32)) : Ct l Z ⟨z0, z4, "(I)I"⟩ jdk_42_method_82_code 2 (some .int) ⟨3, 0, 0, 42⟩ #[(vR a1), (vI 58)] h0 (Qrm138 Z h0 n0) := by
  obtain ⟨hw, hj, hS⟩ := id cx
  refine own_bd (plainFor_of_name pn63) (fun m => ef194 m a1 58) fun p e s m below meth c s₁ hret hlk hZ hx hby hml hown hnm X0 e0 => ?_
  have N0 := Fr.nil n0
  obtain ⟨_, T1, L1, ⟨rfl, N1q, e1⟩, X1, st1⟩ := cV X0 hx hZ (W := 2) hown (cw4 cx) (rm128 cx a1 a6 p2 p3 p4 p5 ck7 O0 PF1 PV2 PF3 PE4) e0 PE4 (g := (mkF m 3 #[sR a1, sI 58] [(vR a1), (vI 58), (vR a1)])) rfl hml rfl (rest := [(vI 58), (vR a1)]) rfl rfl rfl rfl (hb hby d7_3) (by decide)
  obtain ⟨_, T2, L2, ⟨rfl, N2q, e2⟩, X2, st2⟩ := cV X1 hx hZ (W := 0) hown (cw9 cx) (rm137 cx a1 a6 p2 p3 p4 p5 ck7 O0 PF3 PE4 PF1 PV2 hc5 hc6) e1 PE4 (g := (mkF m 8 #[sR a1, sI 58] [(vI 3), (vI 58), (vR a1)])) rfl hml rfl (rest := []) rfl rfl rfl rfl (hb hby d7_8) (by decide)
  refine own_end X2 hlk (v := some (vI 2)) (own_hv hret) (by decide) (by rw [e2]; exact ⟨rfl, (Fr.app (Fr.app N0 N1q) N2q), rfl⟩) fun fs hr => ?_
  show St p e below s₁ (mkF m 0 #[sR a1, sI 58] []) _
  refine wal X0 hx hby rfl d7_0 rfl rfl ?_
  refine wil X0 hx hby rfl d7_1 rfl ?_
  refine wal X0 hx hby rfl d7_2 rfl rfl ?_
  refine st1 _ ?_
  refine wic X1 hx hby rfl d7_6 ?_
  refine Own.isub X1.here hx rfl (hb hby d7_7) rfl (by decide : ((4 : Int32) - (1 : Int32)) = (3 : Int32)) ?_
  refine st2 _ ?_
  exact retOut X2 hx hret rfl (Or.inl ⟨rfl, Or.inl rfl, _, rfl⟩) (hb hby d7_11) hr
def Qrm139 (Z : State) (p5 : Int32) (h0 : Heap) (n0 : Nat) (v : Option Value) (h : Heap) (L : List Loc) : Prop := ∃ x0 : Addr, ∃ xk0 : ClassId, v = some (vR x0) ∧ Fr n0 L ∧ Keep h0 h [] ∧ h0.size ≤ x0 ∧ Arv Z h x0 xk0 .byte (1 : Int32) [(vI p5)] (vI 0)
theorem rm139 (cx : Cx Z a0 w0 w1) (a1 : Addr) (p2 : Int32) (p3 : Int32) (p4 : Int32) (p5 : Int32) (ck6 : ClassId) (O0 : Old Z n0 h0) (PV1 : Arv Z h0 a1 ck6 .byte (4 : Int32) [(vI p2), (vI p3), (vI p4), (vI p5)] (vI 0)) : Ct l Z ⟨z7, z14, "([BII)[B"⟩ jdk_65_method_133_code 5 (some (.array .byte)) ⟨1, 1, 1, 18⟩ #[(vR a1), (vI 3), (vI 4)] h0 (Qrm139 Z p5 h0 n0) := by
  obtain ⟨hw, hj, hS⟩ := id cx
  refine own_bd (plainFor_of_name pn495) (fun m => ef255 m a1 3 4) fun p e s m below meth c s₁ hret hlk hZ hx hby hml hown hnm X0 e0 => ?_
  have N0 := Fr.nil n0
  obtain ⟨_, T1, L1, ⟨rfl, N1q, e1⟩, X1, st1⟩ := cS X0 hx hZ (W := 0) hown (cw25 cx) (rm60 cx 3 4 O0 (by decide : ¬ ((4 : Int32) < (3 : Int32)))) e0 (g := (mkF m 2 #[sR a1, sI 3, sI 4, sU, sU] [(vI 4), (vI 3)])) rfl hml rfl (rest := []) rfl rfl rfl rfl (hb hby d28_2) (by decide)
  obtain ⟨T2, h2, k2, b2, X2, e2, E2, V2, g2, O2, K2, st2⟩ := own_newP X1 hx hZ (aty := .byte) (ty := .byte) (dv := (.int (0 : Int32))) (vs := [(.int (0 : Int32))]) (cap := 1) rfl rfl rfl (hw _ m23) e1 O0 (Keep.refl h0 []) (g := (mkF m 10 #[sR a1, sI 3, sI 4, sI 1, sU] [(vI 1)])) rfl (hb hby d28_10) rfl (by decide) (by decide) (by decide) (by decide) (by decide)
  have f3 : Arv Z h2 a1 ck6 .byte (4 : Int32) [(vI p2), (vI p3), (vI p4), (vI p5)] (vI 0) := (PV1.ext E2)
  obtain ⟨_, T4, L4, ⟨rfl, N4q, e4⟩, X4, st4⟩ := cS X2 hx hZ (W := 4) hown (cw26 cx) (rm8 cx 1 O2) e2 (g := (mkF m 24 #[sR a1, sI 3, sI 4, sI 1, sR b2] [(vI 1), (vI 1), (vI 0), (vR b2), (vI 3), (vR a1)])) rfl hml rfl (rest := [(vI 0), (vR b2), (vI 3), (vR a1)]) rfl rfl rfl rfl (hb hby d28_24) (by decide)
  obtain ⟨T5, h5, L'5, X5, e5, N5, Kq5, V5, st5⟩ := cpA X4 hx hZ hown (hw _ m130) (hw _ m133) (hw _ m131) (hw _ m132) e4 f3 V2 (us := [(vI p5)]) (Or.inl ⟨rfl, rfl⟩) (by decide) (by decide) (by decide) (by decide) (by decide) rfl (by decide) (Fr.app (Fr.app N0 N1q) N4q) (Nat.le_trans (own_old_le O0) g2) (g := (mkF m 27 #[sR a1, sI 3, sI 4, sI 1, sR b2] [(vI 1), (vI 0), (vR b2), (vI 3), (vR a1)])) rfl (by rw [hml]; rfl) rfl (hb hby d28_27) (by decide) (W := 0) (Nat.le_of_eq rfl) (by decide)
  have O5 : Old Z n0 h5 := O2.keep Kq5 (allS (Nat.le_trans (own_old_le O0) g2) all0)
  have K5 : Keep h0 h5 [] := K2.trans Kq5 (allS (Or.inr (Nat.le_trans (Keep.refl h0 []).1 g2)) all0)
  have V5' : Arv Z h5 b2 k2 .byte (1 : Int32) [(vI p5)] (vI 0) := V5
  refine own_end X5 hlk (v := some (vR b2)) (own_hv hret) (by decide) (by rw [e5]; exact ⟨b2, k2, rfl, N5, K5, (Nat.le_trans (Keep.refl h0 []).1 g2), V5'⟩) fun fs hr => ?_
  show St p e below s₁ (mkF m 0 #[sR a1, sI 3, sI 4, sU, sU] []) _
  refine wil X0 hx hby rfl d28_0 rfl ?_
  refine wil X0 hx hby rfl d28_1 rfl ?_
  refine st1 _ ?_
  refine wil X1 hx hby rfl d28_5 rfl ?_
  refine wil X1 hx hby rfl d28_6 rfl ?_
  refine Own.isub X1.here hx rfl (hb hby d28_7) rfl (by decide : ((4 : Int32) - (3 : Int32)) = (1 : Int32)) ?_
  refine wis X1 hx hby rfl d28_8 rfl (l' := #[sR a1, sI 3, sI 4, sI 1, sU]) rfl ?_
  refine wil X1 hx hby rfl d28_9 rfl ?_
  refine st2 _ ?_
  refine waS X2 hx hby rfl d28_12 rfl rfl (l' := #[sR a1, sI 3, sI 4, sI 1, sR b2]) rfl ?_
  refine wal X2 hx hby rfl d28_14 rfl rfl ?_
  refine wil X2 hx hby rfl d28_15 rfl ?_
  refine waL X2 hx hby rfl d28_16 rfl rfl ?_
  refine wic X2 hx hby rfl d28_18 ?_
  refine wal X2 hx hby rfl d28_19 rfl rfl ?_
  refine own_alen X2 hx hZ e2 f3 (g := (mkF m 20 #[sR a1, sI 3, sI 4, sI 1, sR b2] [(vR a1), (vI 0), (vR b2), (vI 3), (vR a1)])) rfl rfl (hb hby d28_20) ?_
  show St p e below T2 (mkF m 21 #[sR a1, sI 3, sI 4, sI 1, sR b2] [(vI 4), (vI 0), (vR b2), (vI 3), (vR a1)]) _
  refine wil X2 hx hby rfl d28_21 rfl ?_
  refine Own.isub X2.here hx rfl (hb hby d28_22) rfl (by decide : ((4 : Int32) - (3 : Int32)) = (1 : Int32)) ?_
  refine wil X2 hx hby rfl d28_23 rfl ?_
  refine st4 _ ?_
  refine st5 _ ?_
  refine waL X5 hx hby rfl d28_30 rfl rfl ?_
  exact retOut X5 hx hret rfl (Or.inr (Or.inr (Or.inr (Or.inr ⟨rfl, rfl, rfl⟩)))) (hb hby d28_32) hr
def Qrm140 (Z : State) (p5 : Int32) (h0 : Heap) (n0 : Nat) (v : Option Value) (h : Heap) (L : List Loc) : Prop := ∃ x0 : Addr, ∃ xk0 : ClassId, v = some (vR x0) ∧ Fr n0 L ∧ Keep h0 h [] ∧ h0.size ≤ x0 ∧ Arv Z h x0 xk0 .byte (1 : Int32) [(vI p5)] (vI 0)
theorem rm140 (cx : Cx Z a0 w0 w1) (a1 : Addr) (p2 : Int32) (p3 : Int32) (p4 : Int32) (p5 : Int32) (ck6 : ClassId) (O0 : Old Z n0 h0) (PV1 : Arv Z h0 a1 ck6 .byte (4 : Int32) [(vI p2), (vI p3), (vI p4), (vI p5)] (vI 0)) : Ct l Z ⟨z7, z15, "([BII)[B"⟩ jdk_65_method_132_code 3 (some (.array .byte)) ⟨2, 1, 1, 34⟩ #[(vR a1), (vI 3), (vI 4)] h0 (Qrm140 Z p5 h0 n0) := by
  obtain ⟨hw, hj, hS⟩ := id cx
  refine own_bd (plainFor_of_name pn495) (fun m => ef189 m a1 3 4) fun p e s m below meth c s₁ hret hlk hZ hx hby hml hown hnm X0 e0 => ?_
  have N0 := Fr.nil n0
  obtain ⟨_, T1, L1, ⟨c1_0, k1_1, rfl, N1q, Kq1, lo1_0, q1_0⟩, X1, st1⟩ := cS X0 hx hZ (W := 0) hown (cw27 cx) (rm139 cx a1 p2 p3 p4 p5 ck6 O0 PV1) e0 (g := (mkF m 13 #[sR a1, sI 3, sI 4] [(vI 4), (vI 3), (vR a1)])) rfl hml rfl (rest := []) rfl rfl rfl rfl (hb hby d27_13) (by decide)
  have N1 := Fr.app N0 N1q
  have O1 : Old Z n0 T1.heap := O0.keep Kq1 all0
  have K1 : Keep h0 T1.heap [] := (Keep.refl h0 []).trans Kq1 all0
  refine own_end X1 hlk (v := some (vR c1_0)) (own_hv hret) (by decide) ⟨c1_0, k1_1, rfl, N1, K1, (Nat.le_trans (Keep.refl h0 []).1 lo1_0), q1_0⟩ fun fs hr => ?_
  show St p e below s₁ (mkF m 0 #[sR a1, sI 3, sI 4] []) _
  refine wil X0 hx hby rfl d27_0 rfl ?_
  refine wfy X0 hx hby rfl (pc0 := 1) (pc' := 10) rfl d27_1 rfl ((if0 _ _).trans (feq (by decide : ¬ ((3 : Int32) = (0 : Int32)))).2) (by decide) (by decide) ?_
  refine wal X0 hx hby rfl d27_10 rfl rfl ?_
  refine wil X0 hx hby rfl d27_11 rfl ?_
  refine wil X0 hx hby rfl d27_12 rfl ?_
  refine st1 _ ?_
  exact retOut X1 hx hret rfl (Or.inr (Or.inr (Or.inr (Or.inr ⟨rfl, rfl, rfl⟩)))) (hb hby d27_16) hr
def Qrm141 (Z : State) (p5 : Int32) (h0 : Heap) (n0 : Nat) (v : Option Value) (h : Heap) (L : List Loc) : Prop := ∃ x0 : Addr, ∃ x1 : Addr, ∃ xk0 : ClassId, v = some (vR x0) ∧ Fr n0 L ∧ Keep h0 h [] ∧ h0.size ≤ x0 ∧ x0 < x1 ∧ Exa Z h x0 z0 ∧ Fld Z h x0 z0 "value" "[B" (vR x1) ∧ Fld Z h x0 z0 "coder" "B" (vI 0) ∧ Arv Z h x1 xk0 .byte (1 : Int32) [(vI p5)] (vI 0)
theorem rm141 (cx : Cx Z a0 w0 w1) (a1 : Addr) (p2 : Int32) (p3 : Int32) (p4 : Int32) (p5 : Int32) (ck6 : ClassId) (O0 : Old Z n0 h0) (PV1 : Arv Z h0 a1 ck6 .byte (4 : Int32) [(vI p2), (vI p3), (vI p4), (vI p5)] (vI 0)) : Ct l Z ⟨z2, "newString", z11⟩ jdk_43_method_47_code 3 (some (.object z0)) ⟨3, 2, 5, 50⟩ #[(vR a1), (vI 3), (vI 1)] h0 (Qrm141 Z p5 h0 n0) := by
  obtain ⟨hw, hj, hS⟩ := id cx
  refine own_bd (plainFor_of_name pn154) (fun m => ef189 m a1 3 1) fun p e s m below meth c s₁ hret hlk hZ hx hby hml hown hnm X0 e0 => ?_
  have N0 := Fr.nil n0
  obtain ⟨T1, h1, b1, X1, e1, E1, A1, D1, g1, O1, K1, st1⟩ := own_newO X0 hx hZ hown (hw _ m118) (hw _ m10) (hw _ m11) e0 O0 (Keep.refl h0 []) (g := (mkF m 7 #[sR a1, sI 3, sI 1] [])) rfl (hb hby d26_7) (by decide) (by decide)
  have F1_1 : Fld Z h1 b1 z0 "value" "[B" .null := D1 (Or.inr (hw _ m24)) (ty := (.array .byte)) (by decide)
  have F1_2 : Fld Z h1 b1 z0 "coder" "B" (vI 0) := D1 (Or.inr (hw _ m25)) (ty := .byte) (by decide)
  have f3 : Arv Z h1 a1 ck6 .byte (4 : Int32) [(vI p2), (vI p3), (vI p4), (vI p5)] (vI 0) := (PV1.ext E1)
  obtain ⟨_, T2, L2, ⟨c2_0, k2_1, rfl, N2q, Kq2, lo2_0, q2_0⟩, X2, st2⟩ := cS X1 hx hZ (W := 2) hown (cw28 cx) (rm140 cx a1 p2 p3 p4 p5 ck6 O1 f3) e1 (g := (mkF m 16 #[sR a1, sI 3, sI 1] [(vI 4), (vI 3), (vR a1), (vR b1), (vR b1)])) rfl hml rfl (rest := [(vR b1), (vR b1)]) rfl rfl rfl rfl (hb hby d26_16) (by decide)
  have N2 := Fr.app N0 N2q
  have O2 : Old Z n0 T2.heap := O1.keep Kq2 all0
  have K2 : Keep h0 T2.heap [] := K1.trans Kq2 all0
  have f5 : Exa Z T2.heap b1 z0 := (A1.keep Kq2)
  have f6 : Fld Z T2.heap b1 z0 "value" "[B" .null := (F1_1.keep Kq2 nin0)
  have f7 : Fld Z T2.heap b1 z0 "coder" "B" (vI 0) := (F1_2.keep Kq2 nin0)
  obtain ⟨_, T4, L4, ⟨rfl, N4q, Kq4, q4_0, q4_1⟩, X4, st4⟩ := cI X2 hx hZ (W := 1) hown (cw29 cx) (rm63 cx b1 c2_0 O2 f5 f6 f7 (Nat.le_trans (own_old_le O0) g1)) (rfl : T2.heap = T2.heap) (g := (mkF m 20 #[sR a1, sI 3, sI 1] [(vI 0), (vR c2_0), (vR b1), (vR b1)])) rfl hml rfl (rest := [(vR b1)]) rfl rfl rfl rfl (hb hby d26_20) (by decide)
  have N4 := Fr.app N2 N4q
  have O4 : Old Z n0 T4.heap := O2.keep Kq4 (allS (Nat.le_trans (own_old_le O0) g1) all0)
  have K4 : Keep h0 T4.heap [] := K2.trans Kq4 (allS (Or.inr (Nat.le_trans (Keep.refl h0 []).1 g1)) all0)
  have f8 : Exa Z T4.heap b1 z0 := (f5.keep Kq4)
  have f9 : Arv Z T4.heap c2_0 k2_1 .byte (1 : Int32) [(vI p5)] (vI 0) := (q2_0.keep Kq4 (ninS (Ne.symm (Nat.ne_of_lt (Nat.lt_of_lt_of_le A1.lt lo2_0))) nin0))
  refine own_end X4 hlk (v := some (vR b1)) (own_hv hret) (by decide) ⟨b1, c2_0, k2_1, rfl, N4, K4, (Nat.le_trans (Keep.refl h0 []).1 g1), (Nat.lt_of_lt_of_le A1.lt lo2_0), f8, q4_0, q4_1, f9⟩ fun fs hr => ?_
  show St p e below s₁ (mkF m 0 #[sR a1, sI 3, sI 1] []) _
  refine wil X0 hx hby rfl d26_0 rfl ?_
  refine wfy X0 hx hby rfl (pc0 := 1) (pc' := 7) rfl d26_1 rfl ((if0 _ _).trans (feq (by decide : ¬ ((1 : Int32) = (0 : Int32)))).2) (by decide) (by decide) ?_
  refine st1 _ ?_
  refine wdu X1 hx hby rfl d26_10 rfl rfl ?_
  refine wal X1 hx hby rfl d26_11 rfl rfl ?_
  refine wil X1 hx hby rfl d26_12 rfl ?_
  refine wil X1 hx hby rfl d26_13 rfl ?_
  refine wil X1 hx hby rfl d26_14 rfl ?_
  refine Own.iadd X1.here hx rfl (hb hby d26_15) rfl (by decide : ((3 : Int32) + (1 : Int32)) = (4 : Int32)) ?_
  refine st2 _ ?_
  refine wic X2 hx hby rfl d26_19 ?_
  refine st4 _ ?_
  exact retOut X4 hx hret rfl (Or.inr (Or.inr (Or.inr (Or.inr ⟨rfl, rfl, rfl⟩)))) (hb hby d26_23) hr
def Qrm142 (Z : State) (p5 : Int32) (h0 : Heap) (n0 : Nat) (v : Option Value) (h : Heap) (L : List Loc) : Prop := ∃ x0 : Addr, ∃ x1 : Addr, ∃ xk0 : ClassId, v = some (vR x0) ∧ Fr n0 L ∧ Keep h0 h [] ∧ h0.size ≤ x0 ∧ x0 < x1 ∧ Exa Z h x0 z0 ∧ Fld Z h x0 z0 "value" "[B" (vR x1) ∧ Fld Z h x0 z0 "coder" "B" (vI 0) ∧ Arv Z h x1 xk0 .byte (1 : Int32) [(vI p5)] (vI 0)
theorem rm142 (cx : Cx Z a0 w0 w1) (a1 : Addr) (p2 : Int32) (p3 : Int32) (p4 : Int32) (p5 : Int32) (a6 : Addr) (ck7 : ClassId) (O0 : Old Z n0 h0) (PF1 : Fld Z h0 a1 z0 "value" "[B" (vR a6)) (PV2 : Arv Z h0 a6 ck7 .byte (4 : Int32) [(vI p2), (vI p3), (vI p4), (vI p5)] (vI 0)) (PF3 : Fld Z h0 a1 z0 "coder" "B" (vI 0)) (PE4 : Exa Z h0 a1 z0) : Ct l Z ⟨z0, "substring", z8⟩ jdk_42_method_92_code 5 (some (.object z0)) ⟨4, 2, 5, 64⟩ #[(vR a1), (vI 3), (vI 4)] h0 (Qrm142 Z p5 h0 n0) := by
  obtain ⟨hw, hj, hS⟩ := id cx
  refine own_bd (plainFor_of_name pn63) (fun m => ef255 m a1 3 4) fun p e s m below meth c s₁ hret hlk hZ hx hby hml hown hnm X0 e0 => ?_
  have N0 := Fr.nil n0
  obtain ⟨_, T1, L1, ⟨rfl, N1q, e1⟩, X1, st1⟩ := cV X0 hx hZ (W := 0) hown (cw4 cx) (rm128 cx a1 a6 p2 p3 p4 p5 ck7 O0 PF1 PV2 PF3 PE4) e0 PE4 (g := (mkF m 1 #[sR a1, sI 3, sI 4, sU, sU] [(vR a1)])) rfl hml rfl (rest := []) rfl rfl rfl rfl (hb hby d16_1) (by decide)
  obtain ⟨_, T2, L2, ⟨rfl, N2q, e2⟩, X2, st2⟩ := cS X1 hx hZ (W := 0) hown (cw12 cx) (rm35 cx 3 4 O0 (by decide : ¬ ((3 : Int32) < (0 : Int32))) (by decide : ¬ ((4 : Int32) < (3 : Int32)))) e1 (g := (mkF m 8 #[sR a1, sI 3, sI 4, sI 4, sU] [(vI 4), (vI 4), (vI 3)])) rfl hml rfl (rest := []) rfl rfl rfl rfl (hb hby d16_8) (by decide)
  obtain ⟨_, T3, L3, ⟨rfl, N3q, e3⟩, X3, st3⟩ := cV X2 hx hZ (W := 0) hown (cw5 cx) (rm6 cx a1 O0 PF3) e2 PE4 (g := (mkF m 28 #[sR a1, sI 3, sI 4, sI 4, sI 1] [(vR a1)])) rfl hml rfl (rest := []) rfl rfl rfl rfl (hb hby d16_28) (by decide)
  obtain ⟨T4, X4, e4, st4⟩ := getF X3 hx hZ hown (host := "") (Or.inl (hw _ m28)) Via.refl e3 PF1 (g := (mkF m 35 #[sR a1, sI 3, sI 4, sI 4, sI 1] [(vR a1)])) rfl rfl (hb hby d16_35)
  obtain ⟨_, T5, L5, ⟨c5_0, c5_1, k5_2, rfl, N5q, Kq5, lo5_0, lo5_1, q5_0, q5_1, q5_2, q5_3⟩, X5, st5⟩ := cS X4 hx hZ (W := 0) hown (cw20 cx) (rm141 cx a6 p2 p3 p4 p5 ck7 O0 PV2) e4 (g := (mkF m 41 #[sR a1, sI 3, sI 4, sI 4, sI 1] [(vI 1), (vI 3), (vR a6)])) rfl hml rfl (rest := []) rfl rfl rfl rfl (hb hby d16_41) (by decide)
  have N5 := Fr.app (Fr.app (Fr.app (Fr.app N0 N1q) N2q) N3q) N5q
  have O5 : Old Z n0 T5.heap := O0.keep Kq5 all0
  have K5 : Keep h0 T5.heap [] := (Keep.refl h0 []).trans Kq5 all0
  refine own_end X5 hlk (v := some (vR c5_0)) (own_hv hret) (by decide) ⟨c5_0, c5_1, k5_2, rfl, N5, K5, (Nat.le_trans (Keep.refl h0 []).1 lo5_0), lo5_1, q5_0, q5_1, q5_2, q5_3⟩ fun fs hr => ?_
  show St p e below s₁ (mkF m 0 #[sR a1, sI 3, sI 4, sU, sU] []) _
  refine wal X0 hx hby rfl d16_0 rfl rfl ?_
  refine st1 _ ?_
  refine wis X1 hx hby rfl d16_4 rfl (l' := #[sR a1, sI 3, sI 4, sI 4, sU]) rfl ?_
  refine wil X1 hx hby rfl d16_5 rfl ?_
  refine wil X1 hx hby rfl d16_6 rfl ?_
  refine wil X1 hx hby rfl d16_7 rfl ?_
  refine st2 _ ?_
  refine wil X2 hx hby rfl d16_11 rfl ?_
  refine wfy X2 hx hby rfl (pc0 := 12) (pc' := 22) rfl d16_12 rfl ((if0 _ _).trans (feq (by decide : ¬ ((3 : Int32) = (0 : Int32)))).2) (by decide) (by decide) ?_
  refine wil X2 hx hby rfl d16_22 rfl ?_
  refine wil X2 hx hby rfl d16_23 rfl ?_
  refine Own.isub X2.here hx rfl (hb hby d16_24) rfl (by decide : ((4 : Int32) - (3 : Int32)) = (1 : Int32)) ?_
  refine wiS X2 hx hby rfl d16_25 rfl (l' := #[sR a1, sI 3, sI 4, sI 4, sI 1]) rfl ?_
  refine wal X2 hx hby rfl d16_27 rfl rfl ?_
  refine st3 _ ?_
  refine wfn X3 hx hby rfl d16_31 rfl ((if0 _ _).trans (feq (by decide : ¬ ((1 : Int32) = (0 : Int32)))).1) ?_
  show St p e below T3 (mkF m 34 #[sR a1, sI 3, sI 4, sI 4, sI 1] []) _
  refine wal X3 hx hby rfl d16_34 rfl rfl ?_
  refine st4 _ ?_
  refine wil X4 hx hby rfl d16_38 rfl ?_
  refine wiL X4 hx hby rfl d16_39 rfl ?_
  refine st5 _ ?_
  refine wgt X5 hx hby rfl (pc0 := 44) (pc' := 57) rfl d16_44 (by decide) (by decide) ?_
  exact retOut X5 hx hret rfl (Or.inr (Or.inr (Or.inr (Or.inr ⟨rfl, rfl, rfl⟩)))) (hb hby d16_57) hr
def Qrm143 (Z : State) (p5 : Int32) (h0 : Heap) (n0 : Nat) (v : Option Value) (h : Heap) (L : List Loc) : Prop := ∃ x0 : Addr, ∃ x1 : Addr, ∃ xk0 : ClassId, v = some (vR x0) ∧ Fr n0 L ∧ Keep h0 h [] ∧ h0.size ≤ x0 ∧ x0 < x1 ∧ Exa Z h x0 z0 ∧ Fld Z h x0 z0 "value" "[B" (vR x1) ∧ Fld Z h x0 z0 "coder" "B" (vI 0) ∧ Arv Z h x1 xk0 .byte (1 : Int32) [(vI p5)] (vI 0)
theorem rm143 (cx : Cx Z a0 w0 w1) (a1 : Addr) (p2 : Int32) (p3 : Int32) (p4 : Int32) (p5 : Int32) (a6 : Addr) (ck7 : ClassId) (O0 : Old Z n0 h0) (PF1 : Fld Z h0 a1 z0 "value" "[B" (vR a6)) (PV2 : Arv Z h0 a6 ck7 .byte (4 : Int32) [(vI p2), (vI p3), (vI p4), (vI p5)] (vI 0)) (PF3 : Fld Z h0 a1 z0 "coder" "B" (vI 0)) (PE4 : Exa Z h0 a1 z0) : Ct l Z ⟨z0, "substring", z9⟩ jdk_42_method_91_code 2 (some (.object z0)) ⟨5, 2, 5, 80⟩ #[(vR a1), (vI 3)] h0 (Qrm143 Z p5 h0 n0) := by
  obtain ⟨hw, hj, hS⟩ := id cx
  refine own_bd (plainFor_of_name pn63) (fun m => ef194 m a1 3) fun p e s m below meth c s₁ hret hlk hZ hx hby hml hown hnm X0 e0 => ?_
  have N0 := Fr.nil n0
  obtain ⟨_, T1, L1, ⟨rfl, N1q, e1⟩, X1, st1⟩ := cV X0 hx hZ (W := 2) hown (cw4 cx) (rm128 cx a1 a6 p2 p3 p4 p5 ck7 O0 PF1 PV2 PF3 PE4) e0 PE4 (g := (mkF m 3 #[sR a1, sI 3] [(vR a1), (vI 3), (vR a1)])) rfl hml rfl (rest := [(vI 3), (vR a1)]) rfl rfl rfl rfl (hb hby d15_3) (by decide)
  obtain ⟨_, T2, L2, ⟨c2_0, c2_1, k2_2, rfl, N2q, Kq2, lo2_0, lo2_1, q2_0, q2_1, q2_2, q2_3⟩, X2, st2⟩ := cV X1 hx hZ (W := 0) hown (cw13 cx) (rm142 cx a1 p2 p3 p4 p5 a6 ck7 O0 PF1 PV2 PF3 PE4) e1 PE4 (g := (mkF m 6 #[sR a1, sI 3] [(vI 4), (vI 3), (vR a1)])) rfl hml rfl (rest := []) rfl rfl rfl rfl (hb hby d15_6) (by decide)
  have N2 := Fr.app (Fr.app N0 N1q) N2q
  have O2 : Old Z n0 T2.heap := O0.keep Kq2 all0
  have K2 : Keep h0 T2.heap [] := (Keep.refl h0 []).trans Kq2 all0
  refine own_end X2 hlk (v := some (vR c2_0)) (own_hv hret) (by decide) ⟨c2_0, c2_1, k2_2, rfl, N2, K2, (Nat.le_trans (Keep.refl h0 []).1 lo2_0), lo2_1, q2_0, q2_1, q2_2, q2_3⟩ fun fs hr => ?_
  show St p e below s₁ (mkF m 0 #[sR a1, sI 3] []) _
  refine wal X0 hx hby rfl d15_0 rfl rfl ?_
  refine wil X0 hx hby rfl d15_1 rfl ?_
  refine wal X0 hx hby rfl d15_2 rfl rfl ?_
  refine st1 _ ?_
  refine st2 _ ?_
  exact retOut X2 hx hret rfl (Or.inr (Or.inr (Or.inr (Or.inr ⟨rfl, rfl, rfl⟩)))) (hb hby d15_9) hr
def Qrm144 (Z : State) (p5 : Int32) (h0 : Heap) (n0 : Nat) (v : Option Value) (h : Heap) (L : List Loc) : Prop := ∃ x0 : Addr, ∃ x1 : Addr, ∃ xk0 : ClassId, v = some (vR x0) ∧ Fr n0 L ∧ Keep h0 h [] ∧ h0.size ≤ x0 ∧ x0 < x1 ∧ Exa Z h x0 z0 ∧ Fld Z h x0 z0 "value" "[B" (vR x1) ∧ Fld Z h x0 z0 "coder" "B" (vI 0) ∧ Arv Z h x1 xk0 .byte (1 : Int32) [(vI p5)] (vI 0)
theorem rm144 (cx : Cx Z a0 w0 w1) (a1 : Addr) (p2 : Int32) (p3 : Int32) (p4 : Int32) (p5 : Int32) (a6 : Addr) (ck7 : ClassId) (O0 : Old Z n0 h0) (PF1 : Fld Z h0 a1 z0 "value" "[B" (vR a6)) (PV2 : Arv Z h0 a6 ck7 .byte (4 : Int32) [(vI p2), (vI p3), (vI p4), (vI p5)] (vI 0)) (PF3 : Fld Z h0 a1 z0 "coder" "B" (vI 0)) (PE4 : Exa Z h0 a1 z0) (hc5 : ¬ (p5 = (58 : Int32))) (hc6 : p4 = (58 : Int32)) : Ct l Z ⟨z3, "localPart", z5⟩ prog_13_method_17_code 1 (some (.object z0)) ⟨6, 2, 5, 93⟩ #[(vR a1)] h0 (Qrm144 Z p5 h0 n0) := by
  obtain ⟨hw, hj, hS⟩ := id cx
  refine own_bd (plainFor_of_name pn266) (fun m => ef104 m a1) fun p e s m below meth c s₁ hret hlk hZ hx hby hml hown hnm X0 e0 => ?_
  have N0 := Fr.nil n0
  obtain ⟨_, T1, L1, ⟨rfl, N1q, e1⟩, X1, st1⟩ := cV X0 hx hZ (W := 1) hown (cw10 cx) (rm138 cx a1 p2 p3 p4 p5 a6 ck7 O0 PF1 PV2 PF3 PE4 hc5 hc6) e0 PE4 (g := (mkF m 4 #[sR a1] [(vI 58), (vR a1), (vR a1)])) rfl hml rfl (rest := [(vR a1)]) rfl rfl rfl rfl (hb hby d6_4) (by decide)
  obtain ⟨_, T2, L2, ⟨c2_0, c2_1, k2_2, rfl, N2q, Kq2, lo2_0, lo2_1, q2_0, q2_1, q2_2, q2_3⟩, X2, st2⟩ := cV X1 hx hZ (W := 0) hown (cw14 cx) (rm143 cx a1 p2 p3 p4 p5 a6 ck7 O0 PF1 PV2 PF3 PE4) e1 PE4 (g := (mkF m 9 #[sR a1] [(vI 3), (vR a1)])) rfl hml rfl (rest := []) rfl rfl rfl rfl (hb hby d6_9) (by decide)
  have N2 := Fr.app (Fr.app N0 N1q) N2q
  have O2 : Old Z n0 T2.heap := O0.keep Kq2 all0
  have K2 : Keep h0 T2.heap [] := (Keep.refl h0 []).trans Kq2 all0
  refine own_end X2 hlk (v := some (vR c2_0)) (own_hv hret) (by decide) ⟨c2_0, c2_1, k2_2, rfl, N2, K2, (Nat.le_trans (Keep.refl h0 []).1 lo2_0), lo2_1, q2_0, q2_1, q2_2, q2_3⟩ fun fs hr => ?_
  show St p e below s₁ (mkF m 0 #[sR a1] []) _
  refine wal X0 hx hby rfl d6_0 rfl rfl ?_
  refine wal X0 hx hby rfl d6_1 rfl rfl ?_
  refine wbp X0 hx hby rfl d6_2 ?_
  refine st1 _ ?_
  refine wic X1 hx hby rfl d6_7 ?_
  refine Own.iadd X1.here hx rfl (hb hby d6_8) rfl (by decide : ((2 : Int32) + (1 : Int32)) = (3 : Int32)) ?_
  refine st2 _ ?_
  exact retOut X2 hx hret rfl (Or.inr (Or.inr (Or.inr (Or.inr ⟨rfl, rfl, rfl⟩)))) (hb hby d6_12) hr
def Qrm145 (Z : State) (h0 : Heap) (n0 : Nat) (v : Option Value) (h : Heap) (L : List Loc) : Prop := v = some (vI 1) ∧ Fr n0 L ∧ h = h0
theorem rm145 (cx : Cx Z a0 w0 w1) (a1 : Addr) (p2 : Int32) (p3 : Int32) (p4 : Int32) (p5 : Int32) (ck6 : ClassId) (O0 : Old Z n0 h0) (PV1 : Arv Z h0 a1 ck6 .byte (4 : Int32) [(vI p2), (vI p3), (vI p4), (vI p5)] (vI 0)) (hc2 : ¬ (p5 = (58 : Int32))) (hc3 : ¬ (p4 = (58 : Int32))) (hc4 : p3 = (58 : Int32)) : Ct l Z ⟨z2, z4, "([BII)I"⟩ jdk_43_method_27_code 4 (some .int) ⟨1, 0, 0, 13⟩ #[(vR a1), (vI 58), (vI 3)] h0 (Qrm145 Z h0 n0) := by
  obtain ⟨hw, hj, hS⟩ := id cx
  refine own_bd (plainFor_of_name pn154) (fun m => ef183 m a1 58 3) fun p e s m below meth c s₁ hret hlk hZ hx hby hml hown hnm X0 e0 => ?_
  have N0 := Fr.nil n0
  obtain ⟨_, T1, L1, ⟨rfl, N1q, e1⟩, X1, st1⟩ := cS X0 hx hZ (W := 0) hown (cw6 cx) (rm7 cx 58 O0 (by decide : ¬ ((58 : Int32) < (0 : Int32))) (by decide : ¬ ((255 : Int32) < (58 : Int32)))) e0 (g := (mkF m 1 #[sR a1, sI 58, sI 3, sU] [(vI 58)])) rfl hml rfl (rest := []) rfl rfl rfl rfl (hb hby d12_1) (by decide)
  obtain ⟨_, T2, L2, ⟨rfl, N2q, e2⟩, X2, st2⟩ := cS X1 hx hZ (W := 0) hown (cw7 cx) (rm8 cx 3 O0) e1 (g := (mkF m 14 #[sR a1, sI 58, sI 3, sU] [(vI 3), (vI 3)])) rfl hml rfl (rest := []) rfl rfl rfl rfl (hb hby d12_14) (by decide)
  refine own_end X2 hlk (v := some (vI 1)) (own_hv hret) (by decide) (by rw [e2]; exact ⟨rfl, (Fr.app (Fr.app N0 N1q) N2q), rfl⟩) fun fs hr => ?_
  show St p e below s₁ (mkF m 0 #[sR a1, sI 58, sI 3, sU] []) _
  refine wil X0 hx hby rfl d12_0 rfl ?_
  refine st1 _ ?_
  refine wfy X1 hx hby rfl (pc0 := 4) (pc' := 9) rfl d12_4 rfl ((if0 _ _).trans (feq (by decide : ¬ ((1 : Int32) = (0 : Int32)))).2) (by decide) (by decide) ?_
  refine wil X1 hx hby rfl d12_9 rfl ?_
  refine wal X1 hx hby rfl d12_10 rfl rfl ?_
  refine own_alen X1 hx hZ e1 PV1 (g := (mkF m 11 #[sR a1, sI 58, sI 3, sU] [(vR a1), (vI 3)])) rfl rfl (hb hby d12_11) ?_
  refine wic X1 hx hby rfl d12_12 ?_
  refine Own.isub X1.here hx rfl (hb hby d12_13) rfl (by decide : ((4 : Int32) - (1 : Int32)) = (3 : Int32)) ?_
  refine st2 _ ?_
  refine wis X2 hx hby rfl d12_17 rfl (l' := #[sR a1, sI 58, sI 3, sI 3]) rfl ?_
  refine wil X2 hx hby rfl d12_18 rfl ?_
  refine wfn X2 hx hby rfl d12_19 rfl ((if0 _ _).trans (flt (by decide : ¬ ((3 : Int32) < (0 : Int32)))).1) ?_
  refine wal X2 hx hby rfl d12_22 rfl rfl ?_
  refine wil X2 hx hby rfl d12_23 rfl ?_
  refine own_baloadB X2 hx hZ e2 PV1 (j := 3) (by decide) (v := (vI p5)) rfl (g := (mkF m 24 #[sR a1, sI 58, sI 3, sI 3] [(vI 3), (vR a1)])) rfl rfl (hb hby d12_24) ?_
  refine wil X2 hx hby rfl d12_25 rfl ?_
  show St p e below T2 (mkF m 26 #[sR a1, sI 58, sI 3, sI 3] [(vI 58), (vI p5)]) _
  refine Own.i2b X2.here hx rfl (hb hby d12_26) rfl (by decide : ((58 : Int32).toInt8.toInt32) = (58 : Int32)) ?_
  refine wcy X2 hx hby rfl (pc0 := 27) (pc' := 32) rfl d12_27 rfl (feq hc2).2 (by decide) (by decide) ?_
  refine Own.iinc X2.here hx rfl (hb hby d12_32) rfl (by decide : ((3 : Int32) + (-1 : Int32)) = (2 : Int32)) (l' := #[sR a1, sI 58, sI 3, sI 2]) rfl ?_
  refine wgt X2 hx hby rfl (pc0 := 35) (pc' := 18) rfl d12_35 (by decide) (by decide) ?_
  refine wil X2 hx hby rfl d12_18 rfl ?_
  refine wfn X2 hx hby rfl d12_19 rfl ((if0 _ _).trans (flt (by decide : ¬ ((2 : Int32) < (0 : Int32)))).1) ?_
  refine wal X2 hx hby rfl d12_22 rfl rfl ?_
  refine wil X2 hx hby rfl d12_23 rfl ?_
  refine own_baloadB X2 hx hZ e2 PV1 (j := 2) (by decide) (v := (vI p4)) rfl (g := (mkF m 24 #[sR a1, sI 58, sI 3, sI 2] [(vI 2), (vR a1)])) rfl rfl (hb hby d12_24) ?_
  refine wil X2 hx hby rfl d12_25 rfl ?_
  refine Own.i2b X2.here hx rfl (hb hby d12_26) rfl (by decide : ((58 : Int32).toInt8.toInt32) = (58 : Int32)) ?_
  refine wcy X2 hx hby rfl (pc0 := 27) (pc' := 32) rfl d12_27 rfl (feq hc3).2 (by decide) (by decide) ?_
  refine Own.iinc X2.here hx rfl (hb hby d12_32) rfl (by decide : ((2 : Int32) + (-1 : Int32)) = (1 : Int32)) (l' := #[sR a1, sI 58, sI 3, sI 1]) rfl ?_
  refine wgt X2 hx hby rfl (pc0 := 35) (pc' := 18) rfl d12_35 (by decide) (by decide) ?_
  refine wil X2 hx hby rfl d12_18 rfl ?_
  refine wfn X2 hx hby rfl d12_19 rfl ((if0 _ _).trans (flt (by decide : ¬ ((1 : Int32) < (0 : Int32)))).1) ?_
  show St p e below T2 (mkF m 22 #[sR a1, sI 58, sI 3, sI 1] []) _
  refine wal X2 hx hby rfl d12_22 rfl rfl ?_
  refine wil X2 hx hby rfl d12_23 rfl ?_
  refine own_baloadB X2 hx hZ e2 PV1 (j := 1) (by decide) (v := (vI p3)) rfl (g := (mkF m 24 #[sR a1, sI 58, sI 3, sI 1] [(vI 1), (vR a1)])) rfl rfl (hb hby d12_24) ?_
  refine wil X2 hx hby rfl d12_25 rfl ?_
  refine Own.i2b X2.here hx rfl (hb hby d12_26) rfl (by decide : ((58 : Int32).toInt8.toInt32) = (58 : Int32)) ?_
  refine wcn X2 hx hby rfl d12_27 rfl (teq hc4).2 ?_
  refine wil X2 hx hby rfl d12_30 rfl ?_
  exact retOut X2 hx hret rfl (Or.inl ⟨rfl, Or.inl rfl, _, rfl⟩) (hb hby d12_31) hr
def Qrm146 (Z : State) (h0 : Heap) (n0 : Nat) (v : Option Value) (h : Heap) (L : List Loc) : Prop := v = some (vI 1) ∧ Fr n0 L ∧ h = h0
theorem rm146 (cx : Cx Z a0 w0 w1) (a1 : Addr) (a2 : Addr) (p3 : Int32) (p4 : Int32) (p5 : Int32) (p6 : Int32) (ck7 : ClassId) (O0 : Old Z n0 h0) (PF1 : Fld Z h0 a1 z0 "coder" "B" (vI 0)) (PE2 : Exa Z h0 a1 z0) (PF3 : Fld Z h0 a1 z0 "value" "[B" (vR a2)) (PV4 : Arv Z h0 a2 ck7 .byte (4 : Int32) [(vI p3), (vI p4), (vI p5), (vI p6)] (vI 0)) (hc5 : ¬ (p6 = (58 : Int32))) (hc6 : ¬ (p5 = (58 : Int32))) (hc7 : p4 = (58 : Int32)) : Ct l Z ⟨z0, z4, "(II)I"⟩ jdk_42_method_83_code 3 (some .int) ⟨2, 0, 0, 28⟩ #[(vR a1), (vI 58), (vI 3)] h0 (Qrm146 Z h0 n0) := by
  obtain ⟨hw, hj, hS⟩ := id cx
  refine own_bd (plainFor_of_name pn63) (fun m => ef189 m a1 58 3) fun p e s m below meth c s₁ hret hlk hZ hx hby hml hown hnm X0 e0 => ?_
  have N0 := Fr.nil n0
  obtain ⟨_, T1, L1, ⟨rfl, N1q, e1⟩, X1, st1⟩ := cV X0 hx hZ (W := 0) hown (cw5 cx) (rm6 cx a1 O0 PF1) e0 PE2 (g := (mkF m 1 #[sR a1, sI 58, sI 3] [(vR a1)])) rfl hml rfl (rest := []) rfl rfl rfl rfl (hb hby d10_1) (by decide)
  obtain ⟨T2, X2, e2, st2⟩ := getF X1 hx hZ hown (host := "") (Or.inl (hw _ m28)) Via.refl e1 PF3 (g := (mkF m 8 #[sR a1, sI 58, sI 3] [(vR a1)])) rfl rfl (hb hby d10_8)
  obtain ⟨_, T3, L3, ⟨rfl, N3q, e3⟩, X3, st3⟩ := cS X2 hx hZ (W := 0) hown (cw8 cx) (rm145 cx a2 p3 p4 p5 p6 ck7 O0 PV4 hc5 hc6 hc7) e2 (g := (mkF m 13 #[sR a1, sI 58, sI 3] [(vI 3), (vI 58), (vR a2)])) rfl hml rfl (rest := []) rfl rfl rfl rfl (hb hby d10_13) (by decide)
  refine own_end X3 hlk (v := some (vI 1)) (own_hv hret) (by decide) (by rw [e3]; exact ⟨rfl, (Fr.app (Fr.app N0 N1q) N3q), rfl⟩) fun fs hr => ?_
  show St p e below s₁ (mkF m 0 #[sR a1, sI 58, sI 3] []) _
  refine wal X0 hx hby rfl d10_0 rfl rfl ?_
  refine st1 _ ?_
  refine wfn X1 hx hby rfl d10_4 rfl ((if0 _ _).trans (feq (by decide : ¬ ((1 : Int32) = (0 : Int32)))).1) ?_
  refine wal X1 hx hby rfl d10_7 rfl rfl ?_
  refine st2 _ ?_
  refine wil X2 hx hby rfl d10_11 rfl ?_
  refine wil X2 hx hby rfl d10_12 rfl ?_
  refine st3 _ ?_
  refine wgt X3 hx hby rfl (pc0 := 16) (pc' := 28) rfl d10_16 (by decide) (by decide) ?_
  exact retOut X3 hx hret rfl (Or.inl ⟨rfl, Or.inl rfl, _, rfl⟩) (hb hby d10_28) hr
def Qrm147 (Z : State) (h0 : Heap) (n0 : Nat) (v : Option Value) (h : Heap) (L : List Loc) : Prop := v = some (vI 1) ∧ Fr n0 L ∧ h = h0
theorem rm147 (cx : Cx Z a0 w0 w1) (a1 : Addr) (p2 : Int32) (p3 : Int32) (p4 : Int32) (p5 : Int32) (a6 : Addr) (ck7 : ClassId) (O0 : Old Z n0 h0) (PF1 : Fld Z h0 a1 z0 "value" "[B" (vR a6)) (PV2 : Arv Z h0 a6 ck7 .byte (4 : Int32) [(vI p2), (vI p3), (vI p4), (vI p5)] (vI 0)) (PF3 : Fld Z h0 a1 z0 "coder" "B" (vI 0)) (PE4 : Exa Z h0 a1 z0) (hc5 : ¬ (p5 = (58 : Int32))) (hc6 : ¬ (p4 = (58 : Int32))) (hc7 : p3 = (58 : Int32)) : Ct l Z ⟨z0, z4, "(I)I"⟩ jdk_42_method_82_code 2 (some .int) ⟨3, 0, 0, 42⟩ #[(vR a1), (vI 58)] h0 (Qrm147 Z h0 n0) := by
  obtain ⟨hw, hj, hS⟩ := id cx
  refine own_bd (plainFor_of_name pn63) (fun m => ef194 m a1 58) fun p e s m below meth c s₁ hret hlk hZ hx hby hml hown hnm X0 e0 => ?_
  have N0 := Fr.nil n0
  obtain ⟨_, T1, L1, ⟨rfl, N1q, e1⟩, X1, st1⟩ := cV X0 hx hZ (W := 2) hown (cw4 cx) (rm128 cx a1 a6 p2 p3 p4 p5 ck7 O0 PF1 PV2 PF3 PE4) e0 PE4 (g := (mkF m 3 #[sR a1, sI 58] [(vR a1), (vI 58), (vR a1)])) rfl hml rfl (rest := [(vI 58), (vR a1)]) rfl rfl rfl rfl (hb hby d7_3) (by decide)
  obtain ⟨_, T2, L2, ⟨rfl, N2q, e2⟩, X2, st2⟩ := cV X1 hx hZ (W := 0) hown (cw9 cx) (rm146 cx a1 a6 p2 p3 p4 p5 ck7 O0 PF3 PE4 PF1 PV2 hc5 hc6 hc7) e1 PE4 (g := (mkF m 8 #[sR a1, sI 58] [(vI 3), (vI 58), (vR a1)])) rfl hml rfl (rest := []) rfl rfl rfl rfl (hb hby d7_8) (by decide)
  refine own_end X2 hlk (v := some (vI 1)) (own_hv hret) (by decide) (by rw [e2]; exact ⟨rfl, (Fr.app (Fr.app N0 N1q) N2q), rfl⟩) fun fs hr => ?_
  show St p e below s₁ (mkF m 0 #[sR a1, sI 58] []) _
  refine wal X0 hx hby rfl d7_0 rfl rfl ?_
  refine wil X0 hx hby rfl d7_1 rfl ?_
  refine wal X0 hx hby rfl d7_2 rfl rfl ?_
  refine st1 _ ?_
  refine wic X1 hx hby rfl d7_6 ?_
  refine Own.isub X1.here hx rfl (hb hby d7_7) rfl (by decide : ((4 : Int32) - (1 : Int32)) = (3 : Int32)) ?_
  refine st2 _ ?_
  exact retOut X2 hx hret rfl (Or.inl ⟨rfl, Or.inl rfl, _, rfl⟩) (hb hby d7_11) hr
def Qrm148 (Z : State) (p4 : Int32) (p5 : Int32) (h0 : Heap) (n0 : Nat) (v : Option Value) (h : Heap) (L : List Loc) : Prop := ∃ x0 : Addr, ∃ xk0 : ClassId, v = some (vR x0) ∧ Fr n0 L ∧ Keep h0 h [] ∧ h0.size ≤ x0 ∧ Arv Z h x0 xk0 .byte (2 : Int32) [(vI p4), (vI p5)] (vI 0)
theorem rm148 (cx : Cx Z a0 w0 w1) (a1 : Addr) (p2 : Int32) (p3 : Int32) (p4 : Int32) (p5 : Int32) (ck6 : ClassId) (O0 : Old Z n0 h0) (PV1 : Arv Z h0 a1 ck6 .byte (4 : Int32) [(vI p2), (vI p3), (vI p4), (vI p5)] (vI 0)) : Ct l Z ⟨z7, z14, "([BII)[B"⟩ jdk_65_method_133_code 5 (some (.array .byte)) ⟨1, 1, 2, 18⟩ #[(vR a1), (vI 2), (vI 4)] h0 (Qrm148 Z p4 p5 h0 n0) := by
  obtain ⟨hw, hj, hS⟩ := id cx
  refine own_bd (plainFor_of_name pn495) (fun m => ef255 m a1 2 4) fun p e s m below meth c s₁ hret hlk hZ hx hby hml hown hnm X0 e0 => ?_
  have N0 := Fr.nil n0
  obtain ⟨_, T1, L1, ⟨rfl, N1q, e1⟩, X1, st1⟩ := cS X0 hx hZ (W := 0) hown (cw25 cx) (rm60 cx 2 4 O0 (by decide : ¬ ((4 : Int32) < (2 : Int32)))) e0 (g := (mkF m 2 #[sR a1, sI 2, sI 4, sU, sU] [(vI 4), (vI 2)])) rfl hml rfl (rest := []) rfl rfl rfl rfl (hb hby d28_2) (by decide)
  obtain ⟨T2, h2, k2, b2, X2, e2, E2, V2, g2, O2, K2, st2⟩ := own_newP X1 hx hZ (aty := .byte) (ty := .byte) (dv := (.int (0 : Int32))) (vs := [(.int (0 : Int32)), (.int (0 : Int32))]) (cap := 2) rfl rfl rfl (hw _ m23) e1 O0 (Keep.refl h0 []) (g := (mkF m 10 #[sR a1, sI 2, sI 4, sI 2, sU] [(vI 2)])) rfl (hb hby d28_10) rfl (by decide) (by decide) (by decide) (by decide) (by decide)
  have f3 : Arv Z h2 a1 ck6 .byte (4 : Int32) [(vI p2), (vI p3), (vI p4), (vI p5)] (vI 0) := (PV1.ext E2)
  obtain ⟨_, T4, L4, ⟨rfl, N4q, e4⟩, X4, st4⟩ := cS X2 hx hZ (W := 4) hown (cw26 cx) (rm8 cx 2 O2) e2 (g := (mkF m 24 #[sR a1, sI 2, sI 4, sI 2, sR b2] [(vI 2), (vI 2), (vI 0), (vR b2), (vI 2), (vR a1)])) rfl hml rfl (rest := [(vI 0), (vR b2), (vI 2), (vR a1)]) rfl rfl rfl rfl (hb hby d28_24) (by decide)
  obtain ⟨T5, h5, L'5, X5, e5, N5, Kq5, V5, st5⟩ := cpA X4 hx hZ hown (hw _ m130) (hw _ m133) (hw _ m131) (hw _ m132) e4 f3 V2 (us := [(vI p4), (vI p5)]) (Or.inl ⟨rfl, rfl⟩) (by decide) (by decide) (by decide) (by decide) (by decide) rfl (by decide) (Fr.app (Fr.app N0 N1q) N4q) (Nat.le_trans (own_old_le O0) g2) (g := (mkF m 27 #[sR a1, sI 2, sI 4, sI 2, sR b2] [(vI 2), (vI 0), (vR b2), (vI 2), (vR a1)])) rfl (by rw [hml]; rfl) rfl (hb hby d28_27) (by decide) (W := 0) (Nat.le_of_eq rfl) (by decide)
  have O5 : Old Z n0 h5 := O2.keep Kq5 (allS (Nat.le_trans (own_old_le O0) g2) all0)
  have K5 : Keep h0 h5 [] := K2.trans Kq5 (allS (Or.inr (Nat.le_trans (Keep.refl h0 []).1 g2)) all0)
  have V5' : Arv Z h5 b2 k2 .byte (2 : Int32) [(vI p4), (vI p5)] (vI 0) := V5
  refine own_end X5 hlk (v := some (vR b2)) (own_hv hret) (by decide) (by rw [e5]; exact ⟨b2, k2, rfl, N5, K5, (Nat.le_trans (Keep.refl h0 []).1 g2), V5'⟩) fun fs hr => ?_
  show St p e below s₁ (mkF m 0 #[sR a1, sI 2, sI 4, sU, sU] []) _
  refine wil X0 hx hby rfl d28_0 rfl ?_
  refine wil X0 hx hby rfl d28_1 rfl ?_
  refine st1 _ ?_
  refine wil X1 hx hby rfl d28_5 rfl ?_
  refine wil X1 hx hby rfl d28_6 rfl ?_
  refine Own.isub X1.here hx rfl (hb hby d28_7) rfl (by decide : ((4 : Int32) - (2 : Int32)) = (2 : Int32)) ?_
  refine wis X1 hx hby rfl d28_8 rfl (l' := #[sR a1, sI 2, sI 4, sI 2, sU]) rfl ?_
  refine wil X1 hx hby rfl d28_9 rfl ?_
  refine st2 _ ?_
  refine waS X2 hx hby rfl d28_12 rfl rfl (l' := #[sR a1, sI 2, sI 4, sI 2, sR b2]) rfl ?_
  refine wal X2 hx hby rfl d28_14 rfl rfl ?_
  refine wil X2 hx hby rfl d28_15 rfl ?_
  refine waL X2 hx hby rfl d28_16 rfl rfl ?_
  refine wic X2 hx hby rfl d28_18 ?_
  refine wal X2 hx hby rfl d28_19 rfl rfl ?_
  refine own_alen X2 hx hZ e2 f3 (g := (mkF m 20 #[sR a1, sI 2, sI 4, sI 2, sR b2] [(vR a1), (vI 0), (vR b2), (vI 2), (vR a1)])) rfl rfl (hb hby d28_20) ?_
  show St p e below T2 (mkF m 21 #[sR a1, sI 2, sI 4, sI 2, sR b2] [(vI 4), (vI 0), (vR b2), (vI 2), (vR a1)]) _
  refine wil X2 hx hby rfl d28_21 rfl ?_
  refine Own.isub X2.here hx rfl (hb hby d28_22) rfl (by decide : ((4 : Int32) - (2 : Int32)) = (2 : Int32)) ?_
  refine wil X2 hx hby rfl d28_23 rfl ?_
  refine st4 _ ?_
  refine st5 _ ?_
  refine waL X5 hx hby rfl d28_30 rfl rfl ?_
  exact retOut X5 hx hret rfl (Or.inr (Or.inr (Or.inr (Or.inr ⟨rfl, rfl, rfl⟩)))) (hb hby d28_32) hr
def Qrm149 (Z : State) (p4 : Int32) (p5 : Int32) (h0 : Heap) (n0 : Nat) (v : Option Value) (h : Heap) (L : List Loc) : Prop := ∃ x0 : Addr, ∃ xk0 : ClassId, v = some (vR x0) ∧ Fr n0 L ∧ Keep h0 h [] ∧ h0.size ≤ x0 ∧ Arv Z h x0 xk0 .byte (2 : Int32) [(vI p4), (vI p5)] (vI 0)
theorem rm149 (cx : Cx Z a0 w0 w1) (a1 : Addr) (p2 : Int32) (p3 : Int32) (p4 : Int32) (p5 : Int32) (ck6 : ClassId) (O0 : Old Z n0 h0) (PV1 : Arv Z h0 a1 ck6 .byte (4 : Int32) [(vI p2), (vI p3), (vI p4), (vI p5)] (vI 0)) : Ct l Z ⟨z7, z15, "([BII)[B"⟩ jdk_65_method_132_code 3 (some (.array .byte)) ⟨2, 1, 2, 34⟩ #[(vR a1), (vI 2), (vI 4)] h0 (Qrm149 Z p4 p5 h0 n0) := by
  obtain ⟨hw, hj, hS⟩ := id cx
  refine own_bd (plainFor_of_name pn495) (fun m => ef189 m a1 2 4) fun p e s m below meth c s₁ hret hlk hZ hx hby hml hown hnm X0 e0 => ?_
  have N0 := Fr.nil n0
  obtain ⟨_, T1, L1, ⟨c1_0, k1_1, rfl, N1q, Kq1, lo1_0, q1_0⟩, X1, st1⟩ := cS X0 hx hZ (W := 0) hown (cw27 cx) (rm148 cx a1 p2 p3 p4 p5 ck6 O0 PV1) e0 (g := (mkF m 13 #[sR a1, sI 2, sI 4] [(vI 4), (vI 2), (vR a1)])) rfl hml rfl (rest := []) rfl rfl rfl rfl (hb hby d27_13) (by decide)
  have N1 := Fr.app N0 N1q
  have O1 : Old Z n0 T1.heap := O0.keep Kq1 all0
  have K1 : Keep h0 T1.heap [] := (Keep.refl h0 []).trans Kq1 all0
  refine own_end X1 hlk (v := some (vR c1_0)) (own_hv hret) (by decide) ⟨c1_0, k1_1, rfl, N1, K1, (Nat.le_trans (Keep.refl h0 []).1 lo1_0), q1_0⟩ fun fs hr => ?_
  show St p e below s₁ (mkF m 0 #[sR a1, sI 2, sI 4] []) _
  refine wil X0 hx hby rfl d27_0 rfl ?_
  refine wfy X0 hx hby rfl (pc0 := 1) (pc' := 10) rfl d27_1 rfl ((if0 _ _).trans (feq (by decide : ¬ ((2 : Int32) = (0 : Int32)))).2) (by decide) (by decide) ?_
  refine wal X0 hx hby rfl d27_10 rfl rfl ?_
  refine wil X0 hx hby rfl d27_11 rfl ?_
  refine wil X0 hx hby rfl d27_12 rfl ?_
  refine st1 _ ?_
  exact retOut X1 hx hret rfl (Or.inr (Or.inr (Or.inr (Or.inr ⟨rfl, rfl, rfl⟩)))) (hb hby d27_16) hr
def Qrm150 (Z : State) (p4 : Int32) (p5 : Int32) (h0 : Heap) (n0 : Nat) (v : Option Value) (h : Heap) (L : List Loc) : Prop := ∃ x0 : Addr, ∃ x1 : Addr, ∃ xk0 : ClassId, v = some (vR x0) ∧ Fr n0 L ∧ Keep h0 h [] ∧ h0.size ≤ x0 ∧ x0 < x1 ∧ Exa Z h x0 z0 ∧ Fld Z h x0 z0 "value" "[B" (vR x1) ∧ Fld Z h x0 z0 "coder" "B" (vI 0) ∧ Arv Z h x1 xk0 .byte (2 : Int32) [(vI p4), (vI p5)] (vI 0)
theorem rm150 (cx : Cx Z a0 w0 w1) (a1 : Addr) (p2 : Int32) (p3 : Int32) (p4 : Int32) (p5 : Int32) (ck6 : ClassId) (O0 : Old Z n0 h0) (PV1 : Arv Z h0 a1 ck6 .byte (4 : Int32) [(vI p2), (vI p3), (vI p4), (vI p5)] (vI 0)) : Ct l Z ⟨z2, "newString", z11⟩ jdk_43_method_47_code 3 (some (.object z0)) ⟨3, 2, 6, 50⟩ #[(vR a1), (vI 2), (vI 2)] h0 (Qrm150 Z p4 p5 h0 n0) := by
  obtain ⟨hw, hj, hS⟩ := id cx
  refine own_bd (plainFor_of_name pn154) (fun m => ef189 m a1 2 2) fun p e s m below meth c s₁ hret hlk hZ hx hby hml hown hnm X0 e0 => ?_
  have N0 := Fr.nil n0
  obtain ⟨T1, h1, b1, X1, e1, E1, A1, D1, g1, O1, K1, st1⟩ := own_newO X0 hx hZ hown (hw _ m118) (hw _ m10) (hw _ m11) e0 O0 (Keep.refl h0 []) (g := (mkF m 7 #[sR a1, sI 2, sI 2] [])) rfl (hb hby d26_7) (by decide) (by decide)
  have F1_1 : Fld Z h1 b1 z0 "value" "[B" .null := D1 (Or.inr (hw _ m24)) (ty := (.array .byte)) (by decide)
  have F1_2 : Fld Z h1 b1 z0 "coder" "B" (vI 0) := D1 (Or.inr (hw _ m25)) (ty := .byte) (by decide)
  have f3 : Arv Z h1 a1 ck6 .byte (4 : Int32) [(vI p2), (vI p3), (vI p4), (vI p5)] (vI 0) := (PV1.ext E1)
  obtain ⟨_, T2, L2, ⟨c2_0, k2_1, rfl, N2q, Kq2, lo2_0, q2_0⟩, X2, st2⟩ := cS X1 hx hZ (W := 2) hown (cw28 cx) (rm149 cx a1 p2 p3 p4 p5 ck6 O1 f3) e1 (g := (mkF m 16 #[sR a1, sI 2, sI 2] [(vI 4), (vI 2), (vR a1), (vR b1), (vR b1)])) rfl hml rfl (rest := [(vR b1), (vR b1)]) rfl rfl rfl rfl (hb hby d26_16) (by decide)
  have N2 := Fr.app N0 N2q
  have O2 : Old Z n0 T2.heap := O1.keep Kq2 all0
  have K2 : Keep h0 T2.heap [] := K1.trans Kq2 all0
  have f5 : Exa Z T2.heap b1 z0 := (A1.keep Kq2)
  have f6 : Fld Z T2.heap b1 z0 "value" "[B" .null := (F1_1.keep Kq2 nin0)
  have f7 : Fld Z T2.heap b1 z0 "coder" "B" (vI 0) := (F1_2.keep Kq2 nin0)
  obtain ⟨_, T4, L4, ⟨rfl, N4q, Kq4, q4_0, q4_1⟩, X4, st4⟩ := cI X2 hx hZ (W := 1) hown (cw29 cx) (rm63 cx b1 c2_0 O2 f5 f6 f7 (Nat.le_trans (own_old_le O0) g1)) (rfl : T2.heap = T2.heap) (g := (mkF m 20 #[sR a1, sI 2, sI 2] [(vI 0), (vR c2_0), (vR b1), (vR b1)])) rfl hml rfl (rest := [(vR b1)]) rfl rfl rfl rfl (hb hby d26_20) (by decide)
  have N4 := Fr.app N2 N4q
  have O4 : Old Z n0 T4.heap := O2.keep Kq4 (allS (Nat.le_trans (own_old_le O0) g1) all0)
  have K4 : Keep h0 T4.heap [] := K2.trans Kq4 (allS (Or.inr (Nat.le_trans (Keep.refl h0 []).1 g1)) all0)
  have f8 : Exa Z T4.heap b1 z0 := (f5.keep Kq4)
  have f9 : Arv Z T4.heap c2_0 k2_1 .byte (2 : Int32) [(vI p4), (vI p5)] (vI 0) := (q2_0.keep Kq4 (ninS (Ne.symm (Nat.ne_of_lt (Nat.lt_of_lt_of_le A1.lt lo2_0))) nin0))
  refine own_end X4 hlk (v := some (vR b1)) (own_hv hret) (by decide) ⟨b1, c2_0, k2_1, rfl, N4, K4, (Nat.le_trans (Keep.refl h0 []).1 g1), (Nat.lt_of_lt_of_le A1.lt lo2_0), f8, q4_0, q4_1, f9⟩ fun fs hr => ?_
  show St p e below s₁ (mkF m 0 #[sR a1, sI 2, sI 2] []) _
  refine wil X0 hx hby rfl d26_0 rfl ?_
  refine wfy X0 hx hby rfl (pc0 := 1) (pc' := 7) rfl d26_1 rfl ((if0 _ _).trans (feq (by decide : ¬ ((2 : Int32) = (0 : Int32)))).2) (by decide) (by decide) ?_
  refine st1 _ ?_
  refine wdu X1 hx hby rfl d26_10 rfl rfl ?_
  refine wal X1 hx hby rfl d26_11 rfl rfl ?_
  refine wil X1 hx hby rfl d26_12 rfl ?_
  refine wil X1 hx hby rfl d26_13 rfl ?_
  refine wil X1 hx hby rfl d26_14 rfl ?_
  refine Own.iadd X1.here hx rfl (hb hby d26_15) rfl (by decide : ((2 : Int32) + (2 : Int32)) = (4 : Int32)) ?_
  refine st2 _ ?_
  refine wic X2 hx hby rfl d26_19 ?_
  refine st4 _ ?_
  exact retOut X4 hx hret rfl (Or.inr (Or.inr (Or.inr (Or.inr ⟨rfl, rfl, rfl⟩)))) (hb hby d26_23) hr
def Qrm151 (Z : State) (p4 : Int32) (p5 : Int32) (h0 : Heap) (n0 : Nat) (v : Option Value) (h : Heap) (L : List Loc) : Prop := ∃ x0 : Addr, ∃ x1 : Addr, ∃ xk0 : ClassId, v = some (vR x0) ∧ Fr n0 L ∧ Keep h0 h [] ∧ h0.size ≤ x0 ∧ x0 < x1 ∧ Exa Z h x0 z0 ∧ Fld Z h x0 z0 "value" "[B" (vR x1) ∧ Fld Z h x0 z0 "coder" "B" (vI 0) ∧ Arv Z h x1 xk0 .byte (2 : Int32) [(vI p4), (vI p5)] (vI 0)
theorem rm151 (cx : Cx Z a0 w0 w1) (a1 : Addr) (p2 : Int32) (p3 : Int32) (p4 : Int32) (p5 : Int32) (a6 : Addr) (ck7 : ClassId) (O0 : Old Z n0 h0) (PF1 : Fld Z h0 a1 z0 "value" "[B" (vR a6)) (PV2 : Arv Z h0 a6 ck7 .byte (4 : Int32) [(vI p2), (vI p3), (vI p4), (vI p5)] (vI 0)) (PF3 : Fld Z h0 a1 z0 "coder" "B" (vI 0)) (PE4 : Exa Z h0 a1 z0) : Ct l Z ⟨z0, "substring", z8⟩ jdk_42_method_92_code 5 (some (.object z0)) ⟨4, 2, 6, 64⟩ #[(vR a1), (vI 2), (vI 4)] h0 (Qrm151 Z p4 p5 h0 n0) := by
  obtain ⟨hw, hj, hS⟩ := id cx
  refine own_bd (plainFor_of_name pn63) (fun m => ef255 m a1 2 4) fun p e s m below meth c s₁ hret hlk hZ hx hby hml hown hnm X0 e0 => ?_
  have N0 := Fr.nil n0
  obtain ⟨_, T1, L1, ⟨rfl, N1q, e1⟩, X1, st1⟩ := cV X0 hx hZ (W := 0) hown (cw4 cx) (rm128 cx a1 a6 p2 p3 p4 p5 ck7 O0 PF1 PV2 PF3 PE4) e0 PE4 (g := (mkF m 1 #[sR a1, sI 2, sI 4, sU, sU] [(vR a1)])) rfl hml rfl (rest := []) rfl rfl rfl rfl (hb hby d16_1) (by decide)
  obtain ⟨_, T2, L2, ⟨rfl, N2q, e2⟩, X2, st2⟩ := cS X1 hx hZ (W := 0) hown (cw12 cx) (rm35 cx 2 4 O0 (by decide : ¬ ((2 : Int32) < (0 : Int32))) (by decide : ¬ ((4 : Int32) < (2 : Int32)))) e1 (g := (mkF m 8 #[sR a1, sI 2, sI 4, sI 4, sU] [(vI 4), (vI 4), (vI 2)])) rfl hml rfl (rest := []) rfl rfl rfl rfl (hb hby d16_8) (by decide)
  obtain ⟨_, T3, L3, ⟨rfl, N3q, e3⟩, X3, st3⟩ := cV X2 hx hZ (W := 0) hown (cw5 cx) (rm6 cx a1 O0 PF3) e2 PE4 (g := (mkF m 28 #[sR a1, sI 2, sI 4, sI 4, sI 2] [(vR a1)])) rfl hml rfl (rest := []) rfl rfl rfl rfl (hb hby d16_28) (by decide)
  obtain ⟨T4, X4, e4, st4⟩ := getF X3 hx hZ hown (host := "") (Or.inl (hw _ m28)) Via.refl e3 PF1 (g := (mkF m 35 #[sR a1, sI 2, sI 4, sI 4, sI 2] [(vR a1)])) rfl rfl (hb hby d16_35)
  obtain ⟨_, T5, L5, ⟨c5_0, c5_1, k5_2, rfl, N5q, Kq5, lo5_0, lo5_1, q5_0, q5_1, q5_2, q5_3⟩, X5, st5⟩ := cS X4 hx hZ (W := 0) hown (cw20 cx) (rm150 cx a6 p2 p3 p4 p5 ck7 O0 PV2) e4 (g := (mkF m 41 #[sR a1, sI 2, sI 4, sI 4, sI 2] [(vI 2), (vI 2), (vR a6)])) rfl hml rfl (rest := []) rfl rfl rfl rfl (hb hby d16_41) (by decide)
  have N5 := Fr.app (Fr.app (Fr.app (Fr.app N0 N1q) N2q) N3q) N5q
  have O5 : Old Z n0 T5.heap := O0.keep Kq5 all0
  have K5 : Keep h0 T5.heap [] := (Keep.refl h0 []).trans Kq5 all0
  refine own_end X5 hlk (v := some (vR c5_0)) (own_hv hret) (by decide) ⟨c5_0, c5_1, k5_2, rfl, N5, K5, (Nat.le_trans (Keep.refl h0 []).1 lo5_0), lo5_1, q5_0, q5_1, q5_2, q5_3⟩ fun fs hr => ?_
  show St p e below s₁ (mkF m 0 #[sR a1, sI 2, sI 4, sU, sU] []) _
  refine wal X0 hx hby rfl d16_0 rfl rfl ?_
  refine st1 _ ?_
  refine wis X1 hx hby rfl d16_4 rfl (l' := #[sR a1, sI 2, sI 4, sI 4, sU]) rfl ?_
  refine wil X1 hx hby rfl d16_5 rfl ?_
  refine wil X1 hx hby rfl d16_6 rfl ?_
  refine wil X1 hx hby rfl d16_7 rfl ?_
  refine st2 _ ?_
  refine wil X2 hx hby rfl d16_11 rfl ?_
  refine wfy X2 hx hby rfl (pc0 := 12) (pc' := 22) rfl d16_12 rfl ((if0 _ _).trans (feq (by decide : ¬ ((2 : Int32) = (0 : Int32)))).2) (by decide) (by decide) ?_
  refine wil X2 hx hby rfl d16_22 rfl ?_
  refine wil X2 hx hby rfl d16_23 rfl ?_
  refine Own.isub X2.here hx rfl (hb hby d16_24) rfl (by decide : ((4 : Int32) - (2 : Int32)) = (2 : Int32)) ?_
  refine wiS X2 hx hby rfl d16_25 rfl (l' := #[sR a1, sI 2, sI 4, sI 4, sI 2]) rfl ?_
  refine wal X2 hx hby rfl d16_27 rfl rfl ?_
  refine st3 _ ?_
  refine wfn X3 hx hby rfl d16_31 rfl ((if0 _ _).trans (feq (by decide : ¬ ((1 : Int32) = (0 : Int32)))).1) ?_
  show St p e below T3 (mkF m 34 #[sR a1, sI 2, sI 4, sI 4, sI 2] []) _
  refine wal X3 hx hby rfl d16_34 rfl rfl ?_
  refine st4 _ ?_
  refine wil X4 hx hby rfl d16_38 rfl ?_
  refine wiL X4 hx hby rfl d16_39 rfl ?_
  refine st5 _ ?_
  refine wgt X5 hx hby rfl (pc0 := 44) (pc' := 57) rfl d16_44 (by decide) (by decide) ?_
  exact retOut X5 hx hret rfl (Or.inr (Or.inr (Or.inr (Or.inr ⟨rfl, rfl, rfl⟩)))) (hb hby d16_57) hr
def Qrm152 (Z : State) (p4 : Int32) (p5 : Int32) (h0 : Heap) (n0 : Nat) (v : Option Value) (h : Heap) (L : List Loc) : Prop := ∃ x0 : Addr, ∃ x1 : Addr, ∃ xk0 : ClassId, v = some (vR x0) ∧ Fr n0 L ∧ Keep h0 h [] ∧ h0.size ≤ x0 ∧ x0 < x1 ∧ Exa Z h x0 z0 ∧ Fld Z h x0 z0 "value" "[B" (vR x1) ∧ Fld Z h x0 z0 "coder" "B" (vI 0) ∧ Arv Z h x1 xk0 .byte (2 : Int32) [(vI p4), (vI p5)] (vI 0)
theorem rm152 (cx : Cx Z a0 w0 w1) (a1 : Addr) (p2 : Int32) (p3 : Int32) (p4 : Int32) (p5 : Int32) (a6 : Addr) (ck7 : ClassId) (O0 : Old Z n0 h0) (PF1 : Fld Z h0 a1 z0 "value" "[B" (vR a6)) (PV2 : Arv Z h0 a6 ck7 .byte (4 : Int32) [(vI p2), (vI p3), (vI p4), (vI p5)] (vI 0)) (PF3 : Fld Z h0 a1 z0 "coder" "B" (vI 0)) (PE4 : Exa Z h0 a1 z0) : Ct l Z ⟨z0, "substring", z9⟩ jdk_42_method_91_code 2 (some (.object z0)) ⟨5, 2, 6, 80⟩ #[(vR a1), (vI 2)] h0 (Qrm152 Z p4 p5 h0 n0) := by
  obtain ⟨hw, hj, hS⟩ := id cx
  refine own_bd (plainFor_of_name pn63) (fun m => ef194 m a1 2) fun p e s m below meth c s₁ hret hlk hZ hx hby hml hown hnm X0 e0 => ?_
  have N0 := Fr.nil n0
  obtain ⟨_, T1, L1, ⟨rfl, N1q, e1⟩, X1, st1⟩ := cV X0 hx hZ (W := 2) hown (cw4 cx) (rm128 cx a1 a6 p2 p3 p4 p5 ck7 O0 PF1 PV2 PF3 PE4) e0 PE4 (g := (mkF m 3 #[sR a1, sI 2] [(vR a1), (vI 2), (vR a1)])) rfl hml rfl (rest := [(vI 2), (vR a1)]) rfl rfl rfl rfl (hb hby d15_3) (by decide)
  obtain ⟨_, T2, L2, ⟨c2_0, c2_1, k2_2, rfl, N2q, Kq2, lo2_0, lo2_1, q2_0, q2_1, q2_2, q2_3⟩, X2, st2⟩ := cV X1 hx hZ (W := 0) hown (cw13 cx) (rm151 cx a1 p2 p3 p4 p5 a6 ck7 O0 PF1 PV2 PF3 PE4) e1 PE4 (g := (mkF m 6 #[sR a1, sI 2] [(vI 4), (vI 2), (vR a1)])) rfl hml rfl (rest := []) rfl rfl rfl rfl (hb hby d15_6) (by decide)
  have N2 := Fr.app (Fr.app N0 N1q) N2q
  have O2 : Old Z n0 T2.heap := O0.keep Kq2 all0
  have K2 : Keep h0 T2.heap [] := (Keep.refl h0 []).trans Kq2 all0
  refine own_end X2 hlk (v := some (vR c2_0)) (own_hv hret) (by decide) ⟨c2_0, c2_1, k2_2, rfl, N2, K2, (Nat.le_trans (Keep.refl h0 []).1 lo2_0), lo2_1, q2_0, q2_1, q2_2, q2_3⟩ fun fs hr => ?_
  show St p e below s₁ (mkF m 0 #[sR a1, sI 2] []) _
  refine wal X0 hx hby rfl d15_0 rfl rfl ?_
  refine wil X0 hx hby rfl d15_1 rfl ?_
  refine wal X0 hx hby rfl d15_2 rfl rfl ?_
  refine st1 _ ?_
  refine st2 _ ?_
  exact retOut X2 hx hret rfl (Or.inr (Or.inr (Or.inr (Or.inr ⟨rfl, rfl, rfl⟩)))) (hb hby d15_9) hr
def Qrm153 (Z : State) (p4 : Int32) (p5 : Int32) (h0 : Heap) (n0 : Nat) (v : Option Value) (h : Heap) (L : List Loc) : Prop := ∃ x0 : Addr, ∃ x1 : Addr, ∃ xk0 : ClassId, v = some (vR x0) ∧ Fr n0 L ∧ Keep h0 h [] ∧ h0.size ≤ x0 ∧ x0 < x1 ∧ Exa Z h x0 z0 ∧ Fld Z h x0 z0 "value" "[B" (vR x1) ∧ Fld Z h x0 z0 "coder" "B" (vI 0) ∧ Arv Z h x1 xk0 .byte (2 : Int32) [(vI p4), (vI p5)] (vI 0)
theorem rm153 (cx : Cx Z a0 w0 w1) (a1 : Addr) (p2 : Int32) (p3 : Int32) (p4 : Int32) (p5 : Int32) (a6 : Addr) (ck7 : ClassId) (O0 : Old Z n0 h0) (PF1 : Fld Z h0 a1 z0 "value" "[B" (vR a6)) (PV2 : Arv Z h0 a6 ck7 .byte (4 : Int32) [(vI p2), (vI p3), (vI p4), (vI p5)] (vI 0)) (PF3 : Fld Z h0 a1 z0 "coder" "B" (vI 0)) (PE4 : Exa Z h0 a1 z0) (hc5 : ¬ (p5 = (58 : Int32))) (hc6 : ¬ (p4 = (58 : Int32))) (hc7 : p3 = (58 : Int32)) : Ct l Z ⟨z3, "localPart", z5⟩ prog_13_method_17_code 1 (some (.object z0)) ⟨6, 2, 6, 93⟩ #[(vR a1)] h0 (Qrm153 Z p4 p5 h0 n0) := by
  obtain ⟨hw, hj, hS⟩ := id cx
  refine own_bd (plainFor_of_name pn266) (fun m => ef104 m a1) fun p e s m below meth c s₁ hret hlk hZ hx hby hml hown hnm X0 e0 => ?_
  have N0 := Fr.nil n0
  obtain ⟨_, T1, L1, ⟨rfl, N1q, e1⟩, X1, st1⟩ := cV X0 hx hZ (W := 1) hown (cw10 cx) (rm147 cx a1 p2 p3 p4 p5 a6 ck7 O0 PF1 PV2 PF3 PE4 hc5 hc6 hc7) e0 PE4 (g := (mkF m 4 #[sR a1] [(vI 58), (vR a1), (vR a1)])) rfl hml rfl (rest := [(vR a1)]) rfl rfl rfl rfl (hb hby d6_4) (by decide)
  obtain ⟨_, T2, L2, ⟨c2_0, c2_1, k2_2, rfl, N2q, Kq2, lo2_0, lo2_1, q2_0, q2_1, q2_2, q2_3⟩, X2, st2⟩ := cV X1 hx hZ (W := 0) hown (cw14 cx) (rm152 cx a1 p2 p3 p4 p5 a6 ck7 O0 PF1 PV2 PF3 PE4) e1 PE4 (g := (mkF m 9 #[sR a1] [(vI 2), (vR a1)])) rfl hml rfl (rest := []) rfl rfl rfl rfl (hb hby d6_9) (by decide)
  have N2 := Fr.app (Fr.app N0 N1q) N2q
  have O2 : Old Z n0 T2.heap := O0.keep Kq2 all0
  have K2 : Keep h0 T2.heap [] := (Keep.refl h0 []).trans Kq2 all0
  refine own_end X2 hlk (v := some (vR c2_0)) (own_hv hret) (by decide) ⟨c2_0, c2_1, k2_2, rfl, N2, K2, (Nat.le_trans (Keep.refl h0 []).1 lo2_0), lo2_1, q2_0, q2_1, q2_2, q2_3⟩ fun fs hr => ?_
  show St p e below s₁ (mkF m 0 #[sR a1] []) _
  refine wal X0 hx hby rfl d6_0 rfl rfl ?_
  refine wal X0 hx hby rfl d6_1 rfl rfl ?_
  refine wbp X0 hx hby rfl d6_2 ?_
  refine st1 _ ?_
  refine wic X1 hx hby rfl d6_7 ?_
  refine Own.iadd X1.here hx rfl (hb hby d6_8) rfl (by decide : ((1 : Int32) + (1 : Int32)) = (2 : Int32)) ?_
  refine st2 _ ?_
  exact retOut X2 hx hret rfl (Or.inr (Or.inr (Or.inr (Or.inr ⟨rfl, rfl, rfl⟩)))) (hb hby d6_12) hr
def Qrm154 (Z : State) (h0 : Heap) (n0 : Nat) (v : Option Value) (h : Heap) (L : List Loc) : Prop := v = some (vI 0) ∧ Fr n0 L ∧ h = h0
theorem rm154 (cx : Cx Z a0 w0 w1) (a1 : Addr) (p2 : Int32) (p3 : Int32) (p4 : Int32) (p5 : Int32) (ck6 : ClassId) (O0 : Old Z n0 h0) (PV1 : Arv Z h0 a1 ck6 .byte (4 : Int32) [(vI p2), (vI p3), (vI p4), (vI p5)] (vI 0)) (hc2 : ¬ (p5 = (58 : Int32))) (hc3 : ¬ (p4 = (58 : Int32))) (hc4 : ¬ (p3 = (58 : Int32))) (hc5 : p2 = (58 : Int32)) : Ct l Z ⟨z2, z4, "([BII)I"⟩ jdk_43_method_27_code 4 (some .int) ⟨1, 0, 0, 13⟩ #[(vR a1), (vI 58), (vI 3)] h0 (Qrm154 Z h0 n0) := by
  obtain ⟨hw, hj, hS⟩ := id cx
  refine own_bd (plainFor_of_name pn154) (fun m => ef183 m a1 58 3) fun p e s m below meth c s₁ hret hlk hZ hx hby hml hown hnm X0 e0 => ?_
  have N0 := Fr.nil n0
  obtain ⟨_, T1, L1, ⟨rfl, N1q, e1⟩, X1, st1⟩ := cS X0 hx hZ (W := 0) hown (cw6 cx) (rm7 cx 58 O0 (by decide : ¬ ((58 : Int32) < (0 : Int32))) (by decide : ¬ ((255 : Int32) < (58 : Int32)))) e0 (g := (mkF m 1 #[sR a1, sI 58, sI 3, sU] [(vI 58)])) rfl hml rfl (rest := []) rfl rfl rfl rfl (hb hby d12_1) (by decide)
  obtain ⟨_, T2, L2, ⟨rfl, N2q, e2⟩, X2, st2⟩ := cS X1 hx hZ (W := 0) hown (cw7 cx) (rm8 cx 3 O0) e1 (g := (mkF m 14 #[sR a1, sI 58, sI 3, sU] [(vI 3), (vI 3)])) rfl hml rfl (rest := []) rfl rfl rfl rfl (hb hby d12_14) (by decide)
  refine own_end X2 hlk (v := some (vI 0)) (own_hv hret) (by decide) (by rw [e2]; exact ⟨rfl, (Fr.app (Fr.app N0 N1q) N2q), rfl⟩) fun fs hr => ?_
  show St p e below s₁ (mkF m 0 #[sR a1, sI 58, sI 3, sU] []) _
  refine wil X0 hx hby rfl d12_0 rfl ?_
  refine st1 _ ?_
  refine wfy X1 hx hby rfl (pc0 := 4) (pc' := 9) rfl d12_4 rfl ((if0 _ _).trans (feq (by decide : ¬ ((1 : Int32) = (0 : Int32)))).2) (by decide) (by decide) ?_
  refine wil X1 hx hby rfl d12_9 rfl ?_
  refine wal X1 hx hby rfl d12_10 rfl rfl ?_
  refine own_alen X1 hx hZ e1 PV1 (g := (mkF m 11 #[sR a1, sI 58, sI 3, sU] [(vR a1), (vI 3)])) rfl rfl (hb hby d12_11) ?_
  refine wic X1 hx hby rfl d12_12 ?_
  refine Own.isub X1.here hx rfl (hb hby d12_13) rfl (by decide : ((4 : Int32) - (1 : Int32)) = (3 : Int32)) ?_
  refine st2 _ ?_
  refine wis X2 hx hby rfl d12_17 rfl (l' := #[sR a1, sI 58, sI 3, sI 3]) rfl ?_
  refine wil X2 hx hby rfl d12_18 rfl ?_
  refine wfn X2 hx hby rfl d12_19 rfl ((if0 _ _).trans (flt (by decide : ¬ ((3 : Int32) < (0 : Int32)))).1) ?_
  refine wal X2 hx hby rfl d12_22 rfl rfl ?_
  refine wil X2 hx hby rfl d12_23 rfl ?_
  refine own_baloadB X2 hx hZ e2 PV1 (j := 3) (by decide) (v := (vI p5)) rfl (g := (mkF m 24 #[sR a1, sI 58, sI 3, sI 3] [(vI 3), (vR a1)])) rfl rfl (hb hby d12_24) ?_
  refine wil X2 hx hby rfl d12_25 rfl ?_
  show St p e below T2 (mkF m 26 #[sR a1, sI 58, sI 3, sI 3] [(vI 58), (vI p5)]) _
  refine Own.i2b X2.here hx rfl (hb hby d12_26) rfl (by decide : ((58 : Int32).toInt8.toInt32) = (58 : Int32)) ?_
  refine wcy X2 hx hby rfl (pc0 := 27) (pc' := 32) rfl d12_27 rfl (feq hc2).2 (by decide) (by decide) ?_
  refine Own.iinc X2.here hx rfl (hb hby d12_32) rfl (by decide : ((3 : Int32) + (-1 : Int32)) = (2 : Int32)) (l' := #[sR a1, sI 58, sI 3, sI 2]) rfl ?_
  refine wgt X2 hx hby rfl (pc0 := 35) (pc' := 18) rfl d12_35 (by decide) (by decide) ?_
  refine wil X2 hx hby rfl d12_18 rfl ?_
  refine wfn X2 hx hby rfl d12_19 rfl ((if0 _ _).trans (flt (by decide : ¬ ((2 : Int32) < (0 : Int32)))).1) ?_
  refine wal X2 hx hby rfl d12_22 rfl rfl ?_
  refine wil X2 hx hby rfl d12_23 rfl ?_
  refine own_baloadB X2 hx hZ e2 PV1 (j := 2) (by decide) (v := (vI p4)) rfl (g := (mkF m 24 #[sR a1, sI 58, sI 3, sI 2] [(vI 2), (vR a1)])) rfl rfl (hb hby d12_24) ?_
  refine wil X2 hx hby rfl d12_25 rfl ?_
  refine Own.i2b X2.here hx rfl (hb hby d12_26) rfl (by decide : ((58 : Int32).toInt8.toInt32) = (58 : Int32)) ?_
  refine wcy X2 hx hby rfl (pc0 := 27) (pc' := 32) rfl d12_27 rfl (feq hc3).2 (by decide) (by decide) ?_
  refine Own.iinc X2.here hx rfl (hb hby d12_32) rfl (by decide : ((2 : Int32) + (-1 : Int32)) = (1 : Int32)) (l' := #[sR a1, sI 58, sI 3, sI 1]) rfl ?_
  refine wgt X2 hx hby rfl (pc0 := 35) (pc' := 18) rfl d12_35 (by decide) (by decide) ?_
  refine wil X2 hx hby rfl d12_18 rfl ?_
  refine wfn X2 hx hby rfl d12_19 rfl ((if0 _ _).trans (flt (by decide : ¬ ((1 : Int32) < (0 : Int32)))).1) ?_
  show St p e below T2 (mkF m 22 #[sR a1, sI 58, sI 3, sI 1] []) _
  refine wal X2 hx hby rfl d12_22 rfl rfl ?_
  refine wil X2 hx hby rfl d12_23 rfl ?_
  refine own_baloadB X2 hx hZ e2 PV1 (j := 1) (by decide) (v := (vI p3)) rfl (g := (mkF m 24 #[sR a1, sI 58, sI 3, sI 1] [(vI 1), (vR a1)])) rfl rfl (hb hby d12_24) ?_
  refine wil X2 hx hby rfl d12_25 rfl ?_
  refine Own.i2b X2.here hx rfl (hb hby d12_26) rfl (by decide : ((58 : Int32).toInt8.toInt32) = (58 : Int32)) ?_
  refine wcy X2 hx hby rfl (pc0 := 27) (pc' := 32) rfl d12_27 rfl (feq hc4).2 (by decide) (by decide) ?_
  refine Own.iinc X2.here hx rfl (hb hby d12_32) rfl (by decide : ((1 : Int32) + (-1 : Int32)) = (0 : Int32)) (l' := #[sR a1, sI 58, sI 3, sI 0]) rfl ?_
  refine wgt X2 hx hby rfl (pc0 := 35) (pc' := 18) rfl d12_35 (by decide) (by decide) ?_
  refine wil X2 hx hby rfl d12_18 rfl ?_
  refine wfn X2 hx hby rfl d12_19 rfl ((if0 _ _).trans (flt (by decide : ¬ ((0 : Int32) < (0 : Int32)))).1) ?_
  refine wal X2 hx hby rfl d12_22 rfl rfl ?_
  refine wil X2 hx hby rfl d12_23 rfl ?_
  refine own_baloadB X2 hx hZ e2 PV1 (j := 0) (by decide) (v := (vI p2)) rfl (g := (mkF m 24 #[sR a1, sI 58, sI 3, sI 0] [(vI 0), (vR a1)])) rfl rfl (hb hby d12_24) ?_
  refine wil X2 hx hby rfl d12_25 rfl ?_
  refine Own.i2b X2.here hx rfl (hb hby d12_26) rfl (by decide : ((58 : Int32).toInt8.toInt32) = (58 : Int32)) ?_
  refine wcn X2 hx hby rfl d12_27 rfl (teq hc5).2 ?_
  show St p e below T2 (mkF m 30 #[sR a1, sI 58, sI 3, sI 0] []) _
  refine wil X2 hx hby rfl d12_30 rfl ?_
  exact retOut X2 hx hret rfl (Or.inl ⟨rfl, Or.inl rfl, _, rfl⟩) (hb hby d12_31) hr
def Qrm155 (Z : State) (h0 : Heap) (n0 : Nat) (v : Option Value) (h : Heap) (L : List Loc) : Prop := v = some (vI 0) ∧ Fr n0 L ∧ h = h0
theorem rm155 (cx : Cx Z a0 w0 w1) (a1 : Addr) (a2 : Addr) (p3 : Int32) (p4 : Int32) (p5 : Int32) (p6 : Int32) (ck7 : ClassId) (O0 : Old Z n0 h0) (PF1 : Fld Z h0 a1 z0 "coder" "B" (vI 0)) (PE2 : Exa Z h0 a1 z0) (PF3 : Fld Z h0 a1 z0 "value" "[B" (vR a2)) (PV4 : Arv Z h0 a2 ck7 .byte (4 : Int32) [(vI p3), (vI p4), (vI p5), (vI p6)] (vI 0)) (hc5 : ¬ (p6 = (58 : Int32))) (hc6 : ¬ (p5 = (58 : Int32))) (hc7 : ¬ (p4 = (58 : Int32))) (hc8 : p3 = (58 : Int32)) : Ct l Z ⟨z0, z4, "(II)I"⟩ jdk_42_method_83_code 3 (some .int) ⟨2, 0, 0, 28⟩ #[(vR a1), (vI 58), (vI 3)] h0 (Qrm155 Z h0 n0) := by
  obtain ⟨hw, hj, hS⟩ := id cx
  refine own_bd (plainFor_of_name pn63) (fun m => ef189 m a1 58 3) fun p e s m below meth c s₁ hret hlk hZ hx hby hml hown hnm X0 e0 => ?_
  have N0 := Fr.nil n0
  obtain ⟨_, T1, L1, ⟨rfl, N1q, e1⟩, X1, st1⟩ := cV X0 hx hZ (W := 0) hown (cw5 cx) (rm6 cx a1 O0 PF1) e0 PE2 (g := (mkF m 1 #[sR a1, sI 58, sI 3] [(vR a1)])) rfl hml rfl (rest := []) rfl rfl rfl rfl (hb hby d10_1) (by decide)
  obtain ⟨T2, X2, e2, st2⟩ := getF X1 hx hZ hown (host := "") (Or.inl (hw _ m28)) Via.refl e1 PF3 (g := (mkF m 8 #[sR a1, sI 58, sI 3] [(vR a1)])) rfl rfl (hb hby d10_8)
  obtain ⟨_, T3, L3, ⟨rfl, N3q, e3⟩, X3, st3⟩ := cS X2 hx hZ (W := 0) hown (cw8 cx) (rm154 cx a2 p3 p4 p5 p6 ck7 O0 PV4 hc5 hc6 hc7 hc8) e2 (g := (mkF m 13 #[sR a1, sI 58, sI 3] [(vI 3), (vI 58), (vR a2)])) rfl hml rfl (rest := []) rfl rfl rfl rfl (hb hby d10_13) (by decide)
  refine own_end X3 hlk (v := some (vI 0)) (own_hv hret) (by decide) (by rw [e3]; exact ⟨rfl, (Fr.app (Fr.app N0 N1q) N3q), rfl⟩) fun fs hr => ?_
  show St p e below s₁ (mkF m 0 #[sR a1, sI 58, sI 3] []) _
  refine wal X0 hx hby rfl d10_0 rfl rfl ?_
  refine st1 _ ?_
  refine wfn X1 hx hby rfl d10_4 rfl ((if0 _ _).trans (feq (by decide : ¬ ((1 : Int32) = (0 : Int32)))).1) ?_
  refine wal X1 hx hby rfl d10_7 rfl rfl ?_
  refine st2 _ ?_
  refine wil X2 hx hby rfl d10_11 rfl ?_
  refine wil X2 hx hby rfl d10_12 rfl ?_
  refine st3 _ ?_
  refine wgt X3 hx hby rfl (pc0 := 16) (pc' := 28) rfl d10_16 (by decide) (by decide) ?_
  exact retOut X3 hx hret rfl (Or.inl ⟨rfl, Or.inl rfl, _, rfl⟩) (hb hby d10_28) hr
def Qrm156 (Z : State) (h0 : Heap) (n0 : Nat) (v : Option Value) (h : Heap) (L : List Loc) : Prop := v = some (vI 0) ∧ Fr n0 L ∧ h = h0
theorem rm156 (cx : Cx Z a0 w0 w1) (a1 : Addr) (p2 : Int32) (p3 : Int32) (p4 : Int32) (p5 : Int32) (a6 : Addr) (ck7 : ClassId) (O0 : Old Z n0 h0) (PF1 : Fld Z h0 a1 z0 "value" "[B" (vR a6)) (PV2 : Arv Z h0 a6 ck7 .byte (4 : Int32) [(vI p2), (vI p3), (vI p4), (vI p5)] (vI 0)) (PF3 : Fld Z h0 a1 z0 "coder" "B" (vI 0)) (PE4 : Exa Z h0 a1 z0) (hc5 : ¬ (p5 = (58 : Int32))) (hc6 : ¬ (p4 = (58 : Int32))) (hc7 : ¬ (p3 = (58 : Int32))) (hc8 : p2 = (58 : Int32)) : Ct l Z ⟨z0, z4, "(I)I"⟩ jdk_42_method_82_code 2 (some .int) ⟨3, 0, 0, 42⟩ #[(vR a1), (vI 58)] h0 (Qrm156 Z h0 n0) := by
  obtain ⟨hw, hj, hS⟩ := id cx
  refine own_bd (plainFor_of_name pn63) (fun m => ef194 m a1 58) fun p e s m below meth c s₁ hret hlk hZ hx hby hml hown hnm X0 e0 => ?_
  have N0 := Fr.nil n0
  obtain ⟨_, T1, L1, ⟨rfl, N1q, e1⟩, X1, st1⟩ := cV X0 hx hZ (W := 2) hown (cw4 cx) (rm128 cx a1 a6 p2 p3 p4 p5 ck7 O0 PF1 PV2 PF3 PE4) e0 PE4 (g := (mkF m 3 #[sR a1, sI 58] [(vR a1), (vI 58), (vR a1)])) rfl hml rfl (rest := [(vI 58), (vR a1)]) rfl rfl rfl rfl (hb hby d7_3) (by decide)
  obtain ⟨_, T2, L2, ⟨rfl, N2q, e2⟩, X2, st2⟩ := cV X1 hx hZ (W := 0) hown (cw9 cx) (rm155 cx a1 a6 p2 p3 p4 p5 ck7 O0 PF3 PE4 PF1 PV2 hc5 hc6 hc7 hc8) e1 PE4 (g := (mkF m 8 #[sR a1, sI 58] [(vI 3), (vI 58), (vR a1)])) rfl hml rfl (rest := []) rfl rfl rfl rfl (hb hby d7_8) (by decide)
  refine own_end X2 hlk (v := some (vI 0)) (own_hv hret) (by decide) (by rw [e2]; exact ⟨rfl, (Fr.app (Fr.app N0 N1q) N2q), rfl⟩) fun fs hr => ?_
  show St p e below s₁ (mkF m 0 #[sR a1, sI 58] []) _
  refine wal X0 hx hby rfl d7_0 rfl rfl ?_
  refine wil X0 hx hby rfl d7_1 rfl ?_
  refine wal X0 hx hby rfl d7_2 rfl rfl ?_
  refine st1 _ ?_
  refine wic X1 hx hby rfl d7_6 ?_
  refine Own.isub X1.here hx rfl (hb hby d7_7) rfl (by decide : ((4 : Int32) - (1 : Int32)) = (3 : Int32)) ?_
  refine st2 _ ?_
  exact retOut X2 hx hret rfl (Or.inl ⟨rfl, Or.inl rfl, _, rfl⟩) (hb hby d7_11) hr
def Qrm157 (Z : State) (p3 : Int32) (p4 : Int32) (p5 : Int32) (h0 : Heap) (n0 : Nat) (v : Option Value) (h : Heap) (L : List Loc) : Prop := ∃ x0 : Addr, ∃ xk0 : ClassId, v = some (vR x0) ∧ Fr n0 L ∧ Keep h0 h [] ∧ h0.size ≤ x0 ∧ Arv Z h x0 xk0 .byte (3 : Int32) [(vI p3), (vI p4), (vI p5)] (vI 0)
theorem rm157 (cx : Cx Z a0 w0 w1) (a1 : Addr) (p2 : Int32) (p3 : Int32) (p4 : Int32) (p5 : Int32) (ck6 : ClassId) (O0 : Old Z n0 h0) (PV1 : Arv Z h0 a1 ck6 .byte (4 : Int32) [(vI p2), (vI p3), (vI p4), (vI p5)] (vI 0)) : Ct l Z ⟨z7, z14, "([BII)[B"⟩ jdk_65_method_133_code 5 (some (.array .byte)) ⟨1, 1, 3, 18⟩ #[(vR a1), (vI 1), (vI 4)] h0 (Qrm157 Z p3 p4 p5 h0 n0) := by
  obtain ⟨hw, hj, hS⟩ := id cx
  refine own_bd (plainFor_of_name pn495) (fun m => ef255 m a1 1 4) fun p e s m below meth c s₁ hret hlk hZ hx hby hml hown hnm X0 e0 => ?_
  have N0 := Fr.nil n0
  obtain ⟨_, T1, L1, ⟨rfl, N1q, e1⟩, X1, st1⟩ := cS X0 hx hZ (W := 0) hown (cw25 cx) (rm60 cx 1 4 O0 (by decide : ¬ ((4 : Int32) < (1 : Int32)))) e0 (g := (mkF m 2 #[sR a1, sI 1, sI 4, sU, sU] [(vI 4), (vI 1)])) rfl hml rfl (rest := []) rfl rfl rfl rfl (hb hby d28_2) (by decide)
  obtain ⟨T2, h2, k2, b2, X2, e2, E2, V2, g2, O2, K2, st2⟩ := own_newP X1 hx hZ (aty := .byte) (ty := .byte) (dv := (.int (0 : Int32))) (vs := [(.int (0 : Int32)), (.int (0 : Int32)), (.int (0 : Int32))]) (cap := 3) rfl rfl rfl (hw _ m23) e1 O0 (Keep.refl h0 []) (g := (mkF m 10 #[sR a1, sI 1, sI 4, sI 3, sU] [(vI 3)])) rfl (hb hby d28_10) rfl (by decide) (by decide) (by decide) (by decide) (by decide)
  have f3 : Arv Z h2 a1 ck6 .byte (4 : Int32) [(vI p2), (vI p3), (vI p4), (vI p5)] (vI 0) := (PV1.ext E2)
  obtain ⟨_, T4, L4, ⟨rfl, N4q, e4⟩, X4, st4⟩ := cS X2 hx hZ (W := 4) hown (cw26 cx) (rm8 cx 3 O2) e2 (g := (mkF m 24 #[sR a1, sI 1, sI 4, sI 3, sR b2] [(vI 3), (vI 3), (vI 0), (vR b2), (vI 1), (vR a1)])) rfl hml rfl (rest := [(vI 0), (vR b2), (vI 1), (vR a1)]) rfl rfl rfl rfl (hb hby d28_24) (by decide)
  obtain ⟨T5, h5, L'5, X5, e5, N5, Kq5, V5, st5⟩ := cpA X4 hx hZ hown (hw _ m130) (hw _ m133) (hw _ m131) (hw _ m132) e4 f3 V2 (us := [(vI p3), (vI p4), (vI p5)]) (Or.inl ⟨rfl, rfl⟩) (by decide) (by decide) (by decide) (by decide) (by decide) rfl (by decide) (Fr.app (Fr.app N0 N1q) N4q) (Nat.le_trans (own_old_le O0) g2) (g := (mkF m 27 #[sR a1, sI 1, sI 4, sI 3, sR b2] [(vI 3), (vI 0), (vR b2), (vI 1), (vR a1)])) rfl (by rw [hml]; rfl) rfl (hb hby d28_27) (by decide) (W := 0) (Nat.le_of_eq rfl) (by decide)
  have O5 : Old Z n0 h5 := O2.keep Kq5 (allS (Nat.le_trans (own_old_le O0) g2) all0)
  have K5 : Keep h0 h5 [] := K2.trans Kq5 (allS (Or.inr (Nat.le_trans (Keep.refl h0 []).1 g2)) all0)
  have V5' : Arv Z h5 b2 k2 .byte (3 : Int32) [(vI p3), (vI p4), (vI p5)] (vI 0) := V5
  refine own_end X5 hlk (v := some (vR b2)) (own_hv hret) (by decide) (by rw [e5]; exact ⟨b2, k2, rfl, N5, K5, (Nat.le_trans (Keep.refl h0 []).1 g2), V5'⟩) fun fs hr => ?_
  show St p e below s₁ (mkF m 0 #[sR a1, sI 1, sI 4, sU, sU] []) _
  refine wil X0 hx hby rfl d28_0 rfl ?_
  refine wil X0 hx hby rfl d28_1 rfl ?_
  refine st1 _ ?_
  refine wil X1 hx hby rfl d28_5 rfl ?_
  refine wil X1 hx hby rfl d28_6 rfl ?_
  refine Own.isub X1.here hx rfl (hb hby d28_7) rfl (by decide : ((4 : Int32) - (1 : Int32)) = (3 : Int32)) ?_
  refine wis X1 hx hby rfl d28_8 rfl (l' := #[sR a1, sI 1, sI 4, sI 3, sU]) rfl ?_
  refine wil X1 hx hby rfl d28_9 rfl ?_
  refine st2 _ ?_
  refine waS X2 hx hby rfl d28_12 rfl rfl (l' := #[sR a1, sI 1, sI 4, sI 3, sR b2]) rfl ?_
  refine wal X2 hx hby rfl d28_14 rfl rfl ?_
  refine wil X2 hx hby rfl d28_15 rfl ?_
  refine waL X2 hx hby rfl d28_16 rfl rfl ?_
  refine wic X2 hx hby rfl d28_18 ?_
  refine wal X2 hx hby rfl d28_19 rfl rfl ?_
  refine own_alen X2 hx hZ e2 f3 (g := (mkF m 20 #[sR a1, sI 1, sI 4, sI 3, sR b2] [(vR a1), (vI 0), (vR b2), (vI 1), (vR a1)])) rfl rfl (hb hby d28_20) ?_
  show St p e below T2 (mkF m 21 #[sR a1, sI 1, sI 4, sI 3, sR b2] [(vI 4), (vI 0), (vR b2), (vI 1), (vR a1)]) _
  refine wil X2 hx hby rfl d28_21 rfl ?_
  refine Own.isub X2.here hx rfl (hb hby d28_22) rfl (by decide : ((4 : Int32) - (1 : Int32)) = (3 : Int32)) ?_
  refine wil X2 hx hby rfl d28_23 rfl ?_
  refine st4 _ ?_
  refine st5 _ ?_
  refine waL X5 hx hby rfl d28_30 rfl rfl ?_
  exact retOut X5 hx hret rfl (Or.inr (Or.inr (Or.inr (Or.inr ⟨rfl, rfl, rfl⟩)))) (hb hby d28_32) hr
def Qrm158 (Z : State) (p3 : Int32) (p4 : Int32) (p5 : Int32) (h0 : Heap) (n0 : Nat) (v : Option Value) (h : Heap) (L : List Loc) : Prop := ∃ x0 : Addr, ∃ xk0 : ClassId, v = some (vR x0) ∧ Fr n0 L ∧ Keep h0 h [] ∧ h0.size ≤ x0 ∧ Arv Z h x0 xk0 .byte (3 : Int32) [(vI p3), (vI p4), (vI p5)] (vI 0)
theorem rm158 (cx : Cx Z a0 w0 w1) (a1 : Addr) (p2 : Int32) (p3 : Int32) (p4 : Int32) (p5 : Int32) (ck6 : ClassId) (O0 : Old Z n0 h0) (PV1 : Arv Z h0 a1 ck6 .byte (4 : Int32) [(vI p2), (vI p3), (vI p4), (vI p5)] (vI 0)) : Ct l Z ⟨z7, z15, "([BII)[B"⟩ jdk_65_method_132_code 3 (some (.array .byte)) ⟨2, 1, 3, 34⟩ #[(vR a1), (vI 1), (vI 4)] h0 (Qrm158 Z p3 p4 p5 h0 n0) := by
  obtain ⟨hw, hj, hS⟩ := id cx
  refine own_bd (plainFor_of_name pn495) (fun m => ef189 m a1 1 4) fun p e s m below meth c s₁ hret hlk hZ hx hby hml hown hnm X0 e0 => ?_
  have N0 := Fr.nil n0
  obtain ⟨_, T1, L1, ⟨c1_0, k1_1, rfl, N1q, Kq1, lo1_0, q1_0⟩, X1, st1⟩ := cS X0 hx hZ (W := 0) hown (cw27 cx) (rm157 cx a1 p2 p3 p4 p5 ck6 O0 PV1) e0 (g := (mkF m 13 #[sR a1, sI 1, sI 4] [(vI 4), (vI 1), (vR a1)])) rfl hml rfl (rest := []) rfl rfl rfl rfl (hb hby d27_13) (by decide)
  have N1 := Fr.app N0 N1q
  have O1 : Old Z n0 T1.heap := O0.keep Kq1 all0
  have K1 : Keep h0 T1.heap [] := (Keep.refl h0 []).trans Kq1 all0
  refine own_end X1 hlk (v := some (vR c1_0)) (own_hv hret) (by decide) ⟨c1_0, k1_1, rfl, N1, K1, (Nat.le_trans (Keep.refl h0 []).1 lo1_0), q1_0⟩ fun fs hr => ?_
  show St p e below s₁ (mkF m 0 #[sR a1, sI 1, sI 4] []) _
  refine wil X0 hx hby rfl d27_0 rfl ?_
  refine wfy X0 hx hby rfl (pc0 := 1) (pc' := 10) rfl d27_1 rfl ((if0 _ _).trans (feq (by decide : ¬ ((1 : Int32) = (0 : Int32)))).2) (by decide) (by decide) ?_
  refine wal X0 hx hby rfl d27_10 rfl rfl ?_
  refine wil X0 hx hby rfl d27_11 rfl ?_
  refine wil X0 hx hby rfl d27_12 rfl ?_
  refine st1 _ ?_
  exact retOut X1 hx hret rfl (Or.inr (Or.inr (Or.inr (Or.inr ⟨rfl, rfl, rfl⟩)))) (hb hby d27_16) hr
def Qrm159 (Z : State) (p3 : Int32) (p4 : Int32) (p5 : Int32) (h0 : Heap) (n0 : Nat) (v : Option Value) (h : Heap) (L : List Loc) : Prop := ∃ x0 : Addr, ∃ x1 : Addr, ∃ xk0 : ClassId, v = some (vR x0) ∧ Fr n0 L ∧ Keep h0 h [] ∧ h0.size ≤ x0 ∧ x0 < x1 ∧ Exa Z h x0 z0 ∧ Fld Z h x0 z0 "value" "[B" (vR x1) ∧ Fld Z h x0 z0 "coder" "B" (vI 0) ∧ Arv Z h x1 xk0 .byte (3 : Int32) [(vI p3), (vI p4), (vI p5)] (vI 0)
theorem rm159 (cx : Cx Z a0 w0 w1) (a1 : Addr) (p2 : Int32) (p3 : Int32) (p4 : Int32) (p5 : Int32) (ck6 : ClassId) (O0 : Old Z n0 h0) (PV1 : Arv Z h0 a1 ck6 .byte (4 : Int32) [(vI p2), (vI p3), (vI p4), (vI p5)] (vI 0)) : Ct l Z ⟨z2, "newString", z11⟩ jdk_43_method_47_code 3 (some (.object z0)) ⟨3, 2, 7, 50⟩ #[(vR a1), (vI 1), (vI 3)] h0 (Qrm159 Z p3 p4 p5 h0 n0) := by
  obtain ⟨hw, hj, hS⟩ := id cx
  refine own_bd (plainFor_of_name pn154) (fun m => ef189 m a1 1 3) fun p e s m below meth c s₁ hret hlk hZ hx hby hml hown hnm X0 e0 => ?_
  have N0 := Fr.nil n0
  obtain ⟨T1, h1, b1, X1, e1, E1, A1, D1, g1, O1, K1, st1⟩ := own_newO X0 hx hZ hown (hw _ m118) (hw _ m10) (hw _ m11) e0 O0 (Keep.refl h0 []) (g := (mkF m 7 #[sR a1, sI 1, sI 3] [])) rfl (hb hby d26_7) (by decide) (by decide)
  have F1_1 : Fld Z h1 b1 z0 "value" "[B" .null := D1 (Or.inr (hw _ m24)) (ty := (.array .byte)) (by decide)
  have F1_2 : Fld Z h1 b1 z0 "coder" "B" (vI 0) := D1 (Or.inr (hw _ m25)) (ty := .byte) (by decide)
  have f3 : Arv Z h1 a1 ck6 .byte (4 : Int32) [(vI p2), (vI p3), (vI p4), (vI p5)] (vI 0) := (PV1.ext E1)
  obtain ⟨_, T2, L2, ⟨c2_0, k2_1, rfl, N2q, Kq2, lo2_0, q2_0⟩, X2, st2⟩ := cS X1 hx hZ (W := 2) hown (cw28 cx) (rm158 cx a1 p2 p3 p4 p5 ck6 O1 f3) e1 (g := (mkF m 16 #[sR a1, sI 1, sI 3] [(vI 4), (vI 1), (vR a1), (vR b1), (vR b1)])) rfl hml rfl (rest := [(vR b1), (vR b1)]) rfl rfl rfl rfl (hb hby d26_16) (by decide)
  have N2 := Fr.app N0 N2q
  have O2 : Old Z n0 T2.heap := O1.keep Kq2 all0
  have K2 : Keep h0 T2.heap [] := K1.trans Kq2 all0
  have f5 : Exa Z T2.heap b1 z0 := (A1.keep Kq2)
  have f6 : Fld Z T2.heap b1 z0 "value" "[B" .null := (F1_1.keep Kq2 nin0)
  have f7 : Fld Z T2.heap b1 z0 "coder" "B" (vI 0) := (F1_2.keep Kq2 nin0)
  obtain ⟨_, T4, L4, ⟨rfl, N4q, Kq4, q4_0, q4_1⟩, X4, st4⟩ := cI X2 hx hZ (W := 1) hown (cw29 cx) (rm63 cx b1 c2_0 O2 f5 f6 f7 (Nat.le_trans (own_old_le O0) g1)) (rfl : T2.heap = T2.heap) (g := (mkF m 20 #[sR a1, sI 1, sI 3] [(vI 0), (vR c2_0), (vR b1), (vR b1)])) rfl hml rfl (rest := [(vR b1)]) rfl rfl rfl rfl (hb hby d26_20) (by decide)
  have N4 := Fr.app N2 N4q
  have O4 : Old Z n0 T4.heap := O2.keep Kq4 (allS (Nat.le_trans (own_old_le O0) g1) all0)
  have K4 : Keep h0 T4.heap [] := K2.trans Kq4 (allS (Or.inr (Nat.le_trans (Keep.refl h0 []).1 g1)) all0)
  have f8 : Exa Z T4.heap b1 z0 := (f5.keep Kq4)
  have f9 : Arv Z T4.heap c2_0 k2_1 .byte (3 : Int32) [(vI p3), (vI p4), (vI p5)] (vI 0) := (q2_0.keep Kq4 (ninS (Ne.symm (Nat.ne_of_lt (Nat.lt_of_lt_of_le A1.lt lo2_0))) nin0))
  refine own_end X4 hlk (v := some (vR b1)) (own_hv hret) (by decide) ⟨b1, c2_0, k2_1, rfl, N4, K4, (Nat.le_trans (Keep.refl h0 []).1 g1), (Nat.lt_of_lt_of_le A1.lt lo2_0), f8, q4_0, q4_1, f9⟩ fun fs hr => ?_
  show St p e below s₁ (mkF m 0 #[sR a1, sI 1, sI 3] []) _
  refine wil X0 hx hby rfl d26_0 rfl ?_
  refine wfy X0 hx hby rfl (pc0 := 1) (pc' := 7) rfl d26_1 rfl ((if0 _ _).trans (feq (by decide : ¬ ((3 : Int32) = (0 : Int32)))).2) (by decide) (by decide) ?_
  refine st1 _ ?_
  refine wdu X1 hx hby rfl d26_10 rfl rfl ?_
  refine wal X1 hx hby rfl d26_11 rfl rfl ?_
  refine wil X1 hx hby rfl d26_12 rfl ?_
  refine wil X1 hx hby rfl d26_13 rfl ?_
  refine wil X1 hx hby rfl d26_14 rfl ?_
  refine Own.iadd X1.here hx rfl (hb hby d26_15) rfl (by decide : ((1 : Int32) + (3 : Int32)) = (4 : Int32)) ?_
  refine st2 _ ?_
  refine wic X2 hx hby rfl d26_19 ?_
  refine st4 _ ?_
  exact retOut X4 hx hret rfl (Or.inr (Or.inr (Or.inr (Or.inr ⟨rfl, rfl, rfl⟩)))) (hb hby d26_23) hr
def Qrm160 (Z : State) (p3 : Int32) (p4 : Int32) (p5 : Int32) (h0 : Heap) (n0 : Nat) (v : Option Value) (h : Heap) (L : List Loc) : Prop := ∃ x0 : Addr, ∃ x1 : Addr, ∃ xk0 : ClassId, v = some (vR x0) ∧ Fr n0 L ∧ Keep h0 h [] ∧ h0.size ≤ x0 ∧ x0 < x1 ∧ Exa Z h x0 z0 ∧ Fld Z h x0 z0 "value" "[B" (vR x1) ∧ Fld Z h x0 z0 "coder" "B" (vI 0) ∧ Arv Z h x1 xk0 .byte (3 : Int32) [(vI p3), (vI p4), (vI p5)] (vI 0)
theorem rm160 (cx : Cx Z a0 w0 w1) (a1 : Addr) (p2 : Int32) (p3 : Int32) (p4 : Int32) (p5 : Int32) (a6 : Addr) (ck7 : ClassId) (O0 : Old Z n0 h0) (PF1 : Fld Z h0 a1 z0 "value" "[B" (vR a6)) (PV2 : Arv Z h0 a6 ck7 .byte (4 : Int32) [(vI p2), (vI p3), (vI p4), (vI p5)] (vI 0)) (PF3 : Fld Z h0 a1 z0 "coder" "B" (vI 0)) (PE4 : Exa Z h0 a1 z0) : Ct l Z ⟨z0, "substring", z8⟩ jdk_42_method_92_code 5 (some (.object z0)) ⟨4, 2, 7, 64⟩ #[(vR a1), (vI 1), (vI 4)] h0 (Qrm160 Z p3 p4 p5 h0 n0) := by
  obtain ⟨hw, hj, hS⟩ := id cx
  refine own_bd (plainFor_of_name pn63) (fun m => ef255 m a1 1 4) fun p e s m below meth c s₁ hret hlk hZ hx hby hml hown hnm X0 e0 => ?_
  have N0 := Fr.nil n0
  obtain ⟨_, T1, L1, ⟨rfl, N1q, e1⟩, X1, st1⟩ := cV X0 hx hZ (W := 0) hown (cw4 cx) (rm128 cx a1 a6 p2 p3 p4 p5 ck7 O0 PF1 PV2 PF3 PE4) e0 PE4 (g := (mkF m 1 #[sR a1, sI 1, sI 4, sU, sU] [(vR a1)])) rfl hml rfl (rest := []) rfl rfl rfl rfl (hb hby d16_1) (by decide)
  obtain ⟨_, T2, L2, ⟨rfl, N2q, e2⟩, X2, st2⟩ := cS X1 hx hZ (W := 0) hown (cw12 cx) (rm35 cx 1 4 O0 (by decide : ¬ ((1 : Int32) < (0 : Int32))) (by decide : ¬ ((4 : Int32) < (1 : Int32)))) e1 (g := (mkF m 8 #[sR a1, sI 1, sI 4, sI 4, sU] [(vI 4), (vI 4), (vI 1)])) rfl hml rfl (rest := []) rfl rfl rfl rfl (hb hby d16_8) (by decide)
  obtain ⟨_, T3, L3, ⟨rfl, N3q, e3⟩, X3, st3⟩ := cV X2 hx hZ (W := 0) hown (cw5 cx) (rm6 cx a1 O0 PF3) e2 PE4 (g := (mkF m 28 #[sR a1, sI 1, sI 4, sI 4, sI 3] [(vR a1)])) rfl hml rfl (rest := []) rfl rfl rfl rfl (hb hby d16_28) (by decide)
  obtain ⟨T4, X4, e4, st4⟩ := getF X3 hx hZ hown (host := "") (Or.inl (hw _ m28)) Via.refl e3 PF1 (g := (mkF m 35 #[sR a1, sI 1, sI 4, sI 4, sI 3] [(vR a1)])) rfl rfl (hb hby d16_35)
  obtain ⟨_, T5, L5, ⟨c5_0, c5_1, k5_2, rfl, N5q, Kq5, lo5_0, lo5_1, q5_0, q5_1, q5_2, q5_3⟩, X5, st5⟩ := cS X4 hx hZ (W := 0) hown (cw20 cx) (rm159 cx a6 p2 p3 p4 p5 ck7 O0 PV2) e4 (g := (mkF m 41 #[sR a1, sI 1, sI 4, sI 4, sI 3] [(vI 3), (vI 1), (vR a6)])) rfl hml rfl (rest := []) rfl rfl rfl rfl (hb hby d16_41) (by decide)
  have N5 := Fr.app (Fr.app (Fr.app (Fr.app N0 N1q) N2q) N3q) N5q
  have O5 : Old Z n0 T5.heap := O0.keep Kq5 all0
  have K5 : Keep h0 T5.heap [] := (Keep.refl h0 []).trans Kq5 all0
  refine own_end X5 hlk (v := some (vR c5_0)) (own_hv hret) (by decide) ⟨c5_0, c5_1, k5_2, rfl, N5, K5, (Nat.le_trans (Keep.refl h0 []).1 lo5_0), lo5_1, q5_0, q5_1, q5_2, q5_3⟩ fun fs hr => ?_
  show St p e below s₁ (mkF m 0 #[sR a1, sI 1, sI 4, sU, sU] []) _
  refine wal X0 hx hby rfl d16_0 rfl rfl ?_
  refine st1 _ ?_
  refine wis X1 hx hby rfl d16_4 rfl (l' := #[sR a1, sI 1, sI 4, sI 4, sU]) rfl ?_
  refine wil X1 hx hby rfl d16_5 rfl ?_
  refine wil X1 hx hby rfl d16_6 rfl ?_
  refine wil X1 hx hby rfl d16_7 rfl ?_
  refine st2 _ ?_
  refine wil X2 hx hby rfl d16_11 rfl ?_
  refine wfy X2 hx hby rfl (pc0 := 12) (pc' := 22) rfl d16_12 rfl ((if0 _ _).trans (feq (by decide : ¬ ((1 : Int32) = (0 : Int32)))).2) (by decide) (by decide) ?_
  refine wil X2 hx hby rfl d16_22 rfl ?_
  refine wil X2 hx hby rfl d16_23 rfl ?_
  refine Own.isub X2.here hx rfl (hb hby d16_24) rfl (by decide : ((4 : Int32) - (1 : Int32)) = (3 : Int32)) ?_
  refine wiS X2 hx hby rfl d16_25 rfl (l' := #[sR a1, sI 1, sI 4, sI 4, sI 3]) rfl ?_
  refine wal X2 hx hby rfl d16_27 rfl rfl ?_
  refine st3 _ ?_
  refine wfn X3 hx hby rfl d16_31 rfl ((if0 _ _).trans (feq (by decide : ¬ ((1 : Int32) = (0 : Int32)))).1) ?_
  show St p e below T3 (mkF m 34 #[sR a1, sI 1, sI 4, sI 4, sI 3] []) _
  refine wal X3 hx hby rfl d16_34 rfl rfl ?_
  refine st4 _ ?_
  refine wil X4 hx hby rfl d16_38 rfl ?_
  refine wiL X4 hx hby rfl d16_39 rfl ?_
  refine st5 _ ?_
  refine wgt X5 hx hby rfl (pc0 := 44) (pc' := 57) rfl d16_44 (by decide) (by decide) ?_
  exact retOut X5 hx hret rfl (Or.inr (Or.inr (Or.inr (Or.inr ⟨rfl, rfl, rfl⟩)))) (hb hby d16_57) hr
def Qrm161 (Z : State) (p3 : Int32) (p4 : Int32) (p5 : Int32) (h0 : Heap) (n0 : Nat) (v : Option Value) (h : Heap) (L : List Loc) : Prop := ∃ x0 : Addr, ∃ x1 : Addr, ∃ xk0 : ClassId, v = some (vR x0) ∧ Fr n0 L ∧ Keep h0 h [] ∧ h0.size ≤ x0 ∧ x0 < x1 ∧ Exa Z h x0 z0 ∧ Fld Z h x0 z0 "value" "[B" (vR x1) ∧ Fld Z h x0 z0 "coder" "B" (vI 0) ∧ Arv Z h x1 xk0 .byte (3 : Int32) [(vI p3), (vI p4), (vI p5)] (vI 0)
theorem rm161 (cx : Cx Z a0 w0 w1) (a1 : Addr) (p2 : Int32) (p3 : Int32) (p4 : Int32) (p5 : Int32) (a6 : Addr) (ck7 : ClassId) (O0 : Old Z n0 h0) (PF1 : Fld Z h0 a1 z0 "value" "[B" (vR a6)) (PV2 : Arv Z h0 a6 ck7 .byte (4 : Int32) [(vI p2), (vI p3), (vI p4), (vI p5)] (vI 0)) (PF3 : Fld Z h0 a1 z0 "coder" "B" (vI 0)) (PE4 : Exa Z h0 a1 z0) : Ct l Z ⟨z0, "substring", z9⟩ jdk_42_method_91_code 2 (some (.object z0)) ⟨5, 2, 7, 80⟩ #[(vR a1), (vI 1)] h0 (Qrm161 Z p3 p4 p5 h0 n0) := by
  obtain ⟨hw, hj, hS⟩ := id cx
  refine own_bd (plainFor_of_name pn63) (fun m => ef194 m a1 1) fun p e s m below meth c s₁ hret hlk hZ hx hby hml hown hnm X0 e0 => ?_
  have N0 := Fr.nil n0
  obtain ⟨_, T1, L1, ⟨rfl, N1q, e1⟩, X1, st1⟩ := cV X0 hx hZ (W := 2) hown (cw4 cx) (rm128 cx a1 a6 p2 p3 p4 p5 ck7 O0 PF1 PV2 PF3 PE4) e0 PE4 (g := (mkF m 3 #[sR a1, sI 1] [(vR a1), (vI 1), (vR a1)])) rfl hml rfl (rest := [(vI 1), (vR a1)]) rfl rfl rfl rfl (hb hby d15_3) (by decide)
  obtain ⟨_, T2, L2, ⟨c2_0, c2_1, k2_2, rfl, N2q, Kq2, lo2_0, lo2_1, q2_0, q2_1, q2_2, q2_3⟩, X2, st2⟩ := cV X1 hx hZ (W := 0) hown (cw13 cx) (rm160 cx a1 p2 p3 p4 p5 a6 ck7 O0 PF1 PV2 PF3 PE4) e1 PE4 (g := (mkF m 6 #[sR a1, sI 1] [(vI 4), (vI 1), (vR a1)])) rfl hml rfl (rest := []) rfl rfl rfl rfl (hb hby d15_6) (by decide)
  have N2 := Fr.app (Fr.app N0 N1q) N2q
  have O2 : Old Z n0 T2.heap := O0.keep Kq2 all0
  have K2 : Keep h0 T2.heap [] := (Keep.refl h0 []).trans Kq2 all0
  refine own_end X2 hlk (v := some (vR c2_0)) (own_hv hret) (by decide) ⟨c2_0, c2_1, k2_2, rfl, N2, K2, (Nat.le_trans (Keep.refl h0 []).1 lo2_0), lo2_1, q2_0, q2_1, q2_2, q2_3⟩ fun fs hr => ?_
  show St p e below s₁ (mkF m 0 #[sR a1, sI 1] []) _
  refine wal X0 hx hby rfl d15_0 rfl rfl ?_
  refine wil X0 hx hby rfl d15_1 rfl ?_
  refine wal X0 hx hby rfl d15_2 rfl rfl ?_
  refine st1 _ ?_
  refine st2 _ ?_
  exact retOut X2 hx hret rfl (Or.inr (Or.inr (Or.inr (Or.inr ⟨rfl, rfl, rfl⟩)))) (hb hby d15_9) hr
def Qrm162 (Z : State) (p3 : Int32) (p4 : Int32) (p5 : Int32) (h0 : Heap) (n0 : Nat) (v : Option Value) (h : Heap) (L : List Loc) : Prop := ∃ x0 : Addr, ∃ x1 : Addr, ∃ xk0 : ClassId, v = some (vR x0) ∧ Fr n0 L ∧ Keep h0 h [] ∧ h0.size ≤ x0 ∧ x0 < x1 ∧ Exa Z h x0 z0 ∧ Fld Z h x0 z0 "value" "[B" (vR x1) ∧ Fld Z h x0 z0 "coder" "B" (vI 0) ∧ Arv Z h x1 xk0 .byte (3 : Int32) [(vI p3), (vI p4), (vI p5)] (vI 0)
theorem rm162 (cx : Cx Z a0 w0 w1) (a1 : Addr) (p2 : Int32) (p3 : Int32) (p4 : Int32) (p5 : Int32) (a6 : Addr) (ck7 : ClassId) (O0 : Old Z n0 h0) (PF1 : Fld Z h0 a1 z0 "value" "[B" (vR a6)) (PV2 : Arv Z h0 a6 ck7 .byte (4 : Int32) [(vI p2), (vI p3), (vI p4), (vI p5)] (vI 0)) (PF3 : Fld Z h0 a1 z0 "coder" "B" (vI 0)) (PE4 : Exa Z h0 a1 z0) (hc5 : ¬ (p5 = (58 : Int32))) (hc6 : ¬ (p4 = (58 : Int32))) (hc7 : ¬ (p3 = (58 : Int32))) (hc8 : p2 = (58 : Int32)) : Ct l Z ⟨z3, "localPart", z5⟩ prog_13_method_17_code 1 (some (.object z0)) ⟨6, 2, 7, 93⟩ #[(vR a1)] h0 (Qrm162 Z p3 p4 p5 h0 n0) := by
  obtain ⟨hw, hj, hS⟩ := id cx
  refine own_bd (plainFor_of_name pn266) (fun m => ef104 m a1) fun p e s m below meth c s₁ hret hlk hZ hx hby hml hown hnm X0 e0 => ?_
  have N0 := Fr.nil n0
  obtain ⟨_, T1, L1, ⟨rfl, N1q, e1⟩, X1, st1⟩ := cV X0 hx hZ (W := 1) hown (cw10 cx) (rm156 cx a1 p2 p3 p4 p5 a6 ck7 O0 PF1 PV2 PF3 PE4 hc5 hc6 hc7 hc8) e0 PE4 (g := (mkF m 4 #[sR a1] [(vI 58), (vR a1), (vR a1)])) rfl hml rfl (rest := [(vR a1)]) rfl rfl rfl rfl (hb hby d6_4) (by decide)
  obtain ⟨_, T2, L2, ⟨c2_0, c2_1, k2_2, rfl, N2q, Kq2, lo2_0, lo2_1, q2_0, q2_1, q2_2, q2_3⟩, X2, st2⟩ := cV X1 hx hZ (W := 0) hown (cw14 cx) (rm161 cx a1 p2 p3 p4 p5 a6 ck7 O0 PF1 PV2 PF3 PE4) e1 PE4 (g := (mkF m 9 #[sR a1] [(vI 1), (vR a1)])) rfl hml rfl (rest := []) rfl rfl rfl rfl (hb hby d6_9) (by decide)
  have N2 := Fr.app (Fr.app N0 N1q) N2q
  have O2 : Old Z n0 T2.heap := O0.keep Kq2 all0
  have K2 : Keep h0 T2.heap [] := (Keep.refl h0 []).trans Kq2 all0
  refine own_end X2 hlk (v := some (vR c2_0)) (own_hv hret) (by decide) ⟨c2_0, c2_1, k2_2, rfl, N2, K2, (Nat.le_trans (Keep.refl h0 []).1 lo2_0), lo2_1, q2_0, q2_1, q2_2, q2_3⟩ fun fs hr => ?_
  show St p e below s₁ (mkF m 0 #[sR a1] []) _
  refine wal X0 hx hby rfl d6_0 rfl rfl ?_
  refine wal X0 hx hby rfl d6_1 rfl rfl ?_
  refine wbp X0 hx hby rfl d6_2 ?_
  refine st1 _ ?_
  refine wic X1 hx hby rfl d6_7 ?_
  refine Own.iadd X1.here hx rfl (hb hby d6_8) rfl (by decide : ((0 : Int32) + (1 : Int32)) = (1 : Int32)) ?_
  refine st2 _ ?_
  exact retOut X2 hx hret rfl (Or.inr (Or.inr (Or.inr (Or.inr ⟨rfl, rfl, rfl⟩)))) (hb hby d6_12) hr
def Qrm163 (Z : State) (h0 : Heap) (n0 : Nat) (v : Option Value) (h : Heap) (L : List Loc) : Prop := v = some (vI (-1)) ∧ Fr n0 L ∧ h = h0
theorem rm163 (cx : Cx Z a0 w0 w1) (a1 : Addr) (p2 : Int32) (p3 : Int32) (p4 : Int32) (p5 : Int32) (ck6 : ClassId) (O0 : Old Z n0 h0) (PV1 : Arv Z h0 a1 ck6 .byte (4 : Int32) [(vI p2), (vI p3), (vI p4), (vI p5)] (vI 0)) (hc2 : ¬ (p5 = (58 : Int32))) (hc3 : ¬ (p4 = (58 : Int32))) (hc4 : ¬ (p3 = (58 : Int32))) (hc5 : ¬ (p2 = (58 : Int32))) : Ct l Z ⟨z2, z4, "([BII)I"⟩ jdk_43_method_27_code 4 (some .int) ⟨1, 0, 0, 13⟩ #[(vR a1), (vI 58), (vI 3)] h0 (Qrm163 Z h0 n0) := by
  obtain ⟨hw, hj, hS⟩ := id cx
  refine own_bd (plainFor_of_name pn154) (fun m => ef183 m a1 58 3) fun p e s m below meth c s₁ hret hlk hZ hx hby hml hown hnm X0 e0 => ?_
  have N0 := Fr.nil n0
  obtain ⟨_, T1, L1, ⟨rfl, N1q, e1⟩, X1, st1⟩ := cS X0 hx hZ (W := 0) hown (cw6 cx) (rm7 cx 58 O0 (by decide : ¬ ((58 : Int32) < (0 : Int32))) (by decide : ¬ ((255 : Int32) < (58 : Int32)))) e0 (g := (mkF m 1 #[sR a1, sI 58, sI 3, sU] [(vI 58)])) rfl hml rfl (rest := []) rfl rfl rfl rfl (hb hby d12_1) (by decide)
  obtain ⟨_, T2, L2, ⟨rfl, N2q, e2⟩, X2, st2⟩ := cS X1 hx hZ (W := 0) hown (cw7 cx) (rm8 cx 3 O0) e1 (g := (mkF m 14 #[sR a1, sI 58, sI 3, sU] [(vI 3), (vI 3)])) rfl hml rfl (rest := []) rfl rfl rfl rfl (hb hby d12_14) (by decide)
  refine own_end X2 hlk (v := some (vI (-1))) (own_hv hret) (by decide) (by rw [e2]; exact ⟨rfl, (Fr.app (Fr.app N0 N1q) N2q), rfl⟩) fun fs hr => ?_
  show St p e below s₁ (mkF m 0 #[sR a1, sI 58, sI 3, sU] []) _
  refine wil X0 hx hby rfl d12_0 rfl ?_
  refine st1 _ ?_
  refine wfy X1 hx hby rfl (pc0 := 4) (pc' := 9) rfl d12_4 rfl ((if0 _ _).trans (feq (by decide : ¬ ((1 : Int32) = (0 : Int32)))).2) (by decide) (by decide) ?_
  refine wil X1 hx hby rfl d12_9 rfl ?_
  refine wal X1 hx hby rfl d12_10 rfl rfl ?_
  refine own_alen X1 hx hZ e1 PV1 (g := (mkF m 11 #[sR a1, sI 58, sI 3, sU] [(vR a1), (vI 3)])) rfl rfl (hb hby d12_11) ?_
  refine wic X1 hx hby rfl d12_12 ?_
  refine Own.isub X1.here hx rfl (hb hby d12_13) rfl (by decide : ((4 : Int32) - (1 : Int32)) = (3 : Int32)) ?_
  refine st2 _ ?_
  refine wis X2 hx hby rfl d12_17 rfl (l' := #[sR a1, sI 58, sI 3, sI 3]) rfl ?_
  refine wil X2 hx hby rfl d12_18 rfl ?_
  refine wfn X2 hx hby rfl d12_19 rfl ((if0 _ _).trans (flt (by decide : ¬ ((3 : Int32) < (0 : Int32)))).1) ?_
  refine wal X2 hx hby rfl d12_22 rfl rfl ?_
  refine wil X2 hx hby rfl d12_23 rfl ?_
  refine own_baloadB X2 hx hZ e2 PV1 (j := 3) (by decide) (v := (vI p5)) rfl (g := (mkF m 24 #[sR a1, sI 58, sI 3, sI 3] [(vI 3), (vR a1)])) rfl rfl (hb hby d12_24) ?_
  refine wil X2 hx hby rfl d12_25 rfl ?_
  show St p e below T2 (mkF m 26 #[sR a1, sI 58, sI 3, sI 3] [(vI 58), (vI p5)]) _
  refine Own.i2b X2.here hx rfl (hb hby d12_26) rfl (by decide : ((58 : Int32).toInt8.toInt32) = (58 : Int32)) ?_
  refine wcy X2 hx hby rfl (pc0 := 27) (pc' := 32) rfl d12_27 rfl (feq hc2).2 (by decide) (by decide) ?_
  refine Own.iinc X2.here hx rfl (hb hby d12_32) rfl (by decide : ((3 : Int32) + (-1 : Int32)) = (2 : Int32)) (l' := #[sR a1, sI 58, sI 3, sI 2]) rfl ?_
  refine wgt X2 hx hby rfl (pc0 := 35) (pc' := 18) rfl d12_35 (by decide) (by decide) ?_
  refine wil X2 hx hby rfl d12_18 rfl ?_
  refine wfn X2 hx hby rfl d12_19 rfl ((if0 _ _).trans (flt (by decide : ¬ ((2 : Int32) < (0 : Int32)))).1) ?_
  refine wal X2 hx hby rfl d12_22 rfl rfl ?_
  refine wil X2 hx hby rfl d12_23 rfl ?_
  refine own_baloadB X2 hx hZ e2 PV1 (j := 2) (by decide) (v := (vI p4)) rfl (g := (mkF m 24 #[sR a1, sI 58, sI 3, sI 2] [(vI 2), (vR a1)])) rfl rfl (hb hby d12_24) ?_
  refine wil X2 hx hby rfl d12_25 rfl ?_
  refine Own.i2b X2.here hx rfl (hb hby d12_26) rfl (by decide : ((58 : Int32).toInt8.toInt32) = (58 : Int32)) ?_
  refine wcy X2 hx hby rfl (pc0 := 27) (pc' := 32) rfl d12_27 rfl (feq hc3).2 (by decide) (by decide) ?_
  refine Own.iinc X2.here hx rfl (hb hby d12_32) rfl (by decide : ((2 : Int32) + (-1 : Int32)) = (1 : Int32)) (l' := #[sR a1, sI 58, sI 3, sI 1]) rfl ?_
  refine wgt X2 hx hby rfl (pc0 := 35) (pc' := 18) rfl d12_35 (by decide) (by decide) ?_
  refine wil X2 hx hby rfl d12_18 rfl ?_
  refine wfn X2 hx hby rfl d12_19 rfl ((if0 _ _).trans (flt (by decide : ¬ ((1 : Int32) < (0 : Int32)))).1) ?_
  show St p e below T2 (mkF m 22 #[sR a1, sI 58, sI 3, sI 1] []) _
  refine wal X2 hx hby rfl d12_22 rfl rfl ?_
  refine wil X2 hx hby rfl d12_23 rfl ?_
  refine own_baloadB X2 hx hZ e2 PV1 (j := 1) (by decide) (v := (vI p3)) rfl (g := (mkF m 24 #[sR a1, sI 58, sI 3, sI 1] [(vI 1), (vR a1)])) rfl rfl (hb hby d12_24) ?_
  refine wil X2 hx hby rfl d12_25 rfl ?_
  refine Own.i2b X2.here hx rfl (hb hby d12_26) rfl (by decide : ((58 : Int32).toInt8.toInt32) = (58 : Int32)) ?_
  refine wcy X2 hx hby rfl (pc0 := 27) (pc' := 32) rfl d12_27 rfl (feq hc4).2 (by decide) (by decide) ?_
  refine Own.iinc X2.here hx rfl (hb hby d12_32) rfl (by decide : ((1 : Int32) + (-1 : Int32)) = (0 : Int32)) (l' := #[sR a1, sI 58, sI 3, sI 0]) rfl ?_
  refine wgt X2 hx hby rfl (pc0 := 35) (pc' := 18) rfl d12_35 (by decide) (by decide) ?_
  refine wil X2 hx hby rfl d12_18 rfl ?_
  refine wfn X2 hx hby rfl d12_19 rfl ((if0 _ _).trans (flt (by decide : ¬ ((0 : Int32) < (0 : Int32)))).1) ?_
  refine wal X2 hx hby rfl d12_22 rfl rfl ?_
  refine wil X2 hx hby rfl d12_23 rfl ?_
  refine own_baloadB X2 hx hZ e2 PV1 (j := 0) (by decide) (v := (vI p2)) rfl (g := (mkF m 24 #[sR a1, sI 58, sI 3, sI 0] [(vI 0), (vR a1)])) rfl rfl (hb hby d12_24) ?_
  refine wil X2 hx hby rfl d12_25 rfl ?_
  refine Own.i2b X2.here hx rfl (hb hby d12_26) rfl (by decide : ((58 : Int32).toInt8.toInt32) = (58 : Int32)) ?_
  refine wcy X2 hx hby rfl (pc0 := 27) (pc' := 32) rfl d12_27 rfl (feq hc5).2 (by decide) (by decide) ?_
  show St p e below T2 (mkF m 32 #[sR a1, sI 58, sI 3, sI 0] []) _
  refine Own.iinc X2.here hx rfl (hb hby d12_32) rfl (by decide : ((0 : Int32) + (-1 : Int32)) = (-1 : Int32)) (l' := #[sR a1, sI 58, sI 3, sI (-1)]) rfl ?_
  refine wgt X2 hx hby rfl (pc0 := 35) (pc' := 18) rfl d12_35 (by decide) (by decide) ?_
  refine wil X2 hx hby rfl d12_18 rfl ?_
  refine wfy X2 hx hby rfl (pc0 := 19) (pc' := 38) rfl d12_19 rfl ((if0 _ _).trans (tlt (by decide : (-1 : Int32) < (0 : Int32))).1) (by decide) (by decide) ?_
  refine wic X2 hx hby rfl d12_38 ?_
  exact retOut X2 hx hret rfl (Or.inl ⟨rfl, Or.inl rfl, _, rfl⟩) (hb hby d12_39) hr
def Qrm164 (Z : State) (h0 : Heap) (n0 : Nat) (v : Option Value) (h : Heap) (L : List Loc) : Prop := v = some (vI (-1)) ∧ Fr n0 L ∧ h = h0
theorem rm164 (cx : Cx Z a0 w0 w1) (a1 : Addr) (a2 : Addr) (p3 : Int32) (p4 : Int32) (p5 : Int32) (p6 : Int32) (ck7 : ClassId) (O0 : Old Z n0 h0) (PF1 : Fld Z h0 a1 z0 "coder" "B" (vI 0)) (PE2 : Exa Z h0 a1 z0) (PF3 : Fld Z h0 a1 z0 "value" "[B" (vR a2)) (PV4 : Arv Z h0 a2 ck7 .byte (4 : Int32) [(vI p3), (vI p4), (vI p5), (vI p6)] (vI 0)) (hc5 : ¬ (p6 = (58 : Int32))) (hc6 : ¬ (p5 = (58 : Int32))) (hc7 : ¬ (p4 = (58 : Int32))) (hc8 : ¬ (p3 = (58 : Int32))) : Ct l Z ⟨z0, z4, "(II)I"⟩ jdk_42_method_83_code 3 (some .int) ⟨2, 0, 0, 28⟩ #[(vR a1), (vI 58), (vI 3)] h0 (Qrm164 Z h0 n0) := by
  obtain ⟨hw, hj, hS⟩ := id cx
  refine own_bd (plainFor_of_name pn63) (fun m => ef189 m a1 58 3) fun p e s m below meth c s₁ hret hlk hZ hx hby hml hown hnm X0 e0 => ?_
  have N0 := Fr.nil n0
  obtain ⟨_, T1, L1, ⟨rfl, N1q, e1⟩, X1, st1⟩ := cV X0 hx hZ (W := 0) hown (cw5 cx) (rm6 cx a1 O0 PF1) e0 PE2 (g := (mkF m 1 #[sR a1, sI 58, sI 3] [(vR a1)])) rfl hml rfl (rest := []) rfl rfl rfl rfl (hb hby d10_1) (by decide)
  obtain ⟨T2, X2, e2, st2⟩ := getF X1 hx hZ hown (host := "") (Or.inl (hw _ m28)) Via.refl e1 PF3 (g := (mkF m 8 #[sR a1, sI 58, sI 3] [(vR a1)])) rfl rfl (hb hby d10_8)
  obtain ⟨_, T3, L3, ⟨rfl, N3q, e3⟩, X3, st3⟩ := cS X2 hx hZ (W := 0) hown (cw8 cx) (rm163 cx a2 p3 p4 p5 p6 ck7 O0 PV4 hc5 hc6 hc7 hc8) e2 (g := (mkF m 13 #[sR a1, sI 58, sI 3] [(vI 3), (vI 58), (vR a2)])) rfl hml rfl (rest := []) rfl rfl rfl rfl (hb hby d10_13) (by decide)
  refine own_end X3 hlk (v := some (vI (-1))) (own_hv hret) (by decide) (by rw [e3]; exact ⟨rfl, (Fr.app (Fr.app N0 N1q) N3q), rfl⟩) fun fs hr => ?_
  show St p e below s₁ (mkF m 0 #[sR a1, sI 58, sI 3] []) _
  refine wal X0 hx hby rfl d10_0 rfl rfl ?_
  refine st1 _ ?_
  refine wfn X1 hx hby rfl d10_4 rfl ((if0 _ _).trans (feq (by decide : ¬ ((1 : Int32) = (0 : Int32)))).1) ?_
  refine wal X1 hx hby rfl d10_7 rfl rfl ?_
  refine st2 _ ?_
  refine wil X2 hx hby rfl d10_11 rfl ?_
  refine wil X2 hx hby rfl d10_12 rfl ?_
  refine st3 _ ?_
  refine wgt X3 hx hby rfl (pc0 := 16) (pc' := 28) rfl d10_16 (by decide) (by decide) ?_
  exact retOut X3 hx hret rfl (Or.inl ⟨rfl, Or.inl rfl, _, rfl⟩) (hb hby d10_28) hr
def Qrm165 (Z : State) (h0 : Heap) (n0 : Nat) (v : Option Value) (h : Heap) (L : List Loc) : Prop := v = some (vI (-1)) ∧ Fr n0 L ∧ h = h0
theorem rm165 (cx : Cx Z a0 w0 w1) (a1 : Addr) (p2 : Int32) (p3 : Int32) (p4 : Int32) (p5 : Int32) (a6 : Addr) (ck7 : ClassId) (O0 : Old Z n0 h0) (PF1 : Fld Z h0 a1 z0 "value" "[B" (vR a6)) (PV2 : Arv Z h0 a6 ck7 .byte (4 : Int32) [(vI p2), (vI p3), (vI p4), (vI p5)] (vI 0)) (PF3 : Fld Z h0 a1 z0 "coder" "B" (vI 0)) (PE4 : Exa Z h0 a1 z0) (hc5 : ¬ (p5 = (58 : Int32))) (hc6 : ¬ (p4 = (58 : Int32))) (hc7 : ¬ (p3 = (58 : Int32))) (hc8 : ¬ (p2 = (58 : Int32))) : Ct l Z ⟨z0, z4, "(I)I"⟩ jdk_42_method_82_code 2 (some .int) ⟨3, 0, 0, 42⟩ #[(vR a1), (vI 58)] h0 (Qrm165 Z h0 n0) := by
  obtain ⟨hw, hj, hS⟩ := id cx
  refine own_bd (plainFor_of_name pn63) (fun m => ef194 m a1 58) fun p e s m below meth c s₁ hret hlk hZ hx hby hml hown hnm X0 e0 => ?_
  have N0 := Fr.nil n0
  obtain ⟨_, T1, L1, ⟨rfl, N1q, e1⟩, X1, st1⟩ := cV X0 hx hZ (W := 2) hown (cw4 cx) (rm128 cx a1 a6 p2 p3 p4 p5 ck7 O0 PF1 PV2 PF3 PE4) e0 PE4 (g := (mkF m 3 #[sR a1, sI 58] [(vR a1), (vI 58), (vR a1)])) rfl hml rfl (rest := [(vI 58), (vR a1)]) rfl rfl rfl rfl (hb hby d7_3) (by decide)
  obtain ⟨_, T2, L2, ⟨rfl, N2q, e2⟩, X2, st2⟩ := cV X1 hx hZ (W := 0) hown (cw9 cx) (rm164 cx a1 a6 p2 p3 p4 p5 ck7 O0 PF3 PE4 PF1 PV2 hc5 hc6 hc7 hc8) e1 PE4 (g := (mkF m 8 #[sR a1, sI 58] [(vI 3), (vI 58), (vR a1)])) rfl hml rfl (rest := []) rfl rfl rfl rfl (hb hby d7_8) (by decide)
  refine own_end X2 hlk (v := some (vI (-1))) (own_hv hret) (by decide) (by rw [e2]; exact ⟨rfl, (Fr.app (Fr.app N0 N1q) N2q), rfl⟩) fun fs hr => ?_
  show St p e below s₁ (mkF m 0 #[sR a1, sI 58] []) _
  refine wal X0 hx hby rfl d7_0 rfl rfl ?_
  refine wil X0 hx hby rfl d7_1 rfl ?_
  refine wal X0 hx hby rfl d7_2 rfl rfl ?_
  refine st1 _ ?_
  refine wic X1 hx hby rfl d7_6 ?_
  refine Own.isub X1.here hx rfl (hb hby d7_7) rfl (by decide : ((4 : Int32) - (1 : Int32)) = (3 : Int32)) ?_
  refine st2 _ ?_
  exact retOut X2 hx hret rfl (Or.inl ⟨rfl, Or.inl rfl, _, rfl⟩) (hb hby d7_11) hr
def Qrm166 (Z : State) (a1 : Addr) (h0 : Heap) (n0 : Nat) (v : Option Value) (h : Heap) (L : List Loc) : Prop := v = some (vR a1) ∧ Fr n0 L ∧ h = h0
theorem rm166 (cx : Cx Z a0 w0 w1) (a1 : Addr) (p2 : Int32) (p3 : Int32) (p4 : Int32) (p5 : Int32) (a6 : Addr) (ck7 : ClassId) (O0 : Old Z n0 h0) (PF1 : Fld Z h0 a1 z0 "value" "[B" (vR a6)) (PV2 : Arv Z h0 a6 ck7 .byte (4 : Int32) [(vI p2), (vI p3), (vI p4), (vI p5)] (vI 0)) (PF3 : Fld Z h0 a1 z0 "coder" "B" (vI 0)) (PE4 : Exa Z h0 a1 z0) : Ct l Z ⟨z0, "substring", z8⟩ jdk_42_method_92_code 5 (some (.object z0)) ⟨2, 0, 0, 29⟩ #[(vR a1), (vI 0), (vI 4)] h0 (Qrm166 Z a1 h0 n0) := by
  obtain ⟨hw, hj, hS⟩ := id cx
  refine own_bd (plainFor_of_name pn63) (fun m => ef255 m a1 0 4) fun p e s m below meth c s₁ hret hlk hZ hx hby hml hown hnm X0 e0 => ?_
  have N0 := Fr.nil n0
  obtain ⟨_, T1, L1, ⟨rfl, N1q, e1⟩, X1, st1⟩ := cV X0 hx hZ (W := 0) hown (cw4 cx) (rm128 cx a1 a6 p2 p3 p4 p5 ck7 O0 PF1 PV2 PF3 PE4) e0 PE4 (g := (mkF m 1 #[sR a1, sI 0, sI 4, sU, sU] [(vR a1)])) rfl hml rfl (rest := []) rfl rfl rfl rfl (hb hby d16_1) (by decide)
  obtain ⟨_, T2, L2, ⟨rfl, N2q, e2⟩, X2, st2⟩ := cS X1 hx hZ (W := 0) hown (cw12 cx) (rm35 cx 0 4 O0 (by decide : ¬ ((0 : Int32) < (0 : Int32))) (by decide : ¬ ((4 : Int32) < (0 : Int32)))) e1 (g := (mkF m 8 #[sR a1, sI 0, sI 4, sI 4, sU] [(vI 4), (vI 4), (vI 0)])) rfl hml rfl (rest := []) rfl rfl rfl rfl (hb hby d16_8) (by decide)
  refine own_end X2 hlk (v := some (vR a1)) (own_hv hret) (by decide) (by rw [e2]; exact ⟨rfl, (Fr.app (Fr.app N0 N1q) N2q), rfl⟩) fun fs hr => ?_
  show St p e below s₁ (mkF m 0 #[sR a1, sI 0, sI 4, sU, sU] []) _
  refine wal X0 hx hby rfl d16_0 rfl rfl ?_
  refine st1 _ ?_
  refine wis X1 hx hby rfl d16_4 rfl (l' := #[sR a1, sI 0, sI 4, sI 4, sU]) rfl ?_
  refine wil X1 hx hby rfl d16_5 rfl ?_
  refine wil X1 hx hby rfl d16_6 rfl ?_
  refine wil X1 hx hby rfl d16_7 rfl ?_
  refine st2 _ ?_
  refine wil X2 hx hby rfl d16_11 rfl ?_
  refine wfn X2 hx hby rfl d16_12 rfl ((if0 _ _).trans (teq (by decide : (0 : Int32) = (0 : Int32))).2) ?_
  refine wil X2 hx hby rfl d16_15 rfl ?_
  refine wil X2 hx hby rfl d16_16 rfl ?_
  refine wcn X2 hx hby rfl d16_17 rfl (teq (by decide : (4 : Int32) = (4 : Int32))).2 ?_
  refine wal X2 hx hby rfl d16_20 rfl rfl ?_
  exact retOut X2 hx hret rfl (Or.inr (Or.inr (Or.inr (Or.inr ⟨rfl, rfl, rfl⟩)))) (hb hby d16_21) hr
def Qrm167 (Z : State) (a1 : Addr) (h0 : Heap) (n0 : Nat) (v : Option Value) (h : Heap) (L : List Loc) : Prop := v = some (vR a1) ∧ Fr n0 L ∧ h = h0
theorem rm167 (cx : Cx Z a0 w0 w1) (a1 : Addr) (p2 : Int32) (p3 : Int32) (p4 : Int32) (p5 : Int32) (a6 : Addr) (ck7 : ClassId) (O0 : Old Z n0 h0) (PF1 : Fld Z h0 a1 z0 "value" "[B" (vR a6)) (PV2 : Arv Z h0 a6 ck7 .byte (4 : Int32) [(vI p2), (vI p3), (vI p4), (vI p5)] (vI 0)) (PF3 : Fld Z h0 a1 z0 "coder" "B" (vI 0)) (PE4 : Exa Z h0 a1 z0) : Ct l Z ⟨z0, "substring", z9⟩ jdk_42_method_91_code 2 (some (.object z0)) ⟨3, 0, 0, 45⟩ #[(vR a1), (vI 0)] h0 (Qrm167 Z a1 h0 n0) := by
  obtain ⟨hw, hj, hS⟩ := id cx
  refine own_bd (plainFor_of_name pn63) (fun m => ef194 m a1 0) fun p e s m below meth c s₁ hret hlk hZ hx hby hml hown hnm X0 e0 => ?_
  have N0 := Fr.nil n0
  obtain ⟨_, T1, L1, ⟨rfl, N1q, e1⟩, X1, st1⟩ := cV X0 hx hZ (W := 2) hown (cw4 cx) (rm128 cx a1 a6 p2 p3 p4 p5 ck7 O0 PF1 PV2 PF3 PE4) e0 PE4 (g := (mkF m 3 #[sR a1, sI 0] [(vR a1), (vI 0), (vR a1)])) rfl hml rfl (rest := [(vI 0), (vR a1)]) rfl rfl rfl rfl (hb hby d15_3) (by decide)
  obtain ⟨_, T2, L2, ⟨rfl, N2q, e2⟩, X2, st2⟩ := cV X1 hx hZ (W := 0) hown (cw13 cx) (rm166 cx a1 p2 p3 p4 p5 a6 ck7 O0 PF1 PV2 PF3 PE4) e1 PE4 (g := (mkF m 6 #[sR a1, sI 0] [(vI 4), (vI 0), (vR a1)])) rfl hml rfl (rest := []) rfl rfl rfl rfl (hb hby d15_6) (by decide)
  refine own_end X2 hlk (v := some (vR a1)) (own_hv hret) (by decide) (by rw [e2]; exact ⟨rfl, (Fr.app (Fr.app N0 N1q) N2q), rfl⟩) fun fs hr => ?_
  show St p e below s₁ (mkF m 0 #[sR a1, sI 0] []) _
  refine wal X0 hx hby rfl d15_0 rfl rfl ?_
  refine wil X0 hx hby rfl d15_1 rfl ?_
  refine wal X0 hx hby rfl d15_2 rfl rfl ?_
  refine st1 _ ?_
  refine st2 _ ?_
  exact retOut X2 hx hret rfl (Or.inr (Or.inr (Or.inr (Or.inr ⟨rfl, rfl, rfl⟩)))) (hb hby d15_9) hr
def Qrm168 (Z : State) (a1 : Addr) (h0 : Heap) (n0 : Nat) (v : Option Value) (h : Heap) (L : List Loc) : Prop := v = some (vR a1) ∧ Fr n0 L ∧ h = h0
theorem rm168 (cx : Cx Z a0 w0 w1) (a1 : Addr) (p2 : Int32) (p3 : Int32) (p4 : Int32) (p5 : Int32) (a6 : Addr) (ck7 : ClassId) (O0 : Old Z n0 h0) (PF1 : Fld Z h0 a1 z0 "value" "[B" (vR a6)) (PV2 : Arv Z h0 a6 ck7 .byte (4 : Int32) [(vI p2), (vI p3), (vI p4), (vI p5)] (vI 0)) (PF3 : Fld Z h0 a1 z0 "coder" "B" (vI 0)) (PE4 : Exa Z h0 a1 z0) (hc5 : ¬ (p5 = (58 : Int32))) (hc6 : ¬ (p4 = (58 : Int32))) (hc7 : ¬ (p3 = (58 : Int32))) (hc8 : ¬ (p2 = (58 : Int32))) : Ct l Z ⟨z3, "localPart", z5⟩ prog_13_method_17_code 1 (some (.object z0)) ⟨4, 0, 0, 58⟩ #[(vR a1)] h0 (Qrm168 Z a1 h0 n0) := by
  obtain ⟨hw, hj, hS⟩ := id cx
  refine own_bd (plainFor_of_name pn266) (fun m => ef104 m a1) fun p e s m below meth c s₁ hret hlk hZ hx hby hml hown hnm X0 e0 => ?_
  have N0 := Fr.nil n0
  obtain ⟨_, T1, L1, ⟨rfl, N1q, e1⟩, X1, st1⟩ := cV X0 hx hZ (W := 1) hown (cw10 cx) (rm165 cx a1 p2 p3 p4 p5 a6 ck7 O0 PF1 PV2 PF3 PE4 hc5 hc6 hc7 hc8) e0 PE4 (g := (mkF m 4 #[sR a1] [(vI 58), (vR a1), (vR a1)])) rfl hml rfl (rest := [(vR a1)]) rfl rfl rfl rfl (hb hby d6_4) (by decide)
  obtain ⟨_, T2, L2, ⟨rfl, N2q, e2⟩, X2, st2⟩ := cV X1 hx hZ (W := 0) hown (cw14 cx) (rm167 cx a1 p2 p3 p4 p5 a6 ck7 O0 PF1 PV2 PF3 PE4) e1 PE4 (g := (mkF m 9 #[sR a1] [(vI 0), (vR a1)])) rfl hml rfl (rest := []) rfl rfl rfl rfl (hb hby d6_9) (by decide)
  refine own_end X2 hlk (v := some (vR a1)) (own_hv hret) (by decide) (by rw [e2]; exact ⟨rfl, (Fr.app (Fr.app N0 N1q) N2q), rfl⟩) fun fs hr => ?_
  show St p e below s₁ (mkF m 0 #[sR a1] []) _
  refine wal X0 hx hby rfl d6_0 rfl rfl ?_
  refine wal X0 hx hby rfl d6_1 rfl rfl ?_
  refine wbp X0 hx hby rfl d6_2 ?_
  refine st1 _ ?_
  refine wic X1 hx hby rfl d6_7 ?_
  refine Own.iadd X1.here hx rfl (hb hby d6_8) rfl (by decide : ((-1 : Int32) + (1 : Int32)) = (0 : Int32)) ?_
  refine st2 _ ?_
  exact retOut X2 hx hret rfl (Or.inr (Or.inr (Or.inr (Or.inr ⟨rfl, rfl, rfl⟩)))) (hb hby d6_12) hr
def Qrm169 (Z : State) (p2 : Int32) (h0 : Heap) (n0 : Nat) (v : Option Value) (h : Heap) (L : List Loc) : Prop := v = some (vI (p2 &&& (255 : Int32))) ∧ Fr n0 L ∧ h = h0
theorem rm169 (cx : Cx Z a0 w0 w1) (a1 : Addr) (p2 : Int32) (p3 : Int32) (p4 : Int32) (p5 : Int32) (ck6 : ClassId) (O0 : Old Z n0 h0) (PV1 : Arv Z h0 a1 ck6 .byte (4 : Int32) [(vI p2), (vI p3), (vI p4), (vI p5)] (vI 0)) : Ct l Z ⟨z2, "charAt", "([BI)C"⟩ jdk_43_method_2_code 2 (some .char) ⟨2, 0, 0, 27⟩ #[(vR a1), (vI 0)] h0 (Qrm169 Z p2 h0 n0) := by
  obtain ⟨hw, hj, hS⟩ := id cx
  refine own_bd (plainFor_of_name pn154) (fun m => ef194 m a1 0) fun p e s m below meth c s₁ hret hlk hZ hx hby hml hown hnm X0 e0 => ?_
  have N0 := Fr.nil n0
  obtain ⟨_, T1, L1, ⟨rfl, N1q, e1⟩, X1, st1⟩ := cS X0 hx hZ (W := 0) hown (cw22 cx) (rm40 cx 0 4 O0 (by decide : ¬ ((0 : Int32) < (0 : Int32))) (by decide : (0 : Int32) < (4 : Int32))) e0 (g := (mkF m 3 #[sR a1, sI 0] [(vI 4), (vI 0)])) rfl hml rfl (rest := []) rfl rfl rfl rfl (hb hby d23_3) (by decide)
  have hu0 : ¬ ((p2 &&& (255 : Int32)) < (0 : Int32)) := (by have q0 := own_rng p2; have q1 := (by decide : ((255 : Int32)).toInt = 255); have q2 := (own_mask p2 (255 : Int32) (by decide) : 0 ≤ ((p2 &&& (255 : Int32))).toInt ∧ ((p2 &&& (255 : Int32))).toInt ≤ 255); have q3 := (by decide : ((0 : Int32)).toInt = 0); exact own_ltF (by omega))
  have hu1 : ¬ ((65535 : Int32) < (p2 &&& (255 : Int32))) := (by have q0 := (by decide : ((65535 : Int32)).toInt = 65535); have q1 := own_rng p2; have q2 := (by decide : ((255 : Int32)).toInt = 255); have q3 := (own_mask p2 (255 : Int32) (by decide) : 0 ≤ ((p2 &&& (255 : Int32))).toInt ∧ ((p2 &&& (255 : Int32))).toInt ≤ 255); exact own_ltF (by omega))
  refine own_end X1 hlk (v := some (vI (p2 &&& (255 : Int32)))) (own_hv hret) (by decide) (by rw [e1]; exact ⟨rfl, (Fr.app N0 N1q), rfl⟩) fun fs hr => ?_
  show St p e below s₁ (mkF m 0 #[sR a1, sI 0] []) _
  refine wil X0 hx hby rfl d23_0 rfl ?_
  refine wal X0 hx hby rfl d23_1 rfl rfl ?_
  refine own_alen X0 hx hZ e0 PV1 (g := (mkF m 2 #[sR a1, sI 0] [(vR a1), (vI 0)])) rfl rfl (hb hby d23_2) ?_
  refine st1 _ ?_
  refine wal X1 hx hby rfl d23_6 rfl rfl ?_
  refine wil X1 hx hby rfl d23_7 rfl ?_
  refine own_baloadB X1 hx hZ e1 PV1 (j := 0) (by decide) (v := (vI p2)) rfl (g := (mkF m 8 #[sR a1, sI 0] [(vI 0), (vR a1)])) rfl rfl (hb hby d23_8) ?_
  refine wsp X1 hx hby rfl d23_9 ?_
  refine XS.iand X1.here hx rfl (hb hby d23_12) rfl ?_
  refine Own.i2c X1.here hx rfl (hb hby d23_13) rfl (own_i2c hu0 hu1) ?_
  exact own_retN X1 hx (t := .char) hret (by simp) (hb hby d23_14) (own_narC hu0 hu1) hr
def Qrm170 (Z : State) (p3 : Int32) (h0 : Heap) (n0 : Nat) (v : Option Value) (h : Heap) (L : List Loc) : Prop := v = some (vI (p3 &&& (255 : Int32))) ∧ Fr n0 L ∧ h = h0
theorem rm170 (cx : Cx Z a0 w0 w1) (a1 : Addr) (a2 : Addr) (p3 : Int32) (p4 : Int32) (p5 : Int32) (p6 : Int32) (ck7 : ClassId) (O0 : Old Z n0 h0) (PF1 : Fld Z h0 a1 z0 "coder" "B" (vI 0)) (PE2 : Exa Z h0 a1 z0) (PF3 : Fld Z h0 a1 z0 "value" "[B" (vR a2)) (PV4 : Arv Z h0 a2 ck7 .byte (4 : Int32) [(vI p3), (vI p4), (vI p5), (vI p6)] (vI 0)) : Ct l Z ⟨z0, "charAt", "(I)C"⟩ jdk_42_method_56_code 2 (some .char) ⟨3, 0, 0, 40⟩ #[(vR a1), (vI 0)] h0 (Qrm170 Z p3 h0 n0) := by
  obtain ⟨hw, hj, hS⟩ := id cx
  refine own_bd (plainFor_of_name pn63) (fun m => ef194 m a1 0) fun p e s m below meth c s₁ hret hlk hZ hx hby hml hown hnm X0 e0 => ?_
  have N0 := Fr.nil n0
  obtain ⟨_, T1, L1, ⟨rfl, N1q, e1⟩, X1, st1⟩ := cV X0 hx hZ (W := 0) hown (cw5 cx) (rm6 cx a1 O0 PF1) e0 PE2 (g := (mkF m 1 #[sR a1, sI 0] [(vR a1)])) rfl hml rfl (rest := []) rfl rfl rfl rfl (hb hby d22_1) (by decide)
  obtain ⟨T2, X2, e2, st2⟩ := getF X1 hx hZ hown (host := "") (Or.inl (hw _ m28)) Via.refl e1 PF3 (g := (mkF m 8 #[sR a1, sI 0] [(vR a1)])) rfl rfl (hb hby d22_8)
  obtain ⟨_, T3, L3, ⟨rfl, N3q, e3⟩, X3, st3⟩ := cS X2 hx hZ (W := 0) hown (cw23 cx) (rm169 cx a2 p3 p4 p5 p6 ck7 O0 PV4) e2 (g := (mkF m 12 #[sR a1, sI 0] [(vI 0), (vR a2)])) rfl hml rfl (rest := []) rfl rfl rfl rfl (hb hby d22_12) (by decide)
  have hu0 : ¬ ((p3 &&& (255 : Int32)) < (0 : Int32)) := (by have q0 := own_rng p3; have q1 := (by decide : ((255 : Int32)).toInt = 255); have q2 := (own_mask p3 (255 : Int32) (by decide) : 0 ≤ ((p3 &&& (255 : Int32))).toInt ∧ ((p3 &&& (255 : Int32))).toInt ≤ 255); have q3 := (by decide : ((0 : Int32)).toInt = 0); exact own_ltF (by omega))
  have hu1 : ¬ ((65535 : Int32) < (p3 &&& (255 : Int32))) := (by have q0 := (by decide : ((65535 : Int32)).toInt = 65535); have q1 := own_rng p3; have q2 := (by decide : ((255 : Int32)).toInt = 255); have q3 := (own_mask p3 (255 : Int32) (by decide) : 0 ≤ ((p3 &&& (255 : Int32))).toInt ∧ ((p3 &&& (255 : Int32))).toInt ≤ 255); exact own_ltF (by omega))
  refine own_end X3 hlk (v := some (vI (p3 &&& (255 : Int32)))) (own_hv hret) (by decide) (by rw [e3]; exact ⟨rfl, (Fr.app (Fr.app N0 N1q) N3q), rfl⟩) fun fs hr => ?_
  show St p e below s₁ (mkF m 0 #[sR a1, sI 0] []) _
  refine wal X0 hx hby rfl d22_0 rfl rfl ?_
  refine st1 _ ?_
  refine wfn X1 hx hby rfl d22_4 rfl ((if0 _ _).trans (feq (by decide : ¬ ((1 : Int32) = (0 : Int32)))).1) ?_
  refine wal X1 hx hby rfl d22_7 rfl rfl ?_
  refine st2 _ ?_
  refine wil X2 hx hby rfl d22_11 rfl ?_
  refine st3 _ ?_
  exact own_retN X3 hx (t := .char) hret (by simp) (hb hby d22_15) (own_narC hu0 hu1) hr
def Qrm171 (Z : State) (p3 : Int32) (h0 : Heap) (n0 : Nat) (v : Option Value) (h : Heap) (L : List Loc) : Prop := v = some (vI (p3 &&& (255 : Int32))) ∧ Fr n0 L ∧ h = h0
theorem rm171 (cx : Cx Z a0 w0 w1) (a1 : Addr) (p2 : Int32) (p3 : Int32) (p4 : Int32) (p5 : Int32) (ck6 : ClassId) (O0 : Old Z n0 h0) (PV1 : Arv Z h0 a1 ck6 .byte (4 : Int32) [(vI p2), (vI p3), (vI p4), (vI p5)] (vI 0)) : Ct l Z ⟨z2, "charAt", "([BI)C"⟩ jdk_43_method_2_code 2 (some .char) ⟨2, 0, 0, 27⟩ #[(vR a1), (vI 1)] h0 (Qrm171 Z p3 h0 n0) := by
  obtain ⟨hw, hj, hS⟩ := id cx
  refine own_bd (plainFor_of_name pn154) (fun m => ef194 m a1 1) fun p e s m below meth c s₁ hret hlk hZ hx hby hml hown hnm X0 e0 => ?_
  have N0 := Fr.nil n0
  obtain ⟨_, T1, L1, ⟨rfl, N1q, e1⟩, X1, st1⟩ := cS X0 hx hZ (W := 0) hown (cw22 cx) (rm40 cx 1 4 O0 (by decide : ¬ ((1 : Int32) < (0 : Int32))) (by decide : (1 : Int32) < (4 : Int32))) e0 (g := (mkF m 3 #[sR a1, sI 1] [(vI 4), (vI 1)])) rfl hml rfl (rest := []) rfl rfl rfl rfl (hb hby d23_3) (by decide)
  have hu0 : ¬ ((p3 &&& (255 : Int32)) < (0 : Int32)) := (by have q0 := own_rng p3; have q1 := (by decide : ((255 : Int32)).toInt = 255); have q2 := (own_mask p3 (255 : Int32) (by decide) : 0 ≤ ((p3 &&& (255 : Int32))).toInt ∧ ((p3 &&& (255 : Int32))).toInt ≤ 255); have q3 := (by decide : ((0 : Int32)).toInt = 0); exact own_ltF (by omega))
  have hu1 : ¬ ((65535 : Int32) < (p3 &&& (255 : Int32))) := (by have q0 := (by decide : ((65535 : Int32)).toInt = 65535); have q1 := own_rng p3; have q2 := (by decide : ((255 : Int32)).toInt = 255); have q3 := (own_mask p3 (255 : Int32) (by decide) : 0 ≤ ((p3 &&& (255 : Int32))).toInt ∧ ((p3 &&& (255 : Int32))).toInt ≤ 255); exact own_ltF (by omega))
  refine own_end X1 hlk (v := some (vI (p3 &&& (255 : Int32)))) (own_hv hret) (by decide) (by rw [e1]; exact ⟨rfl, (Fr.app N0 N1q), rfl⟩) fun fs hr => ?_
  show St p e below s₁ (mkF m 0 #[sR a1, sI 1] []) _
  refine wil X0 hx hby rfl d23_0 rfl ?_
  refine wal X0 hx hby rfl d23_1 rfl rfl ?_
  refine own_alen X0 hx hZ e0 PV1 (g := (mkF m 2 #[sR a1, sI 1] [(vR a1), (vI 1)])) rfl rfl (hb hby d23_2) ?_
  refine st1 _ ?_
  refine wal X1 hx hby rfl d23_6 rfl rfl ?_
  refine wil X1 hx hby rfl d23_7 rfl ?_
  refine own_baloadB X1 hx hZ e1 PV1 (j := 1) (by decide) (v := (vI p3)) rfl (g := (mkF m 8 #[sR a1, sI 1] [(vI 1), (vR a1)])) rfl rfl (hb hby d23_8) ?_
  refine wsp X1 hx hby rfl d23_9 ?_
  refine XS.iand X1.here hx rfl (hb hby d23_12) rfl ?_
  refine Own.i2c X1.here hx rfl (hb hby d23_13) rfl (own_i2c hu0 hu1) ?_
  exact own_retN X1 hx (t := .char) hret (by simp) (hb hby d23_14) (own_narC hu0 hu1) hr
def Qrm172 (Z : State) (p4 : Int32) (h0 : Heap) (n0 : Nat) (v : Option Value) (h : Heap) (L : List Loc) : Prop := v = some (vI (p4 &&& (255 : Int32))) ∧ Fr n0 L ∧ h = h0
theorem rm172 (cx : Cx Z a0 w0 w1) (a1 : Addr) (a2 : Addr) (p3 : Int32) (p4 : Int32) (p5 : Int32) (p6 : Int32) (ck7 : ClassId) (O0 : Old Z n0 h0) (PF1 : Fld Z h0 a1 z0 "coder" "B" (vI 0)) (PE2 : Exa Z h0 a1 z0) (PF3 : Fld Z h0 a1 z0 "value" "[B" (vR a2)) (PV4 : Arv Z h0 a2 ck7 .byte (4 : Int32) [(vI p3), (vI p4), (vI p5), (vI p6)] (vI 0)) : Ct l Z ⟨z0, "charAt", "(I)C"⟩ jdk_42_method_56_code 2 (some .char) ⟨3, 0, 0, 40⟩ #[(vR a1), (vI 1)] h0 (Qrm172 Z p4 h0 n0) := by
  obtain ⟨hw, hj, hS⟩ := id cx
  refine own_bd (plainFor_of_name pn63) (fun m => ef194 m a1 1) fun p e s m below meth c s₁ hret hlk hZ hx hby hml hown hnm X0 e0 => ?_
  have N0 := Fr.nil n0
  obtain ⟨_, T1, L1, ⟨rfl, N1q, e1⟩, X1, st1⟩ := cV X0 hx hZ (W := 0) hown (cw5 cx) (rm6 cx a1 O0 PF1) e0 PE2 (g := (mkF m 1 #[sR a1, sI 1] [(vR a1)])) rfl hml rfl (rest := []) rfl rfl rfl rfl (hb hby d22_1) (by decide)
  obtain ⟨T2, X2, e2, st2⟩ := getF X1 hx hZ hown (host := "") (Or.inl (hw _ m28)) Via.refl e1 PF3 (g := (mkF m 8 #[sR a1, sI 1] [(vR a1)])) rfl rfl (hb hby d22_8)
  obtain ⟨_, T3, L3, ⟨rfl, N3q, e3⟩, X3, st3⟩ := cS X2 hx hZ (W := 0) hown (cw23 cx) (rm171 cx a2 p3 p4 p5 p6 ck7 O0 PV4) e2 (g := (mkF m 12 #[sR a1, sI 1] [(vI 1), (vR a2)])) rfl hml rfl (rest := []) rfl rfl rfl rfl (hb hby d22_12) (by decide)
  have hu0 : ¬ ((p4 &&& (255 : Int32)) < (0 : Int32)) := (by have q0 := own_rng p4; have q1 := (by decide : ((255 : Int32)).toInt = 255); have q2 := (own_mask p4 (255 : Int32) (by decide) : 0 ≤ ((p4 &&& (255 : Int32))).toInt ∧ ((p4 &&& (255 : Int32))).toInt ≤ 255); have q3 := (by decide : ((0 : Int32)).toInt = 0); exact own_ltF (by omega))
  have hu1 : ¬ ((65535 : Int32) < (p4 &&& (255 : Int32))) := (by have q0 := (by decide : ((65535 : Int32)).toInt = 65535); have q1 := own_rng p4; have q2 := (by decide : ((255 : Int32)).toInt = 255); have q3 := (own_mask p4 (255 : Int32) (by decide) : 0 ≤ ((p4 &&& (255 : Int32))).toInt ∧ ((p4 &&& (255 : Int32))).toInt ≤ 255); exact own_ltF (by omega))
  refine own_end X3 hlk (v := some (vI (p4 &&& (255 : Int32)))) (own_hv hret) (by decide) (by rw [e3]; exact ⟨rfl, (Fr.app (Fr.app N0 N1q) N3q), rfl⟩) fun fs hr => ?_
  show St p e below s₁ (mkF m 0 #[sR a1, sI 1] []) _
  refine wal X0 hx hby rfl d22_0 rfl rfl ?_
  refine st1 _ ?_
  refine wfn X1 hx hby rfl d22_4 rfl ((if0 _ _).trans (feq (by decide : ¬ ((1 : Int32) = (0 : Int32)))).1) ?_
  refine wal X1 hx hby rfl d22_7 rfl rfl ?_
  refine st2 _ ?_
  refine wil X2 hx hby rfl d22_11 rfl ?_
  refine st3 _ ?_
  exact own_retN X3 hx (t := .char) hret (by simp) (hb hby d22_15) (own_narC hu0 hu1) hr
def Qrm173 (Z : State) (p4 : Int32) (h0 : Heap) (n0 : Nat) (v : Option Value) (h : Heap) (L : List Loc) : Prop := v = some (vI (p4 &&& (255 : Int32))) ∧ Fr n0 L ∧ h = h0
theorem rm173 (cx : Cx Z a0 w0 w1) (a1 : Addr) (p2 : Int32) (p3 : Int32) (p4 : Int32) (p5 : Int32) (ck6 : ClassId) (O0 : Old Z n0 h0) (PV1 : Arv Z h0 a1 ck6 .byte (4 : Int32) [(vI p2), (vI p3), (vI p4), (vI p5)] (vI 0)) : Ct l Z ⟨z2, "charAt", "([BI)C"⟩ jdk_43_method_2_code 2 (some .char) ⟨2, 0, 0, 27⟩ #[(vR a1), (vI 2)] h0 (Qrm173 Z p4 h0 n0) := by
  obtain ⟨hw, hj, hS⟩ := id cx
  refine own_bd (plainFor_of_name pn154) (fun m => ef194 m a1 2) fun p e s m below meth c s₁ hret hlk hZ hx hby hml hown hnm X0 e0 => ?_
  have N0 := Fr.nil n0
  obtain ⟨_, T1, L1, ⟨rfl, N1q, e1⟩, X1, st1⟩ := cS X0 hx hZ (W := 0) hown (cw22 cx) (rm40 cx 2 4 O0 (by decide : ¬ ((2 : Int32) < (0 : Int32))) (by decide : (2 : Int32) < (4 : Int32))) e0 (g := (mkF m 3 #[sR a1, sI 2] [(vI 4), (vI 2)])) rfl hml rfl (rest := []) rfl rfl rfl rfl (hb hby d23_3) (by decide)
  have hu0 : ¬ ((p4 &&& (255 : Int32)) < (0 : Int32)) := (by have q0 := own_rng p4; have q1 := (by decide : ((255 : Int32)).toInt = 255); have q2 := (own_mask p4 (255 : Int32) (by decide) : 0 ≤ ((p4 &&& (255 : Int32))).toInt ∧ ((p4 &&& (255 : Int32))).toInt ≤ 255); have q3 := (by decide : ((0 : Int32)).toInt = 0); exact own_ltF (by omega))
  have hu1 : ¬ ((65535 : Int32) < (p4 &&& (255 : Int32))) := (by have q0 := (by decide : ((65535 : Int32)).toInt = 65535); have q1 := own_rng p4; have q2 := (by decide : ((255 : Int32)).toInt = 255); have q3 := (own_mask p4 (255 : Int32) (by decide) : 0 ≤ ((p4 &&& (255 : Int32))).toInt ∧ ((p4 &&& (255 : Int32))).toInt ≤ 255); exact own_ltF (by omega))
  refine own_end X1 hlk (v := some (vI (p4 &&& (255 : Int32)))) (own_hv hret) (by decide) (by rw [e1]; exact ⟨rfl, (Fr.app N0 N1q), rfl⟩) fun fs hr => ?_
  show St p e below s₁ (mkF m 0 #[sR a1, sI 2] []) _
  refine wil X0 hx hby rfl d23_0 rfl ?_
  refine wal X0 hx hby rfl d23_1 rfl rfl ?_
  refine own_alen X0 hx hZ e0 PV1 (g := (mkF m 2 #[sR a1, sI 2] [(vR a1), (vI 2)])) rfl rfl (hb hby d23_2) ?_
  refine st1 _ ?_
  refine wal X1 hx hby rfl d23_6 rfl rfl ?_
  refine wil X1 hx hby rfl d23_7 rfl ?_
  refine own_baloadB X1 hx hZ e1 PV1 (j := 2) (by decide) (v := (vI p4)) rfl (g := (mkF m 8 #[sR a1, sI 2] [(vI 2), (vR a1)])) rfl rfl (hb hby d23_8) ?_
  refine wsp X1 hx hby rfl d23_9 ?_
  refine XS.iand X1.here hx rfl (hb hby d23_12) rfl ?_
  refine Own.i2c X1.here hx rfl (hb hby d23_13) rfl (own_i2c hu0 hu1) ?_
  exact own_retN X1 hx (t := .char) hret (by simp) (hb hby d23_14) (own_narC hu0 hu1) hr
def Qrm174 (Z : State) (p5 : Int32) (h0 : Heap) (n0 : Nat) (v : Option Value) (h : Heap) (L : List Loc) : Prop := v = some (vI (p5 &&& (255 : Int32))) ∧ Fr n0 L ∧ h = h0
theorem rm174 (cx : Cx Z a0 w0 w1) (a1 : Addr) (a2 : Addr) (p3 : Int32) (p4 : Int32) (p5 : Int32) (p6 : Int32) (ck7 : ClassId) (O0 : Old Z n0 h0) (PF1 : Fld Z h0 a1 z0 "coder" "B" (vI 0)) (PE2 : Exa Z h0 a1 z0) (PF3 : Fld Z h0 a1 z0 "value" "[B" (vR a2)) (PV4 : Arv Z h0 a2 ck7 .byte (4 : Int32) [(vI p3), (vI p4), (vI p5), (vI p6)] (vI 0)) : Ct l Z ⟨z0, "charAt", "(I)C"⟩ jdk_42_method_56_code 2 (some .char) ⟨3, 0, 0, 40⟩ #[(vR a1), (vI 2)] h0 (Qrm174 Z p5 h0 n0) := by
  obtain ⟨hw, hj, hS⟩ := id cx
  refine own_bd (plainFor_of_name pn63) (fun m => ef194 m a1 2) fun p e s m below meth c s₁ hret hlk hZ hx hby hml hown hnm X0 e0 => ?_
  have N0 := Fr.nil n0
  obtain ⟨_, T1, L1, ⟨rfl, N1q, e1⟩, X1, st1⟩ := cV X0 hx hZ (W := 0) hown (cw5 cx) (rm6 cx a1 O0 PF1) e0 PE2 (g := (mkF m 1 #[sR a1, sI 2] [(vR a1)])) rfl hml rfl (rest := []) rfl rfl rfl rfl (hb hby d22_1) (by decide)
  obtain ⟨T2, X2, e2, st2⟩ := getF X1 hx hZ hown (host := "") (Or.inl (hw _ m28)) Via.refl e1 PF3 (g := (mkF m 8 #[sR a1, sI 2] [(vR a1)])) rfl rfl (hb hby d22_8)
  obtain ⟨_, T3, L3, ⟨rfl, N3q, e3⟩, X3, st3⟩ := cS X2 hx hZ (W := 0) hown (cw23 cx) (rm173 cx a2 p3 p4 p5 p6 ck7 O0 PV4) e2 (g := (mkF m 12 #[sR a1, sI 2] [(vI 2), (vR a2)])) rfl hml rfl (rest := []) rfl rfl rfl rfl (hb hby d22_12) (by decide)
  have hu0 : ¬ ((p5 &&& (255 : Int32)) < (0 : Int32)) := (by have q0 := own_rng p5; have q1 := (by decide : ((255 : Int32)).toInt = 255); have q2 := (own_mask p5 (255 : Int32) (by decide) : 0 ≤ ((p5 &&& (255 : Int32))).toInt ∧ ((p5 &&& (255 : Int32))).toInt ≤ 255); have q3 := (by decide : ((0 : Int32)).toInt = 0); exact own_ltF (by omega))
  have hu1 : ¬ ((65535 : Int32) < (p5 &&& (255 : Int32))) := (by have q0 := (by decide : ((65535 : Int32)).toInt = 65535); have q1 := own_rng p5; have q2 := (by decide : ((255 : Int32)).toInt = 255); have q3 := (own_mask p5 (255 : Int32) (by decide) : 0 ≤ ((p5 &&& (255 : Int32))).toInt ∧ ((p5 &&& (255 : Int32))).toInt ≤ 255); exact own_ltF (by omega))
  refine own_end X3 hlk (v := some (vI (p5 &&& (255 : Int32)))) (own_hv hret) (by decide) (by rw [e3]; exact ⟨rfl, (Fr.app (Fr.app N0 N1q) N3q), rfl⟩) fun fs hr => ?_
  show St p e below s₁ (mkF m 0 #[sR a1, sI 2] []) _
  refine wal X0 hx hby rfl d22_0 rfl rfl ?_
  refine st1 _ ?_
  refine wfn X1 hx hby rfl d22_4 rfl ((if0 _ _).trans (feq (by decide : ¬ ((1 : Int32) = (0 : Int32)))).1) ?_
  refine wal X1 hx hby rfl d22_7 rfl rfl ?_
  refine st2 _ ?_
  refine wil X2 hx hby rfl d22_11 rfl ?_
  refine st3 _ ?_
  exact own_retN X3 hx (t := .char) hret (by simp) (hb hby d22_15) (own_narC hu0 hu1) hr
def Qrm175 (Z : State) (p5 : Int32) (h0 : Heap) (n0 : Nat) (v : Option Value) (h : Heap) (L : List Loc) : Prop := v = some (vI (p5 &&& (255 : Int32))) ∧ Fr n0 L ∧ h = h0
theorem rm175 (cx : Cx Z a0 w0 w1) (a1 : Addr) (p2 : Int32) (p3 : Int32) (p4 : Int32) (p5 : Int32) (ck6 : ClassId) (O0 : Old Z n0 h0) (PV1 : Arv Z h0 a1 ck6 .byte (4 : Int32) [(vI p2), (vI p3), (vI p4), (vI p5)] (vI 0)) : Ct l Z ⟨z2, "charAt", "([BI)C"⟩ jdk_43_method_2_code 2 (some .char) ⟨2, 0, 0, 27⟩ #[(vR a1), (vI 3)] h0 (Qrm175 Z p5 h0 n0) := by
  obtain ⟨hw, hj, hS⟩ := id cx
  refine own_bd (plainFor_of_name pn154) (fun m => ef194 m a1 3) fun p e s m below meth c s₁ hret hlk hZ hx hby hml hown hnm X0 e0 => ?_
  have N0 := Fr.nil n0
  obtain ⟨_, T1, L1, ⟨rfl, N1q, e1⟩, X1, st1⟩ := cS X0 hx hZ (W := 0) hown (cw22 cx) (rm40 cx 3 4 O0 (by decide : ¬ ((3 : Int32) < (0 : Int32))) (by decide : (3 : Int32) < (4 : Int32))) e0 (g := (mkF m 3 #[sR a1, sI 3] [(vI 4), (vI 3)])) rfl hml rfl (rest := []) rfl rfl rfl rfl (hb hby d23_3) (by decide)
  have hu0 : ¬ ((p5 &&& (255 : Int32)) < (0 : Int32)) := (by have q0 := own_rng p5; have q1 := (by decide : ((255 : Int32)).toInt = 255); have q2 := (own_mask p5 (255 : Int32) (by decide) : 0 ≤ ((p5 &&& (255 : Int32))).toInt ∧ ((p5 &&& (255 : Int32))).toInt ≤ 255); have q3 := (by decide : ((0 : Int32)).toInt = 0); exact own_ltF (by omega))
  have hu1 : ¬ ((65535 : Int32) < (p5 &&& (255 : Int32))) := (by have q0 := (by decide : ((65535 : Int32)).toInt = 65535); have q1 := own_rng p5; have q2 := (by decide : ((255 : Int32)).toInt = 255); have q3 := (own_mask p5 (255 : Int32) (by decide) : 0 ≤ ((p5 &&& (255 : Int32))).toInt ∧ ((p5 &&& (255 : Int32))).toInt ≤ 255); exact own_ltF (by omega))
  refine own_end X1 hlk (v := some (vI (p5 &&& (255 : Int32)))) (own_hv hret) (by decide) (by rw [e1]; exact ⟨rfl, (Fr.app N0 N1q), rfl⟩) fun fs hr => ?_
  show St p e below s₁ (mkF m 0 #[sR a1, sI 3] []) _
  refine wil X0 hx hby rfl d23_0 rfl ?_
  refine wal X0 hx hby rfl d23_1 rfl rfl ?_
  refine own_alen X0 hx hZ e0 PV1 (g := (mkF m 2 #[sR a1, sI 3] [(vR a1), (vI 3)])) rfl rfl (hb hby d23_2) ?_
  refine st1 _ ?_
  refine wal X1 hx hby rfl d23_6 rfl rfl ?_
  refine wil X1 hx hby rfl d23_7 rfl ?_
  refine own_baloadB X1 hx hZ e1 PV1 (j := 3) (by decide) (v := (vI p5)) rfl (g := (mkF m 8 #[sR a1, sI 3] [(vI 3), (vR a1)])) rfl rfl (hb hby d23_8) ?_
  refine wsp X1 hx hby rfl d23_9 ?_
  refine XS.iand X1.here hx rfl (hb hby d23_12) rfl ?_
  refine Own.i2c X1.here hx rfl (hb hby d23_13) rfl (own_i2c hu0 hu1) ?_
  exact own_retN X1 hx (t := .char) hret (by simp) (hb hby d23_14) (own_narC hu0 hu1) hr
def Qrm176 (Z : State) (p6 : Int32) (h0 : Heap) (n0 : Nat) (v : Option Value) (h : Heap) (L : List Loc) : Prop := v = some (vI (p6 &&& (255 : Int32))) ∧ Fr n0 L ∧ h = h0
theorem rm176 (cx : Cx Z a0 w0 w1) (a1 : Addr) (a2 : Addr) (p3 : Int32) (p4 : Int32) (p5 : Int32) (p6 : Int32) (ck7 : ClassId) (O0 : Old Z n0 h0) (PF1 : Fld Z h0 a1 z0 "coder" "B" (vI 0)) (PE2 : Exa Z h0 a1 z0) (PF3 : Fld Z h0 a1 z0 "value" "[B" (vR a2)) (PV4 : Arv Z h0 a2 ck7 .byte (4 : Int32) [(vI p3), (vI p4), (vI p5), (vI p6)] (vI 0)) : Ct l Z ⟨z0, "charAt", "(I)C"⟩ jdk_42_method_56_code 2 (some .char) ⟨3, 0, 0, 40⟩ #[(vR a1), (vI 3)] h0 (Qrm176 Z p6 h0 n0) := by
  obtain ⟨hw, hj, hS⟩ := id cx
  refine own_bd (plainFor_of_name pn63) (fun m => ef194 m a1 3) fun p e s m below meth c s₁ hret hlk hZ hx hby hml hown hnm X0 e0 => ?_
  have N0 := Fr.nil n0
  obtain ⟨_, T1, L1, ⟨rfl, N1q, e1⟩, X1, st1⟩ := cV X0 hx hZ (W := 0) hown (cw5 cx) (rm6 cx a1 O0 PF1) e0 PE2 (g := (mkF m 1 #[sR a1, sI 3] [(vR a1)])) rfl hml rfl (rest := []) rfl rfl rfl rfl (hb hby d22_1) (by decide)
  obtain ⟨T2, X2, e2, st2⟩ := getF X1 hx hZ hown (host := "") (Or.inl (hw _ m28)) Via.refl e1 PF3 (g := (mkF m 8 #[sR a1, sI 3] [(vR a1)])) rfl rfl (hb hby d22_8)
  obtain ⟨_, T3, L3, ⟨rfl, N3q, e3⟩, X3, st3⟩ := cS X2 hx hZ (W := 0) hown (cw23 cx) (rm175 cx a2 p3 p4 p5 p6 ck7 O0 PV4) e2 (g := (mkF m 12 #[sR a1, sI 3] [(vI 3), (vR a2)])) rfl hml rfl (rest := []) rfl rfl rfl rfl (hb hby d22_12) (by decide)
  have hu0 : ¬ ((p6 &&& (255 : Int32)) < (0 : Int32)) := (by have q0 := own_rng p6; have q1 := (by decide : ((255 : Int32)).toInt = 255); have q2 := (own_mask p6 (255 : Int32) (by decide) : 0 ≤ ((p6 &&& (255 : Int32))).toInt ∧ ((p6 &&& (255 : Int32))).toInt ≤ 255); have q3 := (by decide : ((0 : Int32)).toInt = 0); exact own_ltF (by omega))
  have hu1 : ¬ ((65535 : Int32) < (p6 &&& (255 : Int32))) := (by have q0 := (by decide : ((65535 : Int32)).toInt = 65535); have q1 := own_rng p6; have q2 := (by decide : ((255 : Int32)).toInt = 255); have q3 := (own_mask p6 (255 : Int32) (by decide) : 0 ≤ ((p6 &&& (255 : Int32))).toInt ∧ ((p6 &&& (255 : Int32))).toInt ≤ 255); exact own_ltF (by omega))
  refine own_end X3 hlk (v := some (vI (p6 &&& (255 : Int32)))) (own_hv hret) (by decide) (by rw [e3]; exact ⟨rfl, (Fr.app (Fr.app N0 N1q) N3q), rfl⟩) fun fs hr => ?_
  show St p e below s₁ (mkF m 0 #[sR a1, sI 3] []) _
  refine wal X0 hx hby rfl d22_0 rfl rfl ?_
  refine st1 _ ?_
  refine wfn X1 hx hby rfl d22_4 rfl ((if0 _ _).trans (feq (by decide : ¬ ((1 : Int32) = (0 : Int32)))).1) ?_
  refine wal X1 hx hby rfl d22_7 rfl rfl ?_
  refine st2 _ ?_
  refine wil X2 hx hby rfl d22_11 rfl ?_
  refine st3 _ ?_
  exact own_retN X3 hx (t := .char) hret (by simp) (hb hby d22_15) (own_narC hu0 hu1) hr
def QL (n0 : Nat) (v : Option Value) (h : Heap) (L : List Loc) : Prop := v = some (.int (1 : Int32)) ∧ Fr n0 L
theorem rm0 (cx : Cx Z a0 w0 w1) (ws : List Jvm.Cond) (i0 : Int32) (i1 : Int32) (i2 : Int32) (i3 : Int32) (i4 : Int32) (h0 : Heap) (n0 : Nat) (O0 : Old Z n0 h0) :
    MetFree l x (head1 (Jvm.Cond.code x code maxLocals ret :: ws) room_1) (fun a U => a = #[(vI i0), (vI i1), (vI i2), (vI i3), (vI i4)] ∧ Z.Warmed39 U.vm ∧ U.heap = h0 ∧ CHv Z EL U.vm h0 ∧ ∀ x ∈ ([] : List Addr), Safe Z EL U.vm h0 x) (fun _ _ _ _ _ => True) (fun _ U o U' => ∃ v L, o = .returned v ∧ QL n0 v U'.heap L ∧ CHr Z EL U.vm U.heap U'.vm U'.heap ∧ ReturnedEndW U o U' L room_1.cells room_1.slots) := by
  refine MetFree.of_bodySF (plainFor_of_name pn11) hisR ?_
  intro p e s m args below meth c s₁ Bd hml0 hP hK
  obtain ⟨rfl, hZ, hh, H0, hsx⟩ := hP
  have hx := Bd.exec
  have hby := Bd.bytes
  have hret := Bd.returns
  have hlk := Bd.notSynchronized
  have hml : c.maxLocals = 11 := hml0
  have hown : s.vm.findClass z1 = some m.cls := findClass_of_methodNamed Bd.named
  have hnm := (name_of_methodNamed Bd.named Bd.method).1
  have X0 : Stand p l e room_1 (s.setVm s.vm) m #[(vI i0), (vI i1), (vI i2), (vI i3), (vI i4)] below meth c s₁ [] 0 0 := Stand.of_body Bd
  have e0 : s₁.heap = h0 := by rw [← hh, Bd.state]; rfl
  obtain ⟨hw, hj, hS⟩ := id cx
  have N0 := Fr.nil n0
  have hS0 : s.Since s.vm h0.size := (State.WarmedH.refl s).since _
  have C0 : CHr Z EL s.vm h0 s.vm h0 := CHr.refl H0
  obtain ⟨g0, hg0⟩ : ∃ g, g = entryFrame m #[(vI i0), (vI i1), (vI i2), (vI i3), (vI i4)] maxLocals := ⟨_, rfl⟩
  rw [← hg0]
  have pre0 : ∀ t, St p e below s₁ (mkF m 0 #[sI i0, sI i1, sI i2, sI i3, sI i4, sU, sU, sU, sU, sU, sU] []) t → St p e below s₁ g0 t := fun t k => castTop (hg0.trans (ef604 m i0 i1 i2 i3 i4)) k
  show EndW EL Z p e s below room_1 (QL n0) _
  obtain ⟨x3, hx3⟩ : ∃ z, (i0 &&& (2147483647 : Int32)) = z := ⟨_, rfl⟩
  have rx3 : 0 ≤ x3.toInt ∧ x3.toInt ≤ 2147483647 := hx3 ▸ (own_mask i0 (2147483647 : Int32) (by decide) : 0 ≤ ((i0 &&& (2147483647 : Int32))).toInt ∧ ((i0 &&& (2147483647 : Int32))).toInt ≤ 2147483647)
  obtain ⟨x5, hx5⟩ : ∃ z, (x3 % (5 : Int32)) = z := ⟨_, rfl⟩
  have rx5 : 0 ≤ x5.toInt ∧ x5.toInt ≤ 4 := hx5 ▸ (own_rem x3 (5 : Int32) 5 (by decide) (by have q0 := rx3; omega : 0 ≤ (x3).toInt ∧ (x3).toInt ≤ 2147483647) (by decide) : 0 ≤ ((x3 % (5 : Int32))).toInt ∧ ((x3 % (5 : Int32))).toInt ≤ 4)
  obtain ⟨T1, h1, k1, b1, X1, e1, E1, V1, g1, O1, K1, st1⟩ := own_newP X0 hx hZ (aty := .char) (ty := .char) (dv := (.int (0 : Int32))) (vs := [(.int (0 : Int32)), (.int (0 : Int32)), (.int (0 : Int32)), (.int (0 : Int32))]) (cap := 4) rfl rfl rfl (hw _ m1) e0 O0 (Keep.refl h0 []) (g := (mkF m 9 #[sI i0, sI i1, sI i2, sI i3, sI i4, sI x5, sU, sU, sU, sU, sU] [(vI 4)])) rfl (hb hby at_9) rfl (by decide) (by decide) (by decide) (by decide) (by decide)
  have C1 := C0.trans (CHr.ext E1 C0.1)
  obtain ⟨_, T2, L2, ⟨z14, rfl, N2q, hz2_0, hz2_1, e2⟩, X2, st2⟩ := own_callS X1 hx hZ (W := 3) hown (hw _ m2) (hw _ m3) (hw _ m4) (hw _ m5) (by decide) (jm0 cx i1 O1) e1 (g := (mkF m 14 #[sI i0, sI i1, sI i2, sI i3, sI i4, sI x5, sU, sU, sU, sU, sU] [(vI i1), (vI 0), (vR b1), (vR b1)])) rfl hml rfl (rest := [(vI 0), (vR b1), (vR b1)]) (lenOf pd19 rfl) rfl rfl rfl (hb hby at_14) (by decide)
  have N2 := Fr.app N0 N2q
  have hd0 : ¬ ((65535 : Int32) < z14) := (by have q0 := (by decide : ((65535 : Int32)).toInt = 65535); have q1 := own_rg hz2_0 hz2_1 (l := 0) (h := 255) (by decide); exact own_ltF (by omega) : ¬ ((65535 : Int32) < z14))
  obtain ⟨T3, h3, L'3, X3, e3, W3, V3, O3, K3, N3, st3⟩ := own_stC X2 hx hZ e2 V1 O1 K1 N2 (Nat.le_trans (own_old_le O0) g1) (Or.inr (Nat.le_trans (Keep.refl h0 []).1 g1)) (j := (0 : Int32)) 0 (by decide) (Nat.le_of_ble_eq_true rfl) (v := (vI z14)) (congrArg Value.int (own_narC hz2_0 hd0)) (vs' := [(vI z14), (vI 0), (vI 0), (vI 0)]) rfl (g := (mkF m 17 #[sI i0, sI i1, sI i2, sI i3, sI i4, sI x5, sU, sU, sU, sU, sU] [(vI z14), (vI 0), (vR b1), (vR b1)])) rfl rfl (hb hby at_17)
  have sf3 := (Safe.arv (EL := EL) hZ.alike V1 (by decide))
  have C3 := C1.trans (CHr.wr W3 sf3 C1.1)
  obtain ⟨_, T4, L4, ⟨z21, rfl, N4q, hz4_0, hz4_1, e4⟩, X4, st4⟩ := own_callS X3 hx hZ (W := 3) hown (hw _ m2) (hw _ m3) (hw _ m4) (hw _ m5) (by decide) (jm0 cx i2 O3) e3 (g := (mkF m 21 #[sI i0, sI i1, sI i2, sI i3, sI i4, sI x5, sU, sU, sU, sU, sU] [(vI i2), (vI 1), (vR b1), (vR b1)])) rfl hml rfl (rest := [(vI 1), (vR b1), (vR b1)]) (lenOf pd19 rfl) rfl rfl rfl (hb hby at_21) (by decide)
  have N4 := Fr.app N3 N4q
  have hd1 : ¬ ((65535 : Int32) < z21) := (by have q0 := (by decide : ((65535 : Int32)).toInt = 65535); have q1 := own_rg hz4_0 hz4_1 (l := 0) (h := 255) (by decide); exact own_ltF (by omega) : ¬ ((65535 : Int32) < z21))
  obtain ⟨T5, h5, L'5, X5, e5, W5, V5, O5, K5, N5, st5⟩ := own_stC X4 hx hZ e4 V3 O3 K3 N4 (Nat.le_trans (own_old_le O0) g1) (Or.inr (Nat.le_trans (Keep.refl h0 []).1 g1)) (j := (1 : Int32)) 1 (by decide) (Nat.le_of_ble_eq_true rfl) (v := (vI z21)) (congrArg Value.int (own_narC hz4_0 hd1)) (vs' := [(vI z14), (vI z21), (vI 0), (vI 0)]) rfl (g := (mkF m 24 #[sI i0, sI i1, sI i2, sI i3, sI i4, sI x5, sU, sU, sU, sU, sU] [(vI z21), (vI 1), (vR b1), (vR b1)])) rfl rfl (hb hby at_24)
  have sf5 := (Safe.arv (EL := EL) hZ.alike V3 (by decide))
  have C5 := C3.trans (CHr.wr W5 sf5 C3.1)
  obtain ⟨_, T6, L6, ⟨z28, rfl, N6q, hz6_0, hz6_1, e6⟩, X6, st6⟩ := own_callS X5 hx hZ (W := 3) hown (hw _ m2) (hw _ m3) (hw _ m4) (hw _ m5) (by decide) (jm0 cx i3 O5) e5 (g := (mkF m 28 #[sI i0, sI i1, sI i2, sI i3, sI i4, sI x5, sU, sU, sU, sU, sU] [(vI i3), (vI 2), (vR b1), (vR b1)])) rfl hml rfl (rest := [(vI 2), (vR b1), (vR b1)]) (lenOf pd19 rfl) rfl rfl rfl (hb hby at_28) (by decide)
  have N6 := Fr.app N5 N6q
  have hd2 : ¬ ((65535 : Int32) < z28) := (by have q0 := (by decide : ((65535 : Int32)).toInt = 65535); have q1 := own_rg hz6_0 hz6_1 (l := 0) (h := 255) (by decide); exact own_ltF (by omega) : ¬ ((65535 : Int32) < z28))
  obtain ⟨T7, h7, L'7, X7, e7, W7, V7, O7, K7, N7, st7⟩ := own_stC X6 hx hZ e6 V5 O5 K5 N6 (Nat.le_trans (own_old_le O0) g1) (Or.inr (Nat.le_trans (Keep.refl h0 []).1 g1)) (j := (2 : Int32)) 2 (by decide) (Nat.le_of_ble_eq_true rfl) (v := (vI z28)) (congrArg Value.int (own_narC hz6_0 hd2)) (vs' := [(vI z14), (vI z21), (vI z28), (vI 0)]) rfl (g := (mkF m 31 #[sI i0, sI i1, sI i2, sI i3, sI i4, sI x5, sU, sU, sU, sU, sU] [(vI z28), (vI 2), (vR b1), (vR b1)])) rfl rfl (hb hby at_31)
  have sf7 := (Safe.arv (EL := EL) hZ.alike V5 (by decide))
  have C7 := C5.trans (CHr.wr W7 sf7 C5.1)
  obtain ⟨_, T8, L8, ⟨z36, rfl, N8q, hz8_0, hz8_1, e8⟩, X8, st8⟩ := own_callS X7 hx hZ (W := 3) hown (hw _ m2) (hw _ m3) (hw _ m4) (hw _ m5) (by decide) (jm0 cx i4 O7) e7 (g := (mkF m 36 #[sI i0, sI i1, sI i2, sI i3, sI i4, sI x5, sU, sU, sU, sU, sU] [(vI i4), (vI 3), (vR b1), (vR b1)])) rfl hml rfl (rest := [(vI 3), (vR b1), (vR b1)]) (lenOf pd19 rfl) rfl rfl rfl (hb hby at_36) (by decide)
  have N8 := Fr.app N7 N8q
  have hd3 : ¬ ((65535 : Int32) < z36) := (by have q0 := (by decide : ((65535 : Int32)).toInt = 65535); have q1 := own_rg hz8_0 hz8_1 (l := 0) (h := 255) (by decide); exact own_ltF (by omega) : ¬ ((65535 : Int32) < z36))
  obtain ⟨T9, h9, L'9, X9, e9, W9, V9, O9, K9, N9, st9⟩ := own_stC X8 hx hZ e8 V7 O7 K7 N8 (Nat.le_trans (own_old_le O0) g1) (Or.inr (Nat.le_trans (Keep.refl h0 []).1 g1)) (j := (3 : Int32)) 3 (by decide) (Nat.le_of_ble_eq_true rfl) (v := (vI z36)) (congrArg Value.int (own_narC hz8_0 hd3)) (vs' := [(vI z14), (vI z21), (vI z28), (vI z36)]) rfl (g := (mkF m 39 #[sI i0, sI i1, sI i2, sI i3, sI i4, sI x5, sU, sU, sU, sU, sU] [(vI z36), (vI 3), (vR b1), (vR b1)])) rfl rfl (hb hby at_39)
  have sf9 := (Safe.arv (EL := EL) hZ.alike V7 (by decide))
  have C9 := C7.trans (CHr.wr W9 sf9 C7.1)
  have pre1 : ∀ t, St p e below T9 (mkF m 42 #[sI i0, sI i1, sI i2, sI i3, sI i4, sI x5, sR b1, sU, sU, sU, sU] []) t → St p e below s₁ g0 t := fun t kt => pre0 _ (by
      show St p e below s₁ (mkF m 0 #[sI i0, sI i1, sI i2, sI i3, sI i4, sU, sU, sU, sU, sU, sU] []) _
      refine wil X0 hx hby rfl at_0 rfl ?_
      refine X0.ldcInt hx hown (mvT hZ (hw _ m0)) (g := (mkF m 1 #[sI i0, sI i1, sI i2, sI i3, sI i4, sU, sU, sU, sU, sU, sU] [(vI i0)])) rfl (hb hby at_1) _ ?_
      refine Own.iand X0.here hx rfl (hb hby at_3) rfl hx3 ?_
      refine wic X0 hx hby rfl at_4 ?_
      refine own_irem X0 hx rfl (hb hby at_5) rfl (by decide : ¬ ((5 : Int32) = (0 : Int32))) hx5 ?_
      refine wiS X0 hx hby rfl at_6 rfl (l' := #[sI i0, sI i1, sI i2, sI i3, sI i4, sI x5, sU, sU, sU, sU, sU]) rfl ?_
      refine wic X0 hx hby rfl at_8 ?_
      refine st1 _ ?_
      refine wdu X1 hx hby rfl at_11 rfl rfl ?_
      refine wic X1 hx hby rfl at_12 ?_
      refine wil X1 hx hby rfl at_13 rfl ?_
      refine st2 _ ?_
      refine st3 _ ?_
      refine wdu X3 hx hby rfl at_18 rfl rfl ?_
      refine wic X3 hx hby rfl at_19 ?_
      refine wil X3 hx hby rfl at_20 rfl ?_
      show St p e below T3 (mkF m 21 #[sI i0, sI i1, sI i2, sI i3, sI i4, sI x5, sU, sU, sU, sU, sU] [(vI i2), (vI 1), (vR b1), (vR b1)]) _
      refine st4 _ ?_
      refine st5 _ ?_
      refine wdu X5 hx hby rfl at_25 rfl rfl ?_
      refine wic X5 hx hby rfl at_26 ?_
      refine wil X5 hx hby rfl at_27 rfl ?_
      refine st6 _ ?_
      refine st7 _ ?_
      refine wdu X7 hx hby rfl at_32 rfl rfl ?_
      refine wic X7 hx hby rfl at_33 ?_
      refine wiL X7 hx hby rfl at_34 rfl ?_
      refine st8 _ ?_
      refine st9 _ ?_
      refine waS X9 hx hby rfl at_40 rfl rfl (l' := #[sI i0, sI i1, sI i2, sI i3, sI i4, sI x5, sR b1, sU, sU, sU, sU]) rfl ?_
      exact kt)
  rcases en_23 x5 (by have q0 := own_rng i0; have q1 := (by decide : ((2147483647 : Int32)).toInt = 2147483647); have q2 := (own_mask i0 (2147483647 : Int32) (by decide) : 0 ≤ ((i0 &&& (2147483647 : Int32))).toInt ∧ ((i0 &&& (2147483647 : Int32))).toInt ≤ 2147483647); have q3 := congrArg Int32.toInt hx3; have q4 := rx3; have q5 := (by decide : ((5 : Int32)).toInt = 5); have q6 := (own_rem x3 (5 : Int32) 5 (by decide) (by have q0 := rx3; omega : 0 ≤ (x3).toInt ∧ (x3).toInt ≤ 2147483647) (by decide) : 0 ≤ ((x3 % (5 : Int32))).toInt ∧ ((x3 % (5 : Int32))).toInt ≤ 4); have q7 := congrArg Int32.toInt hx5; have q8 := rx5; omega) with hp0 | hp0 | hp0 | hp0 | hp0
  · obtain ⟨_, T10, L10, ⟨c10_0, c10_1, k10_2, rfl, N10q, Kq10, lo10_0, q10_0, q10_1, q10_2, q10_3⟩, hS10, hZ10, hown10, Cq10, X10, st10⟩ := cSW X9 hx hZ (W := 0) hown (cw2 cx) (rm3 cx b1 O9) e9 hS0 (Nat.le_trans (Nat.le_refl _) (Nat.le_trans (Nat.le_trans (Nat.le_trans (Nat.le_trans E1.1 (Nat.le_of_eq W3.size.symm)) (Nat.le_of_eq W5.size.symm)) (Nat.le_of_eq W7.size.symm)) (Nat.le_of_eq W9.size.symm))) (own_EW hw hj) C9.1 own_sx0 (g := (mkF m 46 #[sI i0, sI i1, sI i2, sI i3, sI i4, sI x5, sR b1, sU, sU, sU, sU] [(vR b1), (vI 0)])) rfl hml rfl (rest := []) rfl rfl rfl rfl (hb hby at_46) (by decide)
    have N10 := Fr.app N9 N10q
    have C10 := C9.trans Cq10
    have O10 : Old Z n0 T10.heap := O9.keep Kq10 all0
    have K10 : Keep h0 T10.heap [] := K9.trans Kq10 all0
    have sf11 := (sf0 : ∀ x ∈ [], Safe Z EL T10.vm T10.heap x)
    obtain ⟨_, T11, L11, ⟨rfl, N11q, e11⟩, X11, st11⟩ := cS X10 hx hZ10 (W := 0) hown10 (cw15 cx) (rm16 cx c10_0 c10_1 k10_2 O10 q10_1 q10_3 q10_2 q10_0) (rfl : T10.heap = T10.heap) (g := (mkF m 53 #[sI i0, sI i1, sI i2, sI i3, sI i4, sI x5, sR b1, sR c10_0, sU, sU, sU] [(vR c10_0)])) rfl hml rfl (rest := []) rfl rfl rfl rfl (hb hby at_53) (by decide)
    have sf12 := (sf0 : ∀ x ∈ [], Safe Z EL T10.vm T10.heap x)
    obtain ⟨_, T12, L12, ⟨rfl, N12q, e12⟩, X12, st12⟩ := cV X11 hx hZ10 (W := 0) hown10 (cw16 cx) (rm5 cx c10_0 c10_1 k10_2 O10 q10_1 q10_3 q10_2 q10_0) e11 q10_0 (g := (mkF m 148 #[sI i0, sI i1, sI i2, sI i3, sI i4, sI x5, sR b1, sR c10_0, sR c10_0, sI (-1), sI 0] [(vR c10_0)])) rfl hml rfl (rest := []) rfl rfl rfl rfl (hb hby at_148) (by decide)
    refine own_endW X12 hlk (v := some (vI 1)) (own_hv hret) hS10 (Nat.le_refl _) (by decide) hh e12 C10 hZ10 (own_EW hw hj) ⟨rfl, (Fr.app (Fr.app N10 N11q) N12q)⟩ fun fs hr => pre1 _ ?_
    refine Own.iload X9.here hx rfl (hb hby at_42) rfl hp0 ?_
    refine waL X9 hx hby rfl at_44 rfl rfl ?_
    refine st10 _ ?_
    show St p e below T10 (mkF m 49 #[sI i0, sI i1, sI i2, sI i3, sI i4, sI x5, sR b1, sU, sU, sU, sU] [(vR c10_0)]) _
    refine waS X10 hx hby rfl at_49 rfl rfl (l' := #[sI i0, sI i1, sI i2, sI i3, sI i4, sI x5, sR b1, sR c10_0, sU, sU, sU]) rfl ?_
    refine waL X10 hx hby rfl at_51 rfl rfl ?_
    refine st11 _ ?_
    refine waS X11 hx hby rfl at_56 rfl rfl (l' := #[sI i0, sI i1, sI i2, sI i3, sI i4, sI x5, sR b1, sR c10_0, sR c10_0, sU, sU]) rfl ?_
    refine wic X11 hx hby rfl at_58 ?_
    refine wiS X11 hx hby rfl at_59 rfl (l' := #[sI i0, sI i1, sI i2, sI i3, sI i4, sI x5, sR b1, sR c10_0, sR c10_0, sI (-1), sU]) rfl ?_
    refine Own.iload X11.here hx rfl (hb hby at_61) rfl hp0 ?_
    refine wfy X11 hx hby rfl (pc0 := 63) (pc' := 78) rfl at_63 rfl ((if0 _ _).trans (flt (by decide : ¬ ((0 : Int32) < (0 : Int32)))).2.2.2) (by decide) (by decide) ?_
    show St p e below T11 (mkF m 78 #[sI i0, sI i1, sI i2, sI i3, sI i4, sI x5, sR b1, sR c10_0, sR c10_0, sI (-1), sU] []) _
    refine Own.iload X11.here hx rfl (hb hby at_78) rfl hp0 ?_
    refine wic X11 hx hby rfl at_80 ?_
    refine wcy X11 hx hby rfl (pc0 := 81) (pc' := 96) rfl at_81 rfl (flt (by decide : ¬ ((1 : Int32) < (0 : Int32)))).2.2.2 (by decide) (by decide) ?_
    show St p e below T11 (mkF m 96 #[sI i0, sI i1, sI i2, sI i3, sI i4, sI x5, sR b1, sR c10_0, sR c10_0, sI (-1), sU] []) _
    refine Own.iload X11.here hx rfl (hb hby at_96) rfl hp0 ?_
    refine wic X11 hx hby rfl at_98 ?_
    refine wcy X11 hx hby rfl (pc0 := 99) (pc' := 114) rfl at_99 rfl (flt (by decide : ¬ ((2 : Int32) < (0 : Int32)))).2.2.2 (by decide) (by decide) ?_
    show St p e below T11 (mkF m 114 #[sI i0, sI i1, sI i2, sI i3, sI i4, sI x5, sR b1, sR c10_0, sR c10_0, sI (-1), sU] []) _
    refine Own.iload X11.here hx rfl (hb hby at_114) rfl hp0 ?_
    refine wic X11 hx hby rfl at_116 ?_
    refine wcy X11 hx hby rfl (pc0 := 117) (pc' := 132) rfl at_117 rfl (flt (by decide : ¬ ((3 : Int32) < (0 : Int32)))).2.2.2 (by decide) (by decide) ?_
    show St p e below T11 (mkF m 132 #[sI i0, sI i1, sI i2, sI i3, sI i4, sI x5, sR b1, sR c10_0, sR c10_0, sI (-1), sU] []) _
    refine Own.iload X11.here hx rfl (hb hby at_132) rfl hp0 ?_
    refine wiL X11 hx hby rfl at_134 rfl ?_
    refine Own.isub X11.here hx rfl (hb hby at_136) rfl (by decide : ((0 : Int32) - (-1 : Int32)) = (1 : Int32)) ?_
    refine wic X11 hx hby rfl at_137 ?_
    refine Own.isub X11.here hx rfl (hb hby at_138) rfl (by decide : ((1 : Int32) - (1 : Int32)) = (0 : Int32)) ?_
    refine wiS X11 hx hby rfl at_139 rfl (l' := #[sI i0, sI i1, sI i2, sI i3, sI i4, sI x5, sR b1, sR c10_0, sR c10_0, sI (-1), sI 0]) rfl ?_
    refine waL X11 hx hby rfl at_141 rfl rfl ?_
    refine wnn X11 hx hby rfl at_143 rfl ?_
    refine waL X11 hx hby rfl at_146 rfl rfl ?_
    refine st12 _ ?_
    refine wiL X12 hx hby rfl at_151 rfl ?_
    refine wcy X12 hx hby rfl (pc0 := 153) (pc' := 158) rfl at_153 rfl (teq (by decide : (0 : Int32) = (0 : Int32))).1 (by decide) (by decide) ?_
    show St p e below T12 (mkF m 158 #[sI i0, sI i1, sI i2, sI i3, sI i4, sI x5, sR b1, sR c10_0, sR c10_0, sI (-1), sI 0] []) _
    refine wiL X12 hx hby rfl at_158 rfl ?_
    refine wfy X12 hx hby rfl (pc0 := 160) (pc' := 181) rfl at_160 rfl ((if0 _ _).trans (flt (by decide : ¬ ((0 : Int32) < (0 : Int32)))).2.2.2) (by decide) (by decide) ?_
    show St p e below T12 (mkF m 181 #[sI i0, sI i1, sI i2, sI i3, sI i4, sI x5, sR b1, sR c10_0, sR c10_0, sI (-1), sI 0] []) _
    refine wiL X12 hx hby rfl at_181 rfl ?_
    refine wic X12 hx hby rfl at_183 ?_
    refine wcy X12 hx hby rfl (pc0 := 184) (pc' := 205) rfl at_184 rfl (flt (by decide : ¬ ((1 : Int32) < (0 : Int32)))).2.2.2 (by decide) (by decide) ?_
    show St p e below T12 (mkF m 205 #[sI i0, sI i1, sI i2, sI i3, sI i4, sI x5, sR b1, sR c10_0, sR c10_0, sI (-1), sI 0] []) _
    refine wiL X12 hx hby rfl at_205 rfl ?_
    refine wic X12 hx hby rfl at_207 ?_
    refine wcy X12 hx hby rfl (pc0 := 208) (pc' := 229) rfl at_208 rfl (flt (by decide : ¬ ((2 : Int32) < (0 : Int32)))).2.2.2 (by decide) (by decide) ?_
    show St p e below T12 (mkF m 229 #[sI i0, sI i1, sI i2, sI i3, sI i4, sI x5, sR b1, sR c10_0, sR c10_0, sI (-1), sI 0] []) _
    refine wiL X12 hx hby rfl at_229 rfl ?_
    refine wic X12 hx hby rfl at_231 ?_
    refine wcy X12 hx hby rfl (pc0 := 232) (pc' := 253) rfl at_232 rfl (flt (by decide : ¬ ((3 : Int32) < (0 : Int32)))).2.2.2 (by decide) (by decide) ?_
    show St p e below T12 (mkF m 253 #[sI i0, sI i1, sI i2, sI i3, sI i4, sI x5, sR b1, sR c10_0, sR c10_0, sI (-1), sI 0] []) _
    refine wic X12 hx hby rfl at_253 ?_
    exact retN X12 hx (t := .boolean) hret (by simp) (hb hby at_254) hr
  · have pre2 : ∀ t, St p e below T9 (mkF m 46 #[sI i0, sI i1, sI i2, sI i3, sI i4, sI x5, sR b1, sU, sU, sU, sU] [(vR b1), (vI 1)]) t → St p e below s₁ g0 t := fun t kt => pre1 _ (by
        refine Own.iload X9.here hx rfl (hb hby at_42) rfl hp0 ?_
        refine waL X9 hx hby rfl at_44 rfl rfl ?_
        exact kt)
    rcases Decidable.em (z14 = (58 : Int32)) with hp1 | hp1
    · have sf10 := (sf0 : ∀ x ∈ [], Safe Z EL s.vm h9 x)
      obtain ⟨_, T10, L10, ⟨c10_0, c10_1, k10_2, rfl, N10q, Kq10, lo10_0, lo10_1, q10_0, q10_1, q10_2, q10_3⟩, X10, st10⟩ := cS X9 hx hZ (W := 0) hown (cw2 cx) (rm22 cx b1 z14 z21 z28 z36 k1 O9 V9 hz2_0 hd0 hz2_1) e9 (g := (mkF m 46 #[sI i0, sI i1, sI i2, sI i3, sI i4, sI x5, sR b1, sU, sU, sU, sU] [(vR b1), (vI 1)])) rfl hml rfl (rest := []) rfl rfl rfl rfl (hb hby at_46) (by decide)
      have N10 := Fr.app N9 N10q
      have C10 := C9.trans (CHr.keep Kq10 sf10 C9.1)
      have O10 : Old Z n0 T10.heap := O9.keep Kq10 all0
      have K10 : Keep h0 T10.heap [] := K9.trans Kq10 all0
      have hd4 : ¬ (z14 < (-128 : Int32)) := (by have q0 := own_rg hz2_0 hz2_1 (l := 0) (h := 255) (by decide); have q1 := (by decide : ((-128 : Int32)).toInt = -128); exact own_ltF (by omega) : ¬ (z14 < (-128 : Int32)))
      have hd5 : ¬ ((127 : Int32) < z14) := (by have q0 := (by decide : ((127 : Int32)).toInt = 127); have q1 := own_rg hz2_0 hz2_1 (l := 0) (h := 255) (by decide); have q2 := (by decide : ((58 : Int32)).toInt = 58); have q3 := own_eqT' hp1; have q4 := (by decide : ((0 : Int32)).toInt = 0); have q5 := own_ltF' hz2_0; have q6 := (by decide : ((255 : Int32)).toInt = 255); have q7 := own_ltF' hz2_1; exact own_ltF (by omega) : ¬ ((127 : Int32) < z14))
      have hd6 : (z14.toInt8.toInt32) = (58 : Int32) := (by rw [show (z14.toInt8.toInt32) = z14 from own_i2b hd4 hd5]; exact hp1 : (z14.toInt8.toInt32) = (58 : Int32))
      obtain ⟨_, T11, L11, ⟨c11_0, c11_1, k11_2, rfl, N11q, Kq11, q11_0, q11_1, q11_2, q11_3⟩, hS11, hZ11, hown11, Cq11, X11, st11⟩ := cSW X10 hx hZ (W := 0) hown (cw15 cx) (rm30 cx c10_0 (z14.toInt8.toInt32) c10_1 k10_2 O10 q10_1 q10_3 q10_2 q10_0 hd6) (rfl : T10.heap = T10.heap) hS0 (Nat.le_trans (Nat.le_refl _) (Nat.le_trans (Nat.le_trans (Nat.le_trans (Nat.le_trans (Nat.le_trans E1.1 (Nat.le_of_eq W3.size.symm)) (Nat.le_of_eq W5.size.symm)) (Nat.le_of_eq W7.size.symm)) (Nat.le_of_eq W9.size.symm)) Kq10.1)) (own_EW hw hj) C10.1 own_sx0 (g := (mkF m 53 #[sI i0, sI i1, sI i2, sI i3, sI i4, sI x5, sR b1, sR c10_0, sU, sU, sU] [(vR c10_0)])) rfl hml rfl (rest := []) rfl rfl rfl rfl (hb hby at_53) (by decide)
      have N11 := Fr.app N10 N11q
      have C11 := C10.trans Cq11
      have O11 : Old Z n0 T11.heap := O10.keep Kq11 all0
      have K11 : Keep h0 T11.heap [] := K10.trans Kq11 all0
      have f12 : Arv Z T11.heap b1 k1 .char (4 : Int32) [(vI z14), (vI z21), (vI z28), (vI z36)] (vI 0) := ((V9.keep Kq10 nin0).keep Kq11 nin0)
      have sf13 := (sf0 : ∀ x ∈ [], Safe Z EL T11.vm T11.heap x)
      obtain ⟨_, T13, L13, ⟨rfl, N13q, e13⟩, X13, st13⟩ := cV X11 hx hZ11 (W := 0) hown11 (cw16 cx) (rm5 cx c11_0 c11_1 k11_2 O11 q11_2 q11_3 q11_1 q11_0) (rfl : T11.heap = T11.heap) q11_0 (g := (mkF m 148 #[sI i0, sI i1, sI i2, sI i3, sI i4, sI x5, sR b1, sR c10_0, sR c11_0, sI 0, sI 0] [(vR c11_0)])) rfl hml rfl (rest := []) rfl rfl rfl rfl (hb hby at_148) (by decide)
      refine own_endW X13 hlk (v := some (vI 1)) (own_hv hret) hS11 (Nat.le_refl _) (by decide) hh e13 C11 hZ11 (own_EW hw hj) ⟨rfl, (Fr.app N11 N13q)⟩ fun fs hr => pre2 _ ?_
      refine st10 _ ?_
      show St p e below T10 (mkF m 49 #[sI i0, sI i1, sI i2, sI i3, sI i4, sI x5, sR b1, sU, sU, sU, sU] [(vR c10_0)]) _
      refine waS X10 hx hby rfl at_49 rfl rfl (l' := #[sI i0, sI i1, sI i2, sI i3, sI i4, sI x5, sR b1, sR c10_0, sU, sU, sU]) rfl ?_
      refine waL X10 hx hby rfl at_51 rfl rfl ?_
      refine st11 _ ?_
      refine waS X11 hx hby rfl at_56 rfl rfl (l' := #[sI i0, sI i1, sI i2, sI i3, sI i4, sI x5, sR b1, sR c10_0, sR c11_0, sU, sU]) rfl ?_
      refine wic X11 hx hby rfl at_58 ?_
      refine wiS X11 hx hby rfl at_59 rfl (l' := #[sI i0, sI i1, sI i2, sI i3, sI i4, sI x5, sR b1, sR c10_0, sR c11_0, sI (-1), sU]) rfl ?_
      refine Own.iload X11.here hx rfl (hb hby at_61) rfl hp0 ?_
      refine wfn X11 hx hby rfl at_63 rfl ((if0 _ _).trans (tlt (by decide : (0 : Int32) < (1 : Int32))).2.2.2) ?_
      refine waL X11 hx hby rfl at_66 rfl rfl ?_
      refine wic X11 hx hby rfl at_68 ?_
      refine own_caload X11 hx hZ11 (rfl : T11.heap = T11.heap) f12 (j := 0) (by decide) (v := (vI z14)) rfl (g := (mkF m 69 #[sI i0, sI i1, sI i2, sI i3, sI i4, sI x5, sR b1, sR c10_0, sR c11_0, sI (-1), sU] [(vI 0), (vR b1)])) rfl rfl (hb hby at_69) ?_
      refine wbp X11 hx hby rfl at_70 ?_
      refine wcn X11 hx hby rfl at_72 rfl (teq hp1).2 ?_
      refine wic X11 hx hby rfl at_75 ?_
      refine wiS X11 hx hby rfl at_76 rfl (l' := #[sI i0, sI i1, sI i2, sI i3, sI i4, sI x5, sR b1, sR c10_0, sR c11_0, sI 0, sU]) rfl ?_
      show St p e below T11 (mkF m 78 #[sI i0, sI i1, sI i2, sI i3, sI i4, sI x5, sR b1, sR c10_0, sR c11_0, sI 0, sU] []) _
      refine Own.iload X11.here hx rfl (hb hby at_78) rfl hp0 ?_
      refine wic X11 hx hby rfl at_80 ?_
      refine wcy X11 hx hby rfl (pc0 := 81) (pc' := 96) rfl at_81 rfl (flt (by decide : ¬ ((1 : Int32) < (1 : Int32)))).2.2.2 (by decide) (by decide) ?_
      show St p e below T11 (mkF m 96 #[sI i0, sI i1, sI i2, sI i3, sI i4, sI x5, sR b1, sR c10_0, sR c11_0, sI 0, sU] []) _
      refine Own.iload X11.here hx rfl (hb hby at_96) rfl hp0 ?_
      refine wic X11 hx hby rfl at_98 ?_
      refine wcy X11 hx hby rfl (pc0 := 99) (pc' := 114) rfl at_99 rfl (flt (by decide : ¬ ((2 : Int32) < (1 : Int32)))).2.2.2 (by decide) (by decide) ?_
      show St p e below T11 (mkF m 114 #[sI i0, sI i1, sI i2, sI i3, sI i4, sI x5, sR b1, sR c10_0, sR c11_0, sI 0, sU] []) _
      refine Own.iload X11.here hx rfl (hb hby at_114) rfl hp0 ?_
      refine wic X11 hx hby rfl at_116 ?_
      refine wcy X11 hx hby rfl (pc0 := 117) (pc' := 132) rfl at_117 rfl (flt (by decide : ¬ ((3 : Int32) < (1 : Int32)))).2.2.2 (by decide) (by decide) ?_
      show St p e below T11 (mkF m 132 #[sI i0, sI i1, sI i2, sI i3, sI i4, sI x5, sR b1, sR c10_0, sR c11_0, sI 0, sU] []) _
      refine Own.iload X11.here hx rfl (hb hby at_132) rfl hp0 ?_
      refine wiL X11 hx hby rfl at_134 rfl ?_
      refine Own.isub X11.here hx rfl (hb hby at_136) rfl (by decide : ((1 : Int32) - (0 : Int32)) = (1 : Int32)) ?_
      refine wic X11 hx hby rfl at_137 ?_
      refine Own.isub X11.here hx rfl (hb hby at_138) rfl (by decide : ((1 : Int32) - (1 : Int32)) = (0 : Int32)) ?_
      refine wiS X11 hx hby rfl at_139 rfl (l' := #[sI i0, sI i1, sI i2, sI i3, sI i4, sI x5, sR b1, sR c10_0, sR c11_0, sI 0, sI 0]) rfl ?_
      refine waL X11 hx hby rfl at_141 rfl rfl ?_
      refine wnn X11 hx hby rfl at_143 rfl ?_
      refine waL X11 hx hby rfl at_146 rfl rfl ?_
      refine st13 _ ?_
      refine wiL X13 hx hby rfl at_151 rfl ?_
      refine wcy X13 hx hby rfl (pc0 := 153) (pc' := 158) rfl at_153 rfl (teq (by decide : (0 : Int32) = (0 : Int32))).1 (by decide) (by decide) ?_
      show St p e below T13 (mkF m 158 #[sI i0, sI i1, sI i2, sI i3, sI i4, sI x5, sR b1, sR c10_0, sR c11_0, sI 0, sI 0] []) _
      refine wiL X13 hx hby rfl at_158 rfl ?_
      refine wfy X13 hx hby rfl (pc0 := 160) (pc' := 181) rfl at_160 rfl ((if0 _ _).trans (flt (by decide : ¬ ((0 : Int32) < (0 : Int32)))).2.2.2) (by decide) (by decide) ?_
      show St p e below T13 (mkF m 181 #[sI i0, sI i1, sI i2, sI i3, sI i4, sI x5, sR b1, sR c10_0, sR c11_0, sI 0, sI 0] []) _
      refine wiL X13 hx hby rfl at_181 rfl ?_
      refine wic X13 hx hby rfl at_183 ?_
      refine wcy X13 hx hby rfl (pc0 := 184) (pc' := 205) rfl at_184 rfl (flt (by decide : ¬ ((1 : Int32) < (0 : Int32)))).2.2.2 (by decide) (by decide) ?_
      show St p e below T13 (mkF m 205 #[sI i0, sI i1, sI i2, sI i3, sI i4, sI x5, sR b1, sR c10_0, sR c11_0, sI 0, sI 0] []) _
      refine wiL X13 hx hby rfl at_205 rfl ?_
      refine wic X13 hx hby rfl at_207 ?_
      refine wcy X13 hx hby rfl (pc0 := 208) (pc' := 229) rfl at_208 rfl (flt (by decide : ¬ ((2 : Int32) < (0 : Int32)))).2.2.2 (by decide) (by decide) ?_
      show St p e below T13 (mkF m 229 #[sI i0, sI i1, sI i2, sI i3, sI i4, sI x5, sR b1, sR c10_0, sR c11_0, sI 0, sI 0] []) _
      refine wiL X13 hx hby rfl at_229 rfl ?_
      refine wic X13 hx hby rfl at_231 ?_
      refine wcy X13 hx hby rfl (pc0 := 232) (pc' := 253) rfl at_232 rfl (flt (by decide : ¬ ((3 : Int32) < (0 : Int32)))).2.2.2 (by decide) (by decide) ?_
      show St p e below T13 (mkF m 253 #[sI i0, sI i1, sI i2, sI i3, sI i4, sI x5, sR b1, sR c10_0, sR c11_0, sI 0, sI 0] []) _
      refine wic X13 hx hby rfl at_253 ?_
      exact retN X13 hx (t := .boolean) hret (by simp) (hb hby at_254) hr
    · have sf10 := (sf0 : ∀ x ∈ [], Safe Z EL s.vm h9 x)
      obtain ⟨_, T10, L10, ⟨c10_0, c10_1, k10_2, rfl, N10q, Kq10, lo10_0, lo10_1, q10_0, q10_1, q10_2, q10_3⟩, X10, st10⟩ := cS X9 hx hZ (W := 0) hown (cw2 cx) (rm22 cx b1 z14 z21 z28 z36 k1 O9 V9 hz2_0 hd0 hz2_1) e9 (g := (mkF m 46 #[sI i0, sI i1, sI i2, sI i3, sI i4, sI x5, sR b1, sU, sU, sU, sU] [(vR b1), (vI 1)])) rfl hml rfl (rest := []) rfl rfl rfl rfl (hb hby at_46) (by decide)
      have N10 := Fr.app N9 N10q
      have C10 := C9.trans (CHr.keep Kq10 sf10 C9.1)
      have O10 : Old Z n0 T10.heap := O9.keep Kq10 all0
      have K10 : Keep h0 T10.heap [] := K9.trans Kq10 all0
      have hd7 : ¬ ((z14.toInt8.toInt32) = (58 : Int32)) := ((fun q => hp1 ((own_blit hz2_0 hz2_1 (by decide)).mp q)) : ¬ ((z14.toInt8.toInt32) = (58 : Int32)))
      have sf11 := (sf0 : ∀ x ∈ [], Safe Z EL s.vm T10.heap x)
      obtain ⟨_, T11, L11, ⟨rfl, N11q, e11⟩, X11, st11⟩ := cS X10 hx hZ (W := 0) hown (cw15 cx) (rm38 cx c10_0 (z14.toInt8.toInt32) c10_1 k10_2 O10 q10_1 q10_3 q10_2 q10_0 hd7) (rfl : T10.heap = T10.heap) (g := (mkF m 53 #[sI i0, sI i1, sI i2, sI i3, sI i4, sI x5, sR b1, sR c10_0, sU, sU, sU] [(vR c10_0)])) rfl hml rfl (rest := []) rfl rfl rfl rfl (hb hby at_53) (by decide)
      have f12 : Arv Z T10.heap b1 k1 .char (4 : Int32) [(vI z14), (vI z21), (vI z28), (vI z36)] (vI 0) := (V9.keep Kq10 nin0)
      have sf13 := (sf0 : ∀ x ∈ [], Safe Z EL s.vm T10.heap x)
      obtain ⟨_, T13, L13, ⟨rfl, N13q, e13⟩, X13, st13⟩ := cV X11 hx hZ (W := 0) hown (cw16 cx) (rm23 cx c10_0 c10_1 (z14.toInt8.toInt32) k10_2 O10 q10_1 q10_3 q10_2 q10_0) e11 q10_0 (g := (mkF m 148 #[sI i0, sI i1, sI i2, sI i3, sI i4, sI x5, sR b1, sR c10_0, sR c10_0, sI (-1), sI 1] [(vR c10_0)])) rfl hml rfl (rest := []) rfl rfl rfl rfl (hb hby at_148) (by decide)
      have sf14 := (sf0 : ∀ x ∈ [], Safe Z EL s.vm T10.heap x)
      obtain ⟨_, T14, L14, ⟨rfl, N14q, e14⟩, X14, st14⟩ := cV X13 hx hZ (W := 0) hown (cw24 cx) (rm42 cx c10_0 c10_1 (z14.toInt8.toInt32) k10_2 O10 q10_2 q10_0 q10_1 q10_3) e13 q10_0 (g := (mkF m 166 #[sI i0, sI i1, sI i2, sI i3, sI i4, sI x5, sR b1, sR c10_0, sR c10_0, sI (-1), sI 1] [(vI 0), (vR c10_0)])) rfl hml rfl (rest := []) rfl rfl rfl rfl (hb hby at_166) (by decide)
      have hd8 : ((z14.toInt8.toInt32) &&& (255 : Int32)) = z14 := (by rw [show ((z14.toInt8.toInt32) &&& (255 : Int32)) = z14 from own_b255 hz2_0 hz2_1] : ((z14.toInt8.toInt32) &&& (255 : Int32)) = z14)
      refine own_endW X14 hlk (v := some (vI 1)) (own_hv hret) hS0 (Nat.le_trans (Nat.le_refl _) (Nat.le_trans (Nat.le_trans (Nat.le_trans (Nat.le_trans (Nat.le_trans E1.1 (Nat.le_of_eq W3.size.symm)) (Nat.le_of_eq W5.size.symm)) (Nat.le_of_eq W7.size.symm)) (Nat.le_of_eq W9.size.symm)) Kq10.1)) (by decide) hh e14 C10 hZ (own_EW hw hj) ⟨rfl, (Fr.app (Fr.app (Fr.app N10 N11q) N13q) N14q)⟩ fun fs hr => pre2 _ ?_
      refine st10 _ ?_
      show St p e below T10 (mkF m 49 #[sI i0, sI i1, sI i2, sI i3, sI i4, sI x5, sR b1, sU, sU, sU, sU] [(vR c10_0)]) _
      refine waS X10 hx hby rfl at_49 rfl rfl (l' := #[sI i0, sI i1, sI i2, sI i3, sI i4, sI x5, sR b1, sR c10_0, sU, sU, sU]) rfl ?_
      refine waL X10 hx hby rfl at_51 rfl rfl ?_
      refine st11 _ ?_
      refine waS X11 hx hby rfl at_56 rfl rfl (l' := #[sI i0, sI i1, sI i2, sI i3, sI i4, sI x5, sR b1, sR c10_0, sR c10_0, sU, sU]) rfl ?_
      refine wic X11 hx hby rfl at_58 ?_
      refine wiS X11 hx hby rfl at_59 rfl (l' := #[sI i0, sI i1, sI i2, sI i3, sI i4, sI x5, sR b1, sR c10_0, sR c10_0, sI (-1), sU]) rfl ?_
      refine Own.iload X11.here hx rfl (hb hby at_61) rfl hp0 ?_
      refine wfn X11 hx hby rfl at_63 rfl ((if0 _ _).trans (tlt (by decide : (0 : Int32) < (1 : Int32))).2.2.2) ?_
      refine waL X11 hx hby rfl at_66 rfl rfl ?_
      refine wic X11 hx hby rfl at_68 ?_
      refine own_caload X11 hx hZ e11 f12 (j := 0) (by decide) (v := (vI z14)) rfl (g := (mkF m 69 #[sI i0, sI i1, sI i2, sI i3, sI i4, sI x5, sR b1, sR c10_0, sR c10_0, sI (-1), sU] [(vI 0), (vR b1)])) rfl rfl (hb hby at_69) ?_
      refine wbp X11 hx hby rfl at_70 ?_
      refine wcy X11 hx hby rfl (pc0 := 72) (pc' := 78) rfl at_72 rfl (feq hp1).2 (by decide) (by decide) ?_
      show St p e below T11 (mkF m 78 #[sI i0, sI i1, sI i2, sI i3, sI i4, sI x5, sR b1, sR c10_0, sR c10_0, sI (-1), sU] []) _
      refine Own.iload X11.here hx rfl (hb hby at_78) rfl hp0 ?_
      refine wic X11 hx hby rfl at_80 ?_
      refine wcy X11 hx hby rfl (pc0 := 81) (pc' := 96) rfl at_81 rfl (flt (by decide : ¬ ((1 : Int32) < (1 : Int32)))).2.2.2 (by decide) (by decide) ?_
      show St p e below T11 (mkF m 96 #[sI i0, sI i1, sI i2, sI i3, sI i4, sI x5, sR b1, sR c10_0, sR c10_0, sI (-1), sU] []) _
      refine Own.iload X11.here hx rfl (hb hby at_96) rfl hp0 ?_
      refine wic X11 hx hby rfl at_98 ?_
      refine wcy X11 hx hby rfl (pc0 := 99) (pc' := 114) rfl at_99 rfl (flt (by decide : ¬ ((2 : Int32) < (1 : Int32)))).2.2.2 (by decide) (by decide) ?_
      show St p e below T11 (mkF m 114 #[sI i0, sI i1, sI i2, sI i3, sI i4, sI x5, sR b1, sR c10_0, sR c10_0, sI (-1), sU] []) _
      refine Own.iload X11.here hx rfl (hb hby at_114) rfl hp0 ?_
      refine wic X11 hx hby rfl at_116 ?_
      refine wcy X11 hx hby rfl (pc0 := 117) (pc' := 132) rfl at_117 rfl (flt (by decide : ¬ ((3 : Int32) < (1 : Int32)))).2.2.2 (by decide) (by decide) ?_
      show St p e below T11 (mkF m 132 #[sI i0, sI i1, sI i2, sI i3, sI i4, sI x5, sR b1, sR c10_0, sR c10_0, sI (-1), sU] []) _
      refine Own.iload X11.here hx rfl (hb hby at_132) rfl hp0 ?_
      refine wiL X11 hx hby rfl at_134 rfl ?_
      refine Own.isub X11.here hx rfl (hb hby at_136) rfl (by decide : ((1 : Int32) - (-1 : Int32)) = (2 : Int32)) ?_
      refine wic X11 hx hby rfl at_137 ?_
      refine Own.isub X11.here hx rfl (hb hby at_138) rfl (by decide : ((2 : Int32) - (1 : Int32)) = (1 : Int32)) ?_
      refine wiS X11 hx hby rfl at_139 rfl (l' := #[sI i0, sI i1, sI i2, sI i3, sI i4, sI x5, sR b1, sR c10_0, sR c10_0, sI (-1), sI 1]) rfl ?_
      refine waL X11 hx hby rfl at_141 rfl rfl ?_
      refine wnn X11 hx hby rfl at_143 rfl ?_
      refine waL X11 hx hby rfl at_146 rfl rfl ?_
      refine st13 _ ?_
      refine wiL X13 hx hby rfl at_151 rfl ?_
      refine wcy X13 hx hby rfl (pc0 := 153) (pc' := 158) rfl at_153 rfl (teq (by decide : (1 : Int32) = (1 : Int32))).1 (by decide) (by decide) ?_
      show St p e below T13 (mkF m 158 #[sI i0, sI i1, sI i2, sI i3, sI i4, sI x5, sR b1, sR c10_0, sR c10_0, sI (-1), sI 1] []) _
      refine wiL X13 hx hby rfl at_158 rfl ?_
      refine wfn X13 hx hby rfl at_160 rfl ((if0 _ _).trans (tlt (by decide : (0 : Int32) < (1 : Int32))).2.2.2) ?_
      refine waL X13 hx hby rfl at_163 rfl rfl ?_
      refine wic X13 hx hby rfl at_165 ?_
      refine st14 _ ?_
      refine waL X14 hx hby rfl at_169 rfl rfl ?_
      refine wiL X14 hx hby rfl at_171 rfl ?_
      refine wic X14 hx hby rfl at_173 ?_
      refine Own.iadd X14.here hx rfl (hb hby at_174) rfl (by decide : ((-1 : Int32) + (1 : Int32)) = (0 : Int32)) ?_
      refine own_caload X14 hx hZ e14 f12 (j := 0) (by decide) (v := (vI z14)) rfl (g := (mkF m 175 #[sI i0, sI i1, sI i2, sI i3, sI i4, sI x5, sR b1, sR c10_0, sR c10_0, sI (-1), sI 1] [(vI 0), (vR b1), (vI ((z14.toInt8.toInt32) &&& (255 : Int32)))])) rfl rfl (hb hby at_175) ?_
      refine wcy X14 hx hby rfl (pc0 := 176) (pc' := 181) rfl at_176 rfl (teq hd8).1 (by decide) (by decide) ?_
      show St p e below T14 (mkF m 181 #[sI i0, sI i1, sI i2, sI i3, sI i4, sI x5, sR b1, sR c10_0, sR c10_0, sI (-1), sI 1] []) _
      refine wiL X14 hx hby rfl at_181 rfl ?_
      refine wic X14 hx hby rfl at_183 ?_
      refine wcy X14 hx hby rfl (pc0 := 184) (pc' := 205) rfl at_184 rfl (flt (by decide : ¬ ((1 : Int32) < (1 : Int32)))).2.2.2 (by decide) (by decide) ?_
      show St p e below T14 (mkF m 205 #[sI i0, sI i1, sI i2, sI i3, sI i4, sI x5, sR b1, sR c10_0, sR c10_0, sI (-1), sI 1] []) _
      refine wiL X14 hx hby rfl at_205 rfl ?_
      refine wic X14 hx hby rfl at_207 ?_
      refine wcy X14 hx hby rfl (pc0 := 208) (pc' := 229) rfl at_208 rfl (flt (by decide : ¬ ((2 : Int32) < (1 : Int32)))).2.2.2 (by decide) (by decide) ?_
      show St p e below T14 (mkF m 229 #[sI i0, sI i1, sI i2, sI i3, sI i4, sI x5, sR b1, sR c10_0, sR c10_0, sI (-1), sI 1] []) _
      refine wiL X14 hx hby rfl at_229 rfl ?_
      refine wic X14 hx hby rfl at_231 ?_
      refine wcy X14 hx hby rfl (pc0 := 232) (pc' := 253) rfl at_232 rfl (flt (by decide : ¬ ((3 : Int32) < (1 : Int32)))).2.2.2 (by decide) (by decide) ?_
      show St p e below T14 (mkF m 253 #[sI i0, sI i1, sI i2, sI i3, sI i4, sI x5, sR b1, sR c10_0, sR c10_0, sI (-1), sI 1] []) _
      refine wic X14 hx hby rfl at_253 ?_
      exact retN X14 hx (t := .boolean) hret (by simp) (hb hby at_254) hr
  · have pre2 : ∀ t, St p e below T9 (mkF m 46 #[sI i0, sI i1, sI i2, sI i3, sI i4, sI x5, sR b1, sU, sU, sU, sU] [(vR b1), (vI 2)]) t → St p e below s₁ g0 t := fun t kt => pre1 _ (by
        refine Own.iload X9.here hx rfl (hb hby at_42) rfl hp0 ?_
        refine waL X9 hx hby rfl at_44 rfl rfl ?_
        exact kt)
    rcases Decidable.em (z21 = (58 : Int32)) with hp1 | hp1
    · have sf10 := (sf0 : ∀ x ∈ [], Safe Z EL s.vm h9 x)
      obtain ⟨_, T10, L10, ⟨c10_0, c10_1, k10_2, rfl, N10q, Kq10, lo10_0, lo10_1, q10_0, q10_1, q10_2, q10_3⟩, X10, st10⟩ := cS X9 hx hZ (W := 0) hown (cw2 cx) (rm48 cx b1 z14 z21 z28 z36 k1 O9 V9 hz2_0 hd0 hz4_0 hd1 hz2_1 hz4_1) e9 (g := (mkF m 46 #[sI i0, sI i1, sI i2, sI i3, sI i4, sI x5, sR b1, sU, sU, sU, sU] [(vR b1), (vI 2)])) rfl hml rfl (rest := []) rfl rfl rfl rfl (hb hby at_46) (by decide)
      have N10 := Fr.app N9 N10q
      have C10 := C9.trans (CHr.keep Kq10 sf10 C9.1)
      have O10 : Old Z n0 T10.heap := O9.keep Kq10 all0
      have K10 : Keep h0 T10.heap [] := K9.trans Kq10 all0
      have hd9 : ¬ (z21 < (-128 : Int32)) := (by have q0 := own_rg hz4_0 hz4_1 (l := 0) (h := 255) (by decide); have q1 := (by decide : ((-128 : Int32)).toInt = -128); exact own_ltF (by omega) : ¬ (z21 < (-128 : Int32)))
      have hd10 : ¬ ((127 : Int32) < z21) := (by have q0 := (by decide : ((127 : Int32)).toInt = 127); have q1 := own_rg hz4_0 hz4_1 (l := 0) (h := 255) (by decide); have q2 := (by decide : ((58 : Int32)).toInt = 58); have q3 := own_eqT' hp1; have q4 := (by decide : ((0 : Int32)).toInt = 0); have q5 := own_ltF' hz4_0; have q6 := (by decide : ((255 : Int32)).toInt = 255); have q7 := own_ltF' hz4_1; exact own_ltF (by omega) : ¬ ((127 : Int32) < z21))
      have hd11 : (z21.toInt8.toInt32) = (58 : Int32) := (by rw [show (z21.toInt8.toInt32) = z21 from own_i2b hd9 hd10]; exact hp1 : (z21.toInt8.toInt32) = (58 : Int32))
      obtain ⟨_, T11, L11, ⟨c11_0, c11_1, k11_2, rfl, N11q, Kq11, q11_0, q11_1, q11_2, q11_3⟩, hS11, hZ11, hown11, Cq11, X11, st11⟩ := cSW X10 hx hZ (W := 0) hown (cw15 cx) (rm56 cx c10_0 (z14.toInt8.toInt32) (z21.toInt8.toInt32) c10_1 k10_2 O10 q10_1 q10_3 q10_2 q10_0 hd11) (rfl : T10.heap = T10.heap) hS0 (Nat.le_trans (Nat.le_refl _) (Nat.le_trans (Nat.le_trans (Nat.le_trans (Nat.le_trans (Nat.le_trans E1.1 (Nat.le_of_eq W3.size.symm)) (Nat.le_of_eq W5.size.symm)) (Nat.le_of_eq W7.size.symm)) (Nat.le_of_eq W9.size.symm)) Kq10.1)) (own_EW hw hj) C10.1 own_sx0 (g := (mkF m 53 #[sI i0, sI i1, sI i2, sI i3, sI i4, sI x5, sR b1, sR c10_0, sU, sU, sU] [(vR c10_0)])) rfl hml rfl (rest := []) rfl rfl rfl rfl (hb hby at_53) (by decide)
      have N11 := Fr.app N10 N11q
      have C11 := C10.trans Cq11
      have O11 : Old Z n0 T11.heap := O10.keep Kq11 all0
      have K11 : Keep h0 T11.heap [] := K10.trans Kq11 all0
      have f12 : Arv Z T11.heap b1 k1 .char (4 : Int32) [(vI z14), (vI z21), (vI z28), (vI z36)] (vI 0) := ((V9.keep Kq10 nin0).keep Kq11 nin0)
      have suf1 : EndW EL Z p e s below room_1 (QL n0) (T11.setTop (mkF m 96 #[sI i0, sI i1, sI i2, sI i3, sI i4, sI x5, sR b1, sR c10_0, sR c11_0, sI 1, sU] [])) := by
        have sf13 := (sf0 : ∀ x ∈ [], Safe Z EL T11.vm T11.heap x)
        obtain ⟨_, T13, L13, ⟨rfl, N13q, e13⟩, X13, st13⟩ := cV X11 hx hZ11 (W := 0) hown11 (cw16 cx) (rm5 cx c11_0 c11_1 k11_2 O11 q11_2 q11_3 q11_1 q11_0) (rfl : T11.heap = T11.heap) q11_0 (g := (mkF m 148 #[sI i0, sI i1, sI i2, sI i3, sI i4, sI x5, sR b1, sR c10_0, sR c11_0, sI 1, sI 0] [(vR c11_0)])) rfl hml rfl (rest := []) rfl rfl rfl rfl (hb hby at_148) (by decide)
        refine own_endW X13 hlk (v := some (vI 1)) (own_hv hret) hS11 (Nat.le_refl _) (by decide) hh e13 C11 hZ11 (own_EW hw hj) ⟨rfl, (Fr.app N11 N13q)⟩ fun fs hr => ?_
        show St p e below T11 (mkF m 96 #[sI i0, sI i1, sI i2, sI i3, sI i4, sI x5, sR b1, sR c10_0, sR c11_0, sI 1, sU] []) _
        refine Own.iload X11.here hx rfl (hb hby at_96) rfl hp0 ?_
        refine wic X11 hx hby rfl at_98 ?_
        refine wcy X11 hx hby rfl (pc0 := 99) (pc' := 114) rfl at_99 rfl (flt (by decide : ¬ ((2 : Int32) < (2 : Int32)))).2.2.2 (by decide) (by decide) ?_
        show St p e below T11 (mkF m 114 #[sI i0, sI i1, sI i2, sI i3, sI i4, sI x5, sR b1, sR c10_0, sR c11_0, sI 1, sU] []) _
        refine Own.iload X11.here hx rfl (hb hby at_114) rfl hp0 ?_
        refine wic X11 hx hby rfl at_116 ?_
        refine wcy X11 hx hby rfl (pc0 := 117) (pc' := 132) rfl at_117 rfl (flt (by decide : ¬ ((3 : Int32) < (2 : Int32)))).2.2.2 (by decide) (by decide) ?_
        show St p e below T11 (mkF m 132 #[sI i0, sI i1, sI i2, sI i3, sI i4, sI x5, sR b1, sR c10_0, sR c11_0, sI 1, sU] []) _
        refine Own.iload X11.here hx rfl (hb hby at_132) rfl hp0 ?_
        refine wiL X11 hx hby rfl at_134 rfl ?_
        refine Own.isub X11.here hx rfl (hb hby at_136) rfl (by decide : ((2 : Int32) - (1 : Int32)) = (1 : Int32)) ?_
        refine wic X11 hx hby rfl at_137 ?_
        refine Own.isub X11.here hx rfl (hb hby at_138) rfl (by decide : ((1 : Int32) - (1 : Int32)) = (0 : Int32)) ?_
        refine wiS X11 hx hby rfl at_139 rfl (l' := #[sI i0, sI i1, sI i2, sI i3, sI i4, sI x5, sR b1, sR c10_0, sR c11_0, sI 1, sI 0]) rfl ?_
        refine waL X11 hx hby rfl at_141 rfl rfl ?_
        refine wnn X11 hx hby rfl at_143 rfl ?_
        refine waL X11 hx hby rfl at_146 rfl rfl ?_
        refine st13 _ ?_
        refine wiL X13 hx hby rfl at_151 rfl ?_
        refine wcy X13 hx hby rfl (pc0 := 153) (pc' := 158) rfl at_153 rfl (teq (by decide : (0 : Int32) = (0 : Int32))).1 (by decide) (by decide) ?_
        show St p e below T13 (mkF m 158 #[sI i0, sI i1, sI i2, sI i3, sI i4, sI x5, sR b1, sR c10_0, sR c11_0, sI 1, sI 0] []) _
        refine wiL X13 hx hby rfl at_158 rfl ?_
        refine wfy X13 hx hby rfl (pc0 := 160) (pc' := 181) rfl at_160 rfl ((if0 _ _).trans (flt (by decide : ¬ ((0 : Int32) < (0 : Int32)))).2.2.2) (by decide) (by decide) ?_
        show St p e below T13 (mkF m 181 #[sI i0, sI i1, sI i2, sI i3, sI i4, sI x5, sR b1, sR c10_0, sR c11_0, sI 1, sI 0] []) _
        refine wiL X13 hx hby rfl at_181 rfl ?_
        refine wic X13 hx hby rfl at_183 ?_
        refine wcy X13 hx hby rfl (pc0 := 184) (pc' := 205) rfl at_184 rfl (flt (by decide : ¬ ((1 : Int32) < (0 : Int32)))).2.2.2 (by decide) (by decide) ?_
        show St p e below T13 (mkF m 205 #[sI i0, sI i1, sI i2, sI i3, sI i4, sI x5, sR b1, sR c10_0, sR c11_0, sI 1, sI 0] []) _
        refine wiL X13 hx hby rfl at_205 rfl ?_
        refine wic X13 hx hby rfl at_207 ?_
        refine wcy X13 hx hby rfl (pc0 := 208) (pc' := 229) rfl at_208 rfl (flt (by decide : ¬ ((2 : Int32) < (0 : Int32)))).2.2.2 (by decide) (by decide) ?_
        show St p e below T13 (mkF m 229 #[sI i0, sI i1, sI i2, sI i3, sI i4, sI x5, sR b1, sR c10_0, sR c11_0, sI 1, sI 0] []) _
        refine wiL X13 hx hby rfl at_229 rfl ?_
        refine wic X13 hx hby rfl at_231 ?_
        refine wcy X13 hx hby rfl (pc0 := 232) (pc' := 253) rfl at_232 rfl (flt (by decide : ¬ ((3 : Int32) < (0 : Int32)))).2.2.2 (by decide) (by decide) ?_
        show St p e below T13 (mkF m 253 #[sI i0, sI i1, sI i2, sI i3, sI i4, sI x5, sR b1, sR c10_0, sR c11_0, sI 1, sI 0] []) _
        refine wic X13 hx hby rfl at_253 ?_
        exact retN X13 hx (t := .boolean) hret (by simp) (hb hby at_254) hr
      rcases Decidable.em (z14 = (58 : Int32)) with hp2 | hp2
      · refine own_via (fun t kt => pre2 _ ?_) suf1
        refine st10 _ ?_
        show St p e below T10 (mkF m 49 #[sI i0, sI i1, sI i2, sI i3, sI i4, sI x5, sR b1, sU, sU, sU, sU] [(vR c10_0)]) _
        refine waS X10 hx hby rfl at_49 rfl rfl (l' := #[sI i0, sI i1, sI i2, sI i3, sI i4, sI x5, sR b1, sR c10_0, sU, sU, sU]) rfl ?_
        refine waL X10 hx hby rfl at_51 rfl rfl ?_
        refine st11 _ ?_
        refine waS X11 hx hby rfl at_56 rfl rfl (l' := #[sI i0, sI i1, sI i2, sI i3, sI i4, sI x5, sR b1, sR c10_0, sR c11_0, sU, sU]) rfl ?_
        refine wic X11 hx hby rfl at_58 ?_
        refine wiS X11 hx hby rfl at_59 rfl (l' := #[sI i0, sI i1, sI i2, sI i3, sI i4, sI x5, sR b1, sR c10_0, sR c11_0, sI (-1), sU]) rfl ?_
        refine Own.iload X11.here hx rfl (hb hby at_61) rfl hp0 ?_
        refine wfn X11 hx hby rfl at_63 rfl ((if0 _ _).trans (tlt (by decide : (0 : Int32) < (2 : Int32))).2.2.2) ?_
        refine waL X11 hx hby rfl at_66 rfl rfl ?_
        refine wic X11 hx hby rfl at_68 ?_
        refine own_caload X11 hx hZ11 (rfl : T11.heap = T11.heap) f12 (j := 0) (by decide) (v := (vI z14)) rfl (g := (mkF m 69 #[sI i0, sI i1, sI i2, sI i3, sI i4, sI x5, sR b1, sR c10_0, sR c11_0, sI (-1), sU] [(vI 0), (vR b1)])) rfl rfl (hb hby at_69) ?_
        refine wbp X11 hx hby rfl at_70 ?_
        refine wcn X11 hx hby rfl at_72 rfl (teq hp2).2 ?_
        refine wic X11 hx hby rfl at_75 ?_
        refine wiS X11 hx hby rfl at_76 rfl (l' := #[sI i0, sI i1, sI i2, sI i3, sI i4, sI x5, sR b1, sR c10_0, sR c11_0, sI 0, sU]) rfl ?_
        show St p e below T11 (mkF m 78 #[sI i0, sI i1, sI i2, sI i3, sI i4, sI x5, sR b1, sR c10_0, sR c11_0, sI 0, sU] []) _
        refine Own.iload X11.here hx rfl (hb hby at_78) rfl hp0 ?_
        refine wic X11 hx hby rfl at_80 ?_
        refine wcn X11 hx hby rfl at_81 rfl (tlt (by decide : (1 : Int32) < (2 : Int32))).2.2.2 ?_
        refine waL X11 hx hby rfl at_84 rfl rfl ?_
        refine wic X11 hx hby rfl at_86 ?_
        refine own_caload X11 hx hZ11 (rfl : T11.heap = T11.heap) f12 (j := 1) (by decide) (v := (vI z21)) rfl (g := (mkF m 87 #[sI i0, sI i1, sI i2, sI i3, sI i4, sI x5, sR b1, sR c10_0, sR c11_0, sI 0, sU] [(vI 1), (vR b1)])) rfl rfl (hb hby at_87) ?_
        refine wbp X11 hx hby rfl at_88 ?_
        refine wcn X11 hx hby rfl at_90 rfl (teq hp1).2 ?_
        refine wic X11 hx hby rfl at_93 ?_
        refine wiS X11 hx hby rfl at_94 rfl (l' := #[sI i0, sI i1, sI i2, sI i3, sI i4, sI x5, sR b1, sR c10_0, sR c11_0, sI 1, sU]) rfl ?_
        exact kt
      · refine own_via (fun t kt => pre2 _ ?_) suf1
        refine st10 _ ?_
        show St p e below T10 (mkF m 49 #[sI i0, sI i1, sI i2, sI i3, sI i4, sI x5, sR b1, sU, sU, sU, sU] [(vR c10_0)]) _
        refine waS X10 hx hby rfl at_49 rfl rfl (l' := #[sI i0, sI i1, sI i2, sI i3, sI i4, sI x5, sR b1, sR c10_0, sU, sU, sU]) rfl ?_
        refine waL X10 hx hby rfl at_51 rfl rfl ?_
        refine st11 _ ?_
        refine waS X11 hx hby rfl at_56 rfl rfl (l' := #[sI i0, sI i1, sI i2, sI i3, sI i4, sI x5, sR b1, sR c10_0, sR c11_0, sU, sU]) rfl ?_
        refine wic X11 hx hby rfl at_58 ?_
        refine wiS X11 hx hby rfl at_59 rfl (l' := #[sI i0, sI i1, sI i2, sI i3, sI i4, sI x5, sR b1, sR c10_0, sR c11_0, sI (-1), sU]) rfl ?_
        refine Own.iload X11.here hx rfl (hb hby at_61) rfl hp0 ?_
        refine wfn X11 hx hby rfl at_63 rfl ((if0 _ _).trans (tlt (by decide : (0 : Int32) < (2 : Int32))).2.2.2) ?_
        refine waL X11 hx hby rfl at_66 rfl rfl ?_
        refine wic X11 hx hby rfl at_68 ?_
        refine own_caload X11 hx hZ11 (rfl : T11.heap = T11.heap) f12 (j := 0) (by decide) (v := (vI z14)) rfl (g := (mkF m 69 #[sI i0, sI i1, sI i2, sI i3, sI i4, sI x5, sR b1, sR c10_0, sR c11_0, sI (-1), sU] [(vI 0), (vR b1)])) rfl rfl (hb hby at_69) ?_
        refine wbp X11 hx hby rfl at_70 ?_
        refine wcy X11 hx hby rfl (pc0 := 72) (pc' := 78) rfl at_72 rfl (feq hp2).2 (by decide) (by decide) ?_
        show St p e below T11 (mkF m 78 #[sI i0, sI i1, sI i2, sI i3, sI i4, sI x5, sR b1, sR c10_0, sR c11_0, sI (-1), sU] []) _
        refine Own.iload X11.here hx rfl (hb hby at_78) rfl hp0 ?_
        refine wic X11 hx hby rfl at_80 ?_
        refine wcn X11 hx hby rfl at_81 rfl (tlt (by decide : (1 : Int32) < (2 : Int32))).2.2.2 ?_
        refine waL X11 hx hby rfl at_84 rfl rfl ?_
        refine wic X11 hx hby rfl at_86 ?_
        refine own_caload X11 hx hZ11 (rfl : T11.heap = T11.heap) f12 (j := 1) (by decide) (v := (vI z21)) rfl (g := (mkF m 87 #[sI i0, sI i1, sI i2, sI i3, sI i4, sI x5, sR b1, sR c10_0, sR c11_0, sI (-1), sU] [(vI 1), (vR b1)])) rfl rfl (hb hby at_87) ?_
        refine wbp X11 hx hby rfl at_88 ?_
        refine wcn X11 hx hby rfl at_90 rfl (teq hp1).2 ?_
        refine wic X11 hx hby rfl at_93 ?_
        refine wiS X11 hx hby rfl at_94 rfl (l' := #[sI i0, sI i1, sI i2, sI i3, sI i4, sI x5, sR b1, sR c10_0, sR c11_0, sI 1, sU]) rfl ?_
        exact kt
    · rcases Decidable.em (z14 = (58 : Int32)) with hp2 | hp2
      · have sf10 := (sf0 : ∀ x ∈ [], Safe Z EL s.vm h9 x)
        obtain ⟨_, T10, L10, ⟨c10_0, c10_1, k10_2, rfl, N10q, Kq10, lo10_0, lo10_1, q10_0, q10_1, q10_2, q10_3⟩, X10, st10⟩ := cS X9 hx hZ (W := 0) hown (cw2 cx) (rm48 cx b1 z14 z21 z28 z36 k1 O9 V9 hz2_0 hd0 hz4_0 hd1 hz2_1 hz4_1) e9 (g := (mkF m 46 #[sI i0, sI i1, sI i2, sI i3, sI i4, sI x5, sR b1, sU, sU, sU, sU] [(vR b1), (vI 2)])) rfl hml rfl (rest := []) rfl rfl rfl rfl (hb hby at_46) (by decide)
        have N10 := Fr.app N9 N10q
        have C10 := C9.trans (CHr.keep Kq10 sf10 C9.1)
        have O10 : Old Z n0 T10.heap := O9.keep Kq10 all0
        have K10 : Keep h0 T10.heap [] := K9.trans Kq10 all0
        have hd12 : ¬ ((z21.toInt8.toInt32) = (58 : Int32)) := ((fun q => hp1 ((own_blit hz4_0 hz4_1 (by decide)).mp q)) : ¬ ((z21.toInt8.toInt32) = (58 : Int32)))
        have hd4 : ¬ (z14 < (-128 : Int32)) := (by have q0 := own_rg hz2_0 hz2_1 (l := 0) (h := 255) (by decide); have q1 := (by decide : ((-128 : Int32)).toInt = -128); exact own_ltF (by omega) : ¬ (z14 < (-128 : Int32)))
        have hd5 : ¬ ((127 : Int32) < z14) := (by have q0 := (by decide : ((127 : Int32)).toInt = 127); have q1 := own_rg hz2_0 hz2_1 (l := 0) (h := 255) (by decide); have q2 := (by decide : ((58 : Int32)).toInt = 58); have q3 := own_eqT' hp2; have q4 := (by decide : ((0 : Int32)).toInt = 0); have q5 := own_ltF' hz2_0; have q6 := (by decide : ((255 : Int32)).toInt = 255); have q7 := own_ltF' hz2_1; exact own_ltF (by omega) : ¬ ((127 : Int32) < z14))
        have hd6 : (z14.toInt8.toInt32) = (58 : Int32) := (by rw [show (z14.toInt8.toInt32) = z14 from own_i2b hd4 hd5]; exact hp2 : (z14.toInt8.toInt32) = (58 : Int32))
        have sf11 := (sf0 : ∀ x ∈ [], Safe Z EL s.vm T10.heap x)
        obtain ⟨_, T11, L11, ⟨c11_0, c11_1, k11_2, rfl, N11q, Kq11, lo11_0, lo11_1, q11_0, q11_1, q11_2, q11_3⟩, X11, st11⟩ := cS X10 hx hZ (W := 0) hown (cw15 cx) (rm67 cx c10_0 (z14.toInt8.toInt32) (z21.toInt8.toInt32) c10_1 k10_2 O10 q10_1 q10_3 q10_2 q10_0 hd12 hd6) (rfl : T10.heap = T10.heap) (g := (mkF m 53 #[sI i0, sI i1, sI i2, sI i3, sI i4, sI x5, sR b1, sR c10_0, sU, sU, sU] [(vR c10_0)])) rfl hml rfl (rest := []) rfl rfl rfl rfl (hb hby at_53) (by decide)
        have N11 := Fr.app N10 N11q
        have C11 := C10.trans (CHr.keep Kq11 sf11 C10.1)
        have O11 : Old Z n0 T11.heap := O10.keep Kq11 all0
        have K11 : Keep h0 T11.heap [] := K10.trans Kq11 all0
        have f12 : Arv Z T11.heap b1 k1 .char (4 : Int32) [(vI z14), (vI z21), (vI z28), (vI z36)] (vI 0) := ((V9.keep Kq10 nin0).keep Kq11 nin0)
        have sf13 := (sf0 : ∀ x ∈ [], Safe Z EL s.vm T11.heap x)
        obtain ⟨_, T13, L13, ⟨rfl, N13q, e13⟩, X13, st13⟩ := cV X11 hx hZ (W := 0) hown (cw16 cx) (rm23 cx c11_0 c11_1 (z21.toInt8.toInt32) k11_2 O11 q11_1 q11_3 q11_2 q11_0) (rfl : T11.heap = T11.heap) q11_0 (g := (mkF m 148 #[sI i0, sI i1, sI i2, sI i3, sI i4, sI x5, sR b1, sR c10_0, sR c11_0, sI 0, sI 1] [(vR c11_0)])) rfl hml rfl (rest := []) rfl rfl rfl rfl (hb hby at_148) (by decide)
        have sf14 := (sf0 : ∀ x ∈ [], Safe Z EL s.vm T11.heap x)
        obtain ⟨_, T14, L14, ⟨rfl, N14q, e14⟩, X14, st14⟩ := cV X13 hx hZ (W := 0) hown (cw24 cx) (rm42 cx c11_0 c11_1 (z21.toInt8.toInt32) k11_2 O11 q11_2 q11_0 q11_1 q11_3) e13 q11_0 (g := (mkF m 166 #[sI i0, sI i1, sI i2, sI i3, sI i4, sI x5, sR b1, sR c10_0, sR c11_0, sI 0, sI 1] [(vI 0), (vR c11_0)])) rfl hml rfl (rest := []) rfl rfl rfl rfl (hb hby at_166) (by decide)
        have hd13 : ((z21.toInt8.toInt32) &&& (255 : Int32)) = z21 := (by rw [show ((z21.toInt8.toInt32) &&& (255 : Int32)) = z21 from own_b255 hz4_0 hz4_1] : ((z21.toInt8.toInt32) &&& (255 : Int32)) = z21)
        refine own_endW X14 hlk (v := some (vI 1)) (own_hv hret) hS0 (Nat.le_trans (Nat.le_refl _) (Nat.le_trans (Nat.le_trans (Nat.le_trans (Nat.le_trans (Nat.le_trans (Nat.le_trans E1.1 (Nat.le_of_eq W3.size.symm)) (Nat.le_of_eq W5.size.symm)) (Nat.le_of_eq W7.size.symm)) (Nat.le_of_eq W9.size.symm)) Kq10.1) Kq11.1)) (by decide) hh e14 C11 hZ (own_EW hw hj) ⟨rfl, (Fr.app (Fr.app N11 N13q) N14q)⟩ fun fs hr => pre2 _ ?_
        refine st10 _ ?_
        show St p e below T10 (mkF m 49 #[sI i0, sI i1, sI i2, sI i3, sI i4, sI x5, sR b1, sU, sU, sU, sU] [(vR c10_0)]) _
        refine waS X10 hx hby rfl at_49 rfl rfl (l' := #[sI i0, sI i1, sI i2, sI i3, sI i4, sI x5, sR b1, sR c10_0, sU, sU, sU]) rfl ?_
        refine waL X10 hx hby rfl at_51 rfl rfl ?_
        refine st11 _ ?_
        refine waS X11 hx hby rfl at_56 rfl rfl (l' := #[sI i0, sI i1, sI i2, sI i3, sI i4, sI x5, sR b1, sR c10_0, sR c11_0, sU, sU]) rfl ?_
        refine wic X11 hx hby rfl at_58 ?_
        refine wiS X11 hx hby rfl at_59 rfl (l' := #[sI i0, sI i1, sI i2, sI i3, sI i4, sI x5, sR b1, sR c10_0, sR c11_0, sI (-1), sU]) rfl ?_
        refine Own.iload X11.here hx rfl (hb hby at_61) rfl hp0 ?_
        refine wfn X11 hx hby rfl at_63 rfl ((if0 _ _).trans (tlt (by decide : (0 : Int32) < (2 : Int32))).2.2.2) ?_
        refine waL X11 hx hby rfl at_66 rfl rfl ?_
        refine wic X11 hx hby rfl at_68 ?_
        refine own_caload X11 hx hZ (rfl : T11.heap = T11.heap) f12 (j := 0) (by decide) (v := (vI z14)) rfl (g := (mkF m 69 #[sI i0, sI i1, sI i2, sI i3, sI i4, sI x5, sR b1, sR c10_0, sR c11_0, sI (-1), sU] [(vI 0), (vR b1)])) rfl rfl (hb hby at_69) ?_
        refine wbp X11 hx hby rfl at_70 ?_
        refine wcn X11 hx hby rfl at_72 rfl (teq hp2).2 ?_
        refine wic X11 hx hby rfl at_75 ?_
        refine wiS X11 hx hby rfl at_76 rfl (l' := #[sI i0, sI i1, sI i2, sI i3, sI i4, sI x5, sR b1, sR c10_0, sR c11_0, sI 0, sU]) rfl ?_
        show St p e below T11 (mkF m 78 #[sI i0, sI i1, sI i2, sI i3, sI i4, sI x5, sR b1, sR c10_0, sR c11_0, sI 0, sU] []) _
        refine Own.iload X11.here hx rfl (hb hby at_78) rfl hp0 ?_
        refine wic X11 hx hby rfl at_80 ?_
        refine wcn X11 hx hby rfl at_81 rfl (tlt (by decide : (1 : Int32) < (2 : Int32))).2.2.2 ?_
        refine waL X11 hx hby rfl at_84 rfl rfl ?_
        refine wic X11 hx hby rfl at_86 ?_
        refine own_caload X11 hx hZ (rfl : T11.heap = T11.heap) f12 (j := 1) (by decide) (v := (vI z21)) rfl (g := (mkF m 87 #[sI i0, sI i1, sI i2, sI i3, sI i4, sI x5, sR b1, sR c10_0, sR c11_0, sI 0, sU] [(vI 1), (vR b1)])) rfl rfl (hb hby at_87) ?_
        refine wbp X11 hx hby rfl at_88 ?_
        refine wcy X11 hx hby rfl (pc0 := 90) (pc' := 96) rfl at_90 rfl (feq hp1).2 (by decide) (by decide) ?_
        show St p e below T11 (mkF m 96 #[sI i0, sI i1, sI i2, sI i3, sI i4, sI x5, sR b1, sR c10_0, sR c11_0, sI 0, sU] []) _
        refine Own.iload X11.here hx rfl (hb hby at_96) rfl hp0 ?_
        refine wic X11 hx hby rfl at_98 ?_
        refine wcy X11 hx hby rfl (pc0 := 99) (pc' := 114) rfl at_99 rfl (flt (by decide : ¬ ((2 : Int32) < (2 : Int32)))).2.2.2 (by decide) (by decide) ?_
        show St p e below T11 (mkF m 114 #[sI i0, sI i1, sI i2, sI i3, sI i4, sI x5, sR b1, sR c10_0, sR c11_0, sI 0, sU] []) _
        refine Own.iload X11.here hx rfl (hb hby at_114) rfl hp0 ?_
        refine wic X11 hx hby rfl at_116 ?_
        refine wcy X11 hx hby rfl (pc0 := 117) (pc' := 132) rfl at_117 rfl (flt (by decide : ¬ ((3 : Int32) < (2 : Int32)))).2.2.2 (by decide) (by decide) ?_
        show St p e below T11 (mkF m 132 #[sI i0, sI i1, sI i2, sI i3, sI i4, sI x5, sR b1, sR c10_0, sR c11_0, sI 0, sU] []) _
        refine Own.iload X11.here hx rfl (hb hby at_132) rfl hp0 ?_
        refine wiL X11 hx hby rfl at_134 rfl ?_
        refine Own.isub X11.here hx rfl (hb hby at_136) rfl (by decide : ((2 : Int32) - (0 : Int32)) = (2 : Int32)) ?_
        refine wic X11 hx hby rfl at_137 ?_
        refine Own.isub X11.here hx rfl (hb hby at_138) rfl (by decide : ((2 : Int32) - (1 : Int32)) = (1 : Int32)) ?_
        refine wiS X11 hx hby rfl at_139 rfl (l' := #[sI i0, sI i1, sI i2, sI i3, sI i4, sI x5, sR b1, sR c10_0, sR c11_0, sI 0, sI 1]) rfl ?_
        refine waL X11 hx hby rfl at_141 rfl rfl ?_
        refine wnn X11 hx hby rfl at_143 rfl ?_
        refine waL X11 hx hby rfl at_146 rfl rfl ?_
        refine st13 _ ?_
        refine wiL X13 hx hby rfl at_151 rfl ?_
        refine wcy X13 hx hby rfl (pc0 := 153) (pc' := 158) rfl at_153 rfl (teq (by decide : (1 : Int32) = (1 : Int32))).1 (by decide) (by decide) ?_
        show St p e below T13 (mkF m 158 #[sI i0, sI i1, sI i2, sI i3, sI i4, sI x5, sR b1, sR c10_0, sR c11_0, sI 0, sI 1] []) _
        refine wiL X13 hx hby rfl at_158 rfl ?_
        refine wfn X13 hx hby rfl at_160 rfl ((if0 _ _).trans (tlt (by decide : (0 : Int32) < (1 : Int32))).2.2.2) ?_
        refine waL X13 hx hby rfl at_163 rfl rfl ?_
        refine wic X13 hx hby rfl at_165 ?_
        refine st14 _ ?_
        refine waL X14 hx hby rfl at_169 rfl rfl ?_
        refine wiL X14 hx hby rfl at_171 rfl ?_
        refine wic X14 hx hby rfl at_173 ?_
        refine Own.iadd X14.here hx rfl (hb hby at_174) rfl (by decide : ((0 : Int32) + (1 : Int32)) = (1 : Int32)) ?_
        refine own_caload X14 hx hZ e14 f12 (j := 1) (by decide) (v := (vI z21)) rfl (g := (mkF m 175 #[sI i0, sI i1, sI i2, sI i3, sI i4, sI x5, sR b1, sR c10_0, sR c11_0, sI 0, sI 1] [(vI 1), (vR b1), (vI ((z21.toInt8.toInt32) &&& (255 : Int32)))])) rfl rfl (hb hby at_175) ?_
        refine wcy X14 hx hby rfl (pc0 := 176) (pc' := 181) rfl at_176 rfl (teq hd13).1 (by decide) (by decide) ?_
        show St p e below T14 (mkF m 181 #[sI i0, sI i1, sI i2, sI i3, sI i4, sI x5, sR b1, sR c10_0, sR c11_0, sI 0, sI 1] []) _
        refine wiL X14 hx hby rfl at_181 rfl ?_
        refine wic X14 hx hby rfl at_183 ?_
        refine wcy X14 hx hby rfl (pc0 := 184) (pc' := 205) rfl at_184 rfl (flt (by decide : ¬ ((1 : Int32) < (1 : Int32)))).2.2.2 (by decide) (by decide) ?_
        show St p e below T14 (mkF m 205 #[sI i0, sI i1, sI i2, sI i3, sI i4, sI x5, sR b1, sR c10_0, sR c11_0, sI 0, sI 1] []) _
        refine wiL X14 hx hby rfl at_205 rfl ?_
        refine wic X14 hx hby rfl at_207 ?_
        refine wcy X14 hx hby rfl (pc0 := 208) (pc' := 229) rfl at_208 rfl (flt (by decide : ¬ ((2 : Int32) < (1 : Int32)))).2.2.2 (by decide) (by decide) ?_
        show St p e below T14 (mkF m 229 #[sI i0, sI i1, sI i2, sI i3, sI i4, sI x5, sR b1, sR c10_0, sR c11_0, sI 0, sI 1] []) _
        refine wiL X14 hx hby rfl at_229 rfl ?_
        refine wic X14 hx hby rfl at_231 ?_
        refine wcy X14 hx hby rfl (pc0 := 232) (pc' := 253) rfl at_232 rfl (flt (by decide : ¬ ((3 : Int32) < (1 : Int32)))).2.2.2 (by decide) (by decide) ?_
        show St p e below T14 (mkF m 253 #[sI i0, sI i1, sI i2, sI i3, sI i4, sI x5, sR b1, sR c10_0, sR c11_0, sI 0, sI 1] []) _
        refine wic X14 hx hby rfl at_253 ?_
        exact retN X14 hx (t := .boolean) hret (by simp) (hb hby at_254) hr
      · have sf10 := (sf0 : ∀ x ∈ [], Safe Z EL s.vm h9 x)
        obtain ⟨_, T10, L10, ⟨c10_0, c10_1, k10_2, rfl, N10q, Kq10, lo10_0, lo10_1, q10_0, q10_1, q10_2, q10_3⟩, X10, st10⟩ := cS X9 hx hZ (W := 0) hown (cw2 cx) (rm48 cx b1 z14 z21 z28 z36 k1 O9 V9 hz2_0 hd0 hz4_0 hd1 hz2_1 hz4_1) e9 (g := (mkF m 46 #[sI i0, sI i1, sI i2, sI i3, sI i4, sI x5, sR b1, sU, sU, sU, sU] [(vR b1), (vI 2)])) rfl hml rfl (rest := []) rfl rfl rfl rfl (hb hby at_46) (by decide)
        have N10 := Fr.app N9 N10q
        have C10 := C9.trans (CHr.keep Kq10 sf10 C9.1)
        have O10 : Old Z n0 T10.heap := O9.keep Kq10 all0
        have K10 : Keep h0 T10.heap [] := K9.trans Kq10 all0
        have hd12 : ¬ ((z21.toInt8.toInt32) = (58 : Int32)) := ((fun q => hp1 ((own_blit hz4_0 hz4_1 (by decide)).mp q)) : ¬ ((z21.toInt8.toInt32) = (58 : Int32)))
        have hd7 : ¬ ((z14.toInt8.toInt32) = (58 : Int32)) := ((fun q => hp2 ((own_blit hz2_0 hz2_1 (by decide)).mp q)) : ¬ ((z14.toInt8.toInt32) = (58 : Int32)))
        have sf11 := (sf0 : ∀ x ∈ [], Safe Z EL s.vm T10.heap x)
        obtain ⟨_, T11, L11, ⟨rfl, N11q, e11⟩, X11, st11⟩ := cS X10 hx hZ (W := 0) hown (cw15 cx) (rm73 cx c10_0 (z14.toInt8.toInt32) (z21.toInt8.toInt32) c10_1 k10_2 O10 q10_1 q10_3 q10_2 q10_0 hd12 hd7) (rfl : T10.heap = T10.heap) (g := (mkF m 53 #[sI i0, sI i1, sI i2, sI i3, sI i4, sI x5, sR b1, sR c10_0, sU, sU, sU] [(vR c10_0)])) rfl hml rfl (rest := []) rfl rfl rfl rfl (hb hby at_53) (by decide)
        have f12 : Arv Z T10.heap b1 k1 .char (4 : Int32) [(vI z14), (vI z21), (vI z28), (vI z36)] (vI 0) := (V9.keep Kq10 nin0)
        have sf13 := (sf0 : ∀ x ∈ [], Safe Z EL s.vm T10.heap x)
        obtain ⟨_, T13, L13, ⟨rfl, N13q, e13⟩, X13, st13⟩ := cV X11 hx hZ (W := 0) hown (cw16 cx) (rm49 cx c10_0 c10_1 (z14.toInt8.toInt32) (z21.toInt8.toInt32) k10_2 O10 q10_1 q10_3 q10_2 q10_0) e11 q10_0 (g := (mkF m 148 #[sI i0, sI i1, sI i2, sI i3, sI i4, sI x5, sR b1, sR c10_0, sR c10_0, sI (-1), sI 2] [(vR c10_0)])) rfl hml rfl (rest := []) rfl rfl rfl rfl (hb hby at_148) (by decide)
        have sf14 := (sf0 : ∀ x ∈ [], Safe Z EL s.vm T10.heap x)
        obtain ⟨_, T14, L14, ⟨rfl, N14q, e14⟩, X14, st14⟩ := cV X13 hx hZ (W := 0) hown (cw24 cx) (rm75 cx c10_0 c10_1 (z14.toInt8.toInt32) (z21.toInt8.toInt32) k10_2 O10 q10_2 q10_0 q10_1 q10_3) e13 q10_0 (g := (mkF m 166 #[sI i0, sI i1, sI i2, sI i3, sI i4, sI x5, sR b1, sR c10_0, sR c10_0, sI (-1), sI 2] [(vI 0), (vR c10_0)])) rfl hml rfl (rest := []) rfl rfl rfl rfl (hb hby at_166) (by decide)
        have hd8 : ((z14.toInt8.toInt32) &&& (255 : Int32)) = z14 := (by rw [show ((z14.toInt8.toInt32) &&& (255 : Int32)) = z14 from own_b255 hz2_0 hz2_1] : ((z14.toInt8.toInt32) &&& (255 : Int32)) = z14)
        have sf15 := (sf0 : ∀ x ∈ [], Safe Z EL s.vm T10.heap x)
        obtain ⟨_, T15, L15, ⟨rfl, N15q, e15⟩, X15, st15⟩ := cV X14 hx hZ (W := 0) hown (cw24 cx) (rm77 cx c10_0 c10_1 (z14.toInt8.toInt32) (z21.toInt8.toInt32) k10_2 O10 q10_2 q10_0 q10_1 q10_3) e14 q10_0 (g := (mkF m 190 #[sI i0, sI i1, sI i2, sI i3, sI i4, sI x5, sR b1, sR c10_0, sR c10_0, sI (-1), sI 2] [(vI 1), (vR c10_0)])) rfl hml rfl (rest := []) rfl rfl rfl rfl (hb hby at_190) (by decide)
        have hd13 : ((z21.toInt8.toInt32) &&& (255 : Int32)) = z21 := (by rw [show ((z21.toInt8.toInt32) &&& (255 : Int32)) = z21 from own_b255 hz4_0 hz4_1] : ((z21.toInt8.toInt32) &&& (255 : Int32)) = z21)
        refine own_endW X15 hlk (v := some (vI 1)) (own_hv hret) hS0 (Nat.le_trans (Nat.le_refl _) (Nat.le_trans (Nat.le_trans (Nat.le_trans (Nat.le_trans (Nat.le_trans E1.1 (Nat.le_of_eq W3.size.symm)) (Nat.le_of_eq W5.size.symm)) (Nat.le_of_eq W7.size.symm)) (Nat.le_of_eq W9.size.symm)) Kq10.1)) (by decide) hh e15 C10 hZ (own_EW hw hj) ⟨rfl, (Fr.app (Fr.app (Fr.app (Fr.app N10 N11q) N13q) N14q) N15q)⟩ fun fs hr => pre2 _ ?_
        refine st10 _ ?_
        show St p e below T10 (mkF m 49 #[sI i0, sI i1, sI i2, sI i3, sI i4, sI x5, sR b1, sU, sU, sU, sU] [(vR c10_0)]) _
        refine waS X10 hx hby rfl at_49 rfl rfl (l' := #[sI i0, sI i1, sI i2, sI i3, sI i4, sI x5, sR b1, sR c10_0, sU, sU, sU]) rfl ?_
        refine waL X10 hx hby rfl at_51 rfl rfl ?_
        refine st11 _ ?_
        refine waS X11 hx hby rfl at_56 rfl rfl (l' := #[sI i0, sI i1, sI i2, sI i3, sI i4, sI x5, sR b1, sR c10_0, sR c10_0, sU, sU]) rfl ?_
        refine wic X11 hx hby rfl at_58 ?_
        refine wiS X11 hx hby rfl at_59 rfl (l' := #[sI i0, sI i1, sI i2, sI i3, sI i4, sI x5, sR b1, sR c10_0, sR c10_0, sI (-1), sU]) rfl ?_
        refine Own.iload X11.here hx rfl (hb hby at_61) rfl hp0 ?_
        refine wfn X11 hx hby rfl at_63 rfl ((if0 _ _).trans (tlt (by decide : (0 : Int32) < (2 : Int32))).2.2.2) ?_
        refine waL X11 hx hby rfl at_66 rfl rfl ?_
        refine wic X11 hx hby rfl at_68 ?_
        refine own_caload X11 hx hZ e11 f12 (j := 0) (by decide) (v := (vI z14)) rfl (g := (mkF m 69 #[sI i0, sI i1, sI i2, sI i3, sI i4, sI x5, sR b1, sR c10_0, sR c10_0, sI (-1), sU] [(vI 0), (vR b1)])) rfl rfl (hb hby at_69) ?_
        refine wbp X11 hx hby rfl at_70 ?_
        refine wcy X11 hx hby rfl (pc0 := 72) (pc' := 78) rfl at_72 rfl (feq hp2).2 (by decide) (by decide) ?_
        show St p e below T11 (mkF m 78 #[sI i0, sI i1, sI i2, sI i3, sI i4, sI x5, sR b1, sR c10_0, sR c10_0, sI (-1), sU] []) _
        refine Own.iload X11.here hx rfl (hb hby at_78) rfl hp0 ?_
        refine wic X11 hx hby rfl at_80 ?_
        refine wcn X11 hx hby rfl at_81 rfl (tlt (by decide : (1 : Int32) < (2 : Int32))).2.2.2 ?_
        refine waL X11 hx hby rfl at_84 rfl rfl ?_
        refine wic X11 hx hby rfl at_86 ?_
        refine own_caload X11 hx hZ e11 f12 (j := 1) (by decide) (v := (vI z21)) rfl (g := (mkF m 87 #[sI i0, sI i1, sI i2, sI i3, sI i4, sI x5, sR b1, sR c10_0, sR c10_0, sI (-1), sU] [(vI 1), (vR b1)])) rfl rfl (hb hby at_87) ?_
        refine wbp X11 hx hby rfl at_88 ?_
        refine wcy X11 hx hby rfl (pc0 := 90) (pc' := 96) rfl at_90 rfl (feq hp1).2 (by decide) (by decide) ?_
        show St p e below T11 (mkF m 96 #[sI i0, sI i1, sI i2, sI i3, sI i4, sI x5, sR b1, sR c10_0, sR c10_0, sI (-1), sU] []) _
        refine Own.iload X11.here hx rfl (hb hby at_96) rfl hp0 ?_
        refine wic X11 hx hby rfl at_98 ?_
        refine wcy X11 hx hby rfl (pc0 := 99) (pc' := 114) rfl at_99 rfl (flt (by decide : ¬ ((2 : Int32) < (2 : Int32)))).2.2.2 (by decide) (by decide) ?_
        show St p e below T11 (mkF m 114 #[sI i0, sI i1, sI i2, sI i3, sI i4, sI x5, sR b1, sR c10_0, sR c10_0, sI (-1), sU] []) _
        refine Own.iload X11.here hx rfl (hb hby at_114) rfl hp0 ?_
        refine wic X11 hx hby rfl at_116 ?_
        refine wcy X11 hx hby rfl (pc0 := 117) (pc' := 132) rfl at_117 rfl (flt (by decide : ¬ ((3 : Int32) < (2 : Int32)))).2.2.2 (by decide) (by decide) ?_
        show St p e below T11 (mkF m 132 #[sI i0, sI i1, sI i2, sI i3, sI i4, sI x5, sR b1, sR c10_0, sR c10_0, sI (-1), sU] []) _
        refine Own.iload X11.here hx rfl (hb hby at_132) rfl hp0 ?_
        refine wiL X11 hx hby rfl at_134 rfl ?_
        refine Own.isub X11.here hx rfl (hb hby at_136) rfl (by decide : ((2 : Int32) - (-1 : Int32)) = (3 : Int32)) ?_
        refine wic X11 hx hby rfl at_137 ?_
        refine Own.isub X11.here hx rfl (hb hby at_138) rfl (by decide : ((3 : Int32) - (1 : Int32)) = (2 : Int32)) ?_
        refine wiS X11 hx hby rfl at_139 rfl (l' := #[sI i0, sI i1, sI i2, sI i3, sI i4, sI x5, sR b1, sR c10_0, sR c10_0, sI (-1), sI 2]) rfl ?_
        refine waL X11 hx hby rfl at_141 rfl rfl ?_
        refine wnn X11 hx hby rfl at_143 rfl ?_
        refine waL X11 hx hby rfl at_146 rfl rfl ?_
        refine st13 _ ?_
        refine wiL X13 hx hby rfl at_151 rfl ?_
        refine wcy X13 hx hby rfl (pc0 := 153) (pc' := 158) rfl at_153 rfl (teq (by decide : (2 : Int32) = (2 : Int32))).1 (by decide) (by decide) ?_
        show St p e below T13 (mkF m 158 #[sI i0, sI i1, sI i2, sI i3, sI i4, sI x5, sR b1, sR c10_0, sR c10_0, sI (-1), sI 2] []) _
        refine wiL X13 hx hby rfl at_158 rfl ?_
        refine wfn X13 hx hby rfl at_160 rfl ((if0 _ _).trans (tlt (by decide : (0 : Int32) < (2 : Int32))).2.2.2) ?_
        refine waL X13 hx hby rfl at_163 rfl rfl ?_
        refine wic X13 hx hby rfl at_165 ?_
        refine st14 _ ?_
        refine waL X14 hx hby rfl at_169 rfl rfl ?_
        refine wiL X14 hx hby rfl at_171 rfl ?_
        refine wic X14 hx hby rfl at_173 ?_
        refine Own.iadd X14.here hx rfl (hb hby at_174) rfl (by decide : ((-1 : Int32) + (1 : Int32)) = (0 : Int32)) ?_
        refine own_caload X14 hx hZ e14 f12 (j := 0) (by decide) (v := (vI z14)) rfl (g := (mkF m 175 #[sI i0, sI i1, sI i2, sI i3, sI i4, sI x5, sR b1, sR c10_0, sR c10_0, sI (-1), sI 2] [(vI 0), (vR b1), (vI ((z14.toInt8.toInt32) &&& (255 : Int32)))])) rfl rfl (hb hby at_175) ?_
        refine wcy X14 hx hby rfl (pc0 := 176) (pc' := 181) rfl at_176 rfl (teq hd8).1 (by decide) (by decide) ?_
        show St p e below T14 (mkF m 181 #[sI i0, sI i1, sI i2, sI i3, sI i4, sI x5, sR b1, sR c10_0, sR c10_0, sI (-1), sI 2] []) _
        refine wiL X14 hx hby rfl at_181 rfl ?_
        refine wic X14 hx hby rfl at_183 ?_
        refine wcn X14 hx hby rfl at_184 rfl (tlt (by decide : (1 : Int32) < (2 : Int32))).2.2.2 ?_
        refine waL X14 hx hby rfl at_187 rfl rfl ?_
        refine wic X14 hx hby rfl at_189 ?_
        refine st15 _ ?_
        refine waL X15 hx hby rfl at_193 rfl rfl ?_
        refine wiL X15 hx hby rfl at_195 rfl ?_
        refine wic X15 hx hby rfl at_197 ?_
        refine Own.iadd X15.here hx rfl (hb hby at_198) rfl (by decide : ((-1 : Int32) + (2 : Int32)) = (1 : Int32)) ?_
        refine own_caload X15 hx hZ e15 f12 (j := 1) (by decide) (v := (vI z21)) rfl (g := (mkF m 199 #[sI i0, sI i1, sI i2, sI i3, sI i4, sI x5, sR b1, sR c10_0, sR c10_0, sI (-1), sI 2] [(vI 1), (vR b1), (vI ((z21.toInt8.toInt32) &&& (255 : Int32)))])) rfl rfl (hb hby at_199) ?_
        refine wcy X15 hx hby rfl (pc0 := 200) (pc' := 205) rfl at_200 rfl (teq hd13).1 (by decide) (by decide) ?_
        show St p e below T15 (mkF m 205 #[sI i0, sI i1, sI i2, sI i3, sI i4, sI x5, sR b1, sR c10_0, sR c10_0, sI (-1), sI 2] []) _
        refine wiL X15 hx hby rfl at_205 rfl ?_
        refine wic X15 hx hby rfl at_207 ?_
        refine wcy X15 hx hby rfl (pc0 := 208) (pc' := 229) rfl at_208 rfl (flt (by decide : ¬ ((2 : Int32) < (2 : Int32)))).2.2.2 (by decide) (by decide) ?_
        show St p e below T15 (mkF m 229 #[sI i0, sI i1, sI i2, sI i3, sI i4, sI x5, sR b1, sR c10_0, sR c10_0, sI (-1), sI 2] []) _
        refine wiL X15 hx hby rfl at_229 rfl ?_
        refine wic X15 hx hby rfl at_231 ?_
        refine wcy X15 hx hby rfl (pc0 := 232) (pc' := 253) rfl at_232 rfl (flt (by decide : ¬ ((3 : Int32) < (2 : Int32)))).2.2.2 (by decide) (by decide) ?_
        show St p e below T15 (mkF m 253 #[sI i0, sI i1, sI i2, sI i3, sI i4, sI x5, sR b1, sR c10_0, sR c10_0, sI (-1), sI 2] []) _
        refine wic X15 hx hby rfl at_253 ?_
        exact retN X15 hx (t := .boolean) hret (by simp) (hb hby at_254) hr
  · have pre2 : ∀ t, St p e below T9 (mkF m 46 #[sI i0, sI i1, sI i2, sI i3, sI i4, sI x5, sR b1, sU, sU, sU, sU] [(vR b1), (vI 3)]) t → St p e below s₁ g0 t := fun t kt => pre1 _ (by
        refine Own.iload X9.here hx rfl (hb hby at_42) rfl hp0 ?_
        refine waL X9 hx hby rfl at_44 rfl rfl ?_
        exact kt)
    rcases Decidable.em (z28 = (58 : Int32)) with hp1 | hp1
    · have sf10 := (sf0 : ∀ x ∈ [], Safe Z EL s.vm h9 x)
      obtain ⟨_, T10, L10, ⟨c10_0, c10_1, k10_2, rfl, N10q, Kq10, lo10_0, lo10_1, q10_0, q10_1, q10_2, q10_3⟩, X10, st10⟩ := cS X9 hx hZ (W := 0) hown (cw2 cx) (rm83 cx b1 z14 z21 z28 z36 k1 O9 V9 hz2_0 hd0 hz4_0 hd1 hz6_0 hd2 hz2_1 hz4_1 hz6_1) e9 (g := (mkF m 46 #[sI i0, sI i1, sI i2, sI i3, sI i4, sI x5, sR b1, sU, sU, sU, sU] [(vR b1), (vI 3)])) rfl hml rfl (rest := []) rfl rfl rfl rfl (hb hby at_46) (by decide)
      have N10 := Fr.app N9 N10q
      have C10 := C9.trans (CHr.keep Kq10 sf10 C9.1)
      have O10 : Old Z n0 T10.heap := O9.keep Kq10 all0
      have K10 : Keep h0 T10.heap [] := K9.trans Kq10 all0
      have hd14 : ¬ (z28 < (-128 : Int32)) := (by have q0 := own_rg hz6_0 hz6_1 (l := 0) (h := 255) (by decide); have q1 := (by decide : ((-128 : Int32)).toInt = -128); exact own_ltF (by omega) : ¬ (z28 < (-128 : Int32)))
      have hd15 : ¬ ((127 : Int32) < z28) := (by have q0 := (by decide : ((127 : Int32)).toInt = 127); have q1 := own_rg hz6_0 hz6_1 (l := 0) (h := 255) (by decide); have q2 := (by decide : ((58 : Int32)).toInt = 58); have q3 := own_eqT' hp1; have q4 := (by decide : ((0 : Int32)).toInt = 0); have q5 := own_ltF' hz6_0; have q6 := (by decide : ((255 : Int32)).toInt = 255); have q7 := own_ltF' hz6_1; exact own_ltF (by omega) : ¬ ((127 : Int32) < z28))
      have hd16 : (z28.toInt8.toInt32) = (58 : Int32) := (by rw [show (z28.toInt8.toInt32) = z28 from own_i2b hd14 hd15]; exact hp1 : (z28.toInt8.toInt32) = (58 : Int32))
      obtain ⟨_, T11, L11, ⟨c11_0, c11_1, k11_2, rfl, N11q, Kq11, q11_0, q11_1, q11_2, q11_3⟩, hS11, hZ11, hown11, Cq11, X11, st11⟩ := cSW X10 hx hZ (W := 0) hown (cw15 cx) (rm91 cx c10_0 (z14.toInt8.toInt32) (z21.toInt8.toInt32) (z28.toInt8.toInt32) c10_1 k10_2 O10 q10_1 q10_3 q10_2 q10_0 hd16) (rfl : T10.heap = T10.heap) hS0 (Nat.le_trans (Nat.le_refl _) (Nat.le_trans (Nat.le_trans (Nat.le_trans (Nat.le_trans (Nat.le_trans E1.1 (Nat.le_of_eq W3.size.symm)) (Nat.le_of_eq W5.size.symm)) (Nat.le_of_eq W7.size.symm)) (Nat.le_of_eq W9.size.symm)) Kq10.1)) (own_EW hw hj) C10.1 own_sx0 (g := (mkF m 53 #[sI i0, sI i1, sI i2, sI i3, sI i4, sI x5, sR b1, sR c10_0, sU, sU, sU] [(vR c10_0)])) rfl hml rfl (rest := []) rfl rfl rfl rfl (hb hby at_53) (by decide)
      have N11 := Fr.app N10 N11q
      have C11 := C10.trans Cq11
      have O11 : Old Z n0 T11.heap := O10.keep Kq11 all0
      have K11 : Keep h0 T11.heap [] := K10.trans Kq11 all0
      have f12 : Arv Z T11.heap b1 k1 .char (4 : Int32) [(vI z14), (vI z21), (vI z28), (vI z36)] (vI 0) := ((V9.keep Kq10 nin0).keep Kq11 nin0)
      have suf2 : EndW EL Z p e s below room_1 (QL n0) (T11.setTop (mkF m 114 #[sI i0, sI i1, sI i2, sI i3, sI i4, sI x5, sR b1, sR c10_0, sR c11_0, sI 2, sU] [])) := by
        have sf13 := (sf0 : ∀ x ∈ [], Safe Z EL T11.vm T11.heap x)
        obtain ⟨_, T13, L13, ⟨rfl, N13q, e13⟩, X13, st13⟩ := cV X11 hx hZ11 (W := 0) hown11 (cw16 cx) (rm5 cx c11_0 c11_1 k11_2 O11 q11_2 q11_3 q11_1 q11_0) (rfl : T11.heap = T11.heap) q11_0 (g := (mkF m 148 #[sI i0, sI i1, sI i2, sI i3, sI i4, sI x5, sR b1, sR c10_0, sR c11_0, sI 2, sI 0] [(vR c11_0)])) rfl hml rfl (rest := []) rfl rfl rfl rfl (hb hby at_148) (by decide)
        refine own_endW X13 hlk (v := some (vI 1)) (own_hv hret) hS11 (Nat.le_refl _) (by decide) hh e13 C11 hZ11 (own_EW hw hj) ⟨rfl, (Fr.app N11 N13q)⟩ fun fs hr => ?_
        show St p e below T11 (mkF m 114 #[sI i0, sI i1, sI i2, sI i3, sI i4, sI x5, sR b1, sR c10_0, sR c11_0, sI 2, sU] []) _
        refine Own.iload X11.here hx rfl (hb hby at_114) rfl hp0 ?_
        refine wic X11 hx hby rfl at_116 ?_
        refine wcy X11 hx hby rfl (pc0 := 117) (pc' := 132) rfl at_117 rfl (flt (by decide : ¬ ((3 : Int32) < (3 : Int32)))).2.2.2 (by decide) (by decide) ?_
        show St p e below T11 (mkF m 132 #[sI i0, sI i1, sI i2, sI i3, sI i4, sI x5, sR b1, sR c10_0, sR c11_0, sI 2, sU] []) _
        refine Own.iload X11.here hx rfl (hb hby at_132) rfl hp0 ?_
        refine wiL X11 hx hby rfl at_134 rfl ?_
        refine Own.isub X11.here hx rfl (hb hby at_136) rfl (by decide : ((3 : Int32) - (2 : Int32)) = (1 : Int32)) ?_
        refine wic X11 hx hby rfl at_137 ?_
        refine Own.isub X11.here hx rfl (hb hby at_138) rfl (by decide : ((1 : Int32) - (1 : Int32)) = (0 : Int32)) ?_
        refine wiS X11 hx hby rfl at_139 rfl (l' := #[sI i0, sI i1, sI i2, sI i3, sI i4, sI x5, sR b1, sR c10_0, sR c11_0, sI 2, sI 0]) rfl ?_
        refine waL X11 hx hby rfl at_141 rfl rfl ?_
        refine wnn X11 hx hby rfl at_143 rfl ?_
        refine waL X11 hx hby rfl at_146 rfl rfl ?_
        refine st13 _ ?_
        refine wiL X13 hx hby rfl at_151 rfl ?_
        refine wcy X13 hx hby rfl (pc0 := 153) (pc' := 158) rfl at_153 rfl (teq (by decide : (0 : Int32) = (0 : Int32))).1 (by decide) (by decide) ?_
        show St p e below T13 (mkF m 158 #[sI i0, sI i1, sI i2, sI i3, sI i4, sI x5, sR b1, sR c10_0, sR c11_0, sI 2, sI 0] []) _
        refine wiL X13 hx hby rfl at_158 rfl ?_
        refine wfy X13 hx hby rfl (pc0 := 160) (pc' := 181) rfl at_160 rfl ((if0 _ _).trans (flt (by decide : ¬ ((0 : Int32) < (0 : Int32)))).2.2.2) (by decide) (by decide) ?_
        show St p e below T13 (mkF m 181 #[sI i0, sI i1, sI i2, sI i3, sI i4, sI x5, sR b1, sR c10_0, sR c11_0, sI 2, sI 0] []) _
        refine wiL X13 hx hby rfl at_181 rfl ?_
        refine wic X13 hx hby rfl at_183 ?_
        refine wcy X13 hx hby rfl (pc0 := 184) (pc' := 205) rfl at_184 rfl (flt (by decide : ¬ ((1 : Int32) < (0 : Int32)))).2.2.2 (by decide) (by decide) ?_
        show St p e below T13 (mkF m 205 #[sI i0, sI i1, sI i2, sI i3, sI i4, sI x5, sR b1, sR c10_0, sR c11_0, sI 2, sI 0] []) _
        refine wiL X13 hx hby rfl at_205 rfl ?_
        refine wic X13 hx hby rfl at_207 ?_
        refine wcy X13 hx hby rfl (pc0 := 208) (pc' := 229) rfl at_208 rfl (flt (by decide : ¬ ((2 : Int32) < (0 : Int32)))).2.2.2 (by decide) (by decide) ?_
        show St p e below T13 (mkF m 229 #[sI i0, sI i1, sI i2, sI i3, sI i4, sI x5, sR b1, sR c10_0, sR c11_0, sI 2, sI 0] []) _
        refine wiL X13 hx hby rfl at_229 rfl ?_
        refine wic X13 hx hby rfl at_231 ?_
        refine wcy X13 hx hby rfl (pc0 := 232) (pc' := 253) rfl at_232 rfl (flt (by decide : ¬ ((3 : Int32) < (0 : Int32)))).2.2.2 (by decide) (by decide) ?_
        show St p e below T13 (mkF m 253 #[sI i0, sI i1, sI i2, sI i3, sI i4, sI x5, sR b1, sR c10_0, sR c11_0, sI 2, sI 0] []) _
        refine wic X13 hx hby rfl at_253 ?_
        exact retN X13 hx (t := .boolean) hret (by simp) (hb hby at_254) hr
      rcases Decidable.em (z14 = (58 : Int32)) with hp2 | hp2
      · rcases Decidable.em (z21 = (58 : Int32)) with hp3 | hp3
        · refine own_via (fun t kt => pre2 _ ?_) suf2
          refine st10 _ ?_
          show St p e below T10 (mkF m 49 #[sI i0, sI i1, sI i2, sI i3, sI i4, sI x5, sR b1, sU, sU, sU, sU] [(vR c10_0)]) _
          refine waS X10 hx hby rfl at_49 rfl rfl (l' := #[sI i0, sI i1, sI i2, sI i3, sI i4, sI x5, sR b1, sR c10_0, sU, sU, sU]) rfl ?_
          refine waL X10 hx hby rfl at_51 rfl rfl ?_
          refine st11 _ ?_
          refine waS X11 hx hby rfl at_56 rfl rfl (l' := #[sI i0, sI i1, sI i2, sI i3, sI i4, sI x5, sR b1, sR c10_0, sR c11_0, sU, sU]) rfl ?_
          refine wic X11 hx hby rfl at_58 ?_
          refine wiS X11 hx hby rfl at_59 rfl (l' := #[sI i0, sI i1, sI i2, sI i3, sI i4, sI x5, sR b1, sR c10_0, sR c11_0, sI (-1), sU]) rfl ?_
          refine Own.iload X11.here hx rfl (hb hby at_61) rfl hp0 ?_
          refine wfn X11 hx hby rfl at_63 rfl ((if0 _ _).trans (tlt (by decide : (0 : Int32) < (3 : Int32))).2.2.2) ?_
          refine waL X11 hx hby rfl at_66 rfl rfl ?_
          refine wic X11 hx hby rfl at_68 ?_
          refine own_caload X11 hx hZ11 (rfl : T11.heap = T11.heap) f12 (j := 0) (by decide) (v := (vI z14)) rfl (g := (mkF m 69 #[sI i0, sI i1, sI i2, sI i3, sI i4, sI x5, sR b1, sR c10_0, sR c11_0, sI (-1), sU] [(vI 0), (vR b1)])) rfl rfl (hb hby at_69) ?_
          refine wbp X11 hx hby rfl at_70 ?_
          refine wcn X11 hx hby rfl at_72 rfl (teq hp2).2 ?_
          refine wic X11 hx hby rfl at_75 ?_
          refine wiS X11 hx hby rfl at_76 rfl (l' := #[sI i0, sI i1, sI i2, sI i3, sI i4, sI x5, sR b1, sR c10_0, sR c11_0, sI 0, sU]) rfl ?_
          show St p e below T11 (mkF m 78 #[sI i0, sI i1, sI i2, sI i3, sI i4, sI x5, sR b1, sR c10_0, sR c11_0, sI 0, sU] []) _
          refine Own.iload X11.here hx rfl (hb hby at_78) rfl hp0 ?_
          refine wic X11 hx hby rfl at_80 ?_
          refine wcn X11 hx hby rfl at_81 rfl (tlt (by decide : (1 : Int32) < (3 : Int32))).2.2.2 ?_
          refine waL X11 hx hby rfl at_84 rfl rfl ?_
          refine wic X11 hx hby rfl at_86 ?_
          refine own_caload X11 hx hZ11 (rfl : T11.heap = T11.heap) f12 (j := 1) (by decide) (v := (vI z21)) rfl (g := (mkF m 87 #[sI i0, sI i1, sI i2, sI i3, sI i4, sI x5, sR b1, sR c10_0, sR c11_0, sI 0, sU] [(vI 1), (vR b1)])) rfl rfl (hb hby at_87) ?_
          refine wbp X11 hx hby rfl at_88 ?_
          refine wcn X11 hx hby rfl at_90 rfl (teq hp3).2 ?_
          refine wic X11 hx hby rfl at_93 ?_
          refine wiS X11 hx hby rfl at_94 rfl (l' := #[sI i0, sI i1, sI i2, sI i3, sI i4, sI x5, sR b1, sR c10_0, sR c11_0, sI 1, sU]) rfl ?_
          show St p e below T11 (mkF m 96 #[sI i0, sI i1, sI i2, sI i3, sI i4, sI x5, sR b1, sR c10_0, sR c11_0, sI 1, sU] []) _
          refine Own.iload X11.here hx rfl (hb hby at_96) rfl hp0 ?_
          refine wic X11 hx hby rfl at_98 ?_
          refine wcn X11 hx hby rfl at_99 rfl (tlt (by decide : (2 : Int32) < (3 : Int32))).2.2.2 ?_
          refine waL X11 hx hby rfl at_102 rfl rfl ?_
          refine wic X11 hx hby rfl at_104 ?_
          refine own_caload X11 hx hZ11 (rfl : T11.heap = T11.heap) f12 (j := 2) (by decide) (v := (vI z28)) rfl (g := (mkF m 105 #[sI i0, sI i1, sI i2, sI i3, sI i4, sI x5, sR b1, sR c10_0, sR c11_0, sI 1, sU] [(vI 2), (vR b1)])) rfl rfl (hb hby at_105) ?_
          refine wbp X11 hx hby rfl at_106 ?_
          refine wcn X11 hx hby rfl at_108 rfl (teq hp1).2 ?_
          refine wic X11 hx hby rfl at_111 ?_
          refine wiS X11 hx hby rfl at_112 rfl (l' := #[sI i0, sI i1, sI i2, sI i3, sI i4, sI x5, sR b1, sR c10_0, sR c11_0, sI 2, sU]) rfl ?_
          exact kt
        · refine own_via (fun t kt => pre2 _ ?_) suf2
          refine st10 _ ?_
          show St p e below T10 (mkF m 49 #[sI i0, sI i1, sI i2, sI i3, sI i4, sI x5, sR b1, sU, sU, sU, sU] [(vR c10_0)]) _
          refine waS X10 hx hby rfl at_49 rfl rfl (l' := #[sI i0, sI i1, sI i2, sI i3, sI i4, sI x5, sR b1, sR c10_0, sU, sU, sU]) rfl ?_
          refine waL X10 hx hby rfl at_51 rfl rfl ?_
          refine st11 _ ?_
          refine waS X11 hx hby rfl at_56 rfl rfl (l' := #[sI i0, sI i1, sI i2, sI i3, sI i4, sI x5, sR b1, sR c10_0, sR c11_0, sU, sU]) rfl ?_
          refine wic X11 hx hby rfl at_58 ?_
          refine wiS X11 hx hby rfl at_59 rfl (l' := #[sI i0, sI i1, sI i2, sI i3, sI i4, sI x5, sR b1, sR c10_0, sR c11_0, sI (-1), sU]) rfl ?_
          refine Own.iload X11.here hx rfl (hb hby at_61) rfl hp0 ?_
          refine wfn X11 hx hby rfl at_63 rfl ((if0 _ _).trans (tlt (by decide : (0 : Int32) < (3 : Int32))).2.2.2) ?_
          refine waL X11 hx hby rfl at_66 rfl rfl ?_
          refine wic X11 hx hby rfl at_68 ?_
          refine own_caload X11 hx hZ11 (rfl : T11.heap = T11.heap) f12 (j := 0) (by decide) (v := (vI z14)) rfl (g := (mkF m 69 #[sI i0, sI i1, sI i2, sI i3, sI i4, sI x5, sR b1, sR c10_0, sR c11_0, sI (-1), sU] [(vI 0), (vR b1)])) rfl rfl (hb hby at_69) ?_
          refine wbp X11 hx hby rfl at_70 ?_
          refine wcn X11 hx hby rfl at_72 rfl (teq hp2).2 ?_
          refine wic X11 hx hby rfl at_75 ?_
          refine wiS X11 hx hby rfl at_76 rfl (l' := #[sI i0, sI i1, sI i2, sI i3, sI i4, sI x5, sR b1, sR c10_0, sR c11_0, sI 0, sU]) rfl ?_
          show St p e below T11 (mkF m 78 #[sI i0, sI i1, sI i2, sI i3, sI i4, sI x5, sR b1, sR c10_0, sR c11_0, sI 0, sU] []) _
          refine Own.iload X11.here hx rfl (hb hby at_78) rfl hp0 ?_
          refine wic X11 hx hby rfl at_80 ?_
          refine wcn X11 hx hby rfl at_81 rfl (tlt (by decide : (1 : Int32) < (3 : Int32))).2.2.2 ?_
          refine waL X11 hx hby rfl at_84 rfl rfl ?_
          refine wic X11 hx hby rfl at_86 ?_
          refine own_caload X11 hx hZ11 (rfl : T11.heap = T11.heap) f12 (j := 1) (by decide) (v := (vI z21)) rfl (g := (mkF m 87 #[sI i0, sI i1, sI i2, sI i3, sI i4, sI x5, sR b1, sR c10_0, sR c11_0, sI 0, sU] [(vI 1), (vR b1)])) rfl rfl (hb hby at_87) ?_
          refine wbp X11 hx hby rfl at_88 ?_
          refine wcy X11 hx hby rfl (pc0 := 90) (pc' := 96) rfl at_90 rfl (feq hp3).2 (by decide) (by decide) ?_
          show St p e below T11 (mkF m 96 #[sI i0, sI i1, sI i2, sI i3, sI i4, sI x5, sR b1, sR c10_0, sR c11_0, sI 0, sU] []) _
          refine Own.iload X11.here hx rfl (hb hby at_96) rfl hp0 ?_
          refine wic X11 hx hby rfl at_98 ?_
          refine wcn X11 hx hby rfl at_99 rfl (tlt (by decide : (2 : Int32) < (3 : Int32))).2.2.2 ?_
          refine waL X11 hx hby rfl at_102 rfl rfl ?_
          refine wic X11 hx hby rfl at_104 ?_
          refine own_caload X11 hx hZ11 (rfl : T11.heap = T11.heap) f12 (j := 2) (by decide) (v := (vI z28)) rfl (g := (mkF m 105 #[sI i0, sI i1, sI i2, sI i3, sI i4, sI x5, sR b1, sR c10_0, sR c11_0, sI 0, sU] [(vI 2), (vR b1)])) rfl rfl (hb hby at_105) ?_
          refine wbp X11 hx hby rfl at_106 ?_
          refine wcn X11 hx hby rfl at_108 rfl (teq hp1).2 ?_
          refine wic X11 hx hby rfl at_111 ?_
          refine wiS X11 hx hby rfl at_112 rfl (l' := #[sI i0, sI i1, sI i2, sI i3, sI i4, sI x5, sR b1, sR c10_0, sR c11_0, sI 2, sU]) rfl ?_
          exact kt
      · rcases Decidable.em (z21 = (58 : Int32)) with hp3 | hp3
        · refine own_via (fun t kt => pre2 _ ?_) suf2
          refine st10 _ ?_
          show St p e below T10 (mkF m 49 #[sI i0, sI i1, sI i2, sI i3, sI i4, sI x5, sR b1, sU, sU, sU, sU] [(vR c10_0)]) _
          refine waS X10 hx hby rfl at_49 rfl rfl (l' := #[sI i0, sI i1, sI i2, sI i3, sI i4, sI x5, sR b1, sR c10_0, sU, sU, sU]) rfl ?_
          refine waL X10 hx hby rfl at_51 rfl rfl ?_
          refine st11 _ ?_
          refine waS X11 hx hby rfl at_56 rfl rfl (l' := #[sI i0, sI i1, sI i2, sI i3, sI i4, sI x5, sR b1, sR c10_0, sR c11_0, sU, sU]) rfl ?_
          refine wic X11 hx hby rfl at_58 ?_
          refine wiS X11 hx hby rfl at_59 rfl (l' := #[sI i0, sI i1, sI i2, sI i3, sI i4, sI x5, sR b1, sR c10_0, sR c11_0, sI (-1), sU]) rfl ?_
          refine Own.iload X11.here hx rfl (hb hby at_61) rfl hp0 ?_
          refine wfn X11 hx hby rfl at_63 rfl ((if0 _ _).trans (tlt (by decide : (0 : Int32) < (3 : Int32))).2.2.2) ?_
          refine waL X11 hx hby rfl at_66 rfl rfl ?_
          refine wic X11 hx hby rfl at_68 ?_
          refine own_caload X11 hx hZ11 (rfl : T11.heap = T11.heap) f12 (j := 0) (by decide) (v := (vI z14)) rfl (g := (mkF m 69 #[sI i0, sI i1, sI i2, sI i3, sI i4, sI x5, sR b1, sR c10_0, sR c11_0, sI (-1), sU] [(vI 0), (vR b1)])) rfl rfl (hb hby at_69) ?_
          refine wbp X11 hx hby rfl at_70 ?_
          refine wcy X11 hx hby rfl (pc0 := 72) (pc' := 78) rfl at_72 rfl (feq hp2).2 (by decide) (by decide) ?_
          show St p e below T11 (mkF m 78 #[sI i0, sI i1, sI i2, sI i3, sI i4, sI x5, sR b1, sR c10_0, sR c11_0, sI (-1), sU] []) _
          refine Own.iload X11.here hx rfl (hb hby at_78) rfl hp0 ?_
          refine wic X11 hx hby rfl at_80 ?_
          refine wcn X11 hx hby rfl at_81 rfl (tlt (by decide : (1 : Int32) < (3 : Int32))).2.2.2 ?_
          refine waL X11 hx hby rfl at_84 rfl rfl ?_
          refine wic X11 hx hby rfl at_86 ?_
          refine own_caload X11 hx hZ11 (rfl : T11.heap = T11.heap) f12 (j := 1) (by decide) (v := (vI z21)) rfl (g := (mkF m 87 #[sI i0, sI i1, sI i2, sI i3, sI i4, sI x5, sR b1, sR c10_0, sR c11_0, sI (-1), sU] [(vI 1), (vR b1)])) rfl rfl (hb hby at_87) ?_
          refine wbp X11 hx hby rfl at_88 ?_
          refine wcn X11 hx hby rfl at_90 rfl (teq hp3).2 ?_
          refine wic X11 hx hby rfl at_93 ?_
          refine wiS X11 hx hby rfl at_94 rfl (l' := #[sI i0, sI i1, sI i2, sI i3, sI i4, sI x5, sR b1, sR c10_0, sR c11_0, sI 1, sU]) rfl ?_
          show St p e below T11 (mkF m 96 #[sI i0, sI i1, sI i2, sI i3, sI i4, sI x5, sR b1, sR c10_0, sR c11_0, sI 1, sU] []) _
          refine Own.iload X11.here hx rfl (hb hby at_96) rfl hp0 ?_
          refine wic X11 hx hby rfl at_98 ?_
          refine wcn X11 hx hby rfl at_99 rfl (tlt (by decide : (2 : Int32) < (3 : Int32))).2.2.2 ?_
          refine waL X11 hx hby rfl at_102 rfl rfl ?_
          refine wic X11 hx hby rfl at_104 ?_
          refine own_caload X11 hx hZ11 (rfl : T11.heap = T11.heap) f12 (j := 2) (by decide) (v := (vI z28)) rfl (g := (mkF m 105 #[sI i0, sI i1, sI i2, sI i3, sI i4, sI x5, sR b1, sR c10_0, sR c11_0, sI 1, sU] [(vI 2), (vR b1)])) rfl rfl (hb hby at_105) ?_
          refine wbp X11 hx hby rfl at_106 ?_
          refine wcn X11 hx hby rfl at_108 rfl (teq hp1).2 ?_
          refine wic X11 hx hby rfl at_111 ?_
          refine wiS X11 hx hby rfl at_112 rfl (l' := #[sI i0, sI i1, sI i2, sI i3, sI i4, sI x5, sR b1, sR c10_0, sR c11_0, sI 2, sU]) rfl ?_
          exact kt
        · refine own_via (fun t kt => pre2 _ ?_) suf2
          refine st10 _ ?_
          show St p e below T10 (mkF m 49 #[sI i0, sI i1, sI i2, sI i3, sI i4, sI x5, sR b1, sU, sU, sU, sU] [(vR c10_0)]) _
          refine waS X10 hx hby rfl at_49 rfl rfl (l' := #[sI i0, sI i1, sI i2, sI i3, sI i4, sI x5, sR b1, sR c10_0, sU, sU, sU]) rfl ?_
          refine waL X10 hx hby rfl at_51 rfl rfl ?_
          refine st11 _ ?_
          refine waS X11 hx hby rfl at_56 rfl rfl (l' := #[sI i0, sI i1, sI i2, sI i3, sI i4, sI x5, sR b1, sR c10_0, sR c11_0, sU, sU]) rfl ?_
          refine wic X11 hx hby rfl at_58 ?_
          refine wiS X11 hx hby rfl at_59 rfl (l' := #[sI i0, sI i1, sI i2, sI i3, sI i4, sI x5, sR b1, sR c10_0, sR c11_0, sI (-1), sU]) rfl ?_
          refine Own.iload X11.here hx rfl (hb hby at_61) rfl hp0 ?_
          refine wfn X11 hx hby rfl at_63 rfl ((if0 _ _).trans (tlt (by decide : (0 : Int32) < (3 : Int32))).2.2.2) ?_
          refine waL X11 hx hby rfl at_66 rfl rfl ?_
          refine wic X11 hx hby rfl at_68 ?_
          refine own_caload X11 hx hZ11 (rfl : T11.heap = T11.heap) f12 (j := 0) (by decide) (v := (vI z14)) rfl (g := (mkF m 69 #[sI i0, sI i1, sI i2, sI i3, sI i4, sI x5, sR b1, sR c10_0, sR c11_0, sI (-1), sU] [(vI 0), (vR b1)])) rfl rfl (hb hby at_69) ?_
          refine wbp X11 hx hby rfl at_70 ?_
          refine wcy X11 hx hby rfl (pc0 := 72) (pc' := 78) rfl at_72 rfl (feq hp2).2 (by decide) (by decide) ?_
          show St p e below T11 (mkF m 78 #[sI i0, sI i1, sI i2, sI i3, sI i4, sI x5, sR b1, sR c10_0, sR c11_0, sI (-1), sU] []) _
          refine Own.iload X11.here hx rfl (hb hby at_78) rfl hp0 ?_
          refine wic X11 hx hby rfl at_80 ?_
          refine wcn X11 hx hby rfl at_81 rfl (tlt (by decide : (1 : Int32) < (3 : Int32))).2.2.2 ?_
          refine waL X11 hx hby rfl at_84 rfl rfl ?_
          refine wic X11 hx hby rfl at_86 ?_
          refine own_caload X11 hx hZ11 (rfl : T11.heap = T11.heap) f12 (j := 1) (by decide) (v := (vI z21)) rfl (g := (mkF m 87 #[sI i0, sI i1, sI i2, sI i3, sI i4, sI x5, sR b1, sR c10_0, sR c11_0, sI (-1), sU] [(vI 1), (vR b1)])) rfl rfl (hb hby at_87) ?_
          refine wbp X11 hx hby rfl at_88 ?_
          refine wcy X11 hx hby rfl (pc0 := 90) (pc' := 96) rfl at_90 rfl (feq hp3).2 (by decide) (by decide) ?_
          show St p e below T11 (mkF m 96 #[sI i0, sI i1, sI i2, sI i3, sI i4, sI x5, sR b1, sR c10_0, sR c11_0, sI (-1), sU] []) _
          refine Own.iload X11.here hx rfl (hb hby at_96) rfl hp0 ?_
          refine wic X11 hx hby rfl at_98 ?_
          refine wcn X11 hx hby rfl at_99 rfl (tlt (by decide : (2 : Int32) < (3 : Int32))).2.2.2 ?_
          refine waL X11 hx hby rfl at_102 rfl rfl ?_
          refine wic X11 hx hby rfl at_104 ?_
          refine own_caload X11 hx hZ11 (rfl : T11.heap = T11.heap) f12 (j := 2) (by decide) (v := (vI z28)) rfl (g := (mkF m 105 #[sI i0, sI i1, sI i2, sI i3, sI i4, sI x5, sR b1, sR c10_0, sR c11_0, sI (-1), sU] [(vI 2), (vR b1)])) rfl rfl (hb hby at_105) ?_
          refine wbp X11 hx hby rfl at_106 ?_
          refine wcn X11 hx hby rfl at_108 rfl (teq hp1).2 ?_
          refine wic X11 hx hby rfl at_111 ?_
          refine wiS X11 hx hby rfl at_112 rfl (l' := #[sI i0, sI i1, sI i2, sI i3, sI i4, sI x5, sR b1, sR c10_0, sR c11_0, sI 2, sU]) rfl ?_
          exact kt
    · rcases Decidable.em (z21 = (58 : Int32)) with hp2 | hp2
      · have sf10 := (sf0 : ∀ x ∈ [], Safe Z EL s.vm h9 x)
        obtain ⟨_, T10, L10, ⟨c10_0, c10_1, k10_2, rfl, N10q, Kq10, lo10_0, lo10_1, q10_0, q10_1, q10_2, q10_3⟩, X10, st10⟩ := cS X9 hx hZ (W := 0) hown (cw2 cx) (rm83 cx b1 z14 z21 z28 z36 k1 O9 V9 hz2_0 hd0 hz4_0 hd1 hz6_0 hd2 hz2_1 hz4_1 hz6_1) e9 (g := (mkF m 46 #[sI i0, sI i1, sI i2, sI i3, sI i4, sI x5, sR b1, sU, sU, sU, sU] [(vR b1), (vI 3)])) rfl hml rfl (rest := []) rfl rfl rfl rfl (hb hby at_46) (by decide)
        have N10 := Fr.app N9 N10q
        have C10 := C9.trans (CHr.keep Kq10 sf10 C9.1)
        have O10 : Old Z n0 T10.heap := O9.keep Kq10 all0
        have K10 : Keep h0 T10.heap [] := K9.trans Kq10 all0
        have hd17 : ¬ ((z28.toInt8.toInt32) = (58 : Int32)) := ((fun q => hp1 ((own_blit hz6_0 hz6_1 (by decide)).mp q)) : ¬ ((z28.toInt8.toInt32) = (58 : Int32)))
        have hd9 : ¬ (z21 < (-128 : Int32)) := (by have q0 := own_rg hz4_0 hz4_1 (l := 0) (h := 255) (by decide); have q1 := (by decide : ((-128 : Int32)).toInt = -128); exact own_ltF (by omega) : ¬ (z21 < (-128 : Int32)))
        have hd10 : ¬ ((127 : Int32) < z21) := (by have q0 := (by decide : ((127 : Int32)).toInt = 127); have q1 := own_rg hz4_0 hz4_1 (l := 0) (h := 255) (by decide); have q2 := (by decide : ((58 : Int32)).toInt = 58); have q3 := own_eqT' hp2; have q4 := (by decide : ((0 : Int32)).toInt = 0); have q5 := own_ltF' hz4_0; have q6 := (by decide : ((255 : Int32)).toInt = 255); have q7 := own_ltF' hz4_1; exact own_ltF (by omega) : ¬ ((127 : Int32) < z21))
        have hd11 : (z21.toInt8.toInt32) = (58 : Int32) := (by rw [show (z21.toInt8.toInt32) = z21 from own_i2b hd9 hd10]; exact hp2 : (z21.toInt8.toInt32) = (58 : Int32))
        have sf11 := (sf0 : ∀ x ∈ [], Safe Z EL s.vm T10.heap x)
        obtain ⟨_, T11, L11, ⟨c11_0, c11_1, k11_2, rfl, N11q, Kq11, lo11_0, lo11_1, q11_0, q11_1, q11_2, q11_3⟩, X11, st11⟩ := cS X10 hx hZ (W := 0) hown (cw15 cx) (rm100 cx c10_0 (z14.toInt8.toInt32) (z21.toInt8.toInt32) (z28.toInt8.toInt32) c10_1 k10_2 O10 q10_1 q10_3 q10_2 q10_0 hd17 hd11) (rfl : T10.heap = T10.heap) (g := (mkF m 53 #[sI i0, sI i1, sI i2, sI i3, sI i4, sI x5, sR b1, sR c10_0, sU, sU, sU] [(vR c10_0)])) rfl hml rfl (rest := []) rfl rfl rfl rfl (hb hby at_53) (by decide)
        have N11 := Fr.app N10 N11q
        have C11 := C10.trans (CHr.keep Kq11 sf11 C10.1)
        have O11 : Old Z n0 T11.heap := O10.keep Kq11 all0
        have K11 : Keep h0 T11.heap [] := K10.trans Kq11 all0
        have f12 : Arv Z T11.heap b1 k1 .char (4 : Int32) [(vI z14), (vI z21), (vI z28), (vI z36)] (vI 0) := ((V9.keep Kq10 nin0).keep Kq11 nin0)
        have suf3 : EndW EL Z p e s below room_1 (QL n0) (T11.setTop (mkF m 96 #[sI i0, sI i1, sI i2, sI i3, sI i4, sI x5, sR b1, sR c10_0, sR c11_0, sI 1, sU] [])) := by
          have sf13 := (sf0 : ∀ x ∈ [], Safe Z EL s.vm T11.heap x)
          obtain ⟨_, T13, L13, ⟨rfl, N13q, e13⟩, X13, st13⟩ := cV X11 hx hZ (W := 0) hown (cw16 cx) (rm23 cx c11_0 c11_1 (z28.toInt8.toInt32) k11_2 O11 q11_1 q11_3 q11_2 q11_0) (rfl : T11.heap = T11.heap) q11_0 (g := (mkF m 148 #[sI i0, sI i1, sI i2, sI i3, sI i4, sI x5, sR b1, sR c10_0, sR c11_0, sI 1, sI 1] [(vR c11_0)])) rfl hml rfl (rest := []) rfl rfl rfl rfl (hb hby at_148) (by decide)
          have sf14 := (sf0 : ∀ x ∈ [], Safe Z EL s.vm T11.heap x)
          obtain ⟨_, T14, L14, ⟨rfl, N14q, e14⟩, X14, st14⟩ := cV X13 hx hZ (W := 0) hown (cw24 cx) (rm42 cx c11_0 c11_1 (z28.toInt8.toInt32) k11_2 O11 q11_2 q11_0 q11_1 q11_3) e13 q11_0 (g := (mkF m 166 #[sI i0, sI i1, sI i2, sI i3, sI i4, sI x5, sR b1, sR c10_0, sR c11_0, sI 1, sI 1] [(vI 0), (vR c11_0)])) rfl hml rfl (rest := []) rfl rfl rfl rfl (hb hby at_166) (by decide)
          have hd18 : ((z28.toInt8.toInt32) &&& (255 : Int32)) = z28 := (by rw [show ((z28.toInt8.toInt32) &&& (255 : Int32)) = z28 from own_b255 hz6_0 hz6_1] : ((z28.toInt8.toInt32) &&& (255 : Int32)) = z28)
          refine own_endW X14 hlk (v := some (vI 1)) (own_hv hret) hS0 (Nat.le_trans (Nat.le_refl _) (Nat.le_trans (Nat.le_trans (Nat.le_trans (Nat.le_trans (Nat.le_trans (Nat.le_trans E1.1 (Nat.le_of_eq W3.size.symm)) (Nat.le_of_eq W5.size.symm)) (Nat.le_of_eq W7.size.symm)) (Nat.le_of_eq W9.size.symm)) Kq10.1) Kq11.1)) (by decide) hh e14 C11 hZ (own_EW hw hj) ⟨rfl, (Fr.app (Fr.app N11 N13q) N14q)⟩ fun fs hr => ?_
          show St p e below T11 (mkF m 96 #[sI i0, sI i1, sI i2, sI i3, sI i4, sI x5, sR b1, sR c10_0, sR c11_0, sI 1, sU] []) _
          refine Own.iload X11.here hx rfl (hb hby at_96) rfl hp0 ?_
          refine wic X11 hx hby rfl at_98 ?_
          refine wcn X11 hx hby rfl at_99 rfl (tlt (by decide : (2 : Int32) < (3 : Int32))).2.2.2 ?_
          refine waL X11 hx hby rfl at_102 rfl rfl ?_
          refine wic X11 hx hby rfl at_104 ?_
          refine own_caload X11 hx hZ (rfl : T11.heap = T11.heap) f12 (j := 2) (by decide) (v := (vI z28)) rfl (g := (mkF m 105 #[sI i0, sI i1, sI i2, sI i3, sI i4, sI x5, sR b1, sR c10_0, sR c11_0, sI 1, sU] [(vI 2), (vR b1)])) rfl rfl (hb hby at_105) ?_
          refine wbp X11 hx hby rfl at_106 ?_
          refine wcy X11 hx hby rfl (pc0 := 108) (pc' := 114) rfl at_108 rfl (feq hp1).2 (by decide) (by decide) ?_
          show St p e below T11 (mkF m 114 #[sI i0, sI i1, sI i2, sI i3, sI i4, sI x5, sR b1, sR c10_0, sR c11_0, sI 1, sU] []) _
          refine Own.iload X11.here hx rfl (hb hby at_114) rfl hp0 ?_
          refine wic X11 hx hby rfl at_116 ?_
          refine wcy X11 hx hby rfl (pc0 := 117) (pc' := 132) rfl at_117 rfl (flt (by decide : ¬ ((3 : Int32) < (3 : Int32)))).2.2.2 (by decide) (by decide) ?_
          show St p e below T11 (mkF m 132 #[sI i0, sI i1, sI i2, sI i3, sI i4, sI x5, sR b1, sR c10_0, sR c11_0, sI 1, sU] []) _
          refine Own.iload X11.here hx rfl (hb hby at_132) rfl hp0 ?_
          refine wiL X11 hx hby rfl at_134 rfl ?_
          refine Own.isub X11.here hx rfl (hb hby at_136) rfl (by decide : ((3 : Int32) - (1 : Int32)) = (2 : Int32)) ?_
          refine wic X11 hx hby rfl at_137 ?_
          refine Own.isub X11.here hx rfl (hb hby at_138) rfl (by decide : ((2 : Int32) - (1 : Int32)) = (1 : Int32)) ?_
          refine wiS X11 hx hby rfl at_139 rfl (l' := #[sI i0, sI i1, sI i2, sI i3, sI i4, sI x5, sR b1, sR c10_0, sR c11_0, sI 1, sI 1]) rfl ?_
          refine waL X11 hx hby rfl at_141 rfl rfl ?_
          refine wnn X11 hx hby rfl at_143 rfl ?_
          refine waL X11 hx hby rfl at_146 rfl rfl ?_
          refine st13 _ ?_
          refine wiL X13 hx hby rfl at_151 rfl ?_
          refine wcy X13 hx hby rfl (pc0 := 153) (pc' := 158) rfl at_153 rfl (teq (by decide : (1 : Int32) = (1 : Int32))).1 (by decide) (by decide) ?_
          show St p e below T13 (mkF m 158 #[sI i0, sI i1, sI i2, sI i3, sI i4, sI x5, sR b1, sR c10_0, sR c11_0, sI 1, sI 1] []) _
          refine wiL X13 hx hby rfl at_158 rfl ?_
          refine wfn X13 hx hby rfl at_160 rfl ((if0 _ _).trans (tlt (by decide : (0 : Int32) < (1 : Int32))).2.2.2) ?_
          refine waL X13 hx hby rfl at_163 rfl rfl ?_
          refine wic X13 hx hby rfl at_165 ?_
          refine st14 _ ?_
          refine waL X14 hx hby rfl at_169 rfl rfl ?_
          refine wiL X14 hx hby rfl at_171 rfl ?_
          refine wic X14 hx hby rfl at_173 ?_
          refine Own.iadd X14.here hx rfl (hb hby at_174) rfl (by decide : ((1 : Int32) + (1 : Int32)) = (2 : Int32)) ?_
          refine own_caload X14 hx hZ e14 f12 (j := 2) (by decide) (v := (vI z28)) rfl (g := (mkF m 175 #[sI i0, sI i1, sI i2, sI i3, sI i4, sI x5, sR b1, sR c10_0, sR c11_0, sI 1, sI 1] [(vI 2), (vR b1), (vI ((z28.toInt8.toInt32) &&& (255 : Int32)))])) rfl rfl (hb hby at_175) ?_
          refine wcy X14 hx hby rfl (pc0 := 176) (pc' := 181) rfl at_176 rfl (teq hd18).1 (by decide) (by decide) ?_
          show St p e below T14 (mkF m 181 #[sI i0, sI i1, sI i2, sI i3, sI i4, sI x5, sR b1, sR c10_0, sR c11_0, sI 1, sI 1] []) _
          refine wiL X14 hx hby rfl at_181 rfl ?_
          refine wic X14 hx hby rfl at_183 ?_
          refine wcy X14 hx hby rfl (pc0 := 184) (pc' := 205) rfl at_184 rfl (flt (by decide : ¬ ((1 : Int32) < (1 : Int32)))).2.2.2 (by decide) (by decide) ?_
          show St p e below T14 (mkF m 205 #[sI i0, sI i1, sI i2, sI i3, sI i4, sI x5, sR b1, sR c10_0, sR c11_0, sI 1, sI 1] []) _
          refine wiL X14 hx hby rfl at_205 rfl ?_
          refine wic X14 hx hby rfl at_207 ?_
          refine wcy X14 hx hby rfl (pc0 := 208) (pc' := 229) rfl at_208 rfl (flt (by decide : ¬ ((2 : Int32) < (1 : Int32)))).2.2.2 (by decide) (by decide) ?_
          show St p e below T14 (mkF m 229 #[sI i0, sI i1, sI i2, sI i3, sI i4, sI x5, sR b1, sR c10_0, sR c11_0, sI 1, sI 1] []) _
          refine wiL X14 hx hby rfl at_229 rfl ?_
          refine wic X14 hx hby rfl at_231 ?_
          refine wcy X14 hx hby rfl (pc0 := 232) (pc' := 253) rfl at_232 rfl (flt (by decide : ¬ ((3 : Int32) < (1 : Int32)))).2.2.2 (by decide) (by decide) ?_
          show St p e below T14 (mkF m 253 #[sI i0, sI i1, sI i2, sI i3, sI i4, sI x5, sR b1, sR c10_0, sR c11_0, sI 1, sI 1] []) _
          refine wic X14 hx hby rfl at_253 ?_
          exact retN X14 hx (t := .boolean) hret (by simp) (hb hby at_254) hr
        rcases Decidable.em (z14 = (58 : Int32)) with hp3 | hp3
        · refine own_via (fun t kt => pre2 _ ?_) suf3
          refine st10 _ ?_
          show St p e below T10 (mkF m 49 #[sI i0, sI i1, sI i2, sI i3, sI i4, sI x5, sR b1, sU, sU, sU, sU] [(vR c10_0)]) _
          refine waS X10 hx hby rfl at_49 rfl rfl (l' := #[sI i0, sI i1, sI i2, sI i3, sI i4, sI x5, sR b1, sR c10_0, sU, sU, sU]) rfl ?_
          refine waL X10 hx hby rfl at_51 rfl rfl ?_
          refine st11 _ ?_
          refine waS X11 hx hby rfl at_56 rfl rfl (l' := #[sI i0, sI i1, sI i2, sI i3, sI i4, sI x5, sR b1, sR c10_0, sR c11_0, sU, sU]) rfl ?_
          refine wic X11 hx hby rfl at_58 ?_
          refine wiS X11 hx hby rfl at_59 rfl (l' := #[sI i0, sI i1, sI i2, sI i3, sI i4, sI x5, sR b1, sR c10_0, sR c11_0, sI (-1), sU]) rfl ?_
          refine Own.iload X11.here hx rfl (hb hby at_61) rfl hp0 ?_
          refine wfn X11 hx hby rfl at_63 rfl ((if0 _ _).trans (tlt (by decide : (0 : Int32) < (3 : Int32))).2.2.2) ?_
          refine waL X11 hx hby rfl at_66 rfl rfl ?_
          refine wic X11 hx hby rfl at_68 ?_
          refine own_caload X11 hx hZ (rfl : T11.heap = T11.heap) f12 (j := 0) (by decide) (v := (vI z14)) rfl (g := (mkF m 69 #[sI i0, sI i1, sI i2, sI i3, sI i4, sI x5, sR b1, sR c10_0, sR c11_0, sI (-1), sU] [(vI 0), (vR b1)])) rfl rfl (hb hby at_69) ?_
          refine wbp X11 hx hby rfl at_70 ?_
          refine wcn X11 hx hby rfl at_72 rfl (teq hp3).2 ?_
          refine wic X11 hx hby rfl at_75 ?_
          refine wiS X11 hx hby rfl at_76 rfl (l' := #[sI i0, sI i1, sI i2, sI i3, sI i4, sI x5, sR b1, sR c10_0, sR c11_0, sI 0, sU]) rfl ?_
          show St p e below T11 (mkF m 78 #[sI i0, sI i1, sI i2, sI i3, sI i4, sI x5, sR b1, sR c10_0, sR c11_0, sI 0, sU] []) _
          refine Own.iload X11.here hx rfl (hb hby at_78) rfl hp0 ?_
          refine wic X11 hx hby rfl at_80 ?_
          refine wcn X11 hx hby rfl at_81 rfl (tlt (by decide : (1 : Int32) < (3 : Int32))).2.2.2 ?_
          refine waL X11 hx hby rfl at_84 rfl rfl ?_
          refine wic X11 hx hby rfl at_86 ?_
          refine own_caload X11 hx hZ (rfl : T11.heap = T11.heap) f12 (j := 1) (by decide) (v := (vI z21)) rfl (g := (mkF m 87 #[sI i0, sI i1, sI i2, sI i3, sI i4, sI x5, sR b1, sR c10_0, sR c11_0, sI 0, sU] [(vI 1), (vR b1)])) rfl rfl (hb hby at_87) ?_
          refine wbp X11 hx hby rfl at_88 ?_
          refine wcn X11 hx hby rfl at_90 rfl (teq hp2).2 ?_
          refine wic X11 hx hby rfl at_93 ?_
          refine wiS X11 hx hby rfl at_94 rfl (l' := #[sI i0, sI i1, sI i2, sI i3, sI i4, sI x5, sR b1, sR c10_0, sR c11_0, sI 1, sU]) rfl ?_
          exact kt
        · refine own_via (fun t kt => pre2 _ ?_) suf3
          refine st10 _ ?_
          show St p e below T10 (mkF m 49 #[sI i0, sI i1, sI i2, sI i3, sI i4, sI x5, sR b1, sU, sU, sU, sU] [(vR c10_0)]) _
          refine waS X10 hx hby rfl at_49 rfl rfl (l' := #[sI i0, sI i1, sI i2, sI i3, sI i4, sI x5, sR b1, sR c10_0, sU, sU, sU]) rfl ?_
          refine waL X10 hx hby rfl at_51 rfl rfl ?_
          refine st11 _ ?_
          refine waS X11 hx hby rfl at_56 rfl rfl (l' := #[sI i0, sI i1, sI i2, sI i3, sI i4, sI x5, sR b1, sR c10_0, sR c11_0, sU, sU]) rfl ?_
          refine wic X11 hx hby rfl at_58 ?_
          refine wiS X11 hx hby rfl at_59 rfl (l' := #[sI i0, sI i1, sI i2, sI i3, sI i4, sI x5, sR b1, sR c10_0, sR c11_0, sI (-1), sU]) rfl ?_
          refine Own.iload X11.here hx rfl (hb hby at_61) rfl hp0 ?_
          refine wfn X11 hx hby rfl at_63 rfl ((if0 _ _).trans (tlt (by decide : (0 : Int32) < (3 : Int32))).2.2.2) ?_
          refine waL X11 hx hby rfl at_66 rfl rfl ?_
          refine wic X11 hx hby rfl at_68 ?_
          refine own_caload X11 hx hZ (rfl : T11.heap = T11.heap) f12 (j := 0) (by decide) (v := (vI z14)) rfl (g := (mkF m 69 #[sI i0, sI i1, sI i2, sI i3, sI i4, sI x5, sR b1, sR c10_0, sR c11_0, sI (-1), sU] [(vI 0), (vR b1)])) rfl rfl (hb hby at_69) ?_
          refine wbp X11 hx hby rfl at_70 ?_
          refine wcy X11 hx hby rfl (pc0 := 72) (pc' := 78) rfl at_72 rfl (feq hp3).2 (by decide) (by decide) ?_
          show St p e below T11 (mkF m 78 #[sI i0, sI i1, sI i2, sI i3, sI i4, sI x5, sR b1, sR c10_0, sR c11_0, sI (-1), sU] []) _
          refine Own.iload X11.here hx rfl (hb hby at_78) rfl hp0 ?_
          refine wic X11 hx hby rfl at_80 ?_
          refine wcn X11 hx hby rfl at_81 rfl (tlt (by decide : (1 : Int32) < (3 : Int32))).2.2.2 ?_
          refine waL X11 hx hby rfl at_84 rfl rfl ?_
          refine wic X11 hx hby rfl at_86 ?_
          refine own_caload X11 hx hZ (rfl : T11.heap = T11.heap) f12 (j := 1) (by decide) (v := (vI z21)) rfl (g := (mkF m 87 #[sI i0, sI i1, sI i2, sI i3, sI i4, sI x5, sR b1, sR c10_0, sR c11_0, sI (-1), sU] [(vI 1), (vR b1)])) rfl rfl (hb hby at_87) ?_
          refine wbp X11 hx hby rfl at_88 ?_
          refine wcn X11 hx hby rfl at_90 rfl (teq hp2).2 ?_
          refine wic X11 hx hby rfl at_93 ?_
          refine wiS X11 hx hby rfl at_94 rfl (l' := #[sI i0, sI i1, sI i2, sI i3, sI i4, sI x5, sR b1, sR c10_0, sR c11_0, sI 1, sU]) rfl ?_
          exact kt
      · rcases Decidable.em (z14 = (58 : Int32)) with hp3 | hp3
        · have sf10 := (sf0 : ∀ x ∈ [], Safe Z EL s.vm h9 x)
          obtain ⟨_, T10, L10, ⟨c10_0, c10_1, k10_2, rfl, N10q, Kq10, lo10_0, lo10_1, q10_0, q10_1, q10_2, q10_3⟩, X10, st10⟩ := cS X9 hx hZ (W := 0) hown (cw2 cx) (rm83 cx b1 z14 z21 z28 z36 k1 O9 V9 hz2_0 hd0 hz4_0 hd1 hz6_0 hd2 hz2_1 hz4_1 hz6_1) e9 (g := (mkF m 46 #[sI i0, sI i1, sI i2, sI i3, sI i4, sI x5, sR b1, sU, sU, sU, sU] [(vR b1), (vI 3)])) rfl hml rfl (rest := []) rfl rfl rfl rfl (hb hby at_46) (by decide)
          have N10 := Fr.app N9 N10q
          have C10 := C9.trans (CHr.keep Kq10 sf10 C9.1)
          have O10 : Old Z n0 T10.heap := O9.keep Kq10 all0
          have K10 : Keep h0 T10.heap [] := K9.trans Kq10 all0
          have hd17 : ¬ ((z28.toInt8.toInt32) = (58 : Int32)) := ((fun q => hp1 ((own_blit hz6_0 hz6_1 (by decide)).mp q)) : ¬ ((z28.toInt8.toInt32) = (58 : Int32)))
          have hd12 : ¬ ((z21.toInt8.toInt32) = (58 : Int32)) := ((fun q => hp2 ((own_blit hz4_0 hz4_1 (by decide)).mp q)) : ¬ ((z21.toInt8.toInt32) = (58 : Int32)))
          have hd4 : ¬ (z14 < (-128 : Int32)) := (by have q0 := own_rg hz2_0 hz2_1 (l := 0) (h := 255) (by decide); have q1 := (by decide : ((-128 : Int32)).toInt = -128); exact own_ltF (by omega) : ¬ (z14 < (-128 : Int32)))
          have hd5 : ¬ ((127 : Int32) < z14) := (by have q0 := (by decide : ((127 : Int32)).toInt = 127); have q1 := own_rg hz2_0 hz2_1 (l := 0) (h := 255) (by decide); have q2 := (by decide : ((58 : Int32)).toInt = 58); have q3 := own_eqT' hp3; have q4 := (by decide : ((0 : Int32)).toInt = 0); have q5 := own_ltF' hz2_0; have q6 := (by decide : ((255 : Int32)).toInt = 255); have q7 := own_ltF' hz2_1; exact own_ltF (by omega) : ¬ ((127 : Int32) < z14))
          have hd6 : (z14.toInt8.toInt32) = (58 : Int32) := (by rw [show (z14.toInt8.toInt32) = z14 from own_i2b hd4 hd5]; exact hp3 : (z14.toInt8.toInt32) = (58 : Int32))
          have sf11 := (sf0 : ∀ x ∈ [], Safe Z EL s.vm T10.heap x)
          obtain ⟨_, T11, L11, ⟨c11_0, c11_1, k11_2, rfl, N11q, Kq11, lo11_0, lo11_1, q11_0, q11_1, q11_2, q11_3⟩, X11, st11⟩ := cS X10 hx hZ (W := 0) hown (cw15 cx) (rm109 cx c10_0 (z14.toInt8.toInt32) (z21.toInt8.toInt32) (z28.toInt8.toInt32) c10_1 k10_2 O10 q10_1 q10_3 q10_2 q10_0 hd17 hd12 hd6) (rfl : T10.heap = T10.heap) (g := (mkF m 53 #[sI i0, sI i1, sI i2, sI i3, sI i4, sI x5, sR b1, sR c10_0, sU, sU, sU] [(vR c10_0)])) rfl hml rfl (rest := []) rfl rfl rfl rfl (hb hby at_53) (by decide)
          have N11 := Fr.app N10 N11q
          have C11 := C10.trans (CHr.keep Kq11 sf11 C10.1)
          have O11 : Old Z n0 T11.heap := O10.keep Kq11 all0
          have K11 : Keep h0 T11.heap [] := K10.trans Kq11 all0
          have f12 : Arv Z T11.heap b1 k1 .char (4 : Int32) [(vI z14), (vI z21), (vI z28), (vI z36)] (vI 0) := ((V9.keep Kq10 nin0).keep Kq11 nin0)
          have sf13 := (sf0 : ∀ x ∈ [], Safe Z EL s.vm T11.heap x)
          obtain ⟨_, T13, L13, ⟨rfl, N13q, e13⟩, X13, st13⟩ := cV X11 hx hZ (W := 0) hown (cw16 cx) (rm49 cx c11_0 c11_1 (z21.toInt8.toInt32) (z28.toInt8.toInt32) k11_2 O11 q11_1 q11_3 q11_2 q11_0) (rfl : T11.heap = T11.heap) q11_0 (g := (mkF m 148 #[sI i0, sI i1, sI i2, sI i3, sI i4, sI x5, sR b1, sR c10_0, sR c11_0, sI 0, sI 2] [(vR c11_0)])) rfl hml rfl (rest := []) rfl rfl rfl rfl (hb hby at_148) (by decide)
          have sf14 := (sf0 : ∀ x ∈ [], Safe Z EL s.vm T11.heap x)
          obtain ⟨_, T14, L14, ⟨rfl, N14q, e14⟩, X14, st14⟩ := cV X13 hx hZ (W := 0) hown (cw24 cx) (rm75 cx c11_0 c11_1 (z21.toInt8.toInt32) (z28.toInt8.toInt32) k11_2 O11 q11_2 q11_0 q11_1 q11_3) e13 q11_0 (g := (mkF m 166 #[sI i0, sI i1, sI i2, sI i3, sI i4, sI x5, sR b1, sR c10_0, sR c11_0, sI 0, sI 2] [(vI 0), (vR c11_0)])) rfl hml rfl (rest := []) rfl rfl rfl rfl (hb hby at_166) (by decide)
          have hd13 : ((z21.toInt8.toInt32) &&& (255 : Int32)) = z21 := (by rw [show ((z21.toInt8.toInt32) &&& (255 : Int32)) = z21 from own_b255 hz4_0 hz4_1] : ((z21.toInt8.toInt32) &&& (255 : Int32)) = z21)
          have sf15 := (sf0 : ∀ x ∈ [], Safe Z EL s.vm T11.heap x)
          obtain ⟨_, T15, L15, ⟨rfl, N15q, e15⟩, X15, st15⟩ := cV X14 hx hZ (W := 0) hown (cw24 cx) (rm77 cx c11_0 c11_1 (z21.toInt8.toInt32) (z28.toInt8.toInt32) k11_2 O11 q11_2 q11_0 q11_1 q11_3) e14 q11_0 (g := (mkF m 190 #[sI i0, sI i1, sI i2, sI i3, sI i4, sI x5, sR b1, sR c10_0, sR c11_0, sI 0, sI 2] [(vI 1), (vR c11_0)])) rfl hml rfl (rest := []) rfl rfl rfl rfl (hb hby at_190) (by decide)
          have hd18 : ((z28.toInt8.toInt32) &&& (255 : Int32)) = z28 := (by rw [show ((z28.toInt8.toInt32) &&& (255 : Int32)) = z28 from own_b255 hz6_0 hz6_1] : ((z28.toInt8.toInt32) &&& (255 : Int32)) = z28)
          refine own_endW X15 hlk (v := some (vI 1)) (own_hv hret) hS0 (Nat.le_trans (Nat.le_refl _) (Nat.le_trans (Nat.le_trans (Nat.le_trans (Nat.le_trans (Nat.le_trans (Nat.le_trans E1.1 (Nat.le_of_eq W3.size.symm)) (Nat.le_of_eq W5.size.symm)) (Nat.le_of_eq W7.size.symm)) (Nat.le_of_eq W9.size.symm)) Kq10.1) Kq11.1)) (by decide) hh e15 C11 hZ (own_EW hw hj) ⟨rfl, (Fr.app (Fr.app (Fr.app N11 N13q) N14q) N15q)⟩ fun fs hr => pre2 _ ?_
          refine st10 _ ?_
          show St p e below T10 (mkF m 49 #[sI i0, sI i1, sI i2, sI i3, sI i4, sI x5, sR b1, sU, sU, sU, sU] [(vR c10_0)]) _
          refine waS X10 hx hby rfl at_49 rfl rfl (l' := #[sI i0, sI i1, sI i2, sI i3, sI i4, sI x5, sR b1, sR c10_0, sU, sU, sU]) rfl ?_
          refine waL X10 hx hby rfl at_51 rfl rfl ?_
          refine st11 _ ?_
          refine waS X11 hx hby rfl at_56 rfl rfl (l' := #[sI i0, sI i1, sI i2, sI i3, sI i4, sI x5, sR b1, sR c10_0, sR c11_0, sU, sU]) rfl ?_
          refine wic X11 hx hby rfl at_58 ?_
          refine wiS X11 hx hby rfl at_59 rfl (l' := #[sI i0, sI i1, sI i2, sI i3, sI i4, sI x5, sR b1, sR c10_0, sR c11_0, sI (-1), sU]) rfl ?_
          refine Own.iload X11.here hx rfl (hb hby at_61) rfl hp0 ?_
          refine wfn X11 hx hby rfl at_63 rfl ((if0 _ _).trans (tlt (by decide : (0 : Int32) < (3 : Int32))).2.2.2) ?_
          refine waL X11 hx hby rfl at_66 rfl rfl ?_
          refine wic X11 hx hby rfl at_68 ?_
          refine own_caload X11 hx hZ (rfl : T11.heap = T11.heap) f12 (j := 0) (by decide) (v := (vI z14)) rfl (g := (mkF m 69 #[sI i0, sI i1, sI i2, sI i3, sI i4, sI x5, sR b1, sR c10_0, sR c11_0, sI (-1), sU] [(vI 0), (vR b1)])) rfl rfl (hb hby at_69) ?_
          refine wbp X11 hx hby rfl at_70 ?_
          refine wcn X11 hx hby rfl at_72 rfl (teq hp3).2 ?_
          refine wic X11 hx hby rfl at_75 ?_
          refine wiS X11 hx hby rfl at_76 rfl (l' := #[sI i0, sI i1, sI i2, sI i3, sI i4, sI x5, sR b1, sR c10_0, sR c11_0, sI 0, sU]) rfl ?_
          show St p e below T11 (mkF m 78 #[sI i0, sI i1, sI i2, sI i3, sI i4, sI x5, sR b1, sR c10_0, sR c11_0, sI 0, sU] []) _
          refine Own.iload X11.here hx rfl (hb hby at_78) rfl hp0 ?_
          refine wic X11 hx hby rfl at_80 ?_
          refine wcn X11 hx hby rfl at_81 rfl (tlt (by decide : (1 : Int32) < (3 : Int32))).2.2.2 ?_
          refine waL X11 hx hby rfl at_84 rfl rfl ?_
          refine wic X11 hx hby rfl at_86 ?_
          refine own_caload X11 hx hZ (rfl : T11.heap = T11.heap) f12 (j := 1) (by decide) (v := (vI z21)) rfl (g := (mkF m 87 #[sI i0, sI i1, sI i2, sI i3, sI i4, sI x5, sR b1, sR c10_0, sR c11_0, sI 0, sU] [(vI 1), (vR b1)])) rfl rfl (hb hby at_87) ?_
          refine wbp X11 hx hby rfl at_88 ?_
          refine wcy X11 hx hby rfl (pc0 := 90) (pc' := 96) rfl at_90 rfl (feq hp2).2 (by decide) (by decide) ?_
          show St p e below T11 (mkF m 96 #[sI i0, sI i1, sI i2, sI i3, sI i4, sI x5, sR b1, sR c10_0, sR c11_0, sI 0, sU] []) _
          refine Own.iload X11.here hx rfl (hb hby at_96) rfl hp0 ?_
          refine wic X11 hx hby rfl at_98 ?_
          refine wcn X11 hx hby rfl at_99 rfl (tlt (by decide : (2 : Int32) < (3 : Int32))).2.2.2 ?_
          refine waL X11 hx hby rfl at_102 rfl rfl ?_
          refine wic X11 hx hby rfl at_104 ?_
          refine own_caload X11 hx hZ (rfl : T11.heap = T11.heap) f12 (j := 2) (by decide) (v := (vI z28)) rfl (g := (mkF m 105 #[sI i0, sI i1, sI i2, sI i3, sI i4, sI x5, sR b1, sR c10_0, sR c11_0, sI 0, sU] [(vI 2), (vR b1)])) rfl rfl (hb hby at_105) ?_
          refine wbp X11 hx hby rfl at_106 ?_
          refine wcy X11 hx hby rfl (pc0 := 108) (pc' := 114) rfl at_108 rfl (feq hp1).2 (by decide) (by decide) ?_
          show St p e below T11 (mkF m 114 #[sI i0, sI i1, sI i2, sI i3, sI i4, sI x5, sR b1, sR c10_0, sR c11_0, sI 0, sU] []) _
          refine Own.iload X11.here hx rfl (hb hby at_114) rfl hp0 ?_
          refine wic X11 hx hby rfl at_116 ?_
          refine wcy X11 hx hby rfl (pc0 := 117) (pc' := 132) rfl at_117 rfl (flt (by decide : ¬ ((3 : Int32) < (3 : Int32)))).2.2.2 (by decide) (by decide) ?_
          show St p e below T11 (mkF m 132 #[sI i0, sI i1, sI i2, sI i3, sI i4, sI x5, sR b1, sR c10_0, sR c11_0, sI 0, sU] []) _
          refine Own.iload X11.here hx rfl (hb hby at_132) rfl hp0 ?_
          refine wiL X11 hx hby rfl at_134 rfl ?_
          refine Own.isub X11.here hx rfl (hb hby at_136) rfl (by decide : ((3 : Int32) - (0 : Int32)) = (3 : Int32)) ?_
          refine wic X11 hx hby rfl at_137 ?_
          refine Own.isub X11.here hx rfl (hb hby at_138) rfl (by decide : ((3 : Int32) - (1 : Int32)) = (2 : Int32)) ?_
          refine wiS X11 hx hby rfl at_139 rfl (l' := #[sI i0, sI i1, sI i2, sI i3, sI i4, sI x5, sR b1, sR c10_0, sR c11_0, sI 0, sI 2]) rfl ?_
          refine waL X11 hx hby rfl at_141 rfl rfl ?_
          refine wnn X11 hx hby rfl at_143 rfl ?_
          refine waL X11 hx hby rfl at_146 rfl rfl ?_
          refine st13 _ ?_
          refine wiL X13 hx hby rfl at_151 rfl ?_
          refine wcy X13 hx hby rfl (pc0 := 153) (pc' := 158) rfl at_153 rfl (teq (by decide : (2 : Int32) = (2 : Int32))).1 (by decide) (by decide) ?_
          show St p e below T13 (mkF m 158 #[sI i0, sI i1, sI i2, sI i3, sI i4, sI x5, sR b1, sR c10_0, sR c11_0, sI 0, sI 2] []) _
          refine wiL X13 hx hby rfl at_158 rfl ?_
          refine wfn X13 hx hby rfl at_160 rfl ((if0 _ _).trans (tlt (by decide : (0 : Int32) < (2 : Int32))).2.2.2) ?_
          refine waL X13 hx hby rfl at_163 rfl rfl ?_
          refine wic X13 hx hby rfl at_165 ?_
          refine st14 _ ?_
          refine waL X14 hx hby rfl at_169 rfl rfl ?_
          refine wiL X14 hx hby rfl at_171 rfl ?_
          refine wic X14 hx hby rfl at_173 ?_
          refine Own.iadd X14.here hx rfl (hb hby at_174) rfl (by decide : ((0 : Int32) + (1 : Int32)) = (1 : Int32)) ?_
          refine own_caload X14 hx hZ e14 f12 (j := 1) (by decide) (v := (vI z21)) rfl (g := (mkF m 175 #[sI i0, sI i1, sI i2, sI i3, sI i4, sI x5, sR b1, sR c10_0, sR c11_0, sI 0, sI 2] [(vI 1), (vR b1), (vI ((z21.toInt8.toInt32) &&& (255 : Int32)))])) rfl rfl (hb hby at_175) ?_
          refine wcy X14 hx hby rfl (pc0 := 176) (pc' := 181) rfl at_176 rfl (teq hd13).1 (by decide) (by decide) ?_
          show St p e below T14 (mkF m 181 #[sI i0, sI i1, sI i2, sI i3, sI i4, sI x5, sR b1, sR c10_0, sR c11_0, sI 0, sI 2] []) _
          refine wiL X14 hx hby rfl at_181 rfl ?_
          refine wic X14 hx hby rfl at_183 ?_
          refine wcn X14 hx hby rfl at_184 rfl (tlt (by decide : (1 : Int32) < (2 : Int32))).2.2.2 ?_
          refine waL X14 hx hby rfl at_187 rfl rfl ?_
          refine wic X14 hx hby rfl at_189 ?_
          refine st15 _ ?_
          refine waL X15 hx hby rfl at_193 rfl rfl ?_
          refine wiL X15 hx hby rfl at_195 rfl ?_
          refine wic X15 hx hby rfl at_197 ?_
          refine Own.iadd X15.here hx rfl (hb hby at_198) rfl (by decide : ((0 : Int32) + (2 : Int32)) = (2 : Int32)) ?_
          refine own_caload X15 hx hZ e15 f12 (j := 2) (by decide) (v := (vI z28)) rfl (g := (mkF m 199 #[sI i0, sI i1, sI i2, sI i3, sI i4, sI x5, sR b1, sR c10_0, sR c11_0, sI 0, sI 2] [(vI 2), (vR b1), (vI ((z28.toInt8.toInt32) &&& (255 : Int32)))])) rfl rfl (hb hby at_199) ?_
          refine wcy X15 hx hby rfl (pc0 := 200) (pc' := 205) rfl at_200 rfl (teq hd18).1 (by decide) (by decide) ?_
          show St p e below T15 (mkF m 205 #[sI i0, sI i1, sI i2, sI i3, sI i4, sI x5, sR b1, sR c10_0, sR c11_0, sI 0, sI 2] []) _
          refine wiL X15 hx hby rfl at_205 rfl ?_
          refine wic X15 hx hby rfl at_207 ?_
          refine wcy X15 hx hby rfl (pc0 := 208) (pc' := 229) rfl at_208 rfl (flt (by decide : ¬ ((2 : Int32) < (2 : Int32)))).2.2.2 (by decide) (by decide) ?_
          show St p e below T15 (mkF m 229 #[sI i0, sI i1, sI i2, sI i3, sI i4, sI x5, sR b1, sR c10_0, sR c11_0, sI 0, sI 2] []) _
          refine wiL X15 hx hby rfl at_229 rfl ?_
          refine wic X15 hx hby rfl at_231 ?_
          refine wcy X15 hx hby rfl (pc0 := 232) (pc' := 253) rfl at_232 rfl (flt (by decide : ¬ ((3 : Int32) < (2 : Int32)))).2.2.2 (by decide) (by decide) ?_
          show St p e below T15 (mkF m 253 #[sI i0, sI i1, sI i2, sI i3, sI i4, sI x5, sR b1, sR c10_0, sR c11_0, sI 0, sI 2] []) _
          refine wic X15 hx hby rfl at_253 ?_
          exact retN X15 hx (t := .boolean) hret (by simp) (hb hby at_254) hr
        · have sf10 := (sf0 : ∀ x ∈ [], Safe Z EL s.vm h9 x)
          obtain ⟨_, T10, L10, ⟨c10_0, c10_1, k10_2, rfl, N10q, Kq10, lo10_0, lo10_1, q10_0, q10_1, q10_2, q10_3⟩, X10, st10⟩ := cS X9 hx hZ (W := 0) hown (cw2 cx) (rm83 cx b1 z14 z21 z28 z36 k1 O9 V9 hz2_0 hd0 hz4_0 hd1 hz6_0 hd2 hz2_1 hz4_1 hz6_1) e9 (g := (mkF m 46 #[sI i0, sI i1, sI i2, sI i3, sI i4, sI x5, sR b1, sU, sU, sU, sU] [(vR b1), (vI 3)])) rfl hml rfl (rest := []) rfl rfl rfl rfl (hb hby at_46) (by decide)
          have N10 := Fr.app N9 N10q
          have C10 := C9.trans (CHr.keep Kq10 sf10 C9.1)
          have O10 : Old Z n0 T10.heap := O9.keep Kq10 all0
          have K10 : Keep h0 T10.heap [] := K9.trans Kq10 all0
          have hd17 : ¬ ((z28.toInt8.toInt32) = (58 : Int32)) := ((fun q => hp1 ((own_blit hz6_0 hz6_1 (by decide)).mp q)) : ¬ ((z28.toInt8.toInt32) = (58 : Int32)))
          have hd12 : ¬ ((z21.toInt8.toInt32) = (58 : Int32)) := ((fun q => hp2 ((own_blit hz4_0 hz4_1 (by decide)).mp q)) : ¬ ((z21.toInt8.toInt32) = (58 : Int32)))
          have hd7 : ¬ ((z14.toInt8.toInt32) = (58 : Int32)) := ((fun q => hp3 ((own_blit hz2_0 hz2_1 (by decide)).mp q)) : ¬ ((z14.toInt8.toInt32) = (58 : Int32)))
          have sf11 := (sf0 : ∀ x ∈ [], Safe Z EL s.vm T10.heap x)
          obtain ⟨_, T11, L11, ⟨rfl, N11q, e11⟩, X11, st11⟩ := cS X10 hx hZ (W := 0) hown (cw15 cx) (rm115 cx c10_0 (z14.toInt8.toInt32) (z21.toInt8.toInt32) (z28.toInt8.toInt32) c10_1 k10_2 O10 q10_1 q10_3 q10_2 q10_0 hd17 hd12 hd7) (rfl : T10.heap = T10.heap) (g := (mkF m 53 #[sI i0, sI i1, sI i2, sI i3, sI i4, sI x5, sR b1, sR c10_0, sU, sU, sU] [(vR c10_0)])) rfl hml rfl (rest := []) rfl rfl rfl rfl (hb hby at_53) (by decide)
          have f12 : Arv Z T10.heap b1 k1 .char (4 : Int32) [(vI z14), (vI z21), (vI z28), (vI z36)] (vI 0) := (V9.keep Kq10 nin0)
          have sf13 := (sf0 : ∀ x ∈ [], Safe Z EL s.vm T10.heap x)
          obtain ⟨_, T13, L13, ⟨rfl, N13q, e13⟩, X13, st13⟩ := cV X11 hx hZ (W := 0) hown (cw16 cx) (rm84 cx c10_0 c10_1 (z14.toInt8.toInt32) (z21.toInt8.toInt32) (z28.toInt8.toInt32) k10_2 O10 q10_1 q10_3 q10_2 q10_0) e11 q10_0 (g := (mkF m 148 #[sI i0, sI i1, sI i2, sI i3, sI i4, sI x5, sR b1, sR c10_0, sR c10_0, sI (-1), sI 3] [(vR c10_0)])) rfl hml rfl (rest := []) rfl rfl rfl rfl (hb hby at_148) (by decide)
          have sf14 := (sf0 : ∀ x ∈ [], Safe Z EL s.vm T10.heap x)
          obtain ⟨_, T14, L14, ⟨rfl, N14q, e14⟩, X14, st14⟩ := cV X13 hx hZ (W := 0) hown (cw24 cx) (rm117 cx c10_0 c10_1 (z14.toInt8.toInt32) (z21.toInt8.toInt32) (z28.toInt8.toInt32) k10_2 O10 q10_2 q10_0 q10_1 q10_3) e13 q10_0 (g := (mkF m 166 #[sI i0, sI i1, sI i2, sI i3, sI i4, sI x5, sR b1, sR c10_0, sR c10_0, sI (-1), sI 3] [(vI 0), (vR c10_0)])) rfl hml rfl (rest := []) rfl rfl rfl rfl (hb hby at_166) (by decide)
          have hd8 : ((z14.toInt8.toInt32) &&& (255 : Int32)) = z14 := (by rw [show ((z14.toInt8.toInt32) &&& (255 : Int32)) = z14 from own_b255 hz2_0 hz2_1] : ((z14.toInt8.toInt32) &&& (255 : Int32)) = z14)
          have sf15 := (sf0 : ∀ x ∈ [], Safe Z EL s.vm T10.heap x)
          obtain ⟨_, T15, L15, ⟨rfl, N15q, e15⟩, X15, st15⟩ := cV X14 hx hZ (W := 0) hown (cw24 cx) (rm119 cx c10_0 c10_1 (z14.toInt8.toInt32) (z21.toInt8.toInt32) (z28.toInt8.toInt32) k10_2 O10 q10_2 q10_0 q10_1 q10_3) e14 q10_0 (g := (mkF m 190 #[sI i0, sI i1, sI i2, sI i3, sI i4, sI x5, sR b1, sR c10_0, sR c10_0, sI (-1), sI 3] [(vI 1), (vR c10_0)])) rfl hml rfl (rest := []) rfl rfl rfl rfl (hb hby at_190) (by decide)
          have hd13 : ((z21.toInt8.toInt32) &&& (255 : Int32)) = z21 := (by rw [show ((z21.toInt8.toInt32) &&& (255 : Int32)) = z21 from own_b255 hz4_0 hz4_1] : ((z21.toInt8.toInt32) &&& (255 : Int32)) = z21)
          have sf16 := (sf0 : ∀ x ∈ [], Safe Z EL s.vm T10.heap x)
          obtain ⟨_, T16, L16, ⟨rfl, N16q, e16⟩, X16, st16⟩ := cV X15 hx hZ (W := 0) hown (cw24 cx) (rm121 cx c10_0 c10_1 (z14.toInt8.toInt32) (z21.toInt8.toInt32) (z28.toInt8.toInt32) k10_2 O10 q10_2 q10_0 q10_1 q10_3) e15 q10_0 (g := (mkF m 214 #[sI i0, sI i1, sI i2, sI i3, sI i4, sI x5, sR b1, sR c10_0, sR c10_0, sI (-1), sI 3] [(vI 2), (vR c10_0)])) rfl hml rfl (rest := []) rfl rfl rfl rfl (hb hby at_214) (by decide)
          have hd18 : ((z28.toInt8.toInt32) &&& (255 : Int32)) = z28 := (by rw [show ((z28.toInt8.toInt32) &&& (255 : Int32)) = z28 from own_b255 hz6_0 hz6_1] : ((z28.toInt8.toInt32) &&& (255 : Int32)) = z28)
          refine own_endW X16 hlk (v := some (vI 1)) (own_hv hret) hS0 (Nat.le_trans (Nat.le_refl _) (Nat.le_trans (Nat.le_trans (Nat.le_trans (Nat.le_trans (Nat.le_trans E1.1 (Nat.le_of_eq W3.size.symm)) (Nat.le_of_eq W5.size.symm)) (Nat.le_of_eq W7.size.symm)) (Nat.le_of_eq W9.size.symm)) Kq10.1)) (by decide) hh e16 C10 hZ (own_EW hw hj) ⟨rfl, (Fr.app (Fr.app (Fr.app (Fr.app (Fr.app N10 N11q) N13q) N14q) N15q) N16q)⟩ fun fs hr => pre2 _ ?_
          refine st10 _ ?_
          show St p e below T10 (mkF m 49 #[sI i0, sI i1, sI i2, sI i3, sI i4, sI x5, sR b1, sU, sU, sU, sU] [(vR c10_0)]) _
          refine waS X10 hx hby rfl at_49 rfl rfl (l' := #[sI i0, sI i1, sI i2, sI i3, sI i4, sI x5, sR b1, sR c10_0, sU, sU, sU]) rfl ?_
          refine waL X10 hx hby rfl at_51 rfl rfl ?_
          refine st11 _ ?_
          refine waS X11 hx hby rfl at_56 rfl rfl (l' := #[sI i0, sI i1, sI i2, sI i3, sI i4, sI x5, sR b1, sR c10_0, sR c10_0, sU, sU]) rfl ?_
          refine wic X11 hx hby rfl at_58 ?_
          refine wiS X11 hx hby rfl at_59 rfl (l' := #[sI i0, sI i1, sI i2, sI i3, sI i4, sI x5, sR b1, sR c10_0, sR c10_0, sI (-1), sU]) rfl ?_
          refine Own.iload X11.here hx rfl (hb hby at_61) rfl hp0 ?_
          refine wfn X11 hx hby rfl at_63 rfl ((if0 _ _).trans (tlt (by decide : (0 : Int32) < (3 : Int32))).2.2.2) ?_
          refine waL X11 hx hby rfl at_66 rfl rfl ?_
          refine wic X11 hx hby rfl at_68 ?_
          refine own_caload X11 hx hZ e11 f12 (j := 0) (by decide) (v := (vI z14)) rfl (g := (mkF m 69 #[sI i0, sI i1, sI i2, sI i3, sI i4, sI x5, sR b1, sR c10_0, sR c10_0, sI (-1), sU] [(vI 0), (vR b1)])) rfl rfl (hb hby at_69) ?_
          refine wbp X11 hx hby rfl at_70 ?_
          refine wcy X11 hx hby rfl (pc0 := 72) (pc' := 78) rfl at_72 rfl (feq hp3).2 (by decide) (by decide) ?_
          show St p e below T11 (mkF m 78 #[sI i0, sI i1, sI i2, sI i3, sI i4, sI x5, sR b1, sR c10_0, sR c10_0, sI (-1), sU] []) _
          refine Own.iload X11.here hx rfl (hb hby at_78) rfl hp0 ?_
          refine wic X11 hx hby rfl at_80 ?_
          refine wcn X11 hx hby rfl at_81 rfl (tlt (by decide : (1 : Int32) < (3 : Int32))).2.2.2 ?_
          refine waL X11 hx hby rfl at_84 rfl rfl ?_
          refine wic X11 hx hby rfl at_86 ?_
          refine own_caload X11 hx hZ e11 f12 (j := 1) (by decide) (v := (vI z21)) rfl (g := (mkF m 87 #[sI i0, sI i1, sI i2, sI i3, sI i4, sI x5, sR b1, sR c10_0, sR c10_0, sI (-1), sU] [(vI 1), (vR b1)])) rfl rfl (hb hby at_87) ?_
          refine wbp X11 hx hby rfl at_88 ?_
          refine wcy X11 hx hby rfl (pc0 := 90) (pc' := 96) rfl at_90 rfl (feq hp2).2 (by decide) (by decide) ?_
          show St p e below T11 (mkF m 96 #[sI i0, sI i1, sI i2, sI i3, sI i4, sI x5, sR b1, sR c10_0, sR c10_0, sI (-1), sU] []) _
          refine Own.iload X11.here hx rfl (hb hby at_96) rfl hp0 ?_
          refine wic X11 hx hby rfl at_98 ?_
          refine wcn X11 hx hby rfl at_99 rfl (tlt (by decide : (2 : Int32) < (3 : Int32))).2.2.2 ?_
          refine waL X11 hx hby rfl at_102 rfl rfl ?_
          refine wic X11 hx hby rfl at_104 ?_
          refine own_caload X11 hx hZ e11 f12 (j := 2) (by decide) (v := (vI z28)) rfl (g := (mkF m 105 #[sI i0, sI i1, sI i2, sI i3, sI i4, sI x5, sR b1, sR c10_0, sR c10_0, sI (-1), sU] [(vI 2), (vR b1)])) rfl rfl (hb hby at_105) ?_
          refine wbp X11 hx hby rfl at_106 ?_
          refine wcy X11 hx hby rfl (pc0 := 108) (pc' := 114) rfl at_108 rfl (feq hp1).2 (by decide) (by decide) ?_
          show St p e below T11 (mkF m 114 #[sI i0, sI i1, sI i2, sI i3, sI i4, sI x5, sR b1, sR c10_0, sR c10_0, sI (-1), sU] []) _
          refine Own.iload X11.here hx rfl (hb hby at_114) rfl hp0 ?_
          refine wic X11 hx hby rfl at_116 ?_
          refine wcy X11 hx hby rfl (pc0 := 117) (pc' := 132) rfl at_117 rfl (flt (by decide : ¬ ((3 : Int32) < (3 : Int32)))).2.2.2 (by decide) (by decide) ?_
          show St p e below T11 (mkF m 132 #[sI i0, sI i1, sI i2, sI i3, sI i4, sI x5, sR b1, sR c10_0, sR c10_0, sI (-1), sU] []) _
          refine Own.iload X11.here hx rfl (hb hby at_132) rfl hp0 ?_
          refine wiL X11 hx hby rfl at_134 rfl ?_
          refine Own.isub X11.here hx rfl (hb hby at_136) rfl (by decide : ((3 : Int32) - (-1 : Int32)) = (4 : Int32)) ?_
          refine wic X11 hx hby rfl at_137 ?_
          refine Own.isub X11.here hx rfl (hb hby at_138) rfl (by decide : ((4 : Int32) - (1 : Int32)) = (3 : Int32)) ?_
          refine wiS X11 hx hby rfl at_139 rfl (l' := #[sI i0, sI i1, sI i2, sI i3, sI i4, sI x5, sR b1, sR c10_0, sR c10_0, sI (-1), sI 3]) rfl ?_
          refine waL X11 hx hby rfl at_141 rfl rfl ?_
          refine wnn X11 hx hby rfl at_143 rfl ?_
          refine waL X11 hx hby rfl at_146 rfl rfl ?_
          refine st13 _ ?_
          refine wiL X13 hx hby rfl at_151 rfl ?_
          refine wcy X13 hx hby rfl (pc0 := 153) (pc' := 158) rfl at_153 rfl (teq (by decide : (3 : Int32) = (3 : Int32))).1 (by decide) (by decide) ?_
          show St p e below T13 (mkF m 158 #[sI i0, sI i1, sI i2, sI i3, sI i4, sI x5, sR b1, sR c10_0, sR c10_0, sI (-1), sI 3] []) _
          refine wiL X13 hx hby rfl at_158 rfl ?_
          refine wfn X13 hx hby rfl at_160 rfl ((if0 _ _).trans (tlt (by decide : (0 : Int32) < (3 : Int32))).2.2.2) ?_
          refine waL X13 hx hby rfl at_163 rfl rfl ?_
          refine wic X13 hx hby rfl at_165 ?_
          refine st14 _ ?_
          refine waL X14 hx hby rfl at_169 rfl rfl ?_
          refine wiL X14 hx hby rfl at_171 rfl ?_
          refine wic X14 hx hby rfl at_173 ?_
          refine Own.iadd X14.here hx rfl (hb hby at_174) rfl (by decide : ((-1 : Int32) + (1 : Int32)) = (0 : Int32)) ?_
          refine own_caload X14 hx hZ e14 f12 (j := 0) (by decide) (v := (vI z14)) rfl (g := (mkF m 175 #[sI i0, sI i1, sI i2, sI i3, sI i4, sI x5, sR b1, sR c10_0, sR c10_0, sI (-1), sI 3] [(vI 0), (vR b1), (vI ((z14.toInt8.toInt32) &&& (255 : Int32)))])) rfl rfl (hb hby at_175) ?_
          refine wcy X14 hx hby rfl (pc0 := 176) (pc' := 181) rfl at_176 rfl (teq hd8).1 (by decide) (by decide) ?_
          show St p e below T14 (mkF m 181 #[sI i0, sI i1, sI i2, sI i3, sI i4, sI x5, sR b1, sR c10_0, sR c10_0, sI (-1), sI 3] []) _
          refine wiL X14 hx hby rfl at_181 rfl ?_
          refine wic X14 hx hby rfl at_183 ?_
          refine wcn X14 hx hby rfl at_184 rfl (tlt (by decide : (1 : Int32) < (3 : Int32))).2.2.2 ?_
          refine waL X14 hx hby rfl at_187 rfl rfl ?_
          refine wic X14 hx hby rfl at_189 ?_
          refine st15 _ ?_
          refine waL X15 hx hby rfl at_193 rfl rfl ?_
          refine wiL X15 hx hby rfl at_195 rfl ?_
          refine wic X15 hx hby rfl at_197 ?_
          refine Own.iadd X15.here hx rfl (hb hby at_198) rfl (by decide : ((-1 : Int32) + (2 : Int32)) = (1 : Int32)) ?_
          refine own_caload X15 hx hZ e15 f12 (j := 1) (by decide) (v := (vI z21)) rfl (g := (mkF m 199 #[sI i0, sI i1, sI i2, sI i3, sI i4, sI x5, sR b1, sR c10_0, sR c10_0, sI (-1), sI 3] [(vI 1), (vR b1), (vI ((z21.toInt8.toInt32) &&& (255 : Int32)))])) rfl rfl (hb hby at_199) ?_
          refine wcy X15 hx hby rfl (pc0 := 200) (pc' := 205) rfl at_200 rfl (teq hd13).1 (by decide) (by decide) ?_
          show St p e below T15 (mkF m 205 #[sI i0, sI i1, sI i2, sI i3, sI i4, sI x5, sR b1, sR c10_0, sR c10_0, sI (-1), sI 3] []) _
          refine wiL X15 hx hby rfl at_205 rfl ?_
          refine wic X15 hx hby rfl at_207 ?_
          refine wcn X15 hx hby rfl at_208 rfl (tlt (by decide : (2 : Int32) < (3 : Int32))).2.2.2 ?_
          refine waL X15 hx hby rfl at_211 rfl rfl ?_
          refine wic X15 hx hby rfl at_213 ?_
          refine st16 _ ?_
          refine waL X16 hx hby rfl at_217 rfl rfl ?_
          refine wiL X16 hx hby rfl at_219 rfl ?_
          refine wic X16 hx hby rfl at_221 ?_
          refine Own.iadd X16.here hx rfl (hb hby at_222) rfl (by decide : ((-1 : Int32) + (3 : Int32)) = (2 : Int32)) ?_
          refine own_caload X16 hx hZ e16 f12 (j := 2) (by decide) (v := (vI z28)) rfl (g := (mkF m 223 #[sI i0, sI i1, sI i2, sI i3, sI i4, sI x5, sR b1, sR c10_0, sR c10_0, sI (-1), sI 3] [(vI 2), (vR b1), (vI ((z28.toInt8.toInt32) &&& (255 : Int32)))])) rfl rfl (hb hby at_223) ?_
          refine wcy X16 hx hby rfl (pc0 := 224) (pc' := 229) rfl at_224 rfl (teq hd18).1 (by decide) (by decide) ?_
          show St p e below T16 (mkF m 229 #[sI i0, sI i1, sI i2, sI i3, sI i4, sI x5, sR b1, sR c10_0, sR c10_0, sI (-1), sI 3] []) _
          refine wiL X16 hx hby rfl at_229 rfl ?_
          refine wic X16 hx hby rfl at_231 ?_
          refine wcy X16 hx hby rfl (pc0 := 232) (pc' := 253) rfl at_232 rfl (flt (by decide : ¬ ((3 : Int32) < (3 : Int32)))).2.2.2 (by decide) (by decide) ?_
          show St p e below T16 (mkF m 253 #[sI i0, sI i1, sI i2, sI i3, sI i4, sI x5, sR b1, sR c10_0, sR c10_0, sI (-1), sI 3] []) _
          refine wic X16 hx hby rfl at_253 ?_
          exact retN X16 hx (t := .boolean) hret (by simp) (hb hby at_254) hr
  · have pre2 : ∀ t, St p e below T9 (mkF m 46 #[sI i0, sI i1, sI i2, sI i3, sI i4, sI x5, sR b1, sU, sU, sU, sU] [(vR b1), (vI 4)]) t → St p e below s₁ g0 t := fun t kt => pre1 _ (by
        refine Own.iload X9.here hx rfl (hb hby at_42) rfl hp0 ?_
        refine waL X9 hx hby rfl at_44 rfl rfl ?_
        exact kt)
    rcases Decidable.em (z36 = (58 : Int32)) with hp1 | hp1
    · have sf10 := (sf0 : ∀ x ∈ [], Safe Z EL s.vm h9 x)
      obtain ⟨_, T10, L10, ⟨c10_0, c10_1, k10_2, rfl, N10q, Kq10, lo10_0, lo10_1, q10_0, q10_1, q10_2, q10_3⟩, X10, st10⟩ := cS X9 hx hZ (W := 0) hown (cw2 cx) (rm127 cx b1 z14 z21 z28 z36 k1 O9 V9 hz2_0 hd0 hz4_0 hd1 hz6_0 hd2 hz8_0 hd3 hz2_1 hz4_1 hz6_1 hz8_1) e9 (g := (mkF m 46 #[sI i0, sI i1, sI i2, sI i3, sI i4, sI x5, sR b1, sU, sU, sU, sU] [(vR b1), (vI 4)])) rfl hml rfl (rest := []) rfl rfl rfl rfl (hb hby at_46) (by decide)
      have N10 := Fr.app N9 N10q
      have C10 := C9.trans (CHr.keep Kq10 sf10 C9.1)
      have O10 : Old Z n0 T10.heap := O9.keep Kq10 all0
      have K10 : Keep h0 T10.heap [] := K9.trans Kq10 all0
      have hd19 : ¬ (z36 < (-128 : Int32)) := (by have q0 := own_rg hz8_0 hz8_1 (l := 0) (h := 255) (by decide); have q1 := (by decide : ((-128 : Int32)).toInt = -128); exact own_ltF (by omega) : ¬ (z36 < (-128 : Int32)))
      have hd20 : ¬ ((127 : Int32) < z36) := (by have q0 := (by decide : ((127 : Int32)).toInt = 127); have q1 := own_rg hz8_0 hz8_1 (l := 0) (h := 255) (by decide); have q2 := (by decide : ((58 : Int32)).toInt = 58); have q3 := own_eqT' hp1; have q4 := (by decide : ((0 : Int32)).toInt = 0); have q5 := own_ltF' hz8_0; have q6 := (by decide : ((255 : Int32)).toInt = 255); have q7 := own_ltF' hz8_1; exact own_ltF (by omega) : ¬ ((127 : Int32) < z36))
      have hd21 : (z36.toInt8.toInt32) = (58 : Int32) := (by rw [show (z36.toInt8.toInt32) = z36 from own_i2b hd19 hd20]; exact hp1 : (z36.toInt8.toInt32) = (58 : Int32))
      obtain ⟨_, T11, L11, ⟨c11_0, c11_1, k11_2, rfl, N11q, Kq11, q11_0, q11_1, q11_2, q11_3⟩, hS11, hZ11, hown11, Cq11, X11, st11⟩ := cSW X10 hx hZ (W := 0) hown (cw15 cx) (rm135 cx c10_0 (z14.toInt8.toInt32) (z21.toInt8.toInt32) (z28.toInt8.toInt32) (z36.toInt8.toInt32) c10_1 k10_2 O10 q10_1 q10_3 q10_2 q10_0 hd21) (rfl : T10.heap = T10.heap) hS0 (Nat.le_trans (Nat.le_refl _) (Nat.le_trans (Nat.le_trans (Nat.le_trans (Nat.le_trans (Nat.le_trans E1.1 (Nat.le_of_eq W3.size.symm)) (Nat.le_of_eq W5.size.symm)) (Nat.le_of_eq W7.size.symm)) (Nat.le_of_eq W9.size.symm)) Kq10.1)) (own_EW hw hj) C10.1 own_sx0 (g := (mkF m 53 #[sI i0, sI i1, sI i2, sI i3, sI i4, sI x5, sR b1, sR c10_0, sU, sU, sU] [(vR c10_0)])) rfl hml rfl (rest := []) rfl rfl rfl rfl (hb hby at_53) (by decide)
      have N11 := Fr.app N10 N11q
      have C11 := C10.trans Cq11
      have O11 : Old Z n0 T11.heap := O10.keep Kq11 all0
      have K11 : Keep h0 T11.heap [] := K10.trans Kq11 all0
      have f12 : Arv Z T11.heap b1 k1 .char (4 : Int32) [(vI z14), (vI z21), (vI z28), (vI z36)] (vI 0) := ((V9.keep Kq10 nin0).keep Kq11 nin0)
      have suf4 : EndW EL Z p e s below room_1 (QL n0) (T11.setTop (mkF m 132 #[sI i0, sI i1, sI i2, sI i3, sI i4, sI x5, sR b1, sR c10_0, sR c11_0, sI 3, sU] [])) := by
        have sf13 := (sf0 : ∀ x ∈ [], Safe Z EL T11.vm T11.heap x)
        obtain ⟨_, T13, L13, ⟨rfl, N13q, e13⟩, X13, st13⟩ := cV X11 hx hZ11 (W := 0) hown11 (cw16 cx) (rm5 cx c11_0 c11_1 k11_2 O11 q11_2 q11_3 q11_1 q11_0) (rfl : T11.heap = T11.heap) q11_0 (g := (mkF m 148 #[sI i0, sI i1, sI i2, sI i3, sI i4, sI x5, sR b1, sR c10_0, sR c11_0, sI 3, sI 0] [(vR c11_0)])) rfl hml rfl (rest := []) rfl rfl rfl rfl (hb hby at_148) (by decide)
        refine own_endW X13 hlk (v := some (vI 1)) (own_hv hret) hS11 (Nat.le_refl _) (by decide) hh e13 C11 hZ11 (own_EW hw hj) ⟨rfl, (Fr.app N11 N13q)⟩ fun fs hr => ?_
        show St p e below T11 (mkF m 132 #[sI i0, sI i1, sI i2, sI i3, sI i4, sI x5, sR b1, sR c10_0, sR c11_0, sI 3, sU] []) _
        refine Own.iload X11.here hx rfl (hb hby at_132) rfl hp0 ?_
        refine wiL X11 hx hby rfl at_134 rfl ?_
        refine Own.isub X11.here hx rfl (hb hby at_136) rfl (by decide : ((4 : Int32) - (3 : Int32)) = (1 : Int32)) ?_
        refine wic X11 hx hby rfl at_137 ?_
        refine Own.isub X11.here hx rfl (hb hby at_138) rfl (by decide : ((1 : Int32) - (1 : Int32)) = (0 : Int32)) ?_
        refine wiS X11 hx hby rfl at_139 rfl (l' := #[sI i0, sI i1, sI i2, sI i3, sI i4, sI x5, sR b1, sR c10_0, sR c11_0, sI 3, sI 0]) rfl ?_
        refine waL X11 hx hby rfl at_141 rfl rfl ?_
        refine wnn X11 hx hby rfl at_143 rfl ?_
        refine waL X11 hx hby rfl at_146 rfl rfl ?_
        refine st13 _ ?_
        refine wiL X13 hx hby rfl at_151 rfl ?_
        refine wcy X13 hx hby rfl (pc0 := 153) (pc' := 158) rfl at_153 rfl (teq (by decide : (0 : Int32) = (0 : Int32))).1 (by decide) (by decide) ?_
        show St p e below T13 (mkF m 158 #[sI i0, sI i1, sI i2, sI i3, sI i4, sI x5, sR b1, sR c10_0, sR c11_0, sI 3, sI 0] []) _
        refine wiL X13 hx hby rfl at_158 rfl ?_
        refine wfy X13 hx hby rfl (pc0 := 160) (pc' := 181) rfl at_160 rfl ((if0 _ _).trans (flt (by decide : ¬ ((0 : Int32) < (0 : Int32)))).2.2.2) (by decide) (by decide) ?_
        show St p e below T13 (mkF m 181 #[sI i0, sI i1, sI i2, sI i3, sI i4, sI x5, sR b1, sR c10_0, sR c11_0, sI 3, sI 0] []) _
        refine wiL X13 hx hby rfl at_181 rfl ?_
        refine wic X13 hx hby rfl at_183 ?_
        refine wcy X13 hx hby rfl (pc0 := 184) (pc' := 205) rfl at_184 rfl (flt (by decide : ¬ ((1 : Int32) < (0 : Int32)))).2.2.2 (by decide) (by decide) ?_
        show St p e below T13 (mkF m 205 #[sI i0, sI i1, sI i2, sI i3, sI i4, sI x5, sR b1, sR c10_0, sR c11_0, sI 3, sI 0] []) _
        refine wiL X13 hx hby rfl at_205 rfl ?_
        refine wic X13 hx hby rfl at_207 ?_
        refine wcy X13 hx hby rfl (pc0 := 208) (pc' := 229) rfl at_208 rfl (flt (by decide : ¬ ((2 : Int32) < (0 : Int32)))).2.2.2 (by decide) (by decide) ?_
        show St p e below T13 (mkF m 229 #[sI i0, sI i1, sI i2, sI i3, sI i4, sI x5, sR b1, sR c10_0, sR c11_0, sI 3, sI 0] []) _
        refine wiL X13 hx hby rfl at_229 rfl ?_
        refine wic X13 hx hby rfl at_231 ?_
        refine wcy X13 hx hby rfl (pc0 := 232) (pc' := 253) rfl at_232 rfl (flt (by decide : ¬ ((3 : Int32) < (0 : Int32)))).2.2.2 (by decide) (by decide) ?_
        show St p e below T13 (mkF m 253 #[sI i0, sI i1, sI i2, sI i3, sI i4, sI x5, sR b1, sR c10_0, sR c11_0, sI 3, sI 0] []) _
        refine wic X13 hx hby rfl at_253 ?_
        exact retN X13 hx (t := .boolean) hret (by simp) (hb hby at_254) hr
      rcases Decidable.em (z14 = (58 : Int32)) with hp2 | hp2
      · rcases Decidable.em (z21 = (58 : Int32)) with hp3 | hp3
        · rcases Decidable.em (z28 = (58 : Int32)) with hp4 | hp4
          · refine own_via (fun t kt => pre2 _ ?_) suf4
            refine st10 _ ?_
            show St p e below T10 (mkF m 49 #[sI i0, sI i1, sI i2, sI i3, sI i4, sI x5, sR b1, sU, sU, sU, sU] [(vR c10_0)]) _
            refine waS X10 hx hby rfl at_49 rfl rfl (l' := #[sI i0, sI i1, sI i2, sI i3, sI i4, sI x5, sR b1, sR c10_0, sU, sU, sU]) rfl ?_
            refine waL X10 hx hby rfl at_51 rfl rfl ?_
            refine st11 _ ?_
            refine waS X11 hx hby rfl at_56 rfl rfl (l' := #[sI i0, sI i1, sI i2, sI i3, sI i4, sI x5, sR b1, sR c10_0, sR c11_0, sU, sU]) rfl ?_
            refine wic X11 hx hby rfl at_58 ?_
            refine wiS X11 hx hby rfl at_59 rfl (l' := #[sI i0, sI i1, sI i2, sI i3, sI i4, sI x5, sR b1, sR c10_0, sR c11_0, sI (-1), sU]) rfl ?_
            refine Own.iload X11.here hx rfl (hb hby at_61) rfl hp0 ?_
            refine wfn X11 hx hby rfl at_63 rfl ((if0 _ _).trans (tlt (by decide : (0 : Int32) < (4 : Int32))).2.2.2) ?_
            refine waL X11 hx hby rfl at_66 rfl rfl ?_
            refine wic X11 hx hby rfl at_68 ?_
            refine own_caload X11 hx hZ11 (rfl : T11.heap = T11.heap) f12 (j := 0) (by decide) (v := (vI z14)) rfl (g := (mkF m 69 #[sI i0, sI i1, sI i2, sI i3, sI i4, sI x5, sR b1, sR c10_0, sR c11_0, sI (-1), sU] [(vI 0), (vR b1)])) rfl rfl (hb hby at_69) ?_
            refine wbp X11 hx hby rfl at_70 ?_
            refine wcn X11 hx hby rfl at_72 rfl (teq hp2).2 ?_
            refine wic X11 hx hby rfl at_75 ?_
            refine wiS X11 hx hby rfl at_76 rfl (l' := #[sI i0, sI i1, sI i2, sI i3, sI i4, sI x5, sR b1, sR c10_0, sR c11_0, sI 0, sU]) rfl ?_
            show St p e below T11 (mkF m 78 #[sI i0, sI i1, sI i2, sI i3, sI i4, sI x5, sR b1, sR c10_0, sR c11_0, sI 0, sU] []) _
            refine Own.iload X11.here hx rfl (hb hby at_78) rfl hp0 ?_
            refine wic X11 hx hby rfl at_80 ?_
            refine wcn X11 hx hby rfl at_81 rfl (tlt (by decide : (1 : Int32) < (4 : Int32))).2.2.2 ?_
            refine waL X11 hx hby rfl at_84 rfl rfl ?_
            refine wic X11 hx hby rfl at_86 ?_
            refine own_caload X11 hx hZ11 (rfl : T11.heap = T11.heap) f12 (j := 1) (by decide) (v := (vI z21)) rfl (g := (mkF m 87 #[sI i0, sI i1, sI i2, sI i3, sI i4, sI x5, sR b1, sR c10_0, sR c11_0, sI 0, sU] [(vI 1), (vR b1)])) rfl rfl (hb hby at_87) ?_
            refine wbp X11 hx hby rfl at_88 ?_
            refine wcn X11 hx hby rfl at_90 rfl (teq hp3).2 ?_
            refine wic X11 hx hby rfl at_93 ?_
            refine wiS X11 hx hby rfl at_94 rfl (l' := #[sI i0, sI i1, sI i2, sI i3, sI i4, sI x5, sR b1, sR c10_0, sR c11_0, sI 1, sU]) rfl ?_
            show St p e below T11 (mkF m 96 #[sI i0, sI i1, sI i2, sI i3, sI i4, sI x5, sR b1, sR c10_0, sR c11_0, sI 1, sU] []) _
            refine Own.iload X11.here hx rfl (hb hby at_96) rfl hp0 ?_
            refine wic X11 hx hby rfl at_98 ?_
            refine wcn X11 hx hby rfl at_99 rfl (tlt (by decide : (2 : Int32) < (4 : Int32))).2.2.2 ?_
            refine waL X11 hx hby rfl at_102 rfl rfl ?_
            refine wic X11 hx hby rfl at_104 ?_
            refine own_caload X11 hx hZ11 (rfl : T11.heap = T11.heap) f12 (j := 2) (by decide) (v := (vI z28)) rfl (g := (mkF m 105 #[sI i0, sI i1, sI i2, sI i3, sI i4, sI x5, sR b1, sR c10_0, sR c11_0, sI 1, sU] [(vI 2), (vR b1)])) rfl rfl (hb hby at_105) ?_
            refine wbp X11 hx hby rfl at_106 ?_
            refine wcn X11 hx hby rfl at_108 rfl (teq hp4).2 ?_
            refine wic X11 hx hby rfl at_111 ?_
            refine wiS X11 hx hby rfl at_112 rfl (l' := #[sI i0, sI i1, sI i2, sI i3, sI i4, sI x5, sR b1, sR c10_0, sR c11_0, sI 2, sU]) rfl ?_
            show St p e below T11 (mkF m 114 #[sI i0, sI i1, sI i2, sI i3, sI i4, sI x5, sR b1, sR c10_0, sR c11_0, sI 2, sU] []) _
            refine Own.iload X11.here hx rfl (hb hby at_114) rfl hp0 ?_
            refine wic X11 hx hby rfl at_116 ?_
            refine wcn X11 hx hby rfl at_117 rfl (tlt (by decide : (3 : Int32) < (4 : Int32))).2.2.2 ?_
            refine waL X11 hx hby rfl at_120 rfl rfl ?_
            refine wic X11 hx hby rfl at_122 ?_
            refine own_caload X11 hx hZ11 (rfl : T11.heap = T11.heap) f12 (j := 3) (by decide) (v := (vI z36)) rfl (g := (mkF m 123 #[sI i0, sI i1, sI i2, sI i3, sI i4, sI x5, sR b1, sR c10_0, sR c11_0, sI 2, sU] [(vI 3), (vR b1)])) rfl rfl (hb hby at_123) ?_
            refine wbp X11 hx hby rfl at_124 ?_
            refine wcn X11 hx hby rfl at_126 rfl (teq hp1).2 ?_
            refine wic X11 hx hby rfl at_129 ?_
            refine wiS X11 hx hby rfl at_130 rfl (l' := #[sI i0, sI i1, sI i2, sI i3, sI i4, sI x5, sR b1, sR c10_0, sR c11_0, sI 3, sU]) rfl ?_
            exact kt
          · refine own_via (fun t kt => pre2 _ ?_) suf4
            refine st10 _ ?_
            show St p e below T10 (mkF m 49 #[sI i0, sI i1, sI i2, sI i3, sI i4, sI x5, sR b1, sU, sU, sU, sU] [(vR c10_0)]) _
            refine waS X10 hx hby rfl at_49 rfl rfl (l' := #[sI i0, sI i1, sI i2, sI i3, sI i4, sI x5, sR b1, sR c10_0, sU, sU, sU]) rfl ?_
            refine waL X10 hx hby rfl at_51 rfl rfl ?_
            refine st11 _ ?_
            refine waS X11 hx hby rfl at_56 rfl rfl (l' := #[sI i0, sI i1, sI i2, sI i3, sI i4, sI x5, sR b1, sR c10_0, sR c11_0, sU, sU]) rfl ?_
            refine wic X11 hx hby rfl at_58 ?_
            refine wiS X11 hx hby rfl at_59 rfl (l' := #[sI i0, sI i1, sI i2, sI i3, sI i4, sI x5, sR b1, sR c10_0, sR c11_0, sI (-1), sU]) rfl ?_
            refine Own.iload X11.here hx rfl (hb hby at_61) rfl hp0 ?_
            refine wfn X11 hx hby rfl at_63 rfl ((if0 _ _).trans (tlt (by decide : (0 : Int32) < (4 : Int32))).2.2.2) ?_
            refine waL X11 hx hby rfl at_66 rfl rfl ?_
            refine wic X11 hx hby rfl at_68 ?_
            refine own_caload X11 hx hZ11 (rfl : T11.heap = T11.heap) f12 (j := 0) (by decide) (v := (vI z14)) rfl (g := (mkF m 69 #[sI i0, sI i1, sI i2, sI i3, sI i4, sI x5, sR b1, sR c10_0, sR c11_0, sI (-1), sU] [(vI 0), (vR b1)])) rfl rfl (hb hby at_69) ?_
            refine wbp X11 hx hby rfl at_70 ?_
            refine wcn X11 hx hby rfl at_72 rfl (teq hp2).2 ?_
            refine wic X11 hx hby rfl at_75 ?_
            refine wiS X11 hx hby rfl at_76 rfl (l' := #[sI i0, sI i1, sI i2, sI i3, sI i4, sI x5, sR b1, sR c10_0, sR c11_0, sI 0, sU]) rfl ?_
            show St p e below T11 (mkF m 78 #[sI i0, sI i1, sI i2, sI i3, sI i4, sI x5, sR b1, sR c10_0, sR c11_0, sI 0, sU] []) _
            refine Own.iload X11.here hx rfl (hb hby at_78) rfl hp0 ?_
            refine wic X11 hx hby rfl at_80 ?_
            refine wcn X11 hx hby rfl at_81 rfl (tlt (by decide : (1 : Int32) < (4 : Int32))).2.2.2 ?_
            refine waL X11 hx hby rfl at_84 rfl rfl ?_
            refine wic X11 hx hby rfl at_86 ?_
            refine own_caload X11 hx hZ11 (rfl : T11.heap = T11.heap) f12 (j := 1) (by decide) (v := (vI z21)) rfl (g := (mkF m 87 #[sI i0, sI i1, sI i2, sI i3, sI i4, sI x5, sR b1, sR c10_0, sR c11_0, sI 0, sU] [(vI 1), (vR b1)])) rfl rfl (hb hby at_87) ?_
            refine wbp X11 hx hby rfl at_88 ?_
            refine wcn X11 hx hby rfl at_90 rfl (teq hp3).2 ?_
            refine wic X11 hx hby rfl at_93 ?_
            refine wiS X11 hx hby rfl at_94 rfl (l' := #[sI i0, sI i1, sI i2, sI i3, sI i4, sI x5, sR b1, sR c10_0, sR c11_0, sI 1, sU]) rfl ?_
            show St p e below T11 (mkF m 96 #[sI i0, sI i1, sI i2, sI i3, sI i4, sI x5, sR b1, sR c10_0, sR c11_0, sI 1, sU] []) _
            refine Own.iload X11.here hx rfl (hb hby at_96) rfl hp0 ?_
            refine wic X11 hx hby rfl at_98 ?_
            refine wcn X11 hx hby rfl at_99 rfl (tlt (by decide : (2 : Int32) < (4 : Int32))).2.2.2 ?_
            refine waL X11 hx hby rfl at_102 rfl rfl ?_
            refine wic X11 hx hby rfl at_104 ?_
            refine own_caload X11 hx hZ11 (rfl : T11.heap = T11.heap) f12 (j := 2) (by decide) (v := (vI z28)) rfl (g := (mkF m 105 #[sI i0, sI i1, sI i2, sI i3, sI i4, sI x5, sR b1, sR c10_0, sR c11_0, sI 1, sU] [(vI 2), (vR b1)])) rfl rfl (hb hby at_105) ?_
            refine wbp X11 hx hby rfl at_106 ?_
            refine wcy X11 hx hby rfl (pc0 := 108) (pc' := 114) rfl at_108 rfl (feq hp4).2 (by decide) (by decide) ?_
            show St p e below T11 (mkF m 114 #[sI i0, sI i1, sI i2, sI i3, sI i4, sI x5, sR b1, sR c10_0, sR c11_0, sI 1, sU] []) _
            refine Own.iload X11.here hx rfl (hb hby at_114) rfl hp0 ?_
            refine wic X11 hx hby rfl at_116 ?_
            refine wcn X11 hx hby rfl at_117 rfl (tlt (by decide : (3 : Int32) < (4 : Int32))).2.2.2 ?_
            refine waL X11 hx hby rfl at_120 rfl rfl ?_
            refine wic X11 hx hby rfl at_122 ?_
            refine own_caload X11 hx hZ11 (rfl : T11.heap = T11.heap) f12 (j := 3) (by decide) (v := (vI z36)) rfl (g := (mkF m 123 #[sI i0, sI i1, sI i2, sI i3, sI i4, sI x5, sR b1, sR c10_0, sR c11_0, sI 1, sU] [(vI 3), (vR b1)])) rfl rfl (hb hby at_123) ?_
            refine wbp X11 hx hby rfl at_124 ?_
            refine wcn X11 hx hby rfl at_126 rfl (teq hp1).2 ?_
            refine wic X11 hx hby rfl at_129 ?_
            refine wiS X11 hx hby rfl at_130 rfl (l' := #[sI i0, sI i1, sI i2, sI i3, sI i4, sI x5, sR b1, sR c10_0, sR c11_0, sI 3, sU]) rfl ?_
            exact kt
        · rcases Decidable.em (z28 = (58 : Int32)) with hp4 | hp4
          · refine own_via (fun t kt => pre2 _ ?_) suf4
            refine st10 _ ?_
            show St p e below T10 (mkF m 49 #[sI i0, sI i1, sI i2, sI i3, sI i4, sI x5, sR b1, sU, sU, sU, sU] [(vR c10_0)]) _
            refine waS X10 hx hby rfl at_49 rfl rfl (l' := #[sI i0, sI i1, sI i2, sI i3, sI i4, sI x5, sR b1, sR c10_0, sU, sU, sU]) rfl ?_
            refine waL X10 hx hby rfl at_51 rfl rfl ?_
            refine st11 _ ?_
            refine waS X11 hx hby rfl at_56 rfl rfl (l' := #[sI i0, sI i1, sI i2, sI i3, sI i4, sI x5, sR b1, sR c10_0, sR c11_0, sU, sU]) rfl ?_
            refine wic X11 hx hby rfl at_58 ?_
            refine wiS X11 hx hby rfl at_59 rfl (l' := #[sI i0, sI i1, sI i2, sI i3, sI i4, sI x5, sR b1, sR c10_0, sR c11_0, sI (-1), sU]) rfl ?_
            refine Own.iload X11.here hx rfl (hb hby at_61) rfl hp0 ?_
            refine wfn X11 hx hby rfl at_63 rfl ((if0 _ _).trans (tlt (by decide : (0 : Int32) < (4 : Int32))).2.2.2) ?_
            refine waL X11 hx hby rfl at_66 rfl rfl ?_
            refine wic X11 hx hby rfl at_68 ?_
            refine own_caload X11 hx hZ11 (rfl : T11.heap = T11.heap) f12 (j := 0) (by decide) (v := (vI z14)) rfl (g := (mkF m 69 #[sI i0, sI i1, sI i2, sI i3, sI i4, sI x5, sR b1, sR c10_0, sR c11_0, sI (-1), sU] [(vI 0), (vR b1)])) rfl rfl (hb hby at_69) ?_
            refine wbp X11 hx hby rfl at_70 ?_
            refine wcn X11 hx hby rfl at_72 rfl (teq hp2).2 ?_
            refine wic X11 hx hby rfl at_75 ?_
            refine wiS X11 hx hby rfl at_76 rfl (l' := #[sI i0, sI i1, sI i2, sI i3, sI i4, sI x5, sR b1, sR c10_0, sR c11_0, sI 0, sU]) rfl ?_
            show St p e below T11 (mkF m 78 #[sI i0, sI i1, sI i2, sI i3, sI i4, sI x5, sR b1, sR c10_0, sR c11_0, sI 0, sU] []) _
            refine Own.iload X11.here hx rfl (hb hby at_78) rfl hp0 ?_
            refine wic X11 hx hby rfl at_80 ?_
            refine wcn X11 hx hby rfl at_81 rfl (tlt (by decide : (1 : Int32) < (4 : Int32))).2.2.2 ?_
            refine waL X11 hx hby rfl at_84 rfl rfl ?_
            refine wic X11 hx hby rfl at_86 ?_
            refine own_caload X11 hx hZ11 (rfl : T11.heap = T11.heap) f12 (j := 1) (by decide) (v := (vI z21)) rfl (g := (mkF m 87 #[sI i0, sI i1, sI i2, sI i3, sI i4, sI x5, sR b1, sR c10_0, sR c11_0, sI 0, sU] [(vI 1), (vR b1)])) rfl rfl (hb hby at_87) ?_
            refine wbp X11 hx hby rfl at_88 ?_
            refine wcy X11 hx hby rfl (pc0 := 90) (pc' := 96) rfl at_90 rfl (feq hp3).2 (by decide) (by decide) ?_
            show St p e below T11 (mkF m 96 #[sI i0, sI i1, sI i2, sI i3, sI i4, sI x5, sR b1, sR c10_0, sR c11_0, sI 0, sU] []) _
            refine Own.iload X11.here hx rfl (hb hby at_96) rfl hp0 ?_
            refine wic X11 hx hby rfl at_98 ?_
            refine wcn X11 hx hby rfl at_99 rfl (tlt (by decide : (2 : Int32) < (4 : Int32))).2.2.2 ?_
            refine waL X11 hx hby rfl at_102 rfl rfl ?_
            refine wic X11 hx hby rfl at_104 ?_
            refine own_caload X11 hx hZ11 (rfl : T11.heap = T11.heap) f12 (j := 2) (by decide) (v := (vI z28)) rfl (g := (mkF m 105 #[sI i0, sI i1, sI i2, sI i3, sI i4, sI x5, sR b1, sR c10_0, sR c11_0, sI 0, sU] [(vI 2), (vR b1)])) rfl rfl (hb hby at_105) ?_
            refine wbp X11 hx hby rfl at_106 ?_
            refine wcn X11 hx hby rfl at_108 rfl (teq hp4).2 ?_
            refine wic X11 hx hby rfl at_111 ?_
            refine wiS X11 hx hby rfl at_112 rfl (l' := #[sI i0, sI i1, sI i2, sI i3, sI i4, sI x5, sR b1, sR c10_0, sR c11_0, sI 2, sU]) rfl ?_
            show St p e below T11 (mkF m 114 #[sI i0, sI i1, sI i2, sI i3, sI i4, sI x5, sR b1, sR c10_0, sR c11_0, sI 2, sU] []) _
            refine Own.iload X11.here hx rfl (hb hby at_114) rfl hp0 ?_
            refine wic X11 hx hby rfl at_116 ?_
            refine wcn X11 hx hby rfl at_117 rfl (tlt (by decide : (3 : Int32) < (4 : Int32))).2.2.2 ?_
            refine waL X11 hx hby rfl at_120 rfl rfl ?_
            refine wic X11 hx hby rfl at_122 ?_
            refine own_caload X11 hx hZ11 (rfl : T11.heap = T11.heap) f12 (j := 3) (by decide) (v := (vI z36)) rfl (g := (mkF m 123 #[sI i0, sI i1, sI i2, sI i3, sI i4, sI x5, sR b1, sR c10_0, sR c11_0, sI 2, sU] [(vI 3), (vR b1)])) rfl rfl (hb hby at_123) ?_
            refine wbp X11 hx hby rfl at_124 ?_
            refine wcn X11 hx hby rfl at_126 rfl (teq hp1).2 ?_
            refine wic X11 hx hby rfl at_129 ?_
            refine wiS X11 hx hby rfl at_130 rfl (l' := #[sI i0, sI i1, sI i2, sI i3, sI i4, sI x5, sR b1, sR c10_0, sR c11_0, sI 3, sU]) rfl ?_
            exact kt
          · refine own_via (fun t kt => pre2 _ ?_) suf4
            refine st10 _ ?_
            show St p e below T10 (mkF m 49 #[sI i0, sI i1, sI i2, sI i3, sI i4, sI x5, sR b1, sU, sU, sU, sU] [(vR c10_0)]) _
            refine waS X10 hx hby rfl at_49 rfl rfl (l' := #[sI i0, sI i1, sI i2, sI i3, sI i4, sI x5, sR b1, sR c10_0, sU, sU, sU]) rfl ?_
            refine waL X10 hx hby rfl at_51 rfl rfl ?_
            refine st11 _ ?_
            refine waS X11 hx hby rfl at_56 rfl rfl (l' := #[sI i0, sI i1, sI i2, sI i3, sI i4, sI x5, sR b1, sR c10_0, sR c11_0, sU, sU]) rfl ?_
            refine wic X11 hx hby rfl at_58 ?_
            refine wiS X11 hx hby rfl at_59 rfl (l' := #[sI i0, sI i1, sI i2, sI i3, sI i4, sI x5, sR b1, sR c10_0, sR c11_0, sI (-1), sU]) rfl ?_
            refine Own.iload X11.here hx rfl (hb hby at_61) rfl hp0 ?_
            refine wfn X11 hx hby rfl at_63 rfl ((if0 _ _).trans (tlt (by decide : (0 : Int32) < (4 : Int32))).2.2.2) ?_
            refine waL X11 hx hby rfl at_66 rfl rfl ?_
            refine wic X11 hx hby rfl at_68 ?_
            refine own_caload X11 hx hZ11 (rfl : T11.heap = T11.heap) f12 (j := 0) (by decide) (v := (vI z14)) rfl (g := (mkF m 69 #[sI i0, sI i1, sI i2, sI i3, sI i4, sI x5, sR b1, sR c10_0, sR c11_0, sI (-1), sU] [(vI 0), (vR b1)])) rfl rfl (hb hby at_69) ?_
            refine wbp X11 hx hby rfl at_70 ?_
            refine wcn X11 hx hby rfl at_72 rfl (teq hp2).2 ?_
            refine wic X11 hx hby rfl at_75 ?_
            refine wiS X11 hx hby rfl at_76 rfl (l' := #[sI i0, sI i1, sI i2, sI i3, sI i4, sI x5, sR b1, sR c10_0, sR c11_0, sI 0, sU]) rfl ?_
            show St p e below T11 (mkF m 78 #[sI i0, sI i1, sI i2, sI i3, sI i4, sI x5, sR b1, sR c10_0, sR c11_0, sI 0, sU] []) _
            refine Own.iload X11.here hx rfl (hb hby at_78) rfl hp0 ?_
            refine wic X11 hx hby rfl at_80 ?_
            refine wcn X11 hx hby rfl at_81 rfl (tlt (by decide : (1 : Int32) < (4 : Int32))).2.2.2 ?_
            refine waL X11 hx hby rfl at_84 rfl rfl ?_
            refine wic X11 hx hby rfl at_86 ?_
            refine own_caload X11 hx hZ11 (rfl : T11.heap = T11.heap) f12 (j := 1) (by decide) (v := (vI z21)) rfl (g := (mkF m 87 #[sI i0, sI i1, sI i2, sI i3, sI i4, sI x5, sR b1, sR c10_0, sR c11_0, sI 0, sU] [(vI 1), (vR b1)])) rfl rfl (hb hby at_87) ?_
            refine wbp X11 hx hby rfl at_88 ?_
            refine wcy X11 hx hby rfl (pc0 := 90) (pc' := 96) rfl at_90 rfl (feq hp3).2 (by decide) (by decide) ?_
            show St p e below T11 (mkF m 96 #[sI i0, sI i1, sI i2, sI i3, sI i4, sI x5, sR b1, sR c10_0, sR c11_0, sI 0, sU] []) _
            refine Own.iload X11.here hx rfl (hb hby at_96) rfl hp0 ?_
            refine wic X11 hx hby rfl at_98 ?_
            refine wcn X11 hx hby rfl at_99 rfl (tlt (by decide : (2 : Int32) < (4 : Int32))).2.2.2 ?_
            refine waL X11 hx hby rfl at_102 rfl rfl ?_
            refine wic X11 hx hby rfl at_104 ?_
            refine own_caload X11 hx hZ11 (rfl : T11.heap = T11.heap) f12 (j := 2) (by decide) (v := (vI z28)) rfl (g := (mkF m 105 #[sI i0, sI i1, sI i2, sI i3, sI i4, sI x5, sR b1, sR c10_0, sR c11_0, sI 0, sU] [(vI 2), (vR b1)])) rfl rfl (hb hby at_105) ?_
            refine wbp X11 hx hby rfl at_106 ?_
            refine wcy X11 hx hby rfl (pc0 := 108) (pc' := 114) rfl at_108 rfl (feq hp4).2 (by decide) (by decide) ?_
            show St p e below T11 (mkF m 114 #[sI i0, sI i1, sI i2, sI i3, sI i4, sI x5, sR b1, sR c10_0, sR c11_0, sI 0, sU] []) _
            refine Own.iload X11.here hx rfl (hb hby at_114) rfl hp0 ?_
            refine wic X11 hx hby rfl at_116 ?_
            refine wcn X11 hx hby rfl at_117 rfl (tlt (by decide : (3 : Int32) < (4 : Int32))).2.2.2 ?_
            refine waL X11 hx hby rfl at_120 rfl rfl ?_
            refine wic X11 hx hby rfl at_122 ?_
            refine own_caload X11 hx hZ11 (rfl : T11.heap = T11.heap) f12 (j := 3) (by decide) (v := (vI z36)) rfl (g := (mkF m 123 #[sI i0, sI i1, sI i2, sI i3, sI i4, sI x5, sR b1, sR c10_0, sR c11_0, sI 0, sU] [(vI 3), (vR b1)])) rfl rfl (hb hby at_123) ?_
            refine wbp X11 hx hby rfl at_124 ?_
            refine wcn X11 hx hby rfl at_126 rfl (teq hp1).2 ?_
            refine wic X11 hx hby rfl at_129 ?_
            refine wiS X11 hx hby rfl at_130 rfl (l' := #[sI i0, sI i1, sI i2, sI i3, sI i4, sI x5, sR b1, sR c10_0, sR c11_0, sI 3, sU]) rfl ?_
            exact kt
      · rcases Decidable.em (z21 = (58 : Int32)) with hp3 | hp3
        · rcases Decidable.em (z28 = (58 : Int32)) with hp4 | hp4
          · refine own_via (fun t kt => pre2 _ ?_) suf4
            refine st10 _ ?_
            show St p e below T10 (mkF m 49 #[sI i0, sI i1, sI i2, sI i3, sI i4, sI x5, sR b1, sU, sU, sU, sU] [(vR c10_0)]) _
            refine waS X10 hx hby rfl at_49 rfl rfl (l' := #[sI i0, sI i1, sI i2, sI i3, sI i4, sI x5, sR b1, sR c10_0, sU, sU, sU]) rfl ?_
            refine waL X10 hx hby rfl at_51 rfl rfl ?_
            refine st11 _ ?_
            refine waS X11 hx hby rfl at_56 rfl rfl (l' := #[sI i0, sI i1, sI i2, sI i3, sI i4, sI x5, sR b1, sR c10_0, sR c11_0, sU, sU]) rfl ?_
            refine wic X11 hx hby rfl at_58 ?_
            refine wiS X11 hx hby rfl at_59 rfl (l' := #[sI i0, sI i1, sI i2, sI i3, sI i4, sI x5, sR b1, sR c10_0, sR c11_0, sI (-1), sU]) rfl ?_
            refine Own.iload X11.here hx rfl (hb hby at_61) rfl hp0 ?_
            refine wfn X11 hx hby rfl at_63 rfl ((if0 _ _).trans (tlt (by decide : (0 : Int32) < (4 : Int32))).2.2.2) ?_
            refine waL X11 hx hby rfl at_66 rfl rfl ?_
            refine wic X11 hx hby rfl at_68 ?_
            refine own_caload X11 hx hZ11 (rfl : T11.heap = T11.heap) f12 (j := 0) (by decide) (v := (vI z14)) rfl (g := (mkF m 69 #[sI i0, sI i1, sI i2, sI i3, sI i4, sI x5, sR b1, sR c10_0, sR c11_0, sI (-1), sU] [(vI 0), (vR b1)])) rfl rfl (hb hby at_69) ?_
            refine wbp X11 hx hby rfl at_70 ?_
            refine wcy X11 hx hby rfl (pc0 := 72) (pc' := 78) rfl at_72 rfl (feq hp2).2 (by decide) (by decide) ?_
            show St p e below T11 (mkF m 78 #[sI i0, sI i1, sI i2, sI i3, sI i4, sI x5, sR b1, sR c10_0, sR c11_0, sI (-1), sU] []) _
            refine Own.iload X11.here hx rfl (hb hby at_78) rfl hp0 ?_
            refine wic X11 hx hby rfl at_80 ?_
            refine wcn X11 hx hby rfl at_81 rfl (tlt (by decide : (1 : Int32) < (4 : Int32))).2.2.2 ?_
            refine waL X11 hx hby rfl at_84 rfl rfl ?_
            refine wic X11 hx hby rfl at_86 ?_
            refine own_caload X11 hx hZ11 (rfl : T11.heap = T11.heap) f12 (j := 1) (by decide) (v := (vI z21)) rfl (g := (mkF m 87 #[sI i0, sI i1, sI i2, sI i3, sI i4, sI x5, sR b1, sR c10_0, sR c11_0, sI (-1), sU] [(vI 1), (vR b1)])) rfl rfl (hb hby at_87) ?_
            refine wbp X11 hx hby rfl at_88 ?_
            refine wcn X11 hx hby rfl at_90 rfl (teq hp3).2 ?_
            refine wic X11 hx hby rfl at_93 ?_
            refine wiS X11 hx hby rfl at_94 rfl (l' := #[sI i0, sI i1, sI i2, sI i3, sI i4, sI x5, sR b1, sR c10_0, sR c11_0, sI 1, sU]) rfl ?_
            show St p e below T11 (mkF m 96 #[sI i0, sI i1, sI i2, sI i3, sI i4, sI x5, sR b1, sR c10_0, sR c11_0, sI 1, sU] []) _
            refine Own.iload X11.here hx rfl (hb hby at_96) rfl hp0 ?_
            refine wic X11 hx hby rfl at_98 ?_
            refine wcn X11 hx hby rfl at_99 rfl (tlt (by decide : (2 : Int32) < (4 : Int32))).2.2.2 ?_
            refine waL X11 hx hby rfl at_102 rfl rfl ?_
            refine wic X11 hx hby rfl at_104 ?_
            refine own_caload X11 hx hZ11 (rfl : T11.heap = T11.heap) f12 (j := 2) (by decide) (v := (vI z28)) rfl (g := (mkF m 105 #[sI i0, sI i1, sI i2, sI i3, sI i4, sI x5, sR b1, sR c10_0, sR c11_0, sI 1, sU] [(vI 2), (vR b1)])) rfl rfl (hb hby at_105) ?_
            refine wbp X11 hx hby rfl at_106 ?_
            refine wcn X11 hx hby rfl at_108 rfl (teq hp4).2 ?_
            refine wic X11 hx hby rfl at_111 ?_
            refine wiS X11 hx hby rfl at_112 rfl (l' := #[sI i0, sI i1, sI i2, sI i3, sI i4, sI x5, sR b1, sR c10_0, sR c11_0, sI 2, sU]) rfl ?_
            show St p e below T11 (mkF m 114 #[sI i0, sI i1, sI i2, sI i3, sI i4, sI x5, sR b1, sR c10_0, sR c11_0, sI 2, sU] []) _
            refine Own.iload X11.here hx rfl (hb hby at_114) rfl hp0 ?_
            refine wic X11 hx hby rfl at_116 ?_
            refine wcn X11 hx hby rfl at_117 rfl (tlt (by decide : (3 : Int32) < (4 : Int32))).2.2.2 ?_
            refine waL X11 hx hby rfl at_120 rfl rfl ?_
            refine wic X11 hx hby rfl at_122 ?_
            refine own_caload X11 hx hZ11 (rfl : T11.heap = T11.heap) f12 (j := 3) (by decide) (v := (vI z36)) rfl (g := (mkF m 123 #[sI i0, sI i1, sI i2, sI i3, sI i4, sI x5, sR b1, sR c10_0, sR c11_0, sI 2, sU] [(vI 3), (vR b1)])) rfl rfl (hb hby at_123) ?_
            refine wbp X11 hx hby rfl at_124 ?_
            refine wcn X11 hx hby rfl at_126 rfl (teq hp1).2 ?_
            refine wic X11 hx hby rfl at_129 ?_
            refine wiS X11 hx hby rfl at_130 rfl (l' := #[sI i0, sI i1, sI i2, sI i3, sI i4, sI x5, sR b1, sR c10_0, sR c11_0, sI 3, sU]) rfl ?_
            exact kt
          · refine own_via (fun t kt => pre2 _ ?_) suf4
            refine st10 _ ?_
            show St p e below T10 (mkF m 49 #[sI i0, sI i1, sI i2, sI i3, sI i4, sI x5, sR b1, sU, sU, sU, sU] [(vR c10_0)]) _
            refine waS X10 hx hby rfl at_49 rfl rfl (l' := #[sI i0, sI i1, sI i2, sI i3, sI i4, sI x5, sR b1, sR c10_0, sU, sU, sU]) rfl ?_
            refine waL X10 hx hby rfl at_51 rfl rfl ?_
            refine st11 _ ?_
            refine waS X11 hx hby rfl at_56 rfl rfl (l' := #[sI i0, sI i1, sI i2, sI i3, sI i4, sI x5, sR b1, sR c10_0, sR c11_0, sU, sU]) rfl ?_
            refine wic X11 hx hby rfl at_58 ?_
            refine wiS X11 hx hby rfl at_59 rfl (l' := #[sI i0, sI i1, sI i2, sI i3, sI i4, sI x5, sR b1, sR c10_0, sR c11_0, sI (-1), sU]) rfl ?_
            refine Own.iload X11.here hx rfl (hb hby at_61) rfl hp0 ?_
            refine wfn X11 hx hby rfl at_63 rfl ((if0 _ _).trans (tlt (by decide : (0 : Int32) < (4 : Int32))).2.2.2) ?_
            refine waL X11 hx hby rfl at_66 rfl rfl ?_
            refine wic X11 hx hby rfl at_68 ?_
            refine own_caload X11 hx hZ11 (rfl : T11.heap = T11.heap) f12 (j := 0) (by decide) (v := (vI z14)) rfl (g := (mkF m 69 #[sI i0, sI i1, sI i2, sI i3, sI i4, sI x5, sR b1, sR c10_0, sR c11_0, sI (-1), sU] [(vI 0), (vR b1)])) rfl rfl (hb hby at_69) ?_
            refine wbp X11 hx hby rfl at_70 ?_
            refine wcy X11 hx hby rfl (pc0 := 72) (pc' := 78) rfl at_72 rfl (feq hp2).2 (by decide) (by decide) ?_
            show St p e below T11 (mkF m 78 #[sI i0, sI i1, sI i2, sI i3, sI i4, sI x5, sR b1, sR c10_0, sR c11_0, sI (-1), sU] []) _
            refine Own.iload X11.here hx rfl (hb hby at_78) rfl hp0 ?_
            refine wic X11 hx hby rfl at_80 ?_
            refine wcn X11 hx hby rfl at_81 rfl (tlt (by decide : (1 : Int32) < (4 : Int32))).2.2.2 ?_
            refine waL X11 hx hby rfl at_84 rfl rfl ?_
            refine wic X11 hx hby rfl at_86 ?_
            refine own_caload X11 hx hZ11 (rfl : T11.heap = T11.heap) f12 (j := 1) (by decide) (v := (vI z21)) rfl (g := (mkF m 87 #[sI i0, sI i1, sI i2, sI i3, sI i4, sI x5, sR b1, sR c10_0, sR c11_0, sI (-1), sU] [(vI 1), (vR b1)])) rfl rfl (hb hby at_87) ?_
            refine wbp X11 hx hby rfl at_88 ?_
            refine wcn X11 hx hby rfl at_90 rfl (teq hp3).2 ?_
            refine wic X11 hx hby rfl at_93 ?_
            refine wiS X11 hx hby rfl at_94 rfl (l' := #[sI i0, sI i1, sI i2, sI i3, sI i4, sI x5, sR b1, sR c10_0, sR c11_0, sI 1, sU]) rfl ?_
            show St p e below T11 (mkF m 96 #[sI i0, sI i1, sI i2, sI i3, sI i4, sI x5, sR b1, sR c10_0, sR c11_0, sI 1, sU] []) _
            refine Own.iload X11.here hx rfl (hb hby at_96) rfl hp0 ?_
            refine wic X11 hx hby rfl at_98 ?_
            refine wcn X11 hx hby rfl at_99 rfl (tlt (by decide : (2 : Int32) < (4 : Int32))).2.2.2 ?_
            refine waL X11 hx hby rfl at_102 rfl rfl ?_
            refine wic X11 hx hby rfl at_104 ?_
            refine own_caload X11 hx hZ11 (rfl : T11.heap = T11.heap) f12 (j := 2) (by decide) (v := (vI z28)) rfl (g := (mkF m 105 #[sI i0, sI i1, sI i2, sI i3, sI i4, sI x5, sR b1, sR c10_0, sR c11_0, sI 1, sU] [(vI 2), (vR b1)])) rfl rfl (hb hby at_105) ?_
            refine wbp X11 hx hby rfl at_106 ?_
            refine wcy X11 hx hby rfl (pc0 := 108) (pc' := 114) rfl at_108 rfl (feq hp4).2 (by decide) (by decide) ?_
            show St p e below T11 (mkF m 114 #[sI i0, sI i1, sI i2, sI i3, sI i4, sI x5, sR b1, sR c10_0, sR c11_0, sI 1, sU] []) _
            refine Own.iload X11.here hx rfl (hb hby at_114) rfl hp0 ?_
            refine wic X11 hx hby rfl at_116 ?_
            refine wcn X11 hx hby rfl at_117 rfl (tlt (by decide : (3 : Int32) < (4 : Int32))).2.2.2 ?_
            refine waL X11 hx hby rfl at_120 rfl rfl ?_
            refine wic X11 hx hby rfl at_122 ?_
            refine own_caload X11 hx hZ11 (rfl : T11.heap = T11.heap) f12 (j := 3) (by decide) (v := (vI z36)) rfl (g := (mkF m 123 #[sI i0, sI i1, sI i2, sI i3, sI i4, sI x5, sR b1, sR c10_0, sR c11_0, sI 1, sU] [(vI 3), (vR b1)])) rfl rfl (hb hby at_123) ?_
            refine wbp X11 hx hby rfl at_124 ?_
            refine wcn X11 hx hby rfl at_126 rfl (teq hp1).2 ?_
            refine wic X11 hx hby rfl at_129 ?_
            refine wiS X11 hx hby rfl at_130 rfl (l' := #[sI i0, sI i1, sI i2, sI i3, sI i4, sI x5, sR b1, sR c10_0, sR c11_0, sI 3, sU]) rfl ?_
            exact kt
        · rcases Decidable.em (z28 = (58 : Int32)) with hp4 | hp4
          · refine own_via (fun t kt => pre2 _ ?_) suf4
            refine st10 _ ?_
            show St p e below T10 (mkF m 49 #[sI i0, sI i1, sI i2, sI i3, sI i4, sI x5, sR b1, sU, sU, sU, sU] [(vR c10_0)]) _
            refine waS X10 hx hby rfl at_49 rfl rfl (l' := #[sI i0, sI i1, sI i2, sI i3, sI i4, sI x5, sR b1, sR c10_0, sU, sU, sU]) rfl ?_
            refine waL X10 hx hby rfl at_51 rfl rfl ?_
            refine st11 _ ?_
            refine waS X11 hx hby rfl at_56 rfl rfl (l' := #[sI i0, sI i1, sI i2, sI i3, sI i4, sI x5, sR b1, sR c10_0, sR c11_0, sU, sU]) rfl ?_
            refine wic X11 hx hby rfl at_58 ?_
            refine wiS X11 hx hby rfl at_59 rfl (l' := #[sI i0, sI i1, sI i2, sI i3, sI i4, sI x5, sR b1, sR c10_0, sR c11_0, sI (-1), sU]) rfl ?_
            refine Own.iload X11.here hx rfl (hb hby at_61) rfl hp0 ?_
            refine wfn X11 hx hby rfl at_63 rfl ((if0 _ _).trans (tlt (by decide : (0 : Int32) < (4 : Int32))).2.2.2) ?_
            refine waL X11 hx hby rfl at_66 rfl rfl ?_
            refine wic X11 hx hby rfl at_68 ?_
            refine own_caload X11 hx hZ11 (rfl : T11.heap = T11.heap) f12 (j := 0) (by decide) (v := (vI z14)) rfl (g := (mkF m 69 #[sI i0, sI i1, sI i2, sI i3, sI i4, sI x5, sR b1, sR c10_0, sR c11_0, sI (-1), sU] [(vI 0), (vR b1)])) rfl rfl (hb hby at_69) ?_
            refine wbp X11 hx hby rfl at_70 ?_
            refine wcy X11 hx hby rfl (pc0 := 72) (pc' := 78) rfl at_72 rfl (feq hp2).2 (by decide) (by decide) ?_
            show St p e below T11 (mkF m 78 #[sI i0, sI i1, sI i2, sI i3, sI i4, sI x5, sR b1, sR c10_0, sR c11_0, sI (-1), sU] []) _
            refine Own.iload X11.here hx rfl (hb hby at_78) rfl hp0 ?_
            refine wic X11 hx hby rfl at_80 ?_
            refine wcn X11 hx hby rfl at_81 rfl (tlt (by decide : (1 : Int32) < (4 : Int32))).2.2.2 ?_
            refine waL X11 hx hby rfl at_84 rfl rfl ?_
            refine wic X11 hx hby rfl at_86 ?_
            refine own_caload X11 hx hZ11 (rfl : T11.heap = T11.heap) f12 (j := 1) (by decide) (v := (vI z21)) rfl (g := (mkF m 87 #[sI i0, sI i1, sI i2, sI i3, sI i4, sI x5, sR b1, sR c10_0, sR c11_0, sI (-1), sU] [(vI 1), (vR b1)])) rfl rfl (hb hby at_87) ?_
            refine wbp X11 hx hby rfl at_88 ?_
            refine wcy X11 hx hby rfl (pc0 := 90) (pc' := 96) rfl at_90 rfl (feq hp3).2 (by decide) (by decide) ?_
            show St p e below T11 (mkF m 96 #[sI i0, sI i1, sI i2, sI i3, sI i4, sI x5, sR b1, sR c10_0, sR c11_0, sI (-1), sU] []) _
            refine Own.iload X11.here hx rfl (hb hby at_96) rfl hp0 ?_
            refine wic X11 hx hby rfl at_98 ?_
            refine wcn X11 hx hby rfl at_99 rfl (tlt (by decide : (2 : Int32) < (4 : Int32))).2.2.2 ?_
            refine waL X11 hx hby rfl at_102 rfl rfl ?_
            refine wic X11 hx hby rfl at_104 ?_
            refine own_caload X11 hx hZ11 (rfl : T11.heap = T11.heap) f12 (j := 2) (by decide) (v := (vI z28)) rfl (g := (mkF m 105 #[sI i0, sI i1, sI i2, sI i3, sI i4, sI x5, sR b1, sR c10_0, sR c11_0, sI (-1), sU] [(vI 2), (vR b1)])) rfl rfl (hb hby at_105) ?_
            refine wbp X11 hx hby rfl at_106 ?_
            refine wcn X11 hx hby rfl at_108 rfl (teq hp4).2 ?_
            refine wic X11 hx hby rfl at_111 ?_
            refine wiS X11 hx hby rfl at_112 rfl (l' := #[sI i0, sI i1, sI i2, sI i3, sI i4, sI x5, sR b1, sR c10_0, sR c11_0, sI 2, sU]) rfl ?_
            show St p e below T11 (mkF m 114 #[sI i0, sI i1, sI i2, sI i3, sI i4, sI x5, sR b1, sR c10_0, sR c11_0, sI 2, sU] []) _
            refine Own.iload X11.here hx rfl (hb hby at_114) rfl hp0 ?_
            refine wic X11 hx hby rfl at_116 ?_
            refine wcn X11 hx hby rfl at_117 rfl (tlt (by decide : (3 : Int32) < (4 : Int32))).2.2.2 ?_
            refine waL X11 hx hby rfl at_120 rfl rfl ?_
            refine wic X11 hx hby rfl at_122 ?_
            refine own_caload X11 hx hZ11 (rfl : T11.heap = T11.heap) f12 (j := 3) (by decide) (v := (vI z36)) rfl (g := (mkF m 123 #[sI i0, sI i1, sI i2, sI i3, sI i4, sI x5, sR b1, sR c10_0, sR c11_0, sI 2, sU] [(vI 3), (vR b1)])) rfl rfl (hb hby at_123) ?_
            refine wbp X11 hx hby rfl at_124 ?_
            refine wcn X11 hx hby rfl at_126 rfl (teq hp1).2 ?_
            refine wic X11 hx hby rfl at_129 ?_
            refine wiS X11 hx hby rfl at_130 rfl (l' := #[sI i0, sI i1, sI i2, sI i3, sI i4, sI x5, sR b1, sR c10_0, sR c11_0, sI 3, sU]) rfl ?_
            exact kt
          · refine own_via (fun t kt => pre2 _ ?_) suf4
            refine st10 _ ?_
            show St p e below T10 (mkF m 49 #[sI i0, sI i1, sI i2, sI i3, sI i4, sI x5, sR b1, sU, sU, sU, sU] [(vR c10_0)]) _
            refine waS X10 hx hby rfl at_49 rfl rfl (l' := #[sI i0, sI i1, sI i2, sI i3, sI i4, sI x5, sR b1, sR c10_0, sU, sU, sU]) rfl ?_
            refine waL X10 hx hby rfl at_51 rfl rfl ?_
            refine st11 _ ?_
            refine waS X11 hx hby rfl at_56 rfl rfl (l' := #[sI i0, sI i1, sI i2, sI i3, sI i4, sI x5, sR b1, sR c10_0, sR c11_0, sU, sU]) rfl ?_
            refine wic X11 hx hby rfl at_58 ?_
            refine wiS X11 hx hby rfl at_59 rfl (l' := #[sI i0, sI i1, sI i2, sI i3, sI i4, sI x5, sR b1, sR c10_0, sR c11_0, sI (-1), sU]) rfl ?_
            refine Own.iload X11.here hx rfl (hb hby at_61) rfl hp0 ?_
            refine wfn X11 hx hby rfl at_63 rfl ((if0 _ _).trans (tlt (by decide : (0 : Int32) < (4 : Int32))).2.2.2) ?_
            refine waL X11 hx hby rfl at_66 rfl rfl ?_
            refine wic X11 hx hby rfl at_68 ?_
            refine own_caload X11 hx hZ11 (rfl : T11.heap = T11.heap) f12 (j := 0) (by decide) (v := (vI z14)) rfl (g := (mkF m 69 #[sI i0, sI i1, sI i2, sI i3, sI i4, sI x5, sR b1, sR c10_0, sR c11_0, sI (-1), sU] [(vI 0), (vR b1)])) rfl rfl (hb hby at_69) ?_
            refine wbp X11 hx hby rfl at_70 ?_
            refine wcy X11 hx hby rfl (pc0 := 72) (pc' := 78) rfl at_72 rfl (feq hp2).2 (by decide) (by decide) ?_
            show St p e below T11 (mkF m 78 #[sI i0, sI i1, sI i2, sI i3, sI i4, sI x5, sR b1, sR c10_0, sR c11_0, sI (-1), sU] []) _
            refine Own.iload X11.here hx rfl (hb hby at_78) rfl hp0 ?_
            refine wic X11 hx hby rfl at_80 ?_
            refine wcn X11 hx hby rfl at_81 rfl (tlt (by decide : (1 : Int32) < (4 : Int32))).2.2.2 ?_
            refine waL X11 hx hby rfl at_84 rfl rfl ?_
            refine wic X11 hx hby rfl at_86 ?_
            refine own_caload X11 hx hZ11 (rfl : T11.heap = T11.heap) f12 (j := 1) (by decide) (v := (vI z21)) rfl (g := (mkF m 87 #[sI i0, sI i1, sI i2, sI i3, sI i4, sI x5, sR b1, sR c10_0, sR c11_0, sI (-1), sU] [(vI 1), (vR b1)])) rfl rfl (hb hby at_87) ?_
            refine wbp X11 hx hby rfl at_88 ?_
            refine wcy X11 hx hby rfl (pc0 := 90) (pc' := 96) rfl at_90 rfl (feq hp3).2 (by decide) (by decide) ?_
            show St p e below T11 (mkF m 96 #[sI i0, sI i1, sI i2, sI i3, sI i4, sI x5, sR b1, sR c10_0, sR c11_0, sI (-1), sU] []) _
            refine Own.iload X11.here hx rfl (hb hby at_96) rfl hp0 ?_
            refine wic X11 hx hby rfl at_98 ?_
            refine wcn X11 hx hby rfl at_99 rfl (tlt (by decide : (2 : Int32) < (4 : Int32))).2.2.2 ?_
            refine waL X11 hx hby rfl at_102 rfl rfl ?_
            refine wic X11 hx hby rfl at_104 ?_
            refine own_caload X11 hx hZ11 (rfl : T11.heap = T11.heap) f12 (j := 2) (by decide) (v := (vI z28)) rfl (g := (mkF m 105 #[sI i0, sI i1, sI i2, sI i3, sI i4, sI x5, sR b1, sR c10_0, sR c11_0, sI (-1), sU] [(vI 2), (vR b1)])) rfl rfl (hb hby at_105) ?_
            refine wbp X11 hx hby rfl at_106 ?_
            refine wcy X11 hx hby rfl (pc0 := 108) (pc' := 114) rfl at_108 rfl (feq hp4).2 (by decide) (by decide) ?_
            show St p e below T11 (mkF m 114 #[sI i0, sI i1, sI i2, sI i3, sI i4, sI x5, sR b1, sR c10_0, sR c11_0, sI (-1), sU] []) _
            refine Own.iload X11.here hx rfl (hb hby at_114) rfl hp0 ?_
            refine wic X11 hx hby rfl at_116 ?_
            refine wcn X11 hx hby rfl at_117 rfl (tlt (by decide : (3 : Int32) < (4 : Int32))).2.2.2 ?_
            refine waL X11 hx hby rfl at_120 rfl rfl ?_
            refine wic X11 hx hby rfl at_122 ?_
            refine own_caload X11 hx hZ11 (rfl : T11.heap = T11.heap) f12 (j := 3) (by decide) (v := (vI z36)) rfl (g := (mkF m 123 #[sI i0, sI i1, sI i2, sI i3, sI i4, sI x5, sR b1, sR c10_0, sR c11_0, sI (-1), sU] [(vI 3), (vR b1)])) rfl rfl (hb hby at_123) ?_
            refine wbp X11 hx hby rfl at_124 ?_
            refine wcn X11 hx hby rfl at_126 rfl (teq hp1).2 ?_
            refine wic X11 hx hby rfl at_129 ?_
            refine wiS X11 hx hby rfl at_130 rfl (l' := #[sI i0, sI i1, sI i2, sI i3, sI i4, sI x5, sR b1, sR c10_0, sR c11_0, sI 3, sU]) rfl ?_
            exact kt
    · rcases Decidable.em (z28 = (58 : Int32)) with hp2 | hp2
      · have sf10 := (sf0 : ∀ x ∈ [], Safe Z EL s.vm h9 x)
        obtain ⟨_, T10, L10, ⟨c10_0, c10_1, k10_2, rfl, N10q, Kq10, lo10_0, lo10_1, q10_0, q10_1, q10_2, q10_3⟩, X10, st10⟩ := cS X9 hx hZ (W := 0) hown (cw2 cx) (rm127 cx b1 z14 z21 z28 z36 k1 O9 V9 hz2_0 hd0 hz4_0 hd1 hz6_0 hd2 hz8_0 hd3 hz2_1 hz4_1 hz6_1 hz8_1) e9 (g := (mkF m 46 #[sI i0, sI i1, sI i2, sI i3, sI i4, sI x5, sR b1, sU, sU, sU, sU] [(vR b1), (vI 4)])) rfl hml rfl (rest := []) rfl rfl rfl rfl (hb hby at_46) (by decide)
        have N10 := Fr.app N9 N10q
        have C10 := C9.trans (CHr.keep Kq10 sf10 C9.1)
        have O10 : Old Z n0 T10.heap := O9.keep Kq10 all0
        have K10 : Keep h0 T10.heap [] := K9.trans Kq10 all0
        have hd22 : ¬ ((z36.toInt8.toInt32) = (58 : Int32)) := ((fun q => hp1 ((own_blit hz8_0 hz8_1 (by decide)).mp q)) : ¬ ((z36.toInt8.toInt32) = (58 : Int32)))
        have hd14 : ¬ (z28 < (-128 : Int32)) := (by have q0 := own_rg hz6_0 hz6_1 (l := 0) (h := 255) (by decide); have q1 := (by decide : ((-128 : Int32)).toInt = -128); exact own_ltF (by omega) : ¬ (z28 < (-128 : Int32)))
        have hd15 : ¬ ((127 : Int32) < z28) := (by have q0 := (by decide : ((127 : Int32)).toInt = 127); have q1 := own_rg hz6_0 hz6_1 (l := 0) (h := 255) (by decide); have q2 := (by decide : ((58 : Int32)).toInt = 58); have q3 := own_eqT' hp2; have q4 := (by decide : ((0 : Int32)).toInt = 0); have q5 := own_ltF' hz6_0; have q6 := (by decide : ((255 : Int32)).toInt = 255); have q7 := own_ltF' hz6_1; exact own_ltF (by omega) : ¬ ((127 : Int32) < z28))
        have hd16 : (z28.toInt8.toInt32) = (58 : Int32) := (by rw [show (z28.toInt8.toInt32) = z28 from own_i2b hd14 hd15]; exact hp2 : (z28.toInt8.toInt32) = (58 : Int32))
        have sf11 := (sf0 : ∀ x ∈ [], Safe Z EL s.vm T10.heap x)
        obtain ⟨_, T11, L11, ⟨c11_0, c11_1, k11_2, rfl, N11q, Kq11, lo11_0, lo11_1, q11_0, q11_1, q11_2, q11_3⟩, X11, st11⟩ := cS X10 hx hZ (W := 0) hown (cw15 cx) (rm144 cx c10_0 (z14.toInt8.toInt32) (z21.toInt8.toInt32) (z28.toInt8.toInt32) (z36.toInt8.toInt32) c10_1 k10_2 O10 q10_1 q10_3 q10_2 q10_0 hd22 hd16) (rfl : T10.heap = T10.heap) (g := (mkF m 53 #[sI i0, sI i1, sI i2, sI i3, sI i4, sI x5, sR b1, sR c10_0, sU, sU, sU] [(vR c10_0)])) rfl hml rfl (rest := []) rfl rfl rfl rfl (hb hby at_53) (by decide)
        have N11 := Fr.app N10 N11q
        have C11 := C10.trans (CHr.keep Kq11 sf11 C10.1)
        have O11 : Old Z n0 T11.heap := O10.keep Kq11 all0
        have K11 : Keep h0 T11.heap [] := K10.trans Kq11 all0
        have f12 : Arv Z T11.heap b1 k1 .char (4 : Int32) [(vI z14), (vI z21), (vI z28), (vI z36)] (vI 0) := ((V9.keep Kq10 nin0).keep Kq11 nin0)
        have suf5 : EndW EL Z p e s below room_1 (QL n0) (T11.setTop (mkF m 114 #[sI i0, sI i1, sI i2, sI i3, sI i4, sI x5, sR b1, sR c10_0, sR c11_0, sI 2, sU] [])) := by
          have sf13 := (sf0 : ∀ x ∈ [], Safe Z EL s.vm T11.heap x)
          obtain ⟨_, T13, L13, ⟨rfl, N13q, e13⟩, X13, st13⟩ := cV X11 hx hZ (W := 0) hown (cw16 cx) (rm23 cx c11_0 c11_1 (z36.toInt8.toInt32) k11_2 O11 q11_1 q11_3 q11_2 q11_0) (rfl : T11.heap = T11.heap) q11_0 (g := (mkF m 148 #[sI i0, sI i1, sI i2, sI i3, sI i4, sI x5, sR b1, sR c10_0, sR c11_0, sI 2, sI 1] [(vR c11_0)])) rfl hml rfl (rest := []) rfl rfl rfl rfl (hb hby at_148) (by decide)
          have sf14 := (sf0 : ∀ x ∈ [], Safe Z EL s.vm T11.heap x)
          obtain ⟨_, T14, L14, ⟨rfl, N14q, e14⟩, X14, st14⟩ := cV X13 hx hZ (W := 0) hown (cw24 cx) (rm42 cx c11_0 c11_1 (z36.toInt8.toInt32) k11_2 O11 q11_2 q11_0 q11_1 q11_3) e13 q11_0 (g := (mkF m 166 #[sI i0, sI i1, sI i2, sI i3, sI i4, sI x5, sR b1, sR c10_0, sR c11_0, sI 2, sI 1] [(vI 0), (vR c11_0)])) rfl hml rfl (rest := []) rfl rfl rfl rfl (hb hby at_166) (by decide)
          have hd23 : ((z36.toInt8.toInt32) &&& (255 : Int32)) = z36 := (by rw [show ((z36.toInt8.toInt32) &&& (255 : Int32)) = z36 from own_b255 hz8_0 hz8_1] : ((z36.toInt8.toInt32) &&& (255 : Int32)) = z36)
          refine own_endW X14 hlk (v := some (vI 1)) (own_hv hret) hS0 (Nat.le_trans (Nat.le_refl _) (Nat.le_trans (Nat.le_trans (Nat.le_trans (Nat.le_trans (Nat.le_trans (Nat.le_trans E1.1 (Nat.le_of_eq W3.size.symm)) (Nat.le_of_eq W5.size.symm)) (Nat.le_of_eq W7.size.symm)) (Nat.le_of_eq W9.size.symm)) Kq10.1) Kq11.1)) (by decide) hh e14 C11 hZ (own_EW hw hj) ⟨rfl, (Fr.app (Fr.app N11 N13q) N14q)⟩ fun fs hr => ?_
          show St p e below T11 (mkF m 114 #[sI i0, sI i1, sI i2, sI i3, sI i4, sI x5, sR b1, sR c10_0, sR c11_0, sI 2, sU] []) _
          refine Own.iload X11.here hx rfl (hb hby at_114) rfl hp0 ?_
          refine wic X11 hx hby rfl at_116 ?_
          refine wcn X11 hx hby rfl at_117 rfl (tlt (by decide : (3 : Int32) < (4 : Int32))).2.2.2 ?_
          refine waL X11 hx hby rfl at_120 rfl rfl ?_
          refine wic X11 hx hby rfl at_122 ?_
          refine own_caload X11 hx hZ (rfl : T11.heap = T11.heap) f12 (j := 3) (by decide) (v := (vI z36)) rfl (g := (mkF m 123 #[sI i0, sI i1, sI i2, sI i3, sI i4, sI x5, sR b1, sR c10_0, sR c11_0, sI 2, sU] [(vI 3), (vR b1)])) rfl rfl (hb hby at_123) ?_
          refine wbp X11 hx hby rfl at_124 ?_
          refine wcy X11 hx hby rfl (pc0 := 126) (pc' := 132) rfl at_126 rfl (feq hp1).2 (by decide) (by decide) ?_
          show St p e below T11 (mkF m 132 #[sI i0, sI i1, sI i2, sI i3, sI i4, sI x5, sR b1, sR c10_0, sR c11_0, sI 2, sU] []) _
          refine Own.iload X11.here hx rfl (hb hby at_132) rfl hp0 ?_
          refine wiL X11 hx hby rfl at_134 rfl ?_
          refine Own.isub X11.here hx rfl (hb hby at_136) rfl (by decide : ((4 : Int32) - (2 : Int32)) = (2 : Int32)) ?_
          refine wic X11 hx hby rfl at_137 ?_
          refine Own.isub X11.here hx rfl (hb hby at_138) rfl (by decide : ((2 : Int32) - (1 : Int32)) = (1 : Int32)) ?_
          refine wiS X11 hx hby rfl at_139 rfl (l' := #[sI i0, sI i1, sI i2, sI i3, sI i4, sI x5, sR b1, sR c10_0, sR c11_0, sI 2, sI 1]) rfl ?_
          refine waL X11 hx hby rfl at_141 rfl rfl ?_
          refine wnn X11 hx hby rfl at_143 rfl ?_
          refine waL X11 hx hby rfl at_146 rfl rfl ?_
          refine st13 _ ?_
          refine wiL X13 hx hby rfl at_151 rfl ?_
          refine wcy X13 hx hby rfl (pc0 := 153) (pc' := 158) rfl at_153 rfl (teq (by decide : (1 : Int32) = (1 : Int32))).1 (by decide) (by decide) ?_
          show St p e below T13 (mkF m 158 #[sI i0, sI i1, sI i2, sI i3, sI i4, sI x5, sR b1, sR c10_0, sR c11_0, sI 2, sI 1] []) _
          refine wiL X13 hx hby rfl at_158 rfl ?_
          refine wfn X13 hx hby rfl at_160 rfl ((if0 _ _).trans (tlt (by decide : (0 : Int32) < (1 : Int32))).2.2.2) ?_
          refine waL X13 hx hby rfl at_163 rfl rfl ?_
          refine wic X13 hx hby rfl at_165 ?_
          refine st14 _ ?_
          refine waL X14 hx hby rfl at_169 rfl rfl ?_
          refine wiL X14 hx hby rfl at_171 rfl ?_
          refine wic X14 hx hby rfl at_173 ?_
          refine Own.iadd X14.here hx rfl (hb hby at_174) rfl (by decide : ((2 : Int32) + (1 : Int32)) = (3 : Int32)) ?_
          refine own_caload X14 hx hZ e14 f12 (j := 3) (by decide) (v := (vI z36)) rfl (g := (mkF m 175 #[sI i0, sI i1, sI i2, sI i3, sI i4, sI x5, sR b1, sR c10_0, sR c11_0, sI 2, sI 1] [(vI 3), (vR b1), (vI ((z36.toInt8.toInt32) &&& (255 : Int32)))])) rfl rfl (hb hby at_175) ?_
          refine wcy X14 hx hby rfl (pc0 := 176) (pc' := 181) rfl at_176 rfl (teq hd23).1 (by decide) (by decide) ?_
          show St p e below T14 (mkF m 181 #[sI i0, sI i1, sI i2, sI i3, sI i4, sI x5, sR b1, sR c10_0, sR c11_0, sI 2, sI 1] []) _
          refine wiL X14 hx hby rfl at_181 rfl ?_
          refine wic X14 hx hby rfl at_183 ?_
          refine wcy X14 hx hby rfl (pc0 := 184) (pc' := 205) rfl at_184 rfl (flt (by decide : ¬ ((1 : Int32) < (1 : Int32)))).2.2.2 (by decide) (by decide) ?_
          show St p e below T14 (mkF m 205 #[sI i0, sI i1, sI i2, sI i3, sI i4, sI x5, sR b1, sR c10_0, sR c11_0, sI 2, sI 1] []) _
          refine wiL X14 hx hby rfl at_205 rfl ?_
          refine wic X14 hx hby rfl at_207 ?_
          refine wcy X14 hx hby rfl (pc0 := 208) (pc' := 229) rfl at_208 rfl (flt (by decide : ¬ ((2 : Int32) < (1 : Int32)))).2.2.2 (by decide) (by decide) ?_
          show St p e below T14 (mkF m 229 #[sI i0, sI i1, sI i2, sI i3, sI i4, sI x5, sR b1, sR c10_0, sR c11_0, sI 2, sI 1] []) _
          refine wiL X14 hx hby rfl at_229 rfl ?_
          refine wic X14 hx hby rfl at_231 ?_
          refine wcy X14 hx hby rfl (pc0 := 232) (pc' := 253) rfl at_232 rfl (flt (by decide : ¬ ((3 : Int32) < (1 : Int32)))).2.2.2 (by decide) (by decide) ?_
          show St p e below T14 (mkF m 253 #[sI i0, sI i1, sI i2, sI i3, sI i4, sI x5, sR b1, sR c10_0, sR c11_0, sI 2, sI 1] []) _
          refine wic X14 hx hby rfl at_253 ?_
          exact retN X14 hx (t := .boolean) hret (by simp) (hb hby at_254) hr
        rcases Decidable.em (z14 = (58 : Int32)) with hp3 | hp3
        · rcases Decidable.em (z21 = (58 : Int32)) with hp4 | hp4
          · refine own_via (fun t kt => pre2 _ ?_) suf5
            refine st10 _ ?_
            show St p e below T10 (mkF m 49 #[sI i0, sI i1, sI i2, sI i3, sI i4, sI x5, sR b1, sU, sU, sU, sU] [(vR c10_0)]) _
            refine waS X10 hx hby rfl at_49 rfl rfl (l' := #[sI i0, sI i1, sI i2, sI i3, sI i4, sI x5, sR b1, sR c10_0, sU, sU, sU]) rfl ?_
            refine waL X10 hx hby rfl at_51 rfl rfl ?_
            refine st11 _ ?_
            refine waS X11 hx hby rfl at_56 rfl rfl (l' := #[sI i0, sI i1, sI i2, sI i3, sI i4, sI x5, sR b1, sR c10_0, sR c11_0, sU, sU]) rfl ?_
            refine wic X11 hx hby rfl at_58 ?_
            refine wiS X11 hx hby rfl at_59 rfl (l' := #[sI i0, sI i1, sI i2, sI i3, sI i4, sI x5, sR b1, sR c10_0, sR c11_0, sI (-1), sU]) rfl ?_
            refine Own.iload X11.here hx rfl (hb hby at_61) rfl hp0 ?_
            refine wfn X11 hx hby rfl at_63 rfl ((if0 _ _).trans (tlt (by decide : (0 : Int32) < (4 : Int32))).2.2.2) ?_
            refine waL X11 hx hby rfl at_66 rfl rfl ?_
            refine wic X11 hx hby rfl at_68 ?_
            refine own_caload X11 hx hZ (rfl : T11.heap = T11.heap) f12 (j := 0) (by decide) (v := (vI z14)) rfl (g := (mkF m 69 #[sI i0, sI i1, sI i2, sI i3, sI i4, sI x5, sR b1, sR c10_0, sR c11_0, sI (-1), sU] [(vI 0), (vR b1)])) rfl rfl (hb hby at_69) ?_
            refine wbp X11 hx hby rfl at_70 ?_
            refine wcn X11 hx hby rfl at_72 rfl (teq hp3).2 ?_
            refine wic X11 hx hby rfl at_75 ?_
            refine wiS X11 hx hby rfl at_76 rfl (l' := #[sI i0, sI i1, sI i2, sI i3, sI i4, sI x5, sR b1, sR c10_0, sR c11_0, sI 0, sU]) rfl ?_
            show St p e below T11 (mkF m 78 #[sI i0, sI i1, sI i2, sI i3, sI i4, sI x5, sR b1, sR c10_0, sR c11_0, sI 0, sU] []) _
            refine Own.iload X11.here hx rfl (hb hby at_78) rfl hp0 ?_
            refine wic X11 hx hby rfl at_80 ?_
            refine wcn X11 hx hby rfl at_81 rfl (tlt (by decide : (1 : Int32) < (4 : Int32))).2.2.2 ?_
            refine waL X11 hx hby rfl at_84 rfl rfl ?_
            refine wic X11 hx hby rfl at_86 ?_
            refine own_caload X11 hx hZ (rfl : T11.heap = T11.heap) f12 (j := 1) (by decide) (v := (vI z21)) rfl (g := (mkF m 87 #[sI i0, sI i1, sI i2, sI i3, sI i4, sI x5, sR b1, sR c10_0, sR c11_0, sI 0, sU] [(vI 1), (vR b1)])) rfl rfl (hb hby at_87) ?_
            refine wbp X11 hx hby rfl at_88 ?_
            refine wcn X11 hx hby rfl at_90 rfl (teq hp4).2 ?_
            refine wic X11 hx hby rfl at_93 ?_
            refine wiS X11 hx hby rfl at_94 rfl (l' := #[sI i0, sI i1, sI i2, sI i3, sI i4, sI x5, sR b1, sR c10_0, sR c11_0, sI 1, sU]) rfl ?_
            show St p e below T11 (mkF m 96 #[sI i0, sI i1, sI i2, sI i3, sI i4, sI x5, sR b1, sR c10_0, sR c11_0, sI 1, sU] []) _
            refine Own.iload X11.here hx rfl (hb hby at_96) rfl hp0 ?_
            refine wic X11 hx hby rfl at_98 ?_
            refine wcn X11 hx hby rfl at_99 rfl (tlt (by decide : (2 : Int32) < (4 : Int32))).2.2.2 ?_
            refine waL X11 hx hby rfl at_102 rfl rfl ?_
            refine wic X11 hx hby rfl at_104 ?_
            refine own_caload X11 hx hZ (rfl : T11.heap = T11.heap) f12 (j := 2) (by decide) (v := (vI z28)) rfl (g := (mkF m 105 #[sI i0, sI i1, sI i2, sI i3, sI i4, sI x5, sR b1, sR c10_0, sR c11_0, sI 1, sU] [(vI 2), (vR b1)])) rfl rfl (hb hby at_105) ?_
            refine wbp X11 hx hby rfl at_106 ?_
            refine wcn X11 hx hby rfl at_108 rfl (teq hp2).2 ?_
            refine wic X11 hx hby rfl at_111 ?_
            refine wiS X11 hx hby rfl at_112 rfl (l' := #[sI i0, sI i1, sI i2, sI i3, sI i4, sI x5, sR b1, sR c10_0, sR c11_0, sI 2, sU]) rfl ?_
            exact kt
          · refine own_via (fun t kt => pre2 _ ?_) suf5
            refine st10 _ ?_
            show St p e below T10 (mkF m 49 #[sI i0, sI i1, sI i2, sI i3, sI i4, sI x5, sR b1, sU, sU, sU, sU] [(vR c10_0)]) _
            refine waS X10 hx hby rfl at_49 rfl rfl (l' := #[sI i0, sI i1, sI i2, sI i3, sI i4, sI x5, sR b1, sR c10_0, sU, sU, sU]) rfl ?_
            refine waL X10 hx hby rfl at_51 rfl rfl ?_
            refine st11 _ ?_
            refine waS X11 hx hby rfl at_56 rfl rfl (l' := #[sI i0, sI i1, sI i2, sI i3, sI i4, sI x5, sR b1, sR c10_0, sR c11_0, sU, sU]) rfl ?_
            refine wic X11 hx hby rfl at_58 ?_
            refine wiS X11 hx hby rfl at_59 rfl (l' := #[sI i0, sI i1, sI i2, sI i3, sI i4, sI x5, sR b1, sR c10_0, sR c11_0, sI (-1), sU]) rfl ?_
            refine Own.iload X11.here hx rfl (hb hby at_61) rfl hp0 ?_
            refine wfn X11 hx hby rfl at_63 rfl ((if0 _ _).trans (tlt (by decide : (0 : Int32) < (4 : Int32))).2.2.2) ?_
            refine waL X11 hx hby rfl at_66 rfl rfl ?_
            refine wic X11 hx hby rfl at_68 ?_
            refine own_caload X11 hx hZ (rfl : T11.heap = T11.heap) f12 (j := 0) (by decide) (v := (vI z14)) rfl (g := (mkF m 69 #[sI i0, sI i1, sI i2, sI i3, sI i4, sI x5, sR b1, sR c10_0, sR c11_0, sI (-1), sU] [(vI 0), (vR b1)])) rfl rfl (hb hby at_69) ?_
            refine wbp X11 hx hby rfl at_70 ?_
            refine wcn X11 hx hby rfl at_72 rfl (teq hp3).2 ?_
            refine wic X11 hx hby rfl at_75 ?_
            refine wiS X11 hx hby rfl at_76 rfl (l' := #[sI i0, sI i1, sI i2, sI i3, sI i4, sI x5, sR b1, sR c10_0, sR c11_0, sI 0, sU]) rfl ?_
            show St p e below T11 (mkF m 78 #[sI i0, sI i1, sI i2, sI i3, sI i4, sI x5, sR b1, sR c10_0, sR c11_0, sI 0, sU] []) _
            refine Own.iload X11.here hx rfl (hb hby at_78) rfl hp0 ?_
            refine wic X11 hx hby rfl at_80 ?_
            refine wcn X11 hx hby rfl at_81 rfl (tlt (by decide : (1 : Int32) < (4 : Int32))).2.2.2 ?_
            refine waL X11 hx hby rfl at_84 rfl rfl ?_
            refine wic X11 hx hby rfl at_86 ?_
            refine own_caload X11 hx hZ (rfl : T11.heap = T11.heap) f12 (j := 1) (by decide) (v := (vI z21)) rfl (g := (mkF m 87 #[sI i0, sI i1, sI i2, sI i3, sI i4, sI x5, sR b1, sR c10_0, sR c11_0, sI 0, sU] [(vI 1), (vR b1)])) rfl rfl (hb hby at_87) ?_
            refine wbp X11 hx hby rfl at_88 ?_
            refine wcy X11 hx hby rfl (pc0 := 90) (pc' := 96) rfl at_90 rfl (feq hp4).2 (by decide) (by decide) ?_
            show St p e below T11 (mkF m 96 #[sI i0, sI i1, sI i2, sI i3, sI i4, sI x5, sR b1, sR c10_0, sR c11_0, sI 0, sU] []) _
            refine Own.iload X11.here hx rfl (hb hby at_96) rfl hp0 ?_
            refine wic X11 hx hby rfl at_98 ?_
            refine wcn X11 hx hby rfl at_99 rfl (tlt (by decide : (2 : Int32) < (4 : Int32))).2.2.2 ?_
            refine waL X11 hx hby rfl at_102 rfl rfl ?_
            refine wic X11 hx hby rfl at_104 ?_
            refine own_caload X11 hx hZ (rfl : T11.heap = T11.heap) f12 (j := 2) (by decide) (v := (vI z28)) rfl (g := (mkF m 105 #[sI i0, sI i1, sI i2, sI i3, sI i4, sI x5, sR b1, sR c10_0, sR c11_0, sI 0, sU] [(vI 2), (vR b1)])) rfl rfl (hb hby at_105) ?_
            refine wbp X11 hx hby rfl at_106 ?_
            refine wcn X11 hx hby rfl at_108 rfl (teq hp2).2 ?_
            refine wic X11 hx hby rfl at_111 ?_
            refine wiS X11 hx hby rfl at_112 rfl (l' := #[sI i0, sI i1, sI i2, sI i3, sI i4, sI x5, sR b1, sR c10_0, sR c11_0, sI 2, sU]) rfl ?_
            exact kt
        · rcases Decidable.em (z21 = (58 : Int32)) with hp4 | hp4
          · refine own_via (fun t kt => pre2 _ ?_) suf5
            refine st10 _ ?_
            show St p e below T10 (mkF m 49 #[sI i0, sI i1, sI i2, sI i3, sI i4, sI x5, sR b1, sU, sU, sU, sU] [(vR c10_0)]) _
            refine waS X10 hx hby rfl at_49 rfl rfl (l' := #[sI i0, sI i1, sI i2, sI i3, sI i4, sI x5, sR b1, sR c10_0, sU, sU, sU]) rfl ?_
            refine waL X10 hx hby rfl at_51 rfl rfl ?_
            refine st11 _ ?_
            refine waS X11 hx hby rfl at_56 rfl rfl (l' := #[sI i0, sI i1, sI i2, sI i3, sI i4, sI x5, sR b1, sR c10_0, sR c11_0, sU, sU]) rfl ?_
            refine wic X11 hx hby rfl at_58 ?_
            refine wiS X11 hx hby rfl at_59 rfl (l' := #[sI i0, sI i1, sI i2, sI i3, sI i4, sI x5, sR b1, sR c10_0, sR c11_0, sI (-1), sU]) rfl ?_
            refine Own.iload X11.here hx rfl (hb hby at_61) rfl hp0 ?_
            refine wfn X11 hx hby rfl at_63 rfl ((if0 _ _).trans (tlt (by decide : (0 : Int32) < (4 : Int32))).2.2.2) ?_
            refine waL X11 hx hby rfl at_66 rfl rfl ?_
            refine wic X11 hx hby rfl at_68 ?_
            refine own_caload X11 hx hZ (rfl : T11.heap = T11.heap) f12 (j := 0) (by decide) (v := (vI z14)) rfl (g := (mkF m 69 #[sI i0, sI i1, sI i2, sI i3, sI i4, sI x5, sR b1, sR c10_0, sR c11_0, sI (-1), sU] [(vI 0), (vR b1)])) rfl rfl (hb hby at_69) ?_
            refine wbp X11 hx hby rfl at_70 ?_
            refine wcy X11 hx hby rfl (pc0 := 72) (pc' := 78) rfl at_72 rfl (feq hp3).2 (by decide) (by decide) ?_
            show St p e below T11 (mkF m 78 #[sI i0, sI i1, sI i2, sI i3, sI i4, sI x5, sR b1, sR c10_0, sR c11_0, sI (-1), sU] []) _
            refine Own.iload X11.here hx rfl (hb hby at_78) rfl hp0 ?_
            refine wic X11 hx hby rfl at_80 ?_
            refine wcn X11 hx hby rfl at_81 rfl (tlt (by decide : (1 : Int32) < (4 : Int32))).2.2.2 ?_
            refine waL X11 hx hby rfl at_84 rfl rfl ?_
            refine wic X11 hx hby rfl at_86 ?_
            refine own_caload X11 hx hZ (rfl : T11.heap = T11.heap) f12 (j := 1) (by decide) (v := (vI z21)) rfl (g := (mkF m 87 #[sI i0, sI i1, sI i2, sI i3, sI i4, sI x5, sR b1, sR c10_0, sR c11_0, sI (-1), sU] [(vI 1), (vR b1)])) rfl rfl (hb hby at_87) ?_
            refine wbp X11 hx hby rfl at_88 ?_
            refine wcn X11 hx hby rfl at_90 rfl (teq hp4).2 ?_
            refine wic X11 hx hby rfl at_93 ?_
            refine wiS X11 hx hby rfl at_94 rfl (l' := #[sI i0, sI i1, sI i2, sI i3, sI i4, sI x5, sR b1, sR c10_0, sR c11_0, sI 1, sU]) rfl ?_
            show St p e below T11 (mkF m 96 #[sI i0, sI i1, sI i2, sI i3, sI i4, sI x5, sR b1, sR c10_0, sR c11_0, sI 1, sU] []) _
            refine Own.iload X11.here hx rfl (hb hby at_96) rfl hp0 ?_
            refine wic X11 hx hby rfl at_98 ?_
            refine wcn X11 hx hby rfl at_99 rfl (tlt (by decide : (2 : Int32) < (4 : Int32))).2.2.2 ?_
            refine waL X11 hx hby rfl at_102 rfl rfl ?_
            refine wic X11 hx hby rfl at_104 ?_
            refine own_caload X11 hx hZ (rfl : T11.heap = T11.heap) f12 (j := 2) (by decide) (v := (vI z28)) rfl (g := (mkF m 105 #[sI i0, sI i1, sI i2, sI i3, sI i4, sI x5, sR b1, sR c10_0, sR c11_0, sI 1, sU] [(vI 2), (vR b1)])) rfl rfl (hb hby at_105) ?_
            refine wbp X11 hx hby rfl at_106 ?_
            refine wcn X11 hx hby rfl at_108 rfl (teq hp2).2 ?_
            refine wic X11 hx hby rfl at_111 ?_
            refine wiS X11 hx hby rfl at_112 rfl (l' := #[sI i0, sI i1, sI i2, sI i3, sI i4, sI x5, sR b1, sR c10_0, sR c11_0, sI 2, sU]) rfl ?_
            exact kt
          · refine own_via (fun t kt => pre2 _ ?_) suf5
            refine st10 _ ?_
            show St p e below T10 (mkF m 49 #[sI i0, sI i1, sI i2, sI i3, sI i4, sI x5, sR b1, sU, sU, sU, sU] [(vR c10_0)]) _
            refine waS X10 hx hby rfl at_49 rfl rfl (l' := #[sI i0, sI i1, sI i2, sI i3, sI i4, sI x5, sR b1, sR c10_0, sU, sU, sU]) rfl ?_
            refine waL X10 hx hby rfl at_51 rfl rfl ?_
            refine st11 _ ?_
            refine waS X11 hx hby rfl at_56 rfl rfl (l' := #[sI i0, sI i1, sI i2, sI i3, sI i4, sI x5, sR b1, sR c10_0, sR c11_0, sU, sU]) rfl ?_
            refine wic X11 hx hby rfl at_58 ?_
            refine wiS X11 hx hby rfl at_59 rfl (l' := #[sI i0, sI i1, sI i2, sI i3, sI i4, sI x5, sR b1, sR c10_0, sR c11_0, sI (-1), sU]) rfl ?_
            refine Own.iload X11.here hx rfl (hb hby at_61) rfl hp0 ?_
            refine wfn X11 hx hby rfl at_63 rfl ((if0 _ _).trans (tlt (by decide : (0 : Int32) < (4 : Int32))).2.2.2) ?_
            refine waL X11 hx hby rfl at_66 rfl rfl ?_
            refine wic X11 hx hby rfl at_68 ?_
            refine own_caload X11 hx hZ (rfl : T11.heap = T11.heap) f12 (j := 0) (by decide) (v := (vI z14)) rfl (g := (mkF m 69 #[sI i0, sI i1, sI i2, sI i3, sI i4, sI x5, sR b1, sR c10_0, sR c11_0, sI (-1), sU] [(vI 0), (vR b1)])) rfl rfl (hb hby at_69) ?_
            refine wbp X11 hx hby rfl at_70 ?_
            refine wcy X11 hx hby rfl (pc0 := 72) (pc' := 78) rfl at_72 rfl (feq hp3).2 (by decide) (by decide) ?_
            show St p e below T11 (mkF m 78 #[sI i0, sI i1, sI i2, sI i3, sI i4, sI x5, sR b1, sR c10_0, sR c11_0, sI (-1), sU] []) _
            refine Own.iload X11.here hx rfl (hb hby at_78) rfl hp0 ?_
            refine wic X11 hx hby rfl at_80 ?_
            refine wcn X11 hx hby rfl at_81 rfl (tlt (by decide : (1 : Int32) < (4 : Int32))).2.2.2 ?_
            refine waL X11 hx hby rfl at_84 rfl rfl ?_
            refine wic X11 hx hby rfl at_86 ?_
            refine own_caload X11 hx hZ (rfl : T11.heap = T11.heap) f12 (j := 1) (by decide) (v := (vI z21)) rfl (g := (mkF m 87 #[sI i0, sI i1, sI i2, sI i3, sI i4, sI x5, sR b1, sR c10_0, sR c11_0, sI (-1), sU] [(vI 1), (vR b1)])) rfl rfl (hb hby at_87) ?_
            refine wbp X11 hx hby rfl at_88 ?_
            refine wcy X11 hx hby rfl (pc0 := 90) (pc' := 96) rfl at_90 rfl (feq hp4).2 (by decide) (by decide) ?_
            show St p e below T11 (mkF m 96 #[sI i0, sI i1, sI i2, sI i3, sI i4, sI x5, sR b1, sR c10_0, sR c11_0, sI (-1), sU] []) _
            refine Own.iload X11.here hx rfl (hb hby at_96) rfl hp0 ?_
            refine wic X11 hx hby rfl at_98 ?_
            refine wcn X11 hx hby rfl at_99 rfl (tlt (by decide : (2 : Int32) < (4 : Int32))).2.2.2 ?_
            refine waL X11 hx hby rfl at_102 rfl rfl ?_
            refine wic X11 hx hby rfl at_104 ?_
            refine own_caload X11 hx hZ (rfl : T11.heap = T11.heap) f12 (j := 2) (by decide) (v := (vI z28)) rfl (g := (mkF m 105 #[sI i0, sI i1, sI i2, sI i3, sI i4, sI x5, sR b1, sR c10_0, sR c11_0, sI (-1), sU] [(vI 2), (vR b1)])) rfl rfl (hb hby at_105) ?_
            refine wbp X11 hx hby rfl at_106 ?_
            refine wcn X11 hx hby rfl at_108 rfl (teq hp2).2 ?_
            refine wic X11 hx hby rfl at_111 ?_
            refine wiS X11 hx hby rfl at_112 rfl (l' := #[sI i0, sI i1, sI i2, sI i3, sI i4, sI x5, sR b1, sR c10_0, sR c11_0, sI 2, sU]) rfl ?_
            exact kt
      · rcases Decidable.em (z21 = (58 : Int32)) with hp3 | hp3
        · have sf10 := (sf0 : ∀ x ∈ [], Safe Z EL s.vm h9 x)
          obtain ⟨_, T10, L10, ⟨c10_0, c10_1, k10_2, rfl, N10q, Kq10, lo10_0, lo10_1, q10_0, q10_1, q10_2, q10_3⟩, X10, st10⟩ := cS X9 hx hZ (W := 0) hown (cw2 cx) (rm127 cx b1 z14 z21 z28 z36 k1 O9 V9 hz2_0 hd0 hz4_0 hd1 hz6_0 hd2 hz8_0 hd3 hz2_1 hz4_1 hz6_1 hz8_1) e9 (g := (mkF m 46 #[sI i0, sI i1, sI i2, sI i3, sI i4, sI x5, sR b1, sU, sU, sU, sU] [(vR b1), (vI 4)])) rfl hml rfl (rest := []) rfl rfl rfl rfl (hb hby at_46) (by decide)
          have N10 := Fr.app N9 N10q
          have C10 := C9.trans (CHr.keep Kq10 sf10 C9.1)
          have O10 : Old Z n0 T10.heap := O9.keep Kq10 all0
          have K10 : Keep h0 T10.heap [] := K9.trans Kq10 all0
          have hd22 : ¬ ((z36.toInt8.toInt32) = (58 : Int32)) := ((fun q => hp1 ((own_blit hz8_0 hz8_1 (by decide)).mp q)) : ¬ ((z36.toInt8.toInt32) = (58 : Int32)))
          have hd17 : ¬ ((z28.toInt8.toInt32) = (58 : Int32)) := ((fun q => hp2 ((own_blit hz6_0 hz6_1 (by decide)).mp q)) : ¬ ((z28.toInt8.toInt32) = (58 : Int32)))
          have hd9 : ¬ (z21 < (-128 : Int32)) := (by have q0 := own_rg hz4_0 hz4_1 (l := 0) (h := 255) (by decide); have q1 := (by decide : ((-128 : Int32)).toInt = -128); exact own_ltF (by omega) : ¬ (z21 < (-128 : Int32)))
          have hd10 : ¬ ((127 : Int32) < z21) := (by have q0 := (by decide : ((127 : Int32)).toInt = 127); have q1 := own_rg hz4_0 hz4_1 (l := 0) (h := 255) (by decide); have q2 := (by decide : ((58 : Int32)).toInt = 58); have q3 := own_eqT' hp3; have q4 := (by decide : ((0 : Int32)).toInt = 0); have q5 := own_ltF' hz4_0; have q6 := (by decide : ((255 : Int32)).toInt = 255); have q7 := own_ltF' hz4_1; exact own_ltF (by omega) : ¬ ((127 : Int32) < z21))
          have hd11 : (z21.toInt8.toInt32) = (58 : Int32) := (by rw [show (z21.toInt8.toInt32) = z21 from own_i2b hd9 hd10]; exact hp3 : (z21.toInt8.toInt32) = (58 : Int32))
          have sf11 := (sf0 : ∀ x ∈ [], Safe Z EL s.vm T10.heap x)
          obtain ⟨_, T11, L11, ⟨c11_0, c11_1, k11_2, rfl, N11q, Kq11, lo11_0, lo11_1, q11_0, q11_1, q11_2, q11_3⟩, X11, st11⟩ := cS X10 hx hZ (W := 0) hown (cw15 cx) (rm153 cx c10_0 (z14.toInt8.toInt32) (z21.toInt8.toInt32) (z28.toInt8.toInt32) (z36.toInt8.toInt32) c10_1 k10_2 O10 q10_1 q10_3 q10_2 q10_0 hd22 hd17 hd11) (rfl : T10.heap = T10.heap) (g := (mkF m 53 #[sI i0, sI i1, sI i2, sI i3, sI i4, sI x5, sR b1, sR c10_0, sU, sU, sU] [(vR c10_0)])) rfl hml rfl (rest := []) rfl rfl rfl rfl (hb hby at_53) (by decide)
          have N11 := Fr.app N10 N11q
          have C11 := C10.trans (CHr.keep Kq11 sf11 C10.1)
          have O11 : Old Z n0 T11.heap := O10.keep Kq11 all0
          have K11 : Keep h0 T11.heap [] := K10.trans Kq11 all0
          have f12 : Arv Z T11.heap b1 k1 .char (4 : Int32) [(vI z14), (vI z21), (vI z28), (vI z36)] (vI 0) := ((V9.keep Kq10 nin0).keep Kq11 nin0)
          have suf6 : EndW EL Z p e s below room_1 (QL n0) (T11.setTop (mkF m 96 #[sI i0, sI i1, sI i2, sI i3, sI i4, sI x5, sR b1, sR c10_0, sR c11_0, sI 1, sU] [])) := by
            have sf13 := (sf0 : ∀ x ∈ [], Safe Z EL s.vm T11.heap x)
            obtain ⟨_, T13, L13, ⟨rfl, N13q, e13⟩, X13, st13⟩ := cV X11 hx hZ (W := 0) hown (cw16 cx) (rm49 cx c11_0 c11_1 (z28.toInt8.toInt32) (z36.toInt8.toInt32) k11_2 O11 q11_1 q11_3 q11_2 q11_0) (rfl : T11.heap = T11.heap) q11_0 (g := (mkF m 148 #[sI i0, sI i1, sI i2, sI i3, sI i4, sI x5, sR b1, sR c10_0, sR c11_0, sI 1, sI 2] [(vR c11_0)])) rfl hml rfl (rest := []) rfl rfl rfl rfl (hb hby at_148) (by decide)
            have sf14 := (sf0 : ∀ x ∈ [], Safe Z EL s.vm T11.heap x)
            obtain ⟨_, T14, L14, ⟨rfl, N14q, e14⟩, X14, st14⟩ := cV X13 hx hZ (W := 0) hown (cw24 cx) (rm75 cx c11_0 c11_1 (z28.toInt8.toInt32) (z36.toInt8.toInt32) k11_2 O11 q11_2 q11_0 q11_1 q11_3) e13 q11_0 (g := (mkF m 166 #[sI i0, sI i1, sI i2, sI i3, sI i4, sI x5, sR b1, sR c10_0, sR c11_0, sI 1, sI 2] [(vI 0), (vR c11_0)])) rfl hml rfl (rest := []) rfl rfl rfl rfl (hb hby at_166) (by decide)
            have hd18 : ((z28.toInt8.toInt32) &&& (255 : Int32)) = z28 := (by rw [show ((z28.toInt8.toInt32) &&& (255 : Int32)) = z28 from own_b255 hz6_0 hz6_1] : ((z28.toInt8.toInt32) &&& (255 : Int32)) = z28)
            have sf15 := (sf0 : ∀ x ∈ [], Safe Z EL s.vm T11.heap x)
            obtain ⟨_, T15, L15, ⟨rfl, N15q, e15⟩, X15, st15⟩ := cV X14 hx hZ (W := 0) hown (cw24 cx) (rm77 cx c11_0 c11_1 (z28.toInt8.toInt32) (z36.toInt8.toInt32) k11_2 O11 q11_2 q11_0 q11_1 q11_3) e14 q11_0 (g := (mkF m 190 #[sI i0, sI i1, sI i2, sI i3, sI i4, sI x5, sR b1, sR c10_0, sR c11_0, sI 1, sI 2] [(vI 1), (vR c11_0)])) rfl hml rfl (rest := []) rfl rfl rfl rfl (hb hby at_190) (by decide)
            have hd23 : ((z36.toInt8.toInt32) &&& (255 : Int32)) = z36 := (by rw [show ((z36.toInt8.toInt32) &&& (255 : Int32)) = z36 from own_b255 hz8_0 hz8_1] : ((z36.toInt8.toInt32) &&& (255 : Int32)) = z36)
            refine own_endW X15 hlk (v := some (vI 1)) (own_hv hret) hS0 (Nat.le_trans (Nat.le_refl _) (Nat.le_trans (Nat.le_trans (Nat.le_trans (Nat.le_trans (Nat.le_trans (Nat.le_trans E1.1 (Nat.le_of_eq W3.size.symm)) (Nat.le_of_eq W5.size.symm)) (Nat.le_of_eq W7.size.symm)) (Nat.le_of_eq W9.size.symm)) Kq10.1) Kq11.1)) (by decide) hh e15 C11 hZ (own_EW hw hj) ⟨rfl, (Fr.app (Fr.app (Fr.app N11 N13q) N14q) N15q)⟩ fun fs hr => ?_
            show St p e below T11 (mkF m 96 #[sI i0, sI i1, sI i2, sI i3, sI i4, sI x5, sR b1, sR c10_0, sR c11_0, sI 1, sU] []) _
            refine Own.iload X11.here hx rfl (hb hby at_96) rfl hp0 ?_
            refine wic X11 hx hby rfl at_98 ?_
            refine wcn X11 hx hby rfl at_99 rfl (tlt (by decide : (2 : Int32) < (4 : Int32))).2.2.2 ?_
            refine waL X11 hx hby rfl at_102 rfl rfl ?_
            refine wic X11 hx hby rfl at_104 ?_
            refine own_caload X11 hx hZ (rfl : T11.heap = T11.heap) f12 (j := 2) (by decide) (v := (vI z28)) rfl (g := (mkF m 105 #[sI i0, sI i1, sI i2, sI i3, sI i4, sI x5, sR b1, sR c10_0, sR c11_0, sI 1, sU] [(vI 2), (vR b1)])) rfl rfl (hb hby at_105) ?_
            refine wbp X11 hx hby rfl at_106 ?_
            refine wcy X11 hx hby rfl (pc0 := 108) (pc' := 114) rfl at_108 rfl (feq hp2).2 (by decide) (by decide) ?_
            show St p e below T11 (mkF m 114 #[sI i0, sI i1, sI i2, sI i3, sI i4, sI x5, sR b1, sR c10_0, sR c11_0, sI 1, sU] []) _
            refine Own.iload X11.here hx rfl (hb hby at_114) rfl hp0 ?_
            refine wic X11 hx hby rfl at_116 ?_
            refine wcn X11 hx hby rfl at_117 rfl (tlt (by decide : (3 : Int32) < (4 : Int32))).2.2.2 ?_
            refine waL X11 hx hby rfl at_120 rfl rfl ?_
            refine wic X11 hx hby rfl at_122 ?_
            refine own_caload X11 hx hZ (rfl : T11.heap = T11.heap) f12 (j := 3) (by decide) (v := (vI z36)) rfl (g := (mkF m 123 #[sI i0, sI i1, sI i2, sI i3, sI i4, sI x5, sR b1, sR c10_0, sR c11_0, sI 1, sU] [(vI 3), (vR b1)])) rfl rfl (hb hby at_123) ?_
            refine wbp X11 hx hby rfl at_124 ?_
            refine wcy X11 hx hby rfl (pc0 := 126) (pc' := 132) rfl at_126 rfl (feq hp1).2 (by decide) (by decide) ?_
            show St p e below T11 (mkF m 132 #[sI i0, sI i1, sI i2, sI i3, sI i4, sI x5, sR b1, sR c10_0, sR c11_0, sI 1, sU] []) _
            refine Own.iload X11.here hx rfl (hb hby at_132) rfl hp0 ?_
            refine wiL X11 hx hby rfl at_134 rfl ?_
            refine Own.isub X11.here hx rfl (hb hby at_136) rfl (by decide : ((4 : Int32) - (1 : Int32)) = (3 : Int32)) ?_
            refine wic X11 hx hby rfl at_137 ?_
            refine Own.isub X11.here hx rfl (hb hby at_138) rfl (by decide : ((3 : Int32) - (1 : Int32)) = (2 : Int32)) ?_
            refine wiS X11 hx hby rfl at_139 rfl (l' := #[sI i0, sI i1, sI i2, sI i3, sI i4, sI x5, sR b1, sR c10_0, sR c11_0, sI 1, sI 2]) rfl ?_
            refine waL X11 hx hby rfl at_141 rfl rfl ?_
            refine wnn X11 hx hby rfl at_143 rfl ?_
            refine waL X11 hx hby rfl at_146 rfl rfl ?_
            refine st13 _ ?_
            refine wiL X13 hx hby rfl at_151 rfl ?_
            refine wcy X13 hx hby rfl (pc0 := 153) (pc' := 158) rfl at_153 rfl (teq (by decide : (2 : Int32) = (2 : Int32))).1 (by decide) (by decide) ?_
            show St p e below T13 (mkF m 158 #[sI i0, sI i1, sI i2, sI i3, sI i4, sI x5, sR b1, sR c10_0, sR c11_0, sI 1, sI 2] []) _
            refine wiL X13 hx hby rfl at_158 rfl ?_
            refine wfn X13 hx hby rfl at_160 rfl ((if0 _ _).trans (tlt (by decide : (0 : Int32) < (2 : Int32))).2.2.2) ?_
            refine waL X13 hx hby rfl at_163 rfl rfl ?_
            refine wic X13 hx hby rfl at_165 ?_
            refine st14 _ ?_
            refine waL X14 hx hby rfl at_169 rfl rfl ?_
            refine wiL X14 hx hby rfl at_171 rfl ?_
            refine wic X14 hx hby rfl at_173 ?_
            refine Own.iadd X14.here hx rfl (hb hby at_174) rfl (by decide : ((1 : Int32) + (1 : Int32)) = (2 : Int32)) ?_
            refine own_caload X14 hx hZ e14 f12 (j := 2) (by decide) (v := (vI z28)) rfl (g := (mkF m 175 #[sI i0, sI i1, sI i2, sI i3, sI i4, sI x5, sR b1, sR c10_0, sR c11_0, sI 1, sI 2] [(vI 2), (vR b1), (vI ((z28.toInt8.toInt32) &&& (255 : Int32)))])) rfl rfl (hb hby at_175) ?_
            refine wcy X14 hx hby rfl (pc0 := 176) (pc' := 181) rfl at_176 rfl (teq hd18).1 (by decide) (by decide) ?_
            show St p e below T14 (mkF m 181 #[sI i0, sI i1, sI i2, sI i3, sI i4, sI x5, sR b1, sR c10_0, sR c11_0, sI 1, sI 2] []) _
            refine wiL X14 hx hby rfl at_181 rfl ?_
            refine wic X14 hx hby rfl at_183 ?_
            refine wcn X14 hx hby rfl at_184 rfl (tlt (by decide : (1 : Int32) < (2 : Int32))).2.2.2 ?_
            refine waL X14 hx hby rfl at_187 rfl rfl ?_
            refine wic X14 hx hby rfl at_189 ?_
            refine st15 _ ?_
            refine waL X15 hx hby rfl at_193 rfl rfl ?_
            refine wiL X15 hx hby rfl at_195 rfl ?_
            refine wic X15 hx hby rfl at_197 ?_
            refine Own.iadd X15.here hx rfl (hb hby at_198) rfl (by decide : ((1 : Int32) + (2 : Int32)) = (3 : Int32)) ?_
            refine own_caload X15 hx hZ e15 f12 (j := 3) (by decide) (v := (vI z36)) rfl (g := (mkF m 199 #[sI i0, sI i1, sI i2, sI i3, sI i4, sI x5, sR b1, sR c10_0, sR c11_0, sI 1, sI 2] [(vI 3), (vR b1), (vI ((z36.toInt8.toInt32) &&& (255 : Int32)))])) rfl rfl (hb hby at_199) ?_
            refine wcy X15 hx hby rfl (pc0 := 200) (pc' := 205) rfl at_200 rfl (teq hd23).1 (by decide) (by decide) ?_
            show St p e below T15 (mkF m 205 #[sI i0, sI i1, sI i2, sI i3, sI i4, sI x5, sR b1, sR c10_0, sR c11_0, sI 1, sI 2] []) _
            refine wiL X15 hx hby rfl at_205 rfl ?_
            refine wic X15 hx hby rfl at_207 ?_
            refine wcy X15 hx hby rfl (pc0 := 208) (pc' := 229) rfl at_208 rfl (flt (by decide : ¬ ((2 : Int32) < (2 : Int32)))).2.2.2 (by decide) (by decide) ?_
            show St p e below T15 (mkF m 229 #[sI i0, sI i1, sI i2, sI i3, sI i4, sI x5, sR b1, sR c10_0, sR c11_0, sI 1, sI 2] []) _
            refine wiL X15 hx hby rfl at_229 rfl ?_
            refine wic X15 hx hby rfl at_231 ?_
            refine wcy X15 hx hby rfl (pc0 := 232) (pc' := 253) rfl at_232 rfl (flt (by decide : ¬ ((3 : Int32) < (2 : Int32)))).2.2.2 (by decide) (by decide) ?_
            show St p e below T15 (mkF m 253 #[sI i0, sI i1, sI i2, sI i3, sI i4, sI x5, sR b1, sR c10_0, sR c11_0, sI 1, sI 2] []) _
            refine wic X15 hx hby rfl at_253 ?_
            exact retN X15 hx (t := .boolean) hret (by simp) (hb hby at_254) hr
          rcases Decidable.em (z14 = (58 : Int32)) with hp4 | hp4
          · refine own_via (fun t kt => pre2 _ ?_) suf6
            refine st10 _ ?_
            show St p e below T10 (mkF m 49 #[sI i0, sI i1, sI i2, sI i3, sI i4, sI x5, sR b1, sU, sU, sU, sU] [(vR c10_0)]) _
            refine waS X10 hx hby rfl at_49 rfl rfl (l' := #[sI i0, sI i1, sI i2, sI i3, sI i4, sI x5, sR b1, sR c10_0, sU, sU, sU]) rfl ?_
            refine waL X10 hx hby rfl at_51 rfl rfl ?_
            refine st11 _ ?_
            refine waS X11 hx hby rfl at_56 rfl rfl (l' := #[sI i0, sI i1, sI i2, sI i3, sI i4, sI x5, sR b1, sR c10_0, sR c11_0, sU, sU]) rfl ?_
            refine wic X11 hx hby rfl at_58 ?_
            refine wiS X11 hx hby rfl at_59 rfl (l' := #[sI i0, sI i1, sI i2, sI i3, sI i4, sI x5, sR b1, sR c10_0, sR c11_0, sI (-1), sU]) rfl ?_
            refine Own.iload X11.here hx rfl (hb hby at_61) rfl hp0 ?_
            refine wfn X11 hx hby rfl at_63 rfl ((if0 _ _).trans (tlt (by decide : (0 : Int32) < (4 : Int32))).2.2.2) ?_
            refine waL X11 hx hby rfl at_66 rfl rfl ?_
            refine wic X11 hx hby rfl at_68 ?_
            refine own_caload X11 hx hZ (rfl : T11.heap = T11.heap) f12 (j := 0) (by decide) (v := (vI z14)) rfl (g := (mkF m 69 #[sI i0, sI i1, sI i2, sI i3, sI i4, sI x5, sR b1, sR c10_0, sR c11_0, sI (-1), sU] [(vI 0), (vR b1)])) rfl rfl (hb hby at_69) ?_
            refine wbp X11 hx hby rfl at_70 ?_
            refine wcn X11 hx hby rfl at_72 rfl (teq hp4).2 ?_
            refine wic X11 hx hby rfl at_75 ?_
            refine wiS X11 hx hby rfl at_76 rfl (l' := #[sI i0, sI i1, sI i2, sI i3, sI i4, sI x5, sR b1, sR c10_0, sR c11_0, sI 0, sU]) rfl ?_
            show St p e below T11 (mkF m 78 #[sI i0, sI i1, sI i2, sI i3, sI i4, sI x5, sR b1, sR c10_0, sR c11_0, sI 0, sU] []) _
            refine Own.iload X11.here hx rfl (hb hby at_78) rfl hp0 ?_
            refine wic X11 hx hby rfl at_80 ?_
            refine wcn X11 hx hby rfl at_81 rfl (tlt (by decide : (1 : Int32) < (4 : Int32))).2.2.2 ?_
            refine waL X11 hx hby rfl at_84 rfl rfl ?_
            refine wic X11 hx hby rfl at_86 ?_
            refine own_caload X11 hx hZ (rfl : T11.heap = T11.heap) f12 (j := 1) (by decide) (v := (vI z21)) rfl (g := (mkF m 87 #[sI i0, sI i1, sI i2, sI i3, sI i4, sI x5, sR b1, sR c10_0, sR c11_0, sI 0, sU] [(vI 1), (vR b1)])) rfl rfl (hb hby at_87) ?_
            refine wbp X11 hx hby rfl at_88 ?_
            refine wcn X11 hx hby rfl at_90 rfl (teq hp3).2 ?_
            refine wic X11 hx hby rfl at_93 ?_
            refine wiS X11 hx hby rfl at_94 rfl (l' := #[sI i0, sI i1, sI i2, sI i3, sI i4, sI x5, sR b1, sR c10_0, sR c11_0, sI 1, sU]) rfl ?_
            exact kt
          · refine own_via (fun t kt => pre2 _ ?_) suf6
            refine st10 _ ?_
            show St p e below T10 (mkF m 49 #[sI i0, sI i1, sI i2, sI i3, sI i4, sI x5, sR b1, sU, sU, sU, sU] [(vR c10_0)]) _
            refine waS X10 hx hby rfl at_49 rfl rfl (l' := #[sI i0, sI i1, sI i2, sI i3, sI i4, sI x5, sR b1, sR c10_0, sU, sU, sU]) rfl ?_
            refine waL X10 hx hby rfl at_51 rfl rfl ?_
            refine st11 _ ?_
            refine waS X11 hx hby rfl at_56 rfl rfl (l' := #[sI i0, sI i1, sI i2, sI i3, sI i4, sI x5, sR b1, sR c10_0, sR c11_0, sU, sU]) rfl ?_
            refine wic X11 hx hby rfl at_58 ?_
            refine wiS X11 hx hby rfl at_59 rfl (l' := #[sI i0, sI i1, sI i2, sI i3, sI i4, sI x5, sR b1, sR c10_0, sR c11_0, sI (-1), sU]) rfl ?_
            refine Own.iload X11.here hx rfl (hb hby at_61) rfl hp0 ?_
            refine wfn X11 hx hby rfl at_63 rfl ((if0 _ _).trans (tlt (by decide : (0 : Int32) < (4 : Int32))).2.2.2) ?_
            refine waL X11 hx hby rfl at_66 rfl rfl ?_
            refine wic X11 hx hby rfl at_68 ?_
            refine own_caload X11 hx hZ (rfl : T11.heap = T11.heap) f12 (j := 0) (by decide) (v := (vI z14)) rfl (g := (mkF m 69 #[sI i0, sI i1, sI i2, sI i3, sI i4, sI x5, sR b1, sR c10_0, sR c11_0, sI (-1), sU] [(vI 0), (vR b1)])) rfl rfl (hb hby at_69) ?_
            refine wbp X11 hx hby rfl at_70 ?_
            refine wcy X11 hx hby rfl (pc0 := 72) (pc' := 78) rfl at_72 rfl (feq hp4).2 (by decide) (by decide) ?_
            show St p e below T11 (mkF m 78 #[sI i0, sI i1, sI i2, sI i3, sI i4, sI x5, sR b1, sR c10_0, sR c11_0, sI (-1), sU] []) _
            refine Own.iload X11.here hx rfl (hb hby at_78) rfl hp0 ?_
            refine wic X11 hx hby rfl at_80 ?_
            refine wcn X11 hx hby rfl at_81 rfl (tlt (by decide : (1 : Int32) < (4 : Int32))).2.2.2 ?_
            refine waL X11 hx hby rfl at_84 rfl rfl ?_
            refine wic X11 hx hby rfl at_86 ?_
            refine own_caload X11 hx hZ (rfl : T11.heap = T11.heap) f12 (j := 1) (by decide) (v := (vI z21)) rfl (g := (mkF m 87 #[sI i0, sI i1, sI i2, sI i3, sI i4, sI x5, sR b1, sR c10_0, sR c11_0, sI (-1), sU] [(vI 1), (vR b1)])) rfl rfl (hb hby at_87) ?_
            refine wbp X11 hx hby rfl at_88 ?_
            refine wcn X11 hx hby rfl at_90 rfl (teq hp3).2 ?_
            refine wic X11 hx hby rfl at_93 ?_
            refine wiS X11 hx hby rfl at_94 rfl (l' := #[sI i0, sI i1, sI i2, sI i3, sI i4, sI x5, sR b1, sR c10_0, sR c11_0, sI 1, sU]) rfl ?_
            exact kt
        · rcases Decidable.em (z14 = (58 : Int32)) with hp4 | hp4
          · have sf10 := (sf0 : ∀ x ∈ [], Safe Z EL s.vm h9 x)
            obtain ⟨_, T10, L10, ⟨c10_0, c10_1, k10_2, rfl, N10q, Kq10, lo10_0, lo10_1, q10_0, q10_1, q10_2, q10_3⟩, X10, st10⟩ := cS X9 hx hZ (W := 0) hown (cw2 cx) (rm127 cx b1 z14 z21 z28 z36 k1 O9 V9 hz2_0 hd0 hz4_0 hd1 hz6_0 hd2 hz8_0 hd3 hz2_1 hz4_1 hz6_1 hz8_1) e9 (g := (mkF m 46 #[sI i0, sI i1, sI i2, sI i3, sI i4, sI x5, sR b1, sU, sU, sU, sU] [(vR b1), (vI 4)])) rfl hml rfl (rest := []) rfl rfl rfl rfl (hb hby at_46) (by decide)
            have N10 := Fr.app N9 N10q
            have C10 := C9.trans (CHr.keep Kq10 sf10 C9.1)
            have O10 : Old Z n0 T10.heap := O9.keep Kq10 all0
            have K10 : Keep h0 T10.heap [] := K9.trans Kq10 all0
            have hd22 : ¬ ((z36.toInt8.toInt32) = (58 : Int32)) := ((fun q => hp1 ((own_blit hz8_0 hz8_1 (by decide)).mp q)) : ¬ ((z36.toInt8.toInt32) = (58 : Int32)))
            have hd17 : ¬ ((z28.toInt8.toInt32) = (58 : Int32)) := ((fun q => hp2 ((own_blit hz6_0 hz6_1 (by decide)).mp q)) : ¬ ((z28.toInt8.toInt32) = (58 : Int32)))
            have hd12 : ¬ ((z21.toInt8.toInt32) = (58 : Int32)) := ((fun q => hp3 ((own_blit hz4_0 hz4_1 (by decide)).mp q)) : ¬ ((z21.toInt8.toInt32) = (58 : Int32)))
            have hd4 : ¬ (z14 < (-128 : Int32)) := (by have q0 := own_rg hz2_0 hz2_1 (l := 0) (h := 255) (by decide); have q1 := (by decide : ((-128 : Int32)).toInt = -128); exact own_ltF (by omega) : ¬ (z14 < (-128 : Int32)))
            have hd5 : ¬ ((127 : Int32) < z14) := (by have q0 := (by decide : ((127 : Int32)).toInt = 127); have q1 := own_rg hz2_0 hz2_1 (l := 0) (h := 255) (by decide); have q2 := (by decide : ((58 : Int32)).toInt = 58); have q3 := own_eqT' hp4; have q4 := (by decide : ((0 : Int32)).toInt = 0); have q5 := own_ltF' hz2_0; have q6 := (by decide : ((255 : Int32)).toInt = 255); have q7 := own_ltF' hz2_1; exact own_ltF (by omega) : ¬ ((127 : Int32) < z14))
            have hd6 : (z14.toInt8.toInt32) = (58 : Int32) := (by rw [show (z14.toInt8.toInt32) = z14 from own_i2b hd4 hd5]; exact hp4 : (z14.toInt8.toInt32) = (58 : Int32))
            have sf11 := (sf0 : ∀ x ∈ [], Safe Z EL s.vm T10.heap x)
            obtain ⟨_, T11, L11, ⟨c11_0, c11_1, k11_2, rfl, N11q, Kq11, lo11_0, lo11_1, q11_0, q11_1, q11_2, q11_3⟩, X11, st11⟩ := cS X10 hx hZ (W := 0) hown (cw15 cx) (rm162 cx c10_0 (z14.toInt8.toInt32) (z21.toInt8.toInt32) (z28.toInt8.toInt32) (z36.toInt8.toInt32) c10_1 k10_2 O10 q10_1 q10_3 q10_2 q10_0 hd22 hd17 hd12 hd6) (rfl : T10.heap = T10.heap) (g := (mkF m 53 #[sI i0, sI i1, sI i2, sI i3, sI i4, sI x5, sR b1, sR c10_0, sU, sU, sU] [(vR c10_0)])) rfl hml rfl (rest := []) rfl rfl rfl rfl (hb hby at_53) (by decide)
            have N11 := Fr.app N10 N11q
            have C11 := C10.trans (CHr.keep Kq11 sf11 C10.1)
            have O11 : Old Z n0 T11.heap := O10.keep Kq11 all0
            have K11 : Keep h0 T11.heap [] := K10.trans Kq11 all0
            have f12 : Arv Z T11.heap b1 k1 .char (4 : Int32) [(vI z14), (vI z21), (vI z28), (vI z36)] (vI 0) := ((V9.keep Kq10 nin0).keep Kq11 nin0)
            have sf13 := (sf0 : ∀ x ∈ [], Safe Z EL s.vm T11.heap x)
            obtain ⟨_, T13, L13, ⟨rfl, N13q, e13⟩, X13, st13⟩ := cV X11 hx hZ (W := 0) hown (cw16 cx) (rm84 cx c11_0 c11_1 (z21.toInt8.toInt32) (z28.toInt8.toInt32) (z36.toInt8.toInt32) k11_2 O11 q11_1 q11_3 q11_2 q11_0) (rfl : T11.heap = T11.heap) q11_0 (g := (mkF m 148 #[sI i0, sI i1, sI i2, sI i3, sI i4, sI x5, sR b1, sR c10_0, sR c11_0, sI 0, sI 3] [(vR c11_0)])) rfl hml rfl (rest := []) rfl rfl rfl rfl (hb hby at_148) (by decide)
            have sf14 := (sf0 : ∀ x ∈ [], Safe Z EL s.vm T11.heap x)
            obtain ⟨_, T14, L14, ⟨rfl, N14q, e14⟩, X14, st14⟩ := cV X13 hx hZ (W := 0) hown (cw24 cx) (rm117 cx c11_0 c11_1 (z21.toInt8.toInt32) (z28.toInt8.toInt32) (z36.toInt8.toInt32) k11_2 O11 q11_2 q11_0 q11_1 q11_3) e13 q11_0 (g := (mkF m 166 #[sI i0, sI i1, sI i2, sI i3, sI i4, sI x5, sR b1, sR c10_0, sR c11_0, sI 0, sI 3] [(vI 0), (vR c11_0)])) rfl hml rfl (rest := []) rfl rfl rfl rfl (hb hby at_166) (by decide)
            have hd13 : ((z21.toInt8.toInt32) &&& (255 : Int32)) = z21 := (by rw [show ((z21.toInt8.toInt32) &&& (255 : Int32)) = z21 from own_b255 hz4_0 hz4_1] : ((z21.toInt8.toInt32) &&& (255 : Int32)) = z21)
            have sf15 := (sf0 : ∀ x ∈ [], Safe Z EL s.vm T11.heap x)
            obtain ⟨_, T15, L15, ⟨rfl, N15q, e15⟩, X15, st15⟩ := cV X14 hx hZ (W := 0) hown (cw24 cx) (rm119 cx c11_0 c11_1 (z21.toInt8.toInt32) (z28.toInt8.toInt32) (z36.toInt8.toInt32) k11_2 O11 q11_2 q11_0 q11_1 q11_3) e14 q11_0 (g := (mkF m 190 #[sI i0, sI i1, sI i2, sI i3, sI i4, sI x5, sR b1, sR c10_0, sR c11_0, sI 0, sI 3] [(vI 1), (vR c11_0)])) rfl hml rfl (rest := []) rfl rfl rfl rfl (hb hby at_190) (by decide)
            have hd18 : ((z28.toInt8.toInt32) &&& (255 : Int32)) = z28 := (by rw [show ((z28.toInt8.toInt32) &&& (255 : Int32)) = z28 from own_b255 hz6_0 hz6_1] : ((z28.toInt8.toInt32) &&& (255 : Int32)) = z28)
            have sf16 := (sf0 : ∀ x ∈ [], Safe Z EL s.vm T11.heap x)
            obtain ⟨_, T16, L16, ⟨rfl, N16q, e16⟩, X16, st16⟩ := cV X15 hx hZ (W := 0) hown (cw24 cx) (rm121 cx c11_0 c11_1 (z21.toInt8.toInt32) (z28.toInt8.toInt32) (z36.toInt8.toInt32) k11_2 O11 q11_2 q11_0 q11_1 q11_3) e15 q11_0 (g := (mkF m 214 #[sI i0, sI i1, sI i2, sI i3, sI i4, sI x5, sR b1, sR c10_0, sR c11_0, sI 0, sI 3] [(vI 2), (vR c11_0)])) rfl hml rfl (rest := []) rfl rfl rfl rfl (hb hby at_214) (by decide)
            have hd23 : ((z36.toInt8.toInt32) &&& (255 : Int32)) = z36 := (by rw [show ((z36.toInt8.toInt32) &&& (255 : Int32)) = z36 from own_b255 hz8_0 hz8_1] : ((z36.toInt8.toInt32) &&& (255 : Int32)) = z36)
            refine own_endW X16 hlk (v := some (vI 1)) (own_hv hret) hS0 (Nat.le_trans (Nat.le_refl _) (Nat.le_trans (Nat.le_trans (Nat.le_trans (Nat.le_trans (Nat.le_trans (Nat.le_trans E1.1 (Nat.le_of_eq W3.size.symm)) (Nat.le_of_eq W5.size.symm)) (Nat.le_of_eq W7.size.symm)) (Nat.le_of_eq W9.size.symm)) Kq10.1) Kq11.1)) (by decide) hh e16 C11 hZ (own_EW hw hj) ⟨rfl, (Fr.app (Fr.app (Fr.app (Fr.app N11 N13q) N14q) N15q) N16q)⟩ fun fs hr => pre2 _ ?_
            refine st10 _ ?_
            show St p e below T10 (mkF m 49 #[sI i0, sI i1, sI i2, sI i3, sI i4, sI x5, sR b1, sU, sU, sU, sU] [(vR c10_0)]) _
            refine waS X10 hx hby rfl at_49 rfl rfl (l' := #[sI i0, sI i1, sI i2, sI i3, sI i4, sI x5, sR b1, sR c10_0, sU, sU, sU]) rfl ?_
            refine waL X10 hx hby rfl at_51 rfl rfl ?_
            refine st11 _ ?_
            refine waS X11 hx hby rfl at_56 rfl rfl (l' := #[sI i0, sI i1, sI i2, sI i3, sI i4, sI x5, sR b1, sR c10_0, sR c11_0, sU, sU]) rfl ?_
            refine wic X11 hx hby rfl at_58 ?_
            refine wiS X11 hx hby rfl at_59 rfl (l' := #[sI i0, sI i1, sI i2, sI i3, sI i4, sI x5, sR b1, sR c10_0, sR c11_0, sI (-1), sU]) rfl ?_
            refine Own.iload X11.here hx rfl (hb hby at_61) rfl hp0 ?_
            refine wfn X11 hx hby rfl at_63 rfl ((if0 _ _).trans (tlt (by decide : (0 : Int32) < (4 : Int32))).2.2.2) ?_
            refine waL X11 hx hby rfl at_66 rfl rfl ?_
            refine wic X11 hx hby rfl at_68 ?_
            refine own_caload X11 hx hZ (rfl : T11.heap = T11.heap) f12 (j := 0) (by decide) (v := (vI z14)) rfl (g := (mkF m 69 #[sI i0, sI i1, sI i2, sI i3, sI i4, sI x5, sR b1, sR c10_0, sR c11_0, sI (-1), sU] [(vI 0), (vR b1)])) rfl rfl (hb hby at_69) ?_
            refine wbp X11 hx hby rfl at_70 ?_
            refine wcn X11 hx hby rfl at_72 rfl (teq hp4).2 ?_
            refine wic X11 hx hby rfl at_75 ?_
            refine wiS X11 hx hby rfl at_76 rfl (l' := #[sI i0, sI i1, sI i2, sI i3, sI i4, sI x5, sR b1, sR c10_0, sR c11_0, sI 0, sU]) rfl ?_
            show St p e below T11 (mkF m 78 #[sI i0, sI i1, sI i2, sI i3, sI i4, sI x5, sR b1, sR c10_0, sR c11_0, sI 0, sU] []) _
            refine Own.iload X11.here hx rfl (hb hby at_78) rfl hp0 ?_
            refine wic X11 hx hby rfl at_80 ?_
            refine wcn X11 hx hby rfl at_81 rfl (tlt (by decide : (1 : Int32) < (4 : Int32))).2.2.2 ?_
            refine waL X11 hx hby rfl at_84 rfl rfl ?_
            refine wic X11 hx hby rfl at_86 ?_
            refine own_caload X11 hx hZ (rfl : T11.heap = T11.heap) f12 (j := 1) (by decide) (v := (vI z21)) rfl (g := (mkF m 87 #[sI i0, sI i1, sI i2, sI i3, sI i4, sI x5, sR b1, sR c10_0, sR c11_0, sI 0, sU] [(vI 1), (vR b1)])) rfl rfl (hb hby at_87) ?_
            refine wbp X11 hx hby rfl at_88 ?_
            refine wcy X11 hx hby rfl (pc0 := 90) (pc' := 96) rfl at_90 rfl (feq hp3).2 (by decide) (by decide) ?_
            show St p e below T11 (mkF m 96 #[sI i0, sI i1, sI i2, sI i3, sI i4, sI x5, sR b1, sR c10_0, sR c11_0, sI 0, sU] []) _
            refine Own.iload X11.here hx rfl (hb hby at_96) rfl hp0 ?_
            refine wic X11 hx hby rfl at_98 ?_
            refine wcn X11 hx hby rfl at_99 rfl (tlt (by decide : (2 : Int32) < (4 : Int32))).2.2.2 ?_
            refine waL X11 hx hby rfl at_102 rfl rfl ?_
            refine wic X11 hx hby rfl at_104 ?_
            refine own_caload X11 hx hZ (rfl : T11.heap = T11.heap) f12 (j := 2) (by decide) (v := (vI z28)) rfl (g := (mkF m 105 #[sI i0, sI i1, sI i2, sI i3, sI i4, sI x5, sR b1, sR c10_0, sR c11_0, sI 0, sU] [(vI 2), (vR b1)])) rfl rfl (hb hby at_105) ?_
            refine wbp X11 hx hby rfl at_106 ?_
            refine wcy X11 hx hby rfl (pc0 := 108) (pc' := 114) rfl at_108 rfl (feq hp2).2 (by decide) (by decide) ?_
            show St p e below T11 (mkF m 114 #[sI i0, sI i1, sI i2, sI i3, sI i4, sI x5, sR b1, sR c10_0, sR c11_0, sI 0, sU] []) _
            refine Own.iload X11.here hx rfl (hb hby at_114) rfl hp0 ?_
            refine wic X11 hx hby rfl at_116 ?_
            refine wcn X11 hx hby rfl at_117 rfl (tlt (by decide : (3 : Int32) < (4 : Int32))).2.2.2 ?_
            refine waL X11 hx hby rfl at_120 rfl rfl ?_
            refine wic X11 hx hby rfl at_122 ?_
            refine own_caload X11 hx hZ (rfl : T11.heap = T11.heap) f12 (j := 3) (by decide) (v := (vI z36)) rfl (g := (mkF m 123 #[sI i0, sI i1, sI i2, sI i3, sI i4, sI x5, sR b1, sR c10_0, sR c11_0, sI 0, sU] [(vI 3), (vR b1)])) rfl rfl (hb hby at_123) ?_
            refine wbp X11 hx hby rfl at_124 ?_
            refine wcy X11 hx hby rfl (pc0 := 126) (pc' := 132) rfl at_126 rfl (feq hp1).2 (by decide) (by decide) ?_
            show St p e below T11 (mkF m 132 #[sI i0, sI i1, sI i2, sI i3, sI i4, sI x5, sR b1, sR c10_0, sR c11_0, sI 0, sU] []) _
            refine Own.iload X11.here hx rfl (hb hby at_132) rfl hp0 ?_
            refine wiL X11 hx hby rfl at_134 rfl ?_
            refine Own.isub X11.here hx rfl (hb hby at_136) rfl (by decide : ((4 : Int32) - (0 : Int32)) = (4 : Int32)) ?_
            refine wic X11 hx hby rfl at_137 ?_
            refine Own.isub X11.here hx rfl (hb hby at_138) rfl (by decide : ((4 : Int32) - (1 : Int32)) = (3 : Int32)) ?_
            refine wiS X11 hx hby rfl at_139 rfl (l' := #[sI i0, sI i1, sI i2, sI i3, sI i4, sI x5, sR b1, sR c10_0, sR c11_0, sI 0, sI 3]) rfl ?_
            refine waL X11 hx hby rfl at_141 rfl rfl ?_
            refine wnn X11 hx hby rfl at_143 rfl ?_
            refine waL X11 hx hby rfl at_146 rfl rfl ?_
            refine st13 _ ?_
            refine wiL X13 hx hby rfl at_151 rfl ?_
            refine wcy X13 hx hby rfl (pc0 := 153) (pc' := 158) rfl at_153 rfl (teq (by decide : (3 : Int32) = (3 : Int32))).1 (by decide) (by decide) ?_
            show St p e below T13 (mkF m 158 #[sI i0, sI i1, sI i2, sI i3, sI i4, sI x5, sR b1, sR c10_0, sR c11_0, sI 0, sI 3] []) _
            refine wiL X13 hx hby rfl at_158 rfl ?_
            refine wfn X13 hx hby rfl at_160 rfl ((if0 _ _).trans (tlt (by decide : (0 : Int32) < (3 : Int32))).2.2.2) ?_
            refine waL X13 hx hby rfl at_163 rfl rfl ?_
            refine wic X13 hx hby rfl at_165 ?_
            refine st14 _ ?_
            refine waL X14 hx hby rfl at_169 rfl rfl ?_
            refine wiL X14 hx hby rfl at_171 rfl ?_
            refine wic X14 hx hby rfl at_173 ?_
            refine Own.iadd X14.here hx rfl (hb hby at_174) rfl (by decide : ((0 : Int32) + (1 : Int32)) = (1 : Int32)) ?_
            refine own_caload X14 hx hZ e14 f12 (j := 1) (by decide) (v := (vI z21)) rfl (g := (mkF m 175 #[sI i0, sI i1, sI i2, sI i3, sI i4, sI x5, sR b1, sR c10_0, sR c11_0, sI 0, sI 3] [(vI 1), (vR b1), (vI ((z21.toInt8.toInt32) &&& (255 : Int32)))])) rfl rfl (hb hby at_175) ?_
            refine wcy X14 hx hby rfl (pc0 := 176) (pc' := 181) rfl at_176 rfl (teq hd13).1 (by decide) (by decide) ?_
            show St p e below T14 (mkF m 181 #[sI i0, sI i1, sI i2, sI i3, sI i4, sI x5, sR b1, sR c10_0, sR c11_0, sI 0, sI 3] []) _
            refine wiL X14 hx hby rfl at_181 rfl ?_
            refine wic X14 hx hby rfl at_183 ?_
            refine wcn X14 hx hby rfl at_184 rfl (tlt (by decide : (1 : Int32) < (3 : Int32))).2.2.2 ?_
            refine waL X14 hx hby rfl at_187 rfl rfl ?_
            refine wic X14 hx hby rfl at_189 ?_
            refine st15 _ ?_
            refine waL X15 hx hby rfl at_193 rfl rfl ?_
            refine wiL X15 hx hby rfl at_195 rfl ?_
            refine wic X15 hx hby rfl at_197 ?_
            refine Own.iadd X15.here hx rfl (hb hby at_198) rfl (by decide : ((0 : Int32) + (2 : Int32)) = (2 : Int32)) ?_
            refine own_caload X15 hx hZ e15 f12 (j := 2) (by decide) (v := (vI z28)) rfl (g := (mkF m 199 #[sI i0, sI i1, sI i2, sI i3, sI i4, sI x5, sR b1, sR c10_0, sR c11_0, sI 0, sI 3] [(vI 2), (vR b1), (vI ((z28.toInt8.toInt32) &&& (255 : Int32)))])) rfl rfl (hb hby at_199) ?_
            refine wcy X15 hx hby rfl (pc0 := 200) (pc' := 205) rfl at_200 rfl (teq hd18).1 (by decide) (by decide) ?_
            show St p e below T15 (mkF m 205 #[sI i0, sI i1, sI i2, sI i3, sI i4, sI x5, sR b1, sR c10_0, sR c11_0, sI 0, sI 3] []) _
            refine wiL X15 hx hby rfl at_205 rfl ?_
            refine wic X15 hx hby rfl at_207 ?_
            refine wcn X15 hx hby rfl at_208 rfl (tlt (by decide : (2 : Int32) < (3 : Int32))).2.2.2 ?_
            refine waL X15 hx hby rfl at_211 rfl rfl ?_
            refine wic X15 hx hby rfl at_213 ?_
            refine st16 _ ?_
            refine waL X16 hx hby rfl at_217 rfl rfl ?_
            refine wiL X16 hx hby rfl at_219 rfl ?_
            refine wic X16 hx hby rfl at_221 ?_
            refine Own.iadd X16.here hx rfl (hb hby at_222) rfl (by decide : ((0 : Int32) + (3 : Int32)) = (3 : Int32)) ?_
            refine own_caload X16 hx hZ e16 f12 (j := 3) (by decide) (v := (vI z36)) rfl (g := (mkF m 223 #[sI i0, sI i1, sI i2, sI i3, sI i4, sI x5, sR b1, sR c10_0, sR c11_0, sI 0, sI 3] [(vI 3), (vR b1), (vI ((z36.toInt8.toInt32) &&& (255 : Int32)))])) rfl rfl (hb hby at_223) ?_
            refine wcy X16 hx hby rfl (pc0 := 224) (pc' := 229) rfl at_224 rfl (teq hd23).1 (by decide) (by decide) ?_
            show St p e below T16 (mkF m 229 #[sI i0, sI i1, sI i2, sI i3, sI i4, sI x5, sR b1, sR c10_0, sR c11_0, sI 0, sI 3] []) _
            refine wiL X16 hx hby rfl at_229 rfl ?_
            refine wic X16 hx hby rfl at_231 ?_
            refine wcy X16 hx hby rfl (pc0 := 232) (pc' := 253) rfl at_232 rfl (flt (by decide : ¬ ((3 : Int32) < (3 : Int32)))).2.2.2 (by decide) (by decide) ?_
            show St p e below T16 (mkF m 253 #[sI i0, sI i1, sI i2, sI i3, sI i4, sI x5, sR b1, sR c10_0, sR c11_0, sI 0, sI 3] []) _
            refine wic X16 hx hby rfl at_253 ?_
            exact retN X16 hx (t := .boolean) hret (by simp) (hb hby at_254) hr
          · have sf10 := (sf0 : ∀ x ∈ [], Safe Z EL s.vm h9 x)
            obtain ⟨_, T10, L10, ⟨c10_0, c10_1, k10_2, rfl, N10q, Kq10, lo10_0, lo10_1, q10_0, q10_1, q10_2, q10_3⟩, X10, st10⟩ := cS X9 hx hZ (W := 0) hown (cw2 cx) (rm127 cx b1 z14 z21 z28 z36 k1 O9 V9 hz2_0 hd0 hz4_0 hd1 hz6_0 hd2 hz8_0 hd3 hz2_1 hz4_1 hz6_1 hz8_1) e9 (g := (mkF m 46 #[sI i0, sI i1, sI i2, sI i3, sI i4, sI x5, sR b1, sU, sU, sU, sU] [(vR b1), (vI 4)])) rfl hml rfl (rest := []) rfl rfl rfl rfl (hb hby at_46) (by decide)
            have N10 := Fr.app N9 N10q
            have C10 := C9.trans (CHr.keep Kq10 sf10 C9.1)
            have O10 : Old Z n0 T10.heap := O9.keep Kq10 all0
            have K10 : Keep h0 T10.heap [] := K9.trans Kq10 all0
            have hd22 : ¬ ((z36.toInt8.toInt32) = (58 : Int32)) := ((fun q => hp1 ((own_blit hz8_0 hz8_1 (by decide)).mp q)) : ¬ ((z36.toInt8.toInt32) = (58 : Int32)))
            have hd17 : ¬ ((z28.toInt8.toInt32) = (58 : Int32)) := ((fun q => hp2 ((own_blit hz6_0 hz6_1 (by decide)).mp q)) : ¬ ((z28.toInt8.toInt32) = (58 : Int32)))
            have hd12 : ¬ ((z21.toInt8.toInt32) = (58 : Int32)) := ((fun q => hp3 ((own_blit hz4_0 hz4_1 (by decide)).mp q)) : ¬ ((z21.toInt8.toInt32) = (58 : Int32)))
            have hd7 : ¬ ((z14.toInt8.toInt32) = (58 : Int32)) := ((fun q => hp4 ((own_blit hz2_0 hz2_1 (by decide)).mp q)) : ¬ ((z14.toInt8.toInt32) = (58 : Int32)))
            have sf11 := (sf0 : ∀ x ∈ [], Safe Z EL s.vm T10.heap x)
            obtain ⟨_, T11, L11, ⟨rfl, N11q, e11⟩, X11, st11⟩ := cS X10 hx hZ (W := 0) hown (cw15 cx) (rm168 cx c10_0 (z14.toInt8.toInt32) (z21.toInt8.toInt32) (z28.toInt8.toInt32) (z36.toInt8.toInt32) c10_1 k10_2 O10 q10_1 q10_3 q10_2 q10_0 hd22 hd17 hd12 hd7) (rfl : T10.heap = T10.heap) (g := (mkF m 53 #[sI i0, sI i1, sI i2, sI i3, sI i4, sI x5, sR b1, sR c10_0, sU, sU, sU] [(vR c10_0)])) rfl hml rfl (rest := []) rfl rfl rfl rfl (hb hby at_53) (by decide)
            have f12 : Arv Z T10.heap b1 k1 .char (4 : Int32) [(vI z14), (vI z21), (vI z28), (vI z36)] (vI 0) := (V9.keep Kq10 nin0)
            have sf13 := (sf0 : ∀ x ∈ [], Safe Z EL s.vm T10.heap x)
            obtain ⟨_, T13, L13, ⟨rfl, N13q, e13⟩, X13, st13⟩ := cV X11 hx hZ (W := 0) hown (cw16 cx) (rm128 cx c10_0 c10_1 (z14.toInt8.toInt32) (z21.toInt8.toInt32) (z28.toInt8.toInt32) (z36.toInt8.toInt32) k10_2 O10 q10_1 q10_3 q10_2 q10_0) e11 q10_0 (g := (mkF m 148 #[sI i0, sI i1, sI i2, sI i3, sI i4, sI x5, sR b1, sR c10_0, sR c10_0, sI (-1), sI 4] [(vR c10_0)])) rfl hml rfl (rest := []) rfl rfl rfl rfl (hb hby at_148) (by decide)
            have sf14 := (sf0 : ∀ x ∈ [], Safe Z EL s.vm T10.heap x)
            obtain ⟨_, T14, L14, ⟨rfl, N14q, e14⟩, X14, st14⟩ := cV X13 hx hZ (W := 0) hown (cw24 cx) (rm170 cx c10_0 c10_1 (z14.toInt8.toInt32) (z21.toInt8.toInt32) (z28.toInt8.toInt32) (z36.toInt8.toInt32) k10_2 O10 q10_2 q10_0 q10_1 q10_3) e13 q10_0 (g := (mkF m 166 #[sI i0, sI i1, sI i2, sI i3, sI i4, sI x5, sR b1, sR c10_0, sR c10_0, sI (-1), sI 4] [(vI 0), (vR c10_0)])) rfl hml rfl (rest := []) rfl rfl rfl rfl (hb hby at_166) (by decide)
            have hd8 : ((z14.toInt8.toInt32) &&& (255 : Int32)) = z14 := (by rw [show ((z14.toInt8.toInt32) &&& (255 : Int32)) = z14 from own_b255 hz2_0 hz2_1] : ((z14.toInt8.toInt32) &&& (255 : Int32)) = z14)
            have sf15 := (sf0 : ∀ x ∈ [], Safe Z EL s.vm T10.heap x)
            obtain ⟨_, T15, L15, ⟨rfl, N15q, e15⟩, X15, st15⟩ := cV X14 hx hZ (W := 0) hown (cw24 cx) (rm172 cx c10_0 c10_1 (z14.toInt8.toInt32) (z21.toInt8.toInt32) (z28.toInt8.toInt32) (z36.toInt8.toInt32) k10_2 O10 q10_2 q10_0 q10_1 q10_3) e14 q10_0 (g := (mkF m 190 #[sI i0, sI i1, sI i2, sI i3, sI i4, sI x5, sR b1, sR c10_0, sR c10_0, sI (-1), sI 4] [(vI 1), (vR c10_0)])) rfl hml rfl (rest := []) rfl rfl rfl rfl (hb hby at_190) (by decide)
            have hd13 : ((z21.toInt8.toInt32) &&& (255 : Int32)) = z21 := (by rw [show ((z21.toInt8.toInt32) &&& (255 : Int32)) = z21 from own_b255 hz4_0 hz4_1] : ((z21.toInt8.toInt32) &&& (255 : Int32)) = z21)
            have sf16 := (sf0 : ∀ x ∈ [], Safe Z EL s.vm T10.heap x)
            obtain ⟨_, T16, L16, ⟨rfl, N16q, e16⟩, X16, st16⟩ := cV X15 hx hZ (W := 0) hown (cw24 cx) (rm174 cx c10_0 c10_1 (z14.toInt8.toInt32) (z21.toInt8.toInt32) (z28.toInt8.toInt32) (z36.toInt8.toInt32) k10_2 O10 q10_2 q10_0 q10_1 q10_3) e15 q10_0 (g := (mkF m 214 #[sI i0, sI i1, sI i2, sI i3, sI i4, sI x5, sR b1, sR c10_0, sR c10_0, sI (-1), sI 4] [(vI 2), (vR c10_0)])) rfl hml rfl (rest := []) rfl rfl rfl rfl (hb hby at_214) (by decide)
            have hd18 : ((z28.toInt8.toInt32) &&& (255 : Int32)) = z28 := (by rw [show ((z28.toInt8.toInt32) &&& (255 : Int32)) = z28 from own_b255 hz6_0 hz6_1] : ((z28.toInt8.toInt32) &&& (255 : Int32)) = z28)
            have sf17 := (sf0 : ∀ x ∈ [], Safe Z EL s.vm T10.heap x)
            obtain ⟨_, T17, L17, ⟨rfl, N17q, e17⟩, X17, st17⟩ := cV X16 hx hZ (W := 0) hown (cw24 cx) (rm176 cx c10_0 c10_1 (z14.toInt8.toInt32) (z21.toInt8.toInt32) (z28.toInt8.toInt32) (z36.toInt8.toInt32) k10_2 O10 q10_2 q10_0 q10_1 q10_3) e16 q10_0 (g := (mkF m 238 #[sI i0, sI i1, sI i2, sI i3, sI i4, sI x5, sR b1, sR c10_0, sR c10_0, sI (-1), sI 4] [(vI 3), (vR c10_0)])) rfl hml rfl (rest := []) rfl rfl rfl rfl (hb hby at_238) (by decide)
            have N17 := Fr.app (Fr.app (Fr.app (Fr.app (Fr.app (Fr.app N10 N11q) N13q) N14q) N15q) N16q) N17q
            have hd23 : ((z36.toInt8.toInt32) &&& (255 : Int32)) = z36 := (by rw [show ((z36.toInt8.toInt32) &&& (255 : Int32)) = z36 from own_b255 hz8_0 hz8_1] : ((z36.toInt8.toInt32) &&& (255 : Int32)) = z36)
            refine own_endW X17 hlk (v := some (vI 1)) (own_hv hret) hS0 (Nat.le_trans (Nat.le_refl _) (Nat.le_trans (Nat.le_trans (Nat.le_trans (Nat.le_trans (Nat.le_trans E1.1 (Nat.le_of_eq W3.size.symm)) (Nat.le_of_eq W5.size.symm)) (Nat.le_of_eq W7.size.symm)) (Nat.le_of_eq W9.size.symm)) Kq10.1)) (by decide) hh e17 C10 hZ (own_EW hw hj) ⟨rfl, N17⟩ fun fs hr => pre2 _ ?_
            refine st10 _ ?_
            show St p e below T10 (mkF m 49 #[sI i0, sI i1, sI i2, sI i3, sI i4, sI x5, sR b1, sU, sU, sU, sU] [(vR c10_0)]) _
            refine waS X10 hx hby rfl at_49 rfl rfl (l' := #[sI i0, sI i1, sI i2, sI i3, sI i4, sI x5, sR b1, sR c10_0, sU, sU, sU]) rfl ?_
            refine waL X10 hx hby rfl at_51 rfl rfl ?_
            refine st11 _ ?_
            refine waS X11 hx hby rfl at_56 rfl rfl (l' := #[sI i0, sI i1, sI i2, sI i3, sI i4, sI x5, sR b1, sR c10_0, sR c10_0, sU, sU]) rfl ?_
            refine wic X11 hx hby rfl at_58 ?_
            refine wiS X11 hx hby rfl at_59 rfl (l' := #[sI i0, sI i1, sI i2, sI i3, sI i4, sI x5, sR b1, sR c10_0, sR c10_0, sI (-1), sU]) rfl ?_
            refine Own.iload X11.here hx rfl (hb hby at_61) rfl hp0 ?_
            refine wfn X11 hx hby rfl at_63 rfl ((if0 _ _).trans (tlt (by decide : (0 : Int32) < (4 : Int32))).2.2.2) ?_
            refine waL X11 hx hby rfl at_66 rfl rfl ?_
            refine wic X11 hx hby rfl at_68 ?_
            refine own_caload X11 hx hZ e11 f12 (j := 0) (by decide) (v := (vI z14)) rfl (g := (mkF m 69 #[sI i0, sI i1, sI i2, sI i3, sI i4, sI x5, sR b1, sR c10_0, sR c10_0, sI (-1), sU] [(vI 0), (vR b1)])) rfl rfl (hb hby at_69) ?_
            refine wbp X11 hx hby rfl at_70 ?_
            refine wcy X11 hx hby rfl (pc0 := 72) (pc' := 78) rfl at_72 rfl (feq hp4).2 (by decide) (by decide) ?_
            show St p e below T11 (mkF m 78 #[sI i0, sI i1, sI i2, sI i3, sI i4, sI x5, sR b1, sR c10_0, sR c10_0, sI (-1), sU] []) _
            refine Own.iload X11.here hx rfl (hb hby at_78) rfl hp0 ?_
            refine wic X11 hx hby rfl at_80 ?_
            refine wcn X11 hx hby rfl at_81 rfl (tlt (by decide : (1 : Int32) < (4 : Int32))).2.2.2 ?_
            refine waL X11 hx hby rfl at_84 rfl rfl ?_
            refine wic X11 hx hby rfl at_86 ?_
            refine own_caload X11 hx hZ e11 f12 (j := 1) (by decide) (v := (vI z21)) rfl (g := (mkF m 87 #[sI i0, sI i1, sI i2, sI i3, sI i4, sI x5, sR b1, sR c10_0, sR c10_0, sI (-1), sU] [(vI 1), (vR b1)])) rfl rfl (hb hby at_87) ?_
            refine wbp X11 hx hby rfl at_88 ?_
            refine wcy X11 hx hby rfl (pc0 := 90) (pc' := 96) rfl at_90 rfl (feq hp3).2 (by decide) (by decide) ?_
            show St p e below T11 (mkF m 96 #[sI i0, sI i1, sI i2, sI i3, sI i4, sI x5, sR b1, sR c10_0, sR c10_0, sI (-1), sU] []) _
            refine Own.iload X11.here hx rfl (hb hby at_96) rfl hp0 ?_
            refine wic X11 hx hby rfl at_98 ?_
            refine wcn X11 hx hby rfl at_99 rfl (tlt (by decide : (2 : Int32) < (4 : Int32))).2.2.2 ?_
            refine waL X11 hx hby rfl at_102 rfl rfl ?_
            refine wic X11 hx hby rfl at_104 ?_
            refine own_caload X11 hx hZ e11 f12 (j := 2) (by decide) (v := (vI z28)) rfl (g := (mkF m 105 #[sI i0, sI i1, sI i2, sI i3, sI i4, sI x5, sR b1, sR c10_0, sR c10_0, sI (-1), sU] [(vI 2), (vR b1)])) rfl rfl (hb hby at_105) ?_
            refine wbp X11 hx hby rfl at_106 ?_
            refine wcy X11 hx hby rfl (pc0 := 108) (pc' := 114) rfl at_108 rfl (feq hp2).2 (by decide) (by decide) ?_
            show St p e below T11 (mkF m 114 #[sI i0, sI i1, sI i2, sI i3, sI i4, sI x5, sR b1, sR c10_0, sR c10_0, sI (-1), sU] []) _
            refine Own.iload X11.here hx rfl (hb hby at_114) rfl hp0 ?_
            refine wic X11 hx hby rfl at_116 ?_
            refine wcn X11 hx hby rfl at_117 rfl (tlt (by decide : (3 : Int32) < (4 : Int32))).2.2.2 ?_
            refine waL X11 hx hby rfl at_120 rfl rfl ?_
            refine wic X11 hx hby rfl at_122 ?_
            refine own_caload X11 hx hZ e11 f12 (j := 3) (by decide) (v := (vI z36)) rfl (g := (mkF m 123 #[sI i0, sI i1, sI i2, sI i3, sI i4, sI x5, sR b1, sR c10_0, sR c10_0, sI (-1), sU] [(vI 3), (vR b1)])) rfl rfl (hb hby at_123) ?_
            refine wbp X11 hx hby rfl at_124 ?_
            refine wcy X11 hx hby rfl (pc0 := 126) (pc' := 132) rfl at_126 rfl (feq hp1).2 (by decide) (by decide) ?_
            show St p e below T11 (mkF m 132 #[sI i0, sI i1, sI i2, sI i3, sI i4, sI x5, sR b1, sR c10_0, sR c10_0, sI (-1), sU] []) _
            refine Own.iload X11.here hx rfl (hb hby at_132) rfl hp0 ?_
            refine wiL X11 hx hby rfl at_134 rfl ?_
            refine Own.isub X11.here hx rfl (hb hby at_136) rfl (by decide : ((4 : Int32) - (-1 : Int32)) = (5 : Int32)) ?_
            refine wic X11 hx hby rfl at_137 ?_
            refine Own.isub X11.here hx rfl (hb hby at_138) rfl (by decide : ((5 : Int32) - (1 : Int32)) = (4 : Int32)) ?_
            refine wiS X11 hx hby rfl at_139 rfl (l' := #[sI i0, sI i1, sI i2, sI i3, sI i4, sI x5, sR b1, sR c10_0, sR c10_0, sI (-1), sI 4]) rfl ?_
            refine waL X11 hx hby rfl at_141 rfl rfl ?_
            refine wnn X11 hx hby rfl at_143 rfl ?_
            refine waL X11 hx hby rfl at_146 rfl rfl ?_
            refine st13 _ ?_
            refine wiL X13 hx hby rfl at_151 rfl ?_
            refine wcy X13 hx hby rfl (pc0 := 153) (pc' := 158) rfl at_153 rfl (teq (by decide : (4 : Int32) = (4 : Int32))).1 (by decide) (by decide) ?_
            show St p e below T13 (mkF m 158 #[sI i0, sI i1, sI i2, sI i3, sI i4, sI x5, sR b1, sR c10_0, sR c10_0, sI (-1), sI 4] []) _
            refine wiL X13 hx hby rfl at_158 rfl ?_
            refine wfn X13 hx hby rfl at_160 rfl ((if0 _ _).trans (tlt (by decide : (0 : Int32) < (4 : Int32))).2.2.2) ?_
            refine waL X13 hx hby rfl at_163 rfl rfl ?_
            refine wic X13 hx hby rfl at_165 ?_
            refine st14 _ ?_
            refine waL X14 hx hby rfl at_169 rfl rfl ?_
            refine wiL X14 hx hby rfl at_171 rfl ?_
            refine wic X14 hx hby rfl at_173 ?_
            refine Own.iadd X14.here hx rfl (hb hby at_174) rfl (by decide : ((-1 : Int32) + (1 : Int32)) = (0 : Int32)) ?_
            refine own_caload X14 hx hZ e14 f12 (j := 0) (by decide) (v := (vI z14)) rfl (g := (mkF m 175 #[sI i0, sI i1, sI i2, sI i3, sI i4, sI x5, sR b1, sR c10_0, sR c10_0, sI (-1), sI 4] [(vI 0), (vR b1), (vI ((z14.toInt8.toInt32) &&& (255 : Int32)))])) rfl rfl (hb hby at_175) ?_
            refine wcy X14 hx hby rfl (pc0 := 176) (pc' := 181) rfl at_176 rfl (teq hd8).1 (by decide) (by decide) ?_
            show St p e below T14 (mkF m 181 #[sI i0, sI i1, sI i2, sI i3, sI i4, sI x5, sR b1, sR c10_0, sR c10_0, sI (-1), sI 4] []) _
            refine wiL X14 hx hby rfl at_181 rfl ?_
            refine wic X14 hx hby rfl at_183 ?_
            refine wcn X14 hx hby rfl at_184 rfl (tlt (by decide : (1 : Int32) < (4 : Int32))).2.2.2 ?_
            refine waL X14 hx hby rfl at_187 rfl rfl ?_
            refine wic X14 hx hby rfl at_189 ?_
            refine st15 _ ?_
            refine waL X15 hx hby rfl at_193 rfl rfl ?_
            refine wiL X15 hx hby rfl at_195 rfl ?_
            refine wic X15 hx hby rfl at_197 ?_
            refine Own.iadd X15.here hx rfl (hb hby at_198) rfl (by decide : ((-1 : Int32) + (2 : Int32)) = (1 : Int32)) ?_
            refine own_caload X15 hx hZ e15 f12 (j := 1) (by decide) (v := (vI z21)) rfl (g := (mkF m 199 #[sI i0, sI i1, sI i2, sI i3, sI i4, sI x5, sR b1, sR c10_0, sR c10_0, sI (-1), sI 4] [(vI 1), (vR b1), (vI ((z21.toInt8.toInt32) &&& (255 : Int32)))])) rfl rfl (hb hby at_199) ?_
            refine wcy X15 hx hby rfl (pc0 := 200) (pc' := 205) rfl at_200 rfl (teq hd13).1 (by decide) (by decide) ?_
            show St p e below T15 (mkF m 205 #[sI i0, sI i1, sI i2, sI i3, sI i4, sI x5, sR b1, sR c10_0, sR c10_0, sI (-1), sI 4] []) _
            refine wiL X15 hx hby rfl at_205 rfl ?_
            refine wic X15 hx hby rfl at_207 ?_
            refine wcn X15 hx hby rfl at_208 rfl (tlt (by decide : (2 : Int32) < (4 : Int32))).2.2.2 ?_
            refine waL X15 hx hby rfl at_211 rfl rfl ?_
            refine wic X15 hx hby rfl at_213 ?_
            refine st16 _ ?_
            refine waL X16 hx hby rfl at_217 rfl rfl ?_
            refine wiL X16 hx hby rfl at_219 rfl ?_
            refine wic X16 hx hby rfl at_221 ?_
            refine Own.iadd X16.here hx rfl (hb hby at_222) rfl (by decide : ((-1 : Int32) + (3 : Int32)) = (2 : Int32)) ?_
            refine own_caload X16 hx hZ e16 f12 (j := 2) (by decide) (v := (vI z28)) rfl (g := (mkF m 223 #[sI i0, sI i1, sI i2, sI i3, sI i4, sI x5, sR b1, sR c10_0, sR c10_0, sI (-1), sI 4] [(vI 2), (vR b1), (vI ((z28.toInt8.toInt32) &&& (255 : Int32)))])) rfl rfl (hb hby at_223) ?_
            refine wcy X16 hx hby rfl (pc0 := 224) (pc' := 229) rfl at_224 rfl (teq hd18).1 (by decide) (by decide) ?_
            show St p e below T16 (mkF m 229 #[sI i0, sI i1, sI i2, sI i3, sI i4, sI x5, sR b1, sR c10_0, sR c10_0, sI (-1), sI 4] []) _
            refine wiL X16 hx hby rfl at_229 rfl ?_
            refine wic X16 hx hby rfl at_231 ?_
            refine wcn X16 hx hby rfl at_232 rfl (tlt (by decide : (3 : Int32) < (4 : Int32))).2.2.2 ?_
            refine waL X16 hx hby rfl at_235 rfl rfl ?_
            refine wic X16 hx hby rfl at_237 ?_
            refine st17 _ ?_
            refine waL X17 hx hby rfl at_241 rfl rfl ?_
            refine wiL X17 hx hby rfl at_243 rfl ?_
            refine wic X17 hx hby rfl at_245 ?_
            refine Own.iadd X17.here hx rfl (hb hby at_246) rfl (by decide : ((-1 : Int32) + (4 : Int32)) = (3 : Int32)) ?_
            refine own_caload X17 hx hZ e17 f12 (j := 3) (by decide) (v := (vI z36)) rfl (g := (mkF m 247 #[sI i0, sI i1, sI i2, sI i3, sI i4, sI x5, sR b1, sR c10_0, sR c10_0, sI (-1), sI 4] [(vI 3), (vR b1), (vI ((z36.toInt8.toInt32) &&& (255 : Int32)))])) rfl rfl (hb hby at_247) ?_
            refine wcy X17 hx hby rfl (pc0 := 248) (pc' := 253) rfl at_248 rfl (teq hd23).1 (by decide) (by decide) ?_
            show St p e below T17 (mkF m 253 #[sI i0, sI i1, sI i2, sI i3, sI i4, sI x5, sR b1, sR c10_0, sR c10_0, sI (-1), sI 4] []) _
            refine wic X17 hx hby rfl at_253 ?_
            exact retN X17 hx (t := .boolean) hret (by simp) (hb hby at_254) hr
theorem comes_1 {Post : Tables → Env → Array Value → State → Outcome → State → Prop} (hpost : ∀ tb e args s v u, (limb_1_1.after args s (.returned v) u = true ∧ limb_1_2.after args s (.returned v) u = true ∧ True) → ReturnedEndW s (.returned v) u (Jvm.fieldLocs frame_1_writes args s ++ Jvm.arrayLocs frame_1_arrays args s ++ Jvm.staticLocs frame_1_statics s) 24 2176 → Post tb e args s (.returned v) u) :
    ArmFor flags0 classFile x code maxLocals ret World_1 tables_1 room_1 Calls_1 rest_1 Pre_1 Post := by
  intro l hfl _ _ p e ha hc hk s m args below hf hA hF happ hP
  obtain ⟨hcalls, hrest, hpre⟩ := hP
  obtain ⟨-, -, -, hnamed, -, -, -, hat⟩ := (Spec.applies_iff hf).mp happ
  obtain ⟨hg, hn⟩ := and_e (Cond.before_iff.mp (show (Jvm.Cond.and given_1 narrow_1).before args s = true from hpre))
  obtain ⟨g1a, g1b⟩ := and_e hg
  obtain ⟨g2a, g2b⟩ := and_e g1b
  obtain ⟨g3a, g3b⟩ := and_e g2b
  obtain ⟨g4a, g4b⟩ := and_e g3b
  obtain ⟨g5a, g5b⟩ := and_e g4b
  obtain ⟨v0, v1, v2, v3, v4, rfl⟩ : ∃ v0 v1 v2 v3 v4 : Value, args = #[v0, v1, v2, v3, v4] := by
    have hs : args.size = 5 := by simpa [Cond.value, given_1] using g1a
    obtain ⟨L⟩ := args
    match L, hs with
    | [v0, v1, v2, v3, v4], _ => exact ⟨v0, v1, v2, v3, v4, rfl⟩
  have hw := fun d (hd : d ∈ tables_1) => atoms_spec (ws := Jvm.Cond.code x code maxLocals ret :: tables_1) hat d (List.mem_cons_of_mem _ hd)
  have hfit : Fit s := fun {y c} hc i hi => by
    obtain ⟨ha, rfl⟩ := Array.getElem?_eq_some_iff.mp hc
    have q := List.all_eq_true.mp ((Array.all_eq_true_iff_forall_mem.mp hF) _ (Array.getElem_mem ha)) i (List.mem_range.mpr hi)
    simpa [Array.getElem?_eq_getElem hi] using q
  obtain ⟨hj, hown0⟩ := atoms_of _ (rest_1_c_eq ▸ (show rest_1_c.before _ s = true from hrest))
  obtain ⟨i0, ei0⟩ := is_v g2a
  obtain rfl : v0 = (.int i0) := Option.some.inj ei0
  obtain ⟨i1, ei1⟩ := is_v g3a
  obtain rfl : v1 = (.int i1) := Option.some.inj ei1
  obtain ⟨i2, ei2⟩ := is_v g4a
  obtain rfl : v2 = (.int i2) := Option.some.inj ei2
  obtain ⟨i3, ei3⟩ := is_v g5a
  obtain rfl : v3 = (.int i3) := Option.some.inj ei3
  obtain ⟨i4, ei4⟩ := is_v g5b
  obtain rfl : v4 = (.int i4) := Option.some.inj ei4
  obtain ⟨w0, evw0⟩ := is_v (Cond.before_iff.mp (hj _ (List.mem_of_getElem? (i := 1) rfl)))
  obtain ⟨w1, evw1, erw1⟩ := isR_v (Cond.before_iff.mp (hj _ (List.mem_of_getElem? (i := 8) rfl)))
  have hS : SF s w0 w1 := ⟨Sta.start evw0 (Or.inl (hj _ j0)), own_not evw0 (Cond.before_iff.mp (hj _ (List.mem_of_getElem? (i := 2) rfl))), Sta.start evw1 (Or.inl (hj _ j7)), erw1⟩
  obtain ⟨n, o, h1, h2, h3, _, L, rfl, ⟨rfl, N⟩, hq⟩ := rm0 (l := l) (Z := s) (a0 := _) ⟨hw, hj, hS⟩ tables_1 i0 i1 i2 i3 i4 s.heap s.heap.size (Old.start s) p e ha hc hk s m _ below hf ((Spec.applies_iff_loose hf).mp happ).1 ⟨rfl, State.Warmed39.refl s, rfl, CHv.start (own_EW hw hj) (fun p hp => hcalls.1 p hp) (hj _ j2) (hw _ m23) (hw _ m10), sf0⟩ trivial
  refine ⟨n, _, h1, h2, h3, hpost _ _ _ _ _ _ ⟨Cond.after_iff.mpr rfl, Cond.after_iff.mpr (eq_i res_at (Term.int_eval (1)) rfl), trivial⟩ ⟨hq.2.1, hq.2.2.1, hq.2.2.2.1, (hq.2.2.2.2.sift fun y hy => Or.inr (N y hy)).mono (by decide) (by decide)⟩⟩
theorem main_1_1 : Claimed_1_1 := comes_1 fun _ _ _ _ _ _ h hF => ⟨h.1, hF⟩
theorem main_1_2 : Claimed_1_2 := comes_1 fun _ _ _ _ _ _ h hF => ⟨h.2.1, hF⟩
end Jvm.Pilot.@@N@@
namespace Jvm.Pilot.@@N@@
open Jvm Jvm.ClassFile Sem Op Lib Jvm.Free Jvm.Stand Jvm.Pilot.@@N@@.Jvm.D
/-! MADE BY PROGRAM (witnessworld.py) out of the Statement's table words and the real class files: 23 classes; the members and pool entries that the words name. The judged class is class 1, her method 1. -/
namespace start1
open Jvm.ClassFile
def u (s : String) : CpInfo := .utf8 (stringToUtf16 s)
/-- a pool by its gaps: so many unusable entries, then the entry; so many at the end -/
def gap : Nat → List CpInfo → List CpInfo
  | 0, r => r
  | n + 1, r => .unusable :: gap n r
def poolList (es : List (Nat × CpInfo)) (last : Nat) : List CpInfo := es.foldr (fun e r => gap e.1 (e.2 :: r)) (gap last [])
def pool (es : List (Nat × CpInfo)) (last : Nat) : Array CpInfo := ⟨poolList es last⟩
def fileOf (pool : Array CpInfo) (this : Nat) (attrs : Array Attribute := #[]) (ms : Array MethodInfo := #[]) (fl : Nat := 33) (sup : Nat := 0) (ifs : Array Nat := #[]) (fds : Array FieldInfo := #[]) : ClassFile where
  minorVersion := 0
  majorVersion := 65
  constantPool := pool
  accessFlags := fl
  thisClass := this
  superClass := sup
  interfaces := ifs
  fields := fds
  methods := ms
  attributes := attrs
def plain (name : String) (sup : Option ClassId) : Class where
  name := name
  kind := .ordinary
  loader := none
  accessFlags := 33
  super := sup
  interfaces := #[]
  cf := none
  fields := #[]
  methods := #[]
  instanceTypes := #[]
  staticTypes := #[]
  resolved := #[]
  callSites := []
  init := .initialized
  statics := none
  mirror := none

def pool0 : Array CpInfo := pool [(5, u "<init>"), (0, u "()V"), (1, .class_ 10), (1, u "java/lang/Object")] 113

def k0c0 : Code := { maxStack := 0, maxLocals := 1, code := object_method_1_code, exceptionTable := #[], attributes := #[] }
def k0m0 : Method := { name := "<init>", desc := "()V", sig := { parameters := [], returnType := none }, accessFlags := 1, code := some k0c0 }
/-- java/lang/Object -/
def k0 : Class := { plain "java/lang/Object" none with
  accessFlags := 33
  interfaces := #[]
  cf := some (fileOf pool0 8 #[] #[{ accessFlags := 1, nameIndex := 5, descriptorIndex := 6, attributes := #[] }] 33 0 #[] #[])
  fields := #[]
  methods := #[k0m0]
  instanceTypes := #[]
  staticTypes := #[]
  resolved := Array.replicate 124 none
  statics := none }

def pool1 : Array CpInfo := pool [(2, .class_ 4), (1, u "java/lang/Object"), (0, u "<init>"), (0, u "()V"), (0, .integer 2147483647), (0, .methodref 9 10), (0, .class_ 11), (0, .nameAndType 12 13), (0, u "com/example/faultscope/faultscope/bpmn/BpmnDocumentLocalPartPinLaw"), (0, u "ch"), (0, u "(I)C"), (0, .methodref 9 15), (0, .nameAndType 16 17), (0, u "make"), (0, u "(I[C)Ljava/lang/String;"), (0, .methodref 19 20), (0, .class_ 21), (0, .nameAndType 22 23), (0, u "com/example/faultscope/faultscope/bpmn/BpmnDocument"), (0, u "localPart"), (0, u "(Ljava/lang/String;)Ljava/lang/String;"), (0, .methodref 25 26), (0, .class_ 27), (0, .nameAndType 28 29), (0, u "java/lang/String"), (0, u "length"), (0, u "()I"), (0, .methodref 25 31), (0, .nameAndType 32 13), (0, u "charAt"), (0, .methodref 25 34), (0, .nameAndType 5 35), (0, u "([C)V"), (2, u "law"), (0, u "(IIIII)Z")] 5

def k1m0 : Method := { name := "<init>", desc := "()V", sig := { parameters := [], returnType := none }, accessFlags := 1, code := none }
def k1c1 : Code := { maxStack := 4, maxLocals := 11, code := code, exceptionTable := #[], attributes := #[] }
def k1m1 : Method := { name := "law", desc := "(IIIII)Z", sig := { parameters := [.int, .int, .int, .int, .int], returnType := some .boolean }, accessFlags := 9, code := some k1c1 }
def k1c2 : Code := { maxStack := 2, maxLocals := 1, code := method_3_code, exceptionTable := #[], attributes := #[] }
def k1m2 : Method := { name := "ch", desc := "(I)C", sig := { parameters := [.int], returnType := some .char }, accessFlags := 10, code := some k1c2 }
def k1c3 : Code := { maxStack := 7, maxLocals := 2, code := method_4_code, exceptionTable := #[], attributes := #[] }
def k1m3 : Method := { name := "make", desc := "(I[C)Ljava/lang/String;", sig := { parameters := [.int, (.array .char)], returnType := some (.object "java/lang/String") }, accessFlags := 10, code := some k1c3 }
/-- com/example/faultscope/faultscope/bpmn/BpmnDocumentLocalPartPinLaw -/
def k1 : Class := { plain "com/example/faultscope/faultscope/bpmn/BpmnDocumentLocalPartPinLaw" (some 0) with
  accessFlags := 49
  interfaces := #[]
  cf := some (fileOf pool1 9 #[] #[{ accessFlags := 1, nameIndex := 5, descriptorIndex := 6, attributes := #[] }, { accessFlags := 9, nameIndex := 38, descriptorIndex := 39, attributes := #[] }, { accessFlags := 10, nameIndex := 12, descriptorIndex := 13, attributes := #[] }, { accessFlags := 10, nameIndex := 16, descriptorIndex := 17, attributes := #[] }] 49 2 #[] #[])
  fields := #[]
  methods := #[k1m0, k1m1, k1m2, k1m3]
  instanceTypes := #[]
  staticTypes := #[]
  resolved := Array.replicate 45 none
  statics := none }

def pool2 : Array CpInfo := pool [(1, .class_ 2), (0, u "java/io/Serializable"), (0, .class_ 4), (0, u "java/lang/Object")] 2

/-- java/io/Serializable -/
def k2 : Class := { plain "java/io/Serializable" (some 0) with
  accessFlags := 1537
  interfaces := #[]
  cf := some (fileOf pool2 1 #[] #[] 1537 3 #[] #[])
  fields := #[]
  methods := #[]
  instanceTypes := #[]
  staticTypes := #[]
  resolved := Array.replicate 7 none
  statics := none }

def pool3 : Array CpInfo := pool [(1, .class_ 2), (0, u "java/lang/Comparable"), (0, .class_ 4), (0, u "java/lang/Object")] 7

/-- java/lang/Comparable -/
def k3 : Class := { plain "java/lang/Comparable" (some 0) with
  accessFlags := 1537
  interfaces := #[]
  cf := some (fileOf pool3 1 #[] #[] 1537 3 #[] #[])
  fields := #[]
  methods := #[]
  instanceTypes := #[]
  staticTypes := #[]
  resolved := Array.replicate 12 none
  statics := none }

def pool4 : Array CpInfo := pool [(2, .class_ 4), (1, u "java/lang/CharSequence"), (42, .class_ 48), (0, u "java/lang/CharSequence$1CodePointIterator"), (10, .class_ 60), (0, u "java/lang/CharSequence$1CharIterator"), (5, .class_ 67), (0, u "java/lang/Object")] 63

/-- java/lang/CharSequence -/
def k4 : Class := { plain "java/lang/CharSequence" (some 0) with
  accessFlags := 1537
  interfaces := #[]
  cf := some (fileOf pool4 2 #[.nestMembers #[47, 59]] #[] 1537 66 #[] #[])
  fields := #[]
  methods := #[]
  instanceTypes := #[]
  staticTypes := #[]
  resolved := Array.replicate 131 none
  statics := none }

def pool5 : Array CpInfo := pool [(1, .class_ 2), (0, u "java/lang/constant/Constable"), (0, .class_ 4), (0, u "java/lang/Object")] 6

/-- java/lang/constant/Constable -/
def k5 : Class := { plain "java/lang/constant/Constable" (some 0) with
  accessFlags := 1537
  interfaces := #[]
  cf := some (fileOf pool5 1 #[] #[] 1537 3 #[] #[])
  fields := #[]
  methods := #[]
  instanceTypes := #[]
  staticTypes := #[]
  resolved := Array.replicate 11 none
  statics := none }

def pool6 : Array CpInfo := pool [(1, .class_ 2), (0, u "java/lang/constant/ConstantDesc"), (0, .class_ 4), (0, u "java/lang/Object")] 32

/-- java/lang/constant/ConstantDesc -/
def k6 : Class := { plain "java/lang/constant/ConstantDesc" (some 0) with
  accessFlags := 1537
  interfaces := #[]
  cf := some (fileOf pool6 1 #[] #[] 1537 3 #[] #[])
  fields := #[]
  methods := #[]
  instanceTypes := #[]
  staticTypes := #[]
  resolved := Array.replicate 37 none
  statics := none }

def pool7 : Array CpInfo := pool [(1, .methodref 2 3), (0, .class_ 4), (0, .nameAndType 5 6), (0, u "java/lang/Object"), (0, u "<init>"), (0, u "()V"), (0, .string 8), (0, u ""), (0, .fieldref 10 11), (0, .class_ 12), (0, .nameAndType 13 14), (0, u "java/lang/String"), (0, u "value"), (0, u "[B"), (0, .fieldref 10 16), (0, .nameAndType 17 18), (0, u "coder"), (0, u "B"), (2, u "hash"), (0, u "I"), (2, u "hashIsZero"), (0, u "Z"), (0, .methodref 10 28), (0, .nameAndType 5 29), (0, u "([CIILjava/lang/Void;)V"), (8, .fieldref 10 39), (0, .nameAndType 40 26), (0, u "COMPACT_STRINGS"), (1, .class_ 44), (1, u "java/lang/StringUTF16"), (0, u "compress"), (1, .methodref 42 48), (0, .nameAndType 49 50), (0, u "coderFromArrayLen"), (0, u "([BI)B"), (46, u "([BII)I"), (9, .class_ 109), (1, u "java/lang/StringLatin1"), (32, u "()Z"), (34, .methodref 42 178), (0, .nameAndType 45 179), (0, u "([CII)[B"), (31, u "([BB)V"), (122, u "()I"), (0, .methodref 10 336), (0, .nameAndType 17 337), (0, u "()B"), (25, u "([BI)C"), (27, u "(II)V"), (35, u "(I)C"), (64, .methodref 10 493), (0, .nameAndType 494 142), (0, u "isLatin1"), (0, .methodref 107 496), (0, .nameAndType 497 363), (0, u "charAt"), (3, u "checkIndex"), (3, .methodref 10 506), (0, .nameAndType 507 334), (0, u "length"), (5, u "checkFromToIndex"), (7, .methodref 10 522), (0, .nameAndType 523 524), (0, u "checkBoundsBeginEnd"), (0, u "(III)V"), (50, .class_ 576), (0, u "java/lang/CharSequence"), (22, u "CASE_INSENSITIVE_ORDER"), (0, u "Ljava/util/Comparator;"), (35, u "(II)I"), (4, .methodref 10 642), (0, .nameAndType 643 636), (0, u "lastIndexOf"), (0, .methodref 107 645), (0, .nameAndType 643 97), (35, .methodref 10 682), (0, .nameAndType 683 684), (0, u "substring"), (0, u "(II)Ljava/lang/String;"), (0, .methodref 107 686), (0, .nameAndType 687 688), (0, u "newString"), (0, u "([BII)Ljava/lang/String;"), (76, u "(I)I"), (126, u "(I)Ljava/lang/String;"), (117, u "([C)V"), (42, .fieldref 1054 1055), (0, .class_ 1056), (0, .nameAndType 1057 1058), (0, u "jdk/internal/util/Preconditions"), (0, u "SIOOBE_FORMATTER"), (0, u "Ljava/util/function/BiFunction;"), (0, .methodref 1054 1060), (0, .nameAndType 501 1061), (0, u "(IILjava/util/function/BiFunction;)I"), (0, .methodref 1054 1063), (0, .nameAndType 513 1064), (0, u "(IIILjava/util/function/BiFunction;)I"), (36, u "serialPersistentFields"), (0, u "[Ljava/io/ObjectStreamField;"), (0, .class_ 1104), (0, u "java/lang/String$CaseInsensitiveComparator"), (1, .class_ 1107), (0, u "java/io/Serializable"), (0, .class_ 1109), (0, u "java/lang/Comparable"), (0, .class_ 1111), (0, u "java/lang/constant/Constable"), (0, .class_ 1113), (0, u "java/lang/constant/ConstantDesc"), (2, u "serialVersionUID"), (0, u "J"), (3, u "REPL"), (0, u "C"), (2, u "LATIN1"), (1, u "UTF16")] 323

def k7m0 : Method := { name := "<init>", desc := "()V", sig := { parameters := [], returnType := none }, accessFlags := 1, code := none }
def k7c1 : Code := { maxStack := 5, maxLocals := 2, code := jdk_42_method_3_code, exceptionTable := #[], attributes := #[] }
def k7m1 : Method := { name := "<init>", desc := "([C)V", sig := { parameters := [(.array .char)], returnType := none }, accessFlags := 1, code := some k7c1 }
def k7c2 : Code := { maxStack := 2, maxLocals := 1, code := jdk_42_method_54_code, exceptionTable := #[], attributes := #[] }
def k7m2 : Method := { name := "length", desc := "()I", sig := { parameters := [], returnType := some .int }, accessFlags := 1, code := some k7c2 }
def k7c3 : Code := { maxStack := 2, maxLocals := 2, code := jdk_42_method_56_code, exceptionTable := #[], attributes := #[] }
def k7m3 : Method := { name := "charAt", desc := "(I)C", sig := { parameters := [.int], returnType := some .char }, accessFlags := 1, code := some k7c3 }
def k7c4 : Code := { maxStack := 4, maxLocals := 2, code := jdk_42_method_82_code, exceptionTable := #[], attributes := #[] }
def k7m4 : Method := { name := "lastIndexOf", desc := "(I)I", sig := { parameters := [.int], returnType := some .int }, accessFlags := 1, code := some k7c4 }
def k7c5 : Code := { maxStack := 3, maxLocals := 3, code := jdk_42_method_83_code, exceptionTable := #[], attributes := #[] }
def k7m5 : Method := { name := "lastIndexOf", desc := "(II)I", sig := { parameters := [.int, .int], returnType := some .int }, accessFlags := 1, code := some k7c5 }
def k7c6 : Code := { maxStack := 3, maxLocals := 2, code := jdk_42_method_91_code, exceptionTable := #[], attributes := #[] }
def k7m6 : Method := { name := "substring", desc := "(I)Ljava/lang/String;", sig := { parameters := [.int], returnType := some (.object "java/lang/String") }, accessFlags := 1, code := some k7c6 }
def k7c7 : Code := { maxStack := 3, maxLocals := 5, code := jdk_42_method_92_code, exceptionTable := #[], attributes := #[] }
def k7m7 : Method := { name := "substring", desc := "(II)Ljava/lang/String;", sig := { parameters := [.int, .int], returnType := some (.object "java/lang/String") }, accessFlags := 1, code := some k7c7 }
def k7c8 : Code := { maxStack := 4, maxLocals := 6, code := jdk_42_method_149_code, exceptionTable := #[], attributes := #[] }
def k7m8 : Method := { name := "<init>", desc := "([CIILjava/lang/Void;)V", sig := { parameters := [(.array .char), .int, .int, (.object "java/lang/Void")], returnType := none }, accessFlags := 2, code := some k7c8 }
def k7c9 : Code := { maxStack := 2, maxLocals := 3, code := jdk_42_method_151_code, exceptionTable := #[], attributes := #[] }
def k7m9 : Method := { name := "<init>", desc := "([BB)V", sig := { parameters := [(.array .byte), .byte], returnType := none }, accessFlags := 0, code := some k7c9 }
def k7c10 : Code := { maxStack := 1, maxLocals := 1, code := jdk_42_method_152_code, exceptionTable := #[], attributes := #[] }
def k7m10 : Method := { name := "coder", desc := "()B", sig := { parameters := [], returnType := some .byte }, accessFlags := 0, code := some k7c10 }
def k7c11 : Code := { maxStack := 1, maxLocals := 1, code := jdk_42_method_154_code, exceptionTable := #[], attributes := #[] }
def k7m11 : Method := { name := "isLatin1", desc := "()Z", sig := { parameters := [], returnType := some .boolean }, accessFlags := 0, code := some k7c11 }
def k7c12 : Code := { maxStack := 3, maxLocals := 2, code := jdk_42_method_155_code, exceptionTable := #[], attributes := #[] }
def k7m12 : Method := { name := "checkIndex", desc := "(II)V", sig := { parameters := [.int, .int], returnType := none }, accessFlags := 8, code := some k7c12 }
def k7c13 : Code := { maxStack := 4, maxLocals := 3, code := jdk_42_method_158_code, exceptionTable := #[], attributes := #[] }
def k7m13 : Method := { name := "checkBoundsBeginEnd", desc := "(III)V", sig := { parameters := [.int, .int, .int], returnType := none }, accessFlags := 8, code := some k7c13 }
/-- java/lang/String -/
def k7 : Class := { plain "java/lang/String" (some 0) with
  accessFlags := 49
  interfaces := #[2, 3, 4, 5, 6]
  cf := some (fileOf pool7 10 #[.nestMembers #[1103]] #[{ accessFlags := 1, nameIndex := 5, descriptorIndex := 6, attributes := #[] }, { accessFlags := 1, nameIndex := 5, descriptorIndex := 1010, attributes := #[] }, { accessFlags := 1, nameIndex := 507, descriptorIndex := 334, attributes := #[] }, { accessFlags := 1, nameIndex := 497, descriptorIndex := 427, attributes := #[] }, { accessFlags := 1, nameIndex := 643, descriptorIndex := 765, attributes := #[] }, { accessFlags := 1, nameIndex := 643, descriptorIndex := 636, attributes := #[] }, { accessFlags := 1, nameIndex := 683, descriptorIndex := 892, attributes := #[] }, { accessFlags := 1, nameIndex := 683, descriptorIndex := 684, attributes := #[] }, { accessFlags := 2, nameIndex := 5, descriptorIndex := 29, attributes := #[] }, { accessFlags := 0, nameIndex := 5, descriptorIndex := 211, attributes := #[] }, { accessFlags := 0, nameIndex := 17, descriptorIndex := 337, attributes := #[] }, { accessFlags := 0, nameIndex := 494, descriptorIndex := 142, attributes := #[] }, { accessFlags := 8, nameIndex := 501, descriptorIndex := 391, attributes := #[] }, { accessFlags := 8, nameIndex := 523, descriptorIndex := 524, attributes := #[] }] 49 2 #[1106, 1108, 575, 1110, 1112] #[{ accessFlags := 18, nameIndex := 13, descriptorIndex := 14, attributes := #[] }, { accessFlags := 18, nameIndex := 17, descriptorIndex := 18, attributes := #[] }, { accessFlags := 2, nameIndex := 21, descriptorIndex := 22, attributes := #[] }, { accessFlags := 2, nameIndex := 25, descriptorIndex := 26, attributes := #[] }, { accessFlags := 26, nameIndex := 1116, descriptorIndex := 1117, attributes := #[] }, { accessFlags := 24, nameIndex := 40, descriptorIndex := 26, attributes := #[] }, { accessFlags := 26, nameIndex := 1101, descriptorIndex := 1102, attributes := #[] }, { accessFlags := 26, nameIndex := 1121, descriptorIndex := 1122, attributes := #[] }, { accessFlags := 25, nameIndex := 599, descriptorIndex := 600, attributes := #[] }, { accessFlags := 24, nameIndex := 1125, descriptorIndex := 18, attributes := #[] }, { accessFlags := 24, nameIndex := 1127, descriptorIndex := 18, attributes := #[] }])
  fields := #[{ name := "value", type := (.array .byte), accessFlags := 18, slot := 0, constantValue := 0 }, { name := "coder", type := .byte, accessFlags := 18, slot := 1, constantValue := 0 }, { name := "hash", type := .int, accessFlags := 2, slot := 2, constantValue := 0 }, { name := "hashIsZero", type := .boolean, accessFlags := 2, slot := 3, constantValue := 0 }, { name := "serialVersionUID", type := .long, accessFlags := 26, slot := 0, constantValue := 0 }, { name := "COMPACT_STRINGS", type := .boolean, accessFlags := 24, slot := 1, constantValue := 0 }, { name := "serialPersistentFields", type := (.array (.object "java/io/ObjectStreamField")), accessFlags := 26, slot := 2, constantValue := 0 }, { name := "REPL", type := .char, accessFlags := 26, slot := 3, constantValue := 0 }, { name := "CASE_INSENSITIVE_ORDER", type := (.object "java/util/Comparator"), accessFlags := 25, slot := 4, constantValue := 0 }, { name := "LATIN1", type := .byte, accessFlags := 24, slot := 5, constantValue := 0 }, { name := "UTF16", type := .byte, accessFlags := 24, slot := 6, constantValue := 0 }]
  methods := #[k7m0, k7m1, k7m2, k7m3, k7m4, k7m5, k7m6, k7m7, k7m8, k7m9, k7m10, k7m11, k7m12, k7m13]
  instanceTypes := #[(.array .byte), .byte, .int, .boolean]
  staticTypes := #[.long, .boolean, (.array (.object "java/io/ObjectStreamField")), .char, (.object "java/util/Comparator"), .byte, .byte]
  resolved := Array.replicate 1451 none
  statics := some 0 }

def pool8 : Array CpInfo := pool [(2, .class_ 4), (1, u "java/lang/Object"), (6, .class_ 13), (1, u "com/example/faultscope/faultscope/bpmn/BpmnDocument"), (0, u "errorCodes"), (0, u "Ljava/util/Map;"), (2, u "topLevelEventDefinitions"), (2, u "messages"), (2, u "file"), (0, u "Ljava/nio/file/Path;"), (2, u "definitions"), (0, u "Lorg/w3c/dom/Element;"), (45, u "(Ljava/lang/String;)Ljava/lang/String;"), (7, .class_ 85), (1, u "java/lang/String"), (156, u "STRICT"), (0, u "Lorg/xml/sax/ErrorHandler;"), (79, u "localPart"), (57, .methodref 83 382), (0, .nameAndType 383 384), (0, u "lastIndexOf"), (0, u "(I)I"), (0, .methodref 83 386), (0, .nameAndType 387 388), (0, u "substring"), (0, u "(I)Ljava/lang/String;"), (2, .class_ 392), (0, u "com/example/faultscope/faultscope/bpmn/BpmnDocument$1"), (1, u "MODEL_NAMESPACE"), (0, u "Ljava/lang/String;"), (1, u "MAX_DEPTH"), (0, u "I"), (1, u "ERROR_EVENT_DEFINITION")] 80

def k8c0 : Code := { maxStack := 3, maxLocals := 1, code := prog_13_method_17_code, exceptionTable := #[], attributes := #[] }
def k8m0 : Method := { name := "localPart", desc := "(Ljava/lang/String;)Ljava/lang/String;", sig := { parameters := [(.object "java/lang/String")], returnType := some (.object "java/lang/String") }, accessFlags := 8, code := some k8c0 }
/-- com/example/faultscope/faultscope/bpmn/BpmnDocument -/
def k8 : Class := { plain "com/example/faultscope/faultscope/bpmn/BpmnDocument" (some 0) with
  accessFlags := 48
  interfaces := #[]
  cf := some (fileOf pool8 11 #[.nestMembers #[391]] #[{ accessFlags := 8, nameIndex := 323, descriptorIndex := 75, attributes := #[] }] 48 2 #[] #[{ accessFlags := 24, nameIndex := 394, descriptorIndex := 395, attributes := #[] }, { accessFlags := 24, nameIndex := 397, descriptorIndex := 398, attributes := #[] }, { accessFlags := 24, nameIndex := 400, descriptorIndex := 395, attributes := #[] }, { accessFlags := 26, nameIndex := 242, descriptorIndex := 243, attributes := #[] }, { accessFlags := 18, nameIndex := 24, descriptorIndex := 25, attributes := #[] }, { accessFlags := 18, nameIndex := 28, descriptorIndex := 29, attributes := #[] }, { accessFlags := 18, nameIndex := 14, descriptorIndex := 15, attributes := #[] }, { accessFlags := 18, nameIndex := 18, descriptorIndex := 15, attributes := #[] }, { accessFlags := 18, nameIndex := 21, descriptorIndex := 15, attributes := #[] }])
  fields := #[{ name := "MODEL_NAMESPACE", type := (.object "java/lang/String"), accessFlags := 24, slot := 0, constantValue := 0 }, { name := "MAX_DEPTH", type := .int, accessFlags := 24, slot := 1, constantValue := 0 }, { name := "ERROR_EVENT_DEFINITION", type := (.object "java/lang/String"), accessFlags := 24, slot := 2, constantValue := 0 }, { name := "STRICT", type := (.object "org/xml/sax/ErrorHandler"), accessFlags := 26, slot := 3, constantValue := 0 }, { name := "file", type := (.object "java/nio/file/Path"), accessFlags := 18, slot := 0, constantValue := 0 }, { name := "definitions", type := (.object "org/w3c/dom/Element"), accessFlags := 18, slot := 1, constantValue := 0 }, { name := "errorCodes", type := (.object "java/util/Map"), accessFlags := 18, slot := 2, constantValue := 0 }, { name := "topLevelEventDefinitions", type := (.object "java/util/Map"), accessFlags := 18, slot := 3, constantValue := 0 }, { name := "messages", type := (.object "java/util/Map"), accessFlags := 18, slot := 4, constantValue := 0 }]
  methods := #[k8m0]
  instanceTypes := #[(.object "java/nio/file/Path"), (.object "org/w3c/dom/Element"), (.object "java/util/Map"), (.object "java/util/Map"), (.object "java/util/Map")]
  staticTypes := #[(.object "java/lang/String"), .int, (.object "java/lang/String"), (.object "org/xml/sax/ErrorHandler")]
  resolved := Array.replicate 481 none
  statics := none }

def pool9 : Array CpInfo := pool [(1, .class_ 2), (0, u "java/lang/String"), (1, .class_ 6), (1, u "java/lang/Object"), (0, u "<init>"), (0, u "()V"), (0, .methodref 1 10), (0, .nameAndType 11 12), (0, u "checkIndex"), (0, u "(II)V"), (1, .class_ 16), (1, u "java/lang/StringLatin1"), (21, .methodref 39 40), (0, .class_ 41), (0, .nameAndType 42 43), (0, u "java/lang/Math"), (0, u "min"), (0, u "(II)I"), (9, u "([BI)C"), (34, .methodref 14 89), (0, .nameAndType 90 91), (0, u "canEncode"), (0, u "(I)Z"), (20, .methodref 1 113), (0, .nameAndType 7 114), (0, u "([BB)V"), (6, u "$assertionsDisabled"), (0, u "Z"), (8, .class_ 133), (1, u "java/util/Arrays"), (17, .string 152), (0, u ""), (43, u "newString"), (0, u "([BII)Ljava/lang/String;"), (23, .class_ 223), (1, u "java/lang/StringLatin1$LinesSpliterator"), (8, .methodref 131 233), (0, .nameAndType 234 235), (0, u "copyOfRange"), (0, u "([BII)[B"), (16, u "charAt"), (8, u "([BII)I"), (47, u "lastIndexOf"), (80, .class_ 391), (0, u "java/lang/StringLatin1$CharsSpliterator")] 3

def k9m0 : Method := { name := "<init>", desc := "()V", sig := { parameters := [], returnType := none }, accessFlags := 0, code := none }
def k9c1 : Code := { maxStack := 2, maxLocals := 2, code := jdk_43_method_2_code, exceptionTable := #[], attributes := #[] }
def k9m1 : Method := { name := "charAt", desc := "([BI)C", sig := { parameters := [(.array .byte), .int], returnType := some .char }, accessFlags := 9, code := some k9c1 }
def k9c2 : Code := { maxStack := 2, maxLocals := 1, code := jdk_43_method_4_code, exceptionTable := #[], attributes := #[] }
def k9m2 : Method := { name := "canEncode", desc := "(I)Z", sig := { parameters := [.int], returnType := some .boolean }, accessFlags := 9, code := some k9c2 }
def k9c3 : Code := { maxStack := 3, maxLocals := 4, code := jdk_43_method_27_code, exceptionTable := #[], attributes := #[] }
def k9m3 : Method := { name := "lastIndexOf", desc := "([BII)I", sig := { parameters := [(.array .byte), .int, .int], returnType := some .int }, accessFlags := 9, code := some k9c3 }
def k9c4 : Code := { maxStack := 6, maxLocals := 3, code := jdk_43_method_47_code, exceptionTable := #[], attributes := #[] }
def k9m4 : Method := { name := "newString", desc := "([BII)Ljava/lang/String;", sig := { parameters := [(.array .byte), .int, .int], returnType := some (.object "java/lang/String") }, accessFlags := 9, code := some k9c4 }
/-- java/lang/StringLatin1 -/
def k9 : Class := { plain "java/lang/StringLatin1" (some 0) with
  accessFlags := 48
  interfaces := #[]
  cf := some (fileOf pool9 14 #[.nestMembers #[390, 221]] #[{ accessFlags := 0, nameIndex := 7, descriptorIndex := 8, attributes := #[] }, { accessFlags := 9, nameIndex := 252, descriptorIndex := 53, attributes := #[] }, { accessFlags := 9, nameIndex := 90, descriptorIndex := 91, attributes := #[] }, { accessFlags := 9, nameIndex := 309, descriptorIndex := 261, attributes := #[] }, { accessFlags := 9, nameIndex := 196, descriptorIndex := 197, attributes := #[] }] 48 4 #[] #[{ accessFlags := 4120, nameIndex := 121, descriptorIndex := 122, attributes := #[] }])
  fields := #[{ name := "$assertionsDisabled", type := .boolean, accessFlags := 4120, slot := 0, constantValue := 0 }]
  methods := #[k9m0, k9m1, k9m2, k9m3, k9m4]
  instanceTypes := #[]
  staticTypes := #[.boolean]
  resolved := Array.replicate 395 none
  statics := none }

def pool10 : Array CpInfo := pool [(1, .class_ 2), (0, u "java/lang/Math"), (1, .class_ 6), (1, u "java/lang/Object"), (0, u "<init>"), (0, u "()V"), (89, .class_ 100), (1, u "java/lang/Math$RandomNumberGeneratorHolder"), (71, u "negativeZeroFloatBits"), (0, u "J"), (2, u "negativeZeroDoubleBits"), (24, u "min"), (43, u "$assertionsDisabled"), (0, u "Z"), (88, u "(II)I"), (2, u "twoToTheDoubleScaleDown"), (0, u "D"), (4, u "twoToTheDoubleScaleUp"), (9, u "E"), (3, u "PI"), (2, u "TAU"), (2, u "DEGREES_TO_RADIANS"), (0, u "RADIANS_TO_DEGREES")] 94

def k10m0 : Method := { name := "<init>", desc := "()V", sig := { parameters := [], returnType := none }, accessFlags := 2, code := none }
def k10c1 : Code := { maxStack := 2, maxLocals := 2, code := jdk_29_method_69_code, exceptionTable := #[], attributes := #[] }
def k10m1 : Method := { name := "min", desc := "(II)I", sig := { parameters := [.int, .int], returnType := some .int }, accessFlags := 9, code := some k10c1 }
/-- java/lang/Math -/
def k10 : Class := { plain "java/lang/Math" (some 0) with
  accessFlags := 49
  interfaces := #[]
  cf := some (fileOf pool10 1 #[.nestMembers #[98]] #[{ accessFlags := 2, nameIndex := 7, descriptorIndex := 8, attributes := #[] }, { accessFlags := 9, nameIndex := 201, descriptorIndex := 335, attributes := #[] }] 49 4 #[] #[{ accessFlags := 25, nameIndex := 354, descriptorIndex := 339, attributes := #[] }, { accessFlags := 25, nameIndex := 358, descriptorIndex := 339, attributes := #[] }, { accessFlags := 25, nameIndex := 361, descriptorIndex := 339, attributes := #[] }, { accessFlags := 26, nameIndex := 364, descriptorIndex := 339, attributes := #[] }, { accessFlags := 26, nameIndex := 365, descriptorIndex := 339, attributes := #[] }, { accessFlags := 26, nameIndex := 172, descriptorIndex := 173, attributes := #[] }, { accessFlags := 26, nameIndex := 176, descriptorIndex := 173, attributes := #[] }, { accessFlags := 8, nameIndex := 344, descriptorIndex := 339, attributes := #[] }, { accessFlags := 8, nameIndex := 338, descriptorIndex := 339, attributes := #[] }, { accessFlags := 4120, nameIndex := 245, descriptorIndex := 246, attributes := #[] }])
  fields := #[{ name := "E", type := .double, accessFlags := 25, slot := 0, constantValue := 0 }, { name := "PI", type := .double, accessFlags := 25, slot := 1, constantValue := 0 }, { name := "TAU", type := .double, accessFlags := 25, slot := 2, constantValue := 0 }, { name := "DEGREES_TO_RADIANS", type := .double, accessFlags := 26, slot := 3, constantValue := 0 }, { name := "RADIANS_TO_DEGREES", type := .double, accessFlags := 26, slot := 4, constantValue := 0 }, { name := "negativeZeroFloatBits", type := .long, accessFlags := 26, slot := 5, constantValue := 0 }, { name := "negativeZeroDoubleBits", type := .long, accessFlags := 26, slot := 6, constantValue := 0 }, { name := "twoToTheDoubleScaleUp", type := .double, accessFlags := 8, slot := 7, constantValue := 0 }, { name := "twoToTheDoubleScaleDown", type := .double, accessFlags := 8, slot := 8, constantValue := 0 }, { name := "$assertionsDisabled", type := .boolean, accessFlags := 4120, slot := 9, constantValue := 0 }]
  methods := #[k10m0, k10m1]
  instanceTypes := #[]
  staticTypes := #[.double, .double, .double, .double, .double, .long, .long, .double, .double, .boolean]
  resolved := Array.replicate 460 none
  statics := none }

def pool11 : Array CpInfo := pool [(2, .class_ 4), (1, u "java/lang/Object"), (0, u "<init>"), (0, u "()V"), (17, .class_ 26), (1, u "jdk/internal/util/Preconditions"), (6, u "checkIndex"), (13, u "checkFromToIndex"), (7, .class_ 56), (0, u "jdk/internal/util/Preconditions$4"), (57, .class_ 115), (0, u "jdk/internal/util/Preconditions$1"), (7, u "SIOOBE_FORMATTER"), (0, u "Ljava/util/function/BiFunction;"), (0, .class_ 126), (0, u "jdk/internal/util/Preconditions$2"), (3, u "AIOOBE_FORMATTER"), (0, .class_ 132), (0, u "jdk/internal/util/Preconditions$3"), (3, u "IOOBE_FORMATTER"), (41, u "(IILjava/util/function/BiFunction;)I"), (4, u "(IIILjava/util/function/BiFunction;)I")] 10

def k11m0 : Method := { name := "<init>", desc := "()V", sig := { parameters := [], returnType := none }, accessFlags := 1, code := none }
def k11c1 : Code := { maxStack := 3, maxLocals := 3, code := jdk_41_method_11_code, exceptionTable := #[], attributes := #[] }
def k11m1 : Method := { name := "checkIndex", desc := "(IILjava/util/function/BiFunction;)I", sig := { parameters := [.int, .int, (.object "java/util/function/BiFunction")], returnType := some .int }, accessFlags := 9, code := some k11c1 }
def k11c2 : Code := { maxStack := 4, maxLocals := 4, code := jdk_41_method_12_code, exceptionTable := #[], attributes := #[] }
def k11m2 : Method := { name := "checkFromToIndex", desc := "(IIILjava/util/function/BiFunction;)I", sig := { parameters := [.int, .int, .int, (.object "java/util/function/BiFunction")], returnType := some .int }, accessFlags := 9, code := some k11c2 }
/-- jdk/internal/util/Preconditions -/
def k11 : Class := { plain "jdk/internal/util/Preconditions" (some 0) with
  accessFlags := 33
  interfaces := #[]
  cf := some (fileOf pool11 24 #[.nestMembers #[55, 131, 125, 114]] #[{ accessFlags := 1, nameIndex := 5, descriptorIndex := 6, attributes := #[] }, { accessFlags := 9, nameIndex := 33, descriptorIndex := 178, attributes := #[] }, { accessFlags := 9, nameIndex := 47, descriptorIndex := 183, attributes := #[] }] 33 2 #[] #[{ accessFlags := 25, nameIndex := 123, descriptorIndex := 124, attributes := #[] }, { accessFlags := 25, nameIndex := 130, descriptorIndex := 124, attributes := #[] }, { accessFlags := 25, nameIndex := 136, descriptorIndex := 124, attributes := #[] }])
  fields := #[{ name := "SIOOBE_FORMATTER", type := (.object "java/util/function/BiFunction"), accessFlags := 25, slot := 0, constantValue := 0 }, { name := "AIOOBE_FORMATTER", type := (.object "java/util/function/BiFunction"), accessFlags := 25, slot := 1, constantValue := 0 }, { name := "IOOBE_FORMATTER", type := (.object "java/util/function/BiFunction"), accessFlags := 25, slot := 2, constantValue := 0 }]
  methods := #[k11m0, k11m1, k11m2]
  instanceTypes := #[]
  staticTypes := #[(.object "java/util/function/BiFunction"), (.object "java/util/function/BiFunction"), (.object "java/util/function/BiFunction")]
  resolved := Array.replicate 194 none
  statics := some 1 }

def pool12 : Array CpInfo := pool [(6, .class_ 8), (1, u "java/lang/Object"), (0, u "<init>"), (0, u "()V"), (1, .class_ 14), (1, u "java/lang/StringUTF16"), (31, u "$assertionsDisabled"), (0, u "Z"), (13, u "HI_BYTE_SHIFT"), (0, u "I"), (2, u "LO_BYTE_SHIFT"), (49, .methodref 12 116), (0, .nameAndType 117 118), (0, u "compress"), (0, u "([CI[BII)I"), (3, u "([CII)[B"), (138, u "coderFromArrayLen"), (0, u "([BI)B"), (106, .class_ 371), (1, u "java/lang/StringUTF16$LinesSpliterator"), (58, u "MAX_LENGTH"), (196, .class_ 628), (0, u "java/lang/StringUTF16$CodePointsSpliterator"), (0, .class_ 630), (0, u "java/lang/StringUTF16$CharsSpliterator")] 4

def k12m0 : Method := { name := "<init>", desc := "()V", sig := { parameters := [], returnType := none }, accessFlags := 0, code := none }
def k12c1 : Code := { maxStack := 2, maxLocals := 2, code := jdk_52_method_15_code, exceptionTable := #[], attributes := #[] }
def k12m1 : Method := { name := "coderFromArrayLen", desc := "([BI)B", sig := { parameters := [(.array .byte), .int], returnType := some .byte }, accessFlags := 8, code := some k12c1 }
def k12c2 : Code := { maxStack := 5, maxLocals := 6, code := jdk_52_method_16_code, exceptionTable := #[], attributes := #[] }
def k12m2 : Method := { name := "compress", desc := "([CII)[B", sig := { parameters := [(.array .char), .int, .int], returnType := some (.array .byte) }, accessFlags := 9, code := some k12c2 }
def k12c3 : Code := { maxStack := 3, maxLocals := 7, code := jdk_52_method_21_code, exceptionTable := #[], attributes := #[] }
def k12m3 : Method := { name := "compress", desc := "([CI[BII)I", sig := { parameters := [(.array .char), .int, (.array .byte), .int, .int], returnType := some .int }, accessFlags := 9, code := some k12c3 }
/-- java/lang/StringUTF16 -/
def k12 : Class := { plain "java/lang/StringUTF16" (some 0) with
  accessFlags := 48
  interfaces := #[]
  cf := some (fileOf pool12 12 #[.nestMembers #[627, 629, 369]] #[{ accessFlags := 0, nameIndex := 9, descriptorIndex := 10, attributes := #[] }, { accessFlags := 8, nameIndex := 261, descriptorIndex := 262, attributes := #[] }, { accessFlags := 9, nameIndex := 117, descriptorIndex := 122, attributes := #[] }, { accessFlags := 9, nameIndex := 117, descriptorIndex := 118, attributes := #[] }] 48 6 #[] #[{ accessFlags := 26, nameIndex := 61, descriptorIndex := 62, attributes := #[] }, { accessFlags := 26, nameIndex := 65, descriptorIndex := 62, attributes := #[] }, { accessFlags := 24, nameIndex := 430, descriptorIndex := 62, attributes := #[] }, { accessFlags := 4120, nameIndex := 46, descriptorIndex := 47, attributes := #[] }])
  fields := #[{ name := "HI_BYTE_SHIFT", type := .int, accessFlags := 26, slot := 0, constantValue := 0 }, { name := "LO_BYTE_SHIFT", type := .int, accessFlags := 26, slot := 1, constantValue := 0 }, { name := "MAX_LENGTH", type := .int, accessFlags := 24, slot := 2, constantValue := 0 }, { name := "$assertionsDisabled", type := .boolean, accessFlags := 4120, slot := 3, constantValue := 0 }]
  methods := #[k12m0, k12m1, k12m2, k12m3]
  instanceTypes := #[]
  staticTypes := #[.int, .int, .int, .boolean]
  resolved := Array.replicate 635 none
  statics := none }

def pool13 : Array CpInfo := pool [(2, .class_ 4), (1, u "java/lang/Object"), (0, u "<init>"), (0, u "()V"), (7, .class_ 16), (1, u "java/util/Arrays"), (57, .class_ 76), (1, u "java/util/Arrays$NaturalOrder"), (36, .class_ 115), (1, u "java/util/Arrays$LegacyMergeSort"), (1, u "Z"), (21, u "copyOfRange"), (10, .methodref 151 152), (0, .class_ 153), (0, .nameAndType 154 155), (0, u "java/lang/System"), (0, u "arraycopy"), (0, u "(Ljava/lang/Object;ILjava/lang/Object;II)V"), (148, .methodref 305 306), (0, .class_ 307), (0, .nameAndType 308 309), (0, u "java/lang/Math"), (0, u "min"), (0, u "(II)I"), (29, .methodref 14 340), (0, .nameAndType 341 342), (0, u "copyOfRangeByte"), (0, u "([BII)[B"), (0, .methodref 14 344), (0, .nameAndType 345 346), (0, u "checkLength"), (0, u "(II)V"), (28, .class_ 376), (0, u "java/util/Arrays$ArrayList"), (68, u "$assertionsDisabled"), (269, u "MIN_ARRAY_SORT_GRAN"), (0, u "I"), (2, u "INSERTIONSORT_THRESHOLD"), (255, .class_ 976), (0, u "java/util/Arrays$ArrayItr")] 52

def k13m0 : Method := { name := "<init>", desc := "()V", sig := { parameters := [], returnType := none }, accessFlags := 2, code := none }
def k13c1 : Code := { maxStack := 4, maxLocals := 2, code := jdk_65_method_131_code, exceptionTable := #[], attributes := #[] }
def k13m1 : Method := { name := "checkLength", desc := "(II)V", sig := { parameters := [.int, .int], returnType := none }, accessFlags := 10, code := some k13c1 }
def k13c2 : Code := { maxStack := 3, maxLocals := 3, code := jdk_65_method_132_code, exceptionTable := #[], attributes := #[] }
def k13m2 : Method := { name := "copyOfRange", desc := "([BII)[B", sig := { parameters := [(.array .byte), .int, .int], returnType := some (.array .byte) }, accessFlags := 9, code := some k13c2 }
def k13c3 : Code := { maxStack := 6, maxLocals := 5, code := jdk_65_method_133_code, exceptionTable := #[], attributes := #[] }
def k13m3 : Method := { name := "copyOfRangeByte", desc := "([BII)[B", sig := { parameters := [(.array .byte), .int, .int], returnType := some (.array .byte) }, accessFlags := 10, code := some k13c3 }
/-- java/util/Arrays -/
def k13 : Class := { plain "java/util/Arrays" (some 0) with
  accessFlags := 49
  interfaces := #[]
  cf := some (fileOf pool13 14 #[.nestMembers #[975, 375, 113, 74]] #[{ accessFlags := 2, nameIndex := 5, descriptorIndex := 6, attributes := #[] }, { accessFlags := 10, nameIndex := 345, descriptorIndex := 346, attributes := #[] }, { accessFlags := 9, nameIndex := 139, descriptorIndex := 342, attributes := #[] }, { accessFlags := 10, nameIndex := 341, descriptorIndex := 342, attributes := #[] }] 49 2 #[] #[{ accessFlags := 26, nameIndex := 715, descriptorIndex := 716, attributes := #[] }, { accessFlags := 26, nameIndex := 719, descriptorIndex := 716, attributes := #[] }, { accessFlags := 4120, nameIndex := 445, descriptorIndex := 117, attributes := #[] }])
  fields := #[{ name := "MIN_ARRAY_SORT_GRAN", type := .int, accessFlags := 26, slot := 0, constantValue := 0 }, { name := "INSERTIONSORT_THRESHOLD", type := .int, accessFlags := 26, slot := 1, constantValue := 0 }, { name := "$assertionsDisabled", type := .boolean, accessFlags := 4120, slot := 2, constantValue := 0 }]
  methods := #[k13m0, k13m1, k13m2, k13m3]
  instanceTypes := #[]
  staticTypes := #[.int, .int, .boolean]
  resolved := Array.replicate 1029 none
  statics := none }

def pool14 : Array CpInfo := pool [(2, .class_ 4), (1, u "java/lang/Object"), (0, u "<init>"), (0, u "()V"), (1, .class_ 10), (1, u "java/lang/System"), (0, u "allowSecurityManager"), (0, u "I"), (16, u "cons"), (0, u "Ljava/io/Console;"), (77, .class_ 110), (1, u "java/lang/System$CallersHolder"), (43, u "initialErrStream"), (0, u "Ljava/io/PrintStream;"), (19, u "security"), (0, u "Ljava/lang/SecurityManager;"), (31, .class_ 209), (0, u "java/lang/System$1"), (7, u "props"), (0, u "Ljava/util/Properties;"), (2, u "lineSeparator"), (0, u "Ljava/lang/String;"), (96, .class_ 321), (1, u "java/lang/System$LoggerFinder"), (5, .class_ 328), (0, u "java/lang/System$Logger"), (67, u "err"), (2, u "out"), (91, u "notSupportedJnuEncoding"), (15, u "in"), (17, u "initialIn"), (0, u "Ljava/io/InputStream;"), (35, u "bootLayer"), (0, u "Ljava/lang/ModuleLayer;"), (99, .class_ 664), (0, u "java/lang/System$2"), (9, u "NEVER"), (2, u "MAYBE"), (49, u "arraycopy"), (0, u "(Ljava/lang/Object;ILjava/lang/Object;II)V"), (72, .class_ 802), (0, u "java/lang/System$Logger$Level")] 31

def k14m0 : Method := { name := "<init>", desc := "()V", sig := { parameters := [], returnType := none }, accessFlags := 2, code := none }
def k14m1 : Method := { name := "arraycopy", desc := "(Ljava/lang/Object;ILjava/lang/Object;II)V", sig := { parameters := [(.object "java/lang/Object"), .int, (.object "java/lang/Object"), .int, .int], returnType := none }, accessFlags := 265, code := none }
/-- java/lang/System -/
def k14 : Class := { plain "java/lang/System" (some 0) with
  accessFlags := 49
  interfaces := #[]
  cf := some (fileOf pool14 8 #[.nestMembers #[319, 327, 801, 108, 663, 208]] #[{ accessFlags := 2, nameIndex := 5, descriptorIndex := 6, attributes := #[] }, { accessFlags := 265, nameIndex := 727, descriptorIndex := 728, attributes := #[] }] 49 2 #[] #[{ accessFlags := 25, nameIndex := 507, descriptorIndex := 526, attributes := #[] }, { accessFlags := 25, nameIndex := 399, descriptorIndex := 155, attributes := #[] }, { accessFlags := 25, nameIndex := 396, descriptorIndex := 155, attributes := #[] }, { accessFlags := 10, nameIndex := 525, descriptorIndex := 526, attributes := #[] }, { accessFlags := 26, nameIndex := 674, descriptorIndex := 12, attributes := #[] }, { accessFlags := 26, nameIndex := 677, descriptorIndex := 12, attributes := #[] }, { accessFlags := 10, nameIndex := 11, descriptorIndex := 12, attributes := #[] }, { accessFlags := 74, nameIndex := 175, descriptorIndex := 176, attributes := #[] }, { accessFlags := 10, nameIndex := 491, descriptorIndex := 222, attributes := #[] }, { accessFlags := 74, nameIndex := 29, descriptorIndex := 30, attributes := #[] }, { accessFlags := 74, nameIndex := 154, descriptorIndex := 155, attributes := #[] }, { accessFlags := 10, nameIndex := 217, descriptorIndex := 218, attributes := #[] }, { accessFlags := 10, nameIndex := 221, descriptorIndex := 222, attributes := #[] }, { accessFlags := 8, nameIndex := 562, descriptorIndex := 563, attributes := #[] }])
  fields := #[{ name := "in", type := (.object "java/io/InputStream"), accessFlags := 25, slot := 0, constantValue := 0 }, { name := "out", type := (.object "java/io/PrintStream"), accessFlags := 25, slot := 1, constantValue := 0 }, { name := "err", type := (.object "java/io/PrintStream"), accessFlags := 25, slot := 2, constantValue := 0 }, { name := "initialIn", type := (.object "java/io/InputStream"), accessFlags := 10, slot := 3, constantValue := 0 }, { name := "NEVER", type := .int, accessFlags := 26, slot := 4, constantValue := 0 }, { name := "MAYBE", type := .int, accessFlags := 26, slot := 5, constantValue := 0 }, { name := "allowSecurityManager", type := .int, accessFlags := 10, slot := 6, constantValue := 0 }, { name := "security", type := (.object "java/lang/SecurityManager"), accessFlags := 74, slot := 7, constantValue := 0 }, { name := "notSupportedJnuEncoding", type := (.object "java/lang/String"), accessFlags := 10, slot := 8, constantValue := 0 }, { name := "cons", type := (.object "java/io/Console"), accessFlags := 74, slot := 9, constantValue := 0 }, { name := "initialErrStream", type := (.object "java/io/PrintStream"), accessFlags := 74, slot := 10, constantValue := 0 }, { name := "props", type := (.object "java/util/Properties"), accessFlags := 10, slot := 11, constantValue := 0 }, { name := "lineSeparator", type := (.object "java/lang/String"), accessFlags := 10, slot := 12, constantValue := 0 }, { name := "bootLayer", type := (.object "java/lang/ModuleLayer"), accessFlags := 8, slot := 13, constantValue := 0 }]
  methods := #[k14m0, k14m1]
  instanceTypes := #[]
  staticTypes := #[(.object "java/io/InputStream"), (.object "java/io/PrintStream"), (.object "java/io/PrintStream"), (.object "java/io/InputStream"), .int, .int, .int, (.object "java/lang/SecurityManager"), (.object "java/lang/String"), (.object "java/io/Console"), (.object "java/io/PrintStream"), (.object "java/util/Properties"), (.object "java/lang/String"), (.object "java/lang/ModuleLayer")]
  resolved := Array.replicate 834 none
  statics := none }

def pool15 : Array CpInfo := pool [(9, u "<init>"), (6, .class_ 18), (1, u "java/lang/Object"), (0, u "()V"), (1, .class_ 23), (1, u "jdk/internal/util/ArraysSupport"), (0, u "LOG2_ARRAY_LONG_INDEX_SCALE"), (0, u "I"), (2, u "U"), (0, u "Ljdk/internal/misc/Unsafe;"), (8, u "BIG_ENDIAN"), (0, u "Z"), (8, u "LOG2_BYTE_BIT_SIZE"), (4, u "LOG2_ARRAY_INT_INDEX_SCALE"), (54, u "JLA"), (0, u "Ljdk/internal/access/JavaLangAccess;"), (11, u "LOG2_ARRAY_BOOLEAN_INDEX_SCALE"), (9, u "LOG2_ARRAY_BYTE_INDEX_SCALE"), (5, u "LOG2_ARRAY_CHAR_INDEX_SCALE"), (5, u "LOG2_ARRAY_SHORT_INDEX_SCALE"), (18, u "LOG2_ARRAY_FLOAT_INDEX_SCALE"), (24, u "LOG2_ARRAY_DOUBLE_INDEX_SCALE"), (89, u "T_BOOLEAN"), (2, u "T_CHAR"), (1, u "T_FLOAT"), (1, u "T_DOUBLE"), (1, u "T_BYTE"), (1, u "T_SHORT"), (1, u "T_INT"), (1, u "T_LONG"), (1, u "SOFT_MAX_ARRAY_LENGTH")] 83

def k15m0 : Method := { name := "<init>", desc := "()V", sig := { parameters := [], returnType := none }, accessFlags := 2, code := none }
/-- jdk/internal/util/ArraysSupport -/
def k15 : Class := { plain "jdk/internal/util/ArraysSupport" (some 0) with
  accessFlags := 33
  interfaces := #[]
  cf := some (fileOf pool15 21 #[] #[{ accessFlags := 2, nameIndex := 9, descriptorIndex := 19, attributes := #[] }] 33 16 #[] #[{ accessFlags := 24, nameIndex := 28, descriptorIndex := 29, attributes := #[] }, { accessFlags := 26, nameIndex := 38, descriptorIndex := 39, attributes := #[] }, { accessFlags := 25, nameIndex := 121, descriptorIndex := 25, attributes := #[] }, { accessFlags := 25, nameIndex := 131, descriptorIndex := 25, attributes := #[] }, { accessFlags := 25, nameIndex := 137, descriptorIndex := 25, attributes := #[] }, { accessFlags := 25, nameIndex := 143, descriptorIndex := 25, attributes := #[] }, { accessFlags := 25, nameIndex := 53, descriptorIndex := 25, attributes := #[] }, { accessFlags := 25, nameIndex := 24, descriptorIndex := 25, attributes := #[] }, { accessFlags := 25, nameIndex := 162, descriptorIndex := 25, attributes := #[] }, { accessFlags := 25, nameIndex := 187, descriptorIndex := 25, attributes := #[] }, { accessFlags := 26, nameIndex := 48, descriptorIndex := 25, attributes := #[] }, { accessFlags := 25, nameIndex := 277, descriptorIndex := 25, attributes := #[] }, { accessFlags := 25, nameIndex := 280, descriptorIndex := 25, attributes := #[] }, { accessFlags := 25, nameIndex := 282, descriptorIndex := 25, attributes := #[] }, { accessFlags := 25, nameIndex := 284, descriptorIndex := 25, attributes := #[] }, { accessFlags := 25, nameIndex := 286, descriptorIndex := 25, attributes := #[] }, { accessFlags := 25, nameIndex := 288, descriptorIndex := 25, attributes := #[] }, { accessFlags := 25, nameIndex := 290, descriptorIndex := 25, attributes := #[] }, { accessFlags := 25, nameIndex := 292, descriptorIndex := 25, attributes := #[] }, { accessFlags := 26, nameIndex := 108, descriptorIndex := 109, attributes := #[] }, { accessFlags := 25, nameIndex := 294, descriptorIndex := 25, attributes := #[] }])
  fields := #[{ name := "U", type := (.object "jdk/internal/misc/Unsafe"), accessFlags := 24, slot := 0, constantValue := 0 }, { name := "BIG_ENDIAN", type := .boolean, accessFlags := 26, slot := 1, constantValue := 0 }, { name := "LOG2_ARRAY_BOOLEAN_INDEX_SCALE", type := .int, accessFlags := 25, slot := 2, constantValue := 0 }, { name := "LOG2_ARRAY_BYTE_INDEX_SCALE", type := .int, accessFlags := 25, slot := 3, constantValue := 0 }, { name := "LOG2_ARRAY_CHAR_INDEX_SCALE", type := .int, accessFlags := 25, slot := 4, constantValue := 0 }, { name := "LOG2_ARRAY_SHORT_INDEX_SCALE", type := .int, accessFlags := 25, slot := 5, constantValue := 0 }, { name := "LOG2_ARRAY_INT_INDEX_SCALE", type := .int, accessFlags := 25, slot := 6, constantValue := 0 }, { name := "LOG2_ARRAY_LONG_INDEX_SCALE", type := .int, accessFlags := 25, slot := 7, constantValue := 0 }, { name := "LOG2_ARRAY_FLOAT_INDEX_SCALE", type := .int, accessFlags := 25, slot := 8, constantValue := 0 }, { name := "LOG2_ARRAY_DOUBLE_INDEX_SCALE", type := .int, accessFlags := 25, slot := 9, constantValue := 0 }, { name := "LOG2_BYTE_BIT_SIZE", type := .int, accessFlags := 26, slot := 10, constantValue := 0 }, { name := "T_BOOLEAN", type := .int, accessFlags := 25, slot := 11, constantValue := 0 }, { name := "T_CHAR", type := .int, accessFlags := 25, slot := 12, constantValue := 0 }, { name := "T_FLOAT", type := .int, accessFlags := 25, slot := 13, constantValue := 0 }, { name := "T_DOUBLE", type := .int, accessFlags := 25, slot := 14, constantValue := 0 }, { name := "T_BYTE", type := .int, accessFlags := 25, slot := 15, constantValue := 0 }, { name := "T_SHORT", type := .int, accessFlags := 25, slot := 16, constantValue := 0 }, { name := "T_INT", type := .int, accessFlags := 25, slot := 17, constantValue := 0 }, { name := "T_LONG", type := .int, accessFlags := 25, slot := 18, constantValue := 0 }, { name := "JLA", type := (.object "jdk/internal/access/JavaLangAccess"), accessFlags := 26, slot := 19, constantValue := 0 }, { name := "SOFT_MAX_ARRAY_LENGTH", type := .int, accessFlags := 25, slot := 20, constantValue := 0 }]
  methods := #[k15m0]
  instanceTypes := #[]
  staticTypes := #[(.object "jdk/internal/misc/Unsafe"), .boolean, .int, .int, .int, .int, .int, .int, .int, .int, .int, .int, .int, .int, .int, .int, .int, .int, .int, (.object "jdk/internal/access/JavaLangAccess"), .int]
  resolved := Array.replicate 378 none
  statics := none }

def pool16 : Array CpInfo := pool [(1, u "java/lang/Cloneable"), (0, .class_ 1), (0, u "java/lang/Object"), (0, .class_ 3)] 3

/-- java/lang/Cloneable -/
def k16 : Class := { plain "java/lang/Cloneable" (some 0) with
  accessFlags := 1537
  interfaces := #[]
  cf := some (fileOf pool16 2 #[] #[] 1537 4 #[] #[])
  fields := #[]
  methods := #[]
  instanceTypes := #[]
  staticTypes := #[]
  resolved := Array.replicate 8 none
  statics := none }

/-- the primitive byte -/
def k17 : Class := { plain "byte" none with kind := .primitive 'B', accessFlags := 0x411 }
/-- [B -/
def k18 : Class := { plain "[B" (some 0) with kind := .array 17 .byte, interfaces := #[16, 2], accessFlags := 1041 }

/-- the primitive char -/
def k19 : Class := { plain "char" none with kind := .primitive 'C', accessFlags := 0x411 }
/-- [C -/
def k20 : Class := { plain "[C" (some 0) with kind := .array 19 .char, interfaces := #[16, 2], accessFlags := 1041 }

/-- the primitive int -/
def k21 : Class := { plain "int" none with kind := .primitive 'I', accessFlags := 0x411 }
/-- [I -/
def k22 : Class := { plain "[I" (some 0) with kind := .array 21 .int, interfaces := #[16, 2], accessFlags := 1041 }

def heap : Heap := #[{ cls := 7, slots := #[.long 0, .int 1, .null, .int 0, .null, .int 0, .int 0], vm := .statics 7 },
  { cls := 11, slots := #[.null, .null, .null], vm := .statics 11 }]
def classes : Array Class := #[k0, k1, k2, k3, k4, k5, k6, k7, k8, k9, k10, k11, k12, k13, k14, k15, k16, k17, k18, k19, k20, k21, k22]
def interned : List (Array UInt16 × Addr) := []
def slotsUsed : Nat := 10
def theMethod : MethodId := ⟨1, 1⟩
def args0 : Array Value := #[.int 5, .int 5, .int 5, .int 5, .int 5]
def aboutOver (below : List Frame) : State where
  vm := { classes := classes, interned := interned.toArray }
  heap := heap
  slotsUsed := slotsUsed
  threads := #[{ frames := .invoking theMethod args0 :: below }]
def below0 : List Frame := [.native { method := ⟨0, 0⟩, args := #[] }]
def about1 : State := aboutOver below0
def p0 : Program := .bare "" "" ""
def e0 : Env := launch0.env 0 0 0
theorem w_frames : about1.frames = Frame.invoking theMethod args0 :: below0 := rfl
set_option maxRecDepth 65536 in
theorem w_args : argsFit about1.vm theMethod args0 = true := by decide +kernel
set_option maxRecDepth 65536 in
theorem w_heap : heapFits about1 = true := by decide +kernel
set_option maxRecDepth 65536 in
theorem w_runnable : about1.curStatus? = some .runnable := by decide +kernel
set_option maxRecDepth 65536 in
theorem w_alone : about1.alone = true := by decide +kernel
set_option maxRecDepth 65536 in
theorem w_named : about1.methodNamed? x = some theMethod := by decide +kernel
set_option maxRecDepth 65536 in
theorem w_hears : about1.hears theMethod below0 = true := by decide +kernel
set_option maxRecDepth 65536 in
theorem w_ripe : about1.ripe theMethod args0 below0 = true := by decide +kernel
theorem w_running : about1.status = .running := rfl
set_option maxRecDepth 65536 in
theorem w_room : about1.hasRoom e0.platform room_1 = true :=
  launch0.hasRoom_least _ room_1 (by decide +kernel) (by decide +kernel) (by decide +kernel) (by decide +kernel) (by decide +kernel) (by decide +kernel)
theorem allAtoms_all (ts : List Jvm.Cond) (a : Array Jvm.Value) (st : Jvm.State) : (allAtoms ts).before a st = ts.all (fun c => c.before a st) := by
  induction ts with
  | nil => rfl
  | cons c t ih =>
    show (Jvm.Cond.and c (allAtoms t)).before a st = _
    rw [Jvm.Cond.before_and, ih, List.all_cons]
def words1 : List Jvm.Cond := Jvm.Cond.code x code maxLocals ret :: tables_1
/-- a 'code' word, met by the world's own term for the bytes: nothing is compared byte by byte -/
theorem code_word {y : MethodName} {bytes : ByteArray} {mx : Nat} {rt : Option FieldType} {a : Array Value} {s : State} {m : MethodId} {meth : Method} {c : Code} (h1 : s.methodNamed? y = some m) (h2 : s.vm.method? m = some meth) (h3 : meth.code = some c) (h4 : c.code = bytes)
    (h5 : (c.maxLocals == mx && c.exceptionTable.isEmpty && decide (c.maxStack ≤ mostOperands) && decide (meth.sig.returnType = rt) && !meth.locks && decide (parseMethodDescriptor y.desc = some meth.sig)) = true) : (Jvm.Cond.code y bytes mx rt).before a s = true := by
  simp only [Bool.and_eq_true, beq_iff_eq, Bool.not_eq_true', decide_eq_true_eq] at h5
  obtain ⟨⟨⟨⟨⟨g1, g2⟩, g3⟩, g4⟩, g5⟩, g6⟩ := h5
  simp [Cond.before, Cond.holds, Cond.value, h1, h2, h3, h4, g1, g2, g3, g4, g5, g6]
def isCode : Jvm.Cond → Bool
  | .code _ _ _ _ => true
  | _ => false
theorem all_split {L : List Jvm.Cond} {P : Jvm.Cond → Bool} (h1 : L.all (fun c => isCode c || P c) = true) (h2 : ∀ c ∈ L.filter isCode, P c = true) : L.all P = true := by
  refine List.all_eq_true.mpr fun c hc => ?_
  have h := List.all_eq_true.mp h1 c hc
  rcases Bool.eq_false_or_eq_true (isCode c) with hi | hi
  · exact h2 c (List.mem_filter.mpr ⟨hc, hi⟩)
  · simpa [hi] using h
set_option maxRecDepth 65536 in
theorem w_c0 : (Jvm.Cond.code x code maxLocals ret).before args0 about1 = true := code_word (m := ⟨1, 1⟩) (meth := k1m1) (c := k1c1) (by decide +kernel) rfl rfl rfl (by decide +kernel)
set_option maxRecDepth 65536 in
theorem w_c1 : (Jvm.Cond.code ({ cls := "com/example/faultscope/faultscope/bpmn/BpmnDocumentLocalPartPinLaw", name := "ch", desc := "(I)C" } : Jvm.MethodName) method_3_code (1 : Nat) (Option.some Jvm.ClassFile.FieldType.char)).before args0 about1 = true := code_word (m := ⟨1, 2⟩) (meth := k1m2) (c := k1c2) (by decide +kernel) rfl rfl rfl (by decide +kernel)
set_option maxRecDepth 65536 in
theorem w_c2 : (Jvm.Cond.code ({ cls := "com/example/faultscope/faultscope/bpmn/BpmnDocumentLocalPartPinLaw", name := "make", desc := "(I[C)Ljava/lang/String;" } : Jvm.MethodName) method_4_code (2 : Nat) (Option.some (Jvm.ClassFile.FieldType.object "java/lang/String"))).before args0 about1 = true := code_word (m := ⟨1, 3⟩) (meth := k1m3) (c := k1c3) (by decide +kernel) rfl rfl rfl (by decide +kernel)
set_option maxRecDepth 65536 in
theorem w_c3 : (Jvm.Cond.code ({ cls := "java/lang/String", name := "<init>", desc := "([C)V" } : Jvm.MethodName) jdk_42_method_3_code (2 : Nat) (Option.none : Option Jvm.ClassFile.FieldType)).before args0 about1 = true := code_word (m := ⟨7, 1⟩) (meth := k7m1) (c := k7c1) (by decide +kernel) rfl rfl rfl (by decide +kernel)
set_option maxRecDepth 65536 in
theorem w_c4 : (Jvm.Cond.code ({ cls := "java/lang/String", name := "<init>", desc := "([CIILjava/lang/Void;)V" } : Jvm.MethodName) jdk_42_method_149_code (6 : Nat) (Option.none : Option Jvm.ClassFile.FieldType)).before args0 about1 = true := code_word (m := ⟨7, 8⟩) (meth := k7m8) (c := k7c8) (by decide +kernel) rfl rfl rfl (by decide +kernel)
set_option maxRecDepth 65536 in
theorem w_c5 : (Jvm.Cond.code ({ cls := "java/lang/Object", name := "<init>", desc := "()V" } : Jvm.MethodName) object_method_1_code (1 : Nat) (Option.none : Option Jvm.ClassFile.FieldType)).before args0 about1 = true := code_word (m := ⟨0, 0⟩) (meth := k0m0) (c := k0c0) (by decide +kernel) rfl rfl rfl (by decide +kernel)
set_option maxRecDepth 65536 in
theorem w_c6 : (Jvm.Cond.code ({ cls := "com/example/faultscope/faultscope/bpmn/BpmnDocument", name := "localPart", desc := "(Ljava/lang/String;)Ljava/lang/String;" } : Jvm.MethodName) prog_13_method_17_code (1 : Nat) (Option.some (Jvm.ClassFile.FieldType.object "java/lang/String"))).before args0 about1 = true := code_word (m := ⟨8, 0⟩) (meth := k8m0) (c := k8c0) (by decide +kernel) rfl rfl rfl (by decide +kernel)
set_option maxRecDepth 65536 in
theorem w_c7 : (Jvm.Cond.code ({ cls := "java/lang/String", name := "lastIndexOf", desc := "(I)I" } : Jvm.MethodName) jdk_42_method_82_code (2 : Nat) (Option.some Jvm.ClassFile.FieldType.int)).before args0 about1 = true := code_word (m := ⟨7, 4⟩) (meth := k7m4) (c := k7c4) (by decide +kernel) rfl rfl rfl (by decide +kernel)
set_option maxRecDepth 65536 in
theorem w_c8 : (Jvm.Cond.code ({ cls := "java/lang/String", name := "length", desc := "()I" } : Jvm.MethodName) jdk_42_method_54_code (1 : Nat) (Option.some Jvm.ClassFile.FieldType.int)).before args0 about1 = true := code_word (m := ⟨7, 2⟩) (meth := k7m2) (c := k7c2) (by decide +kernel) rfl rfl rfl (by decide +kernel)
set_option maxRecDepth 65536 in
theorem w_c9 : (Jvm.Cond.code ({ cls := "java/lang/String", name := "coder", desc := "()B" } : Jvm.MethodName) jdk_42_method_152_code (1 : Nat) (Option.some Jvm.ClassFile.FieldType.byte)).before args0 about1 = true := code_word (m := ⟨7, 10⟩) (meth := k7m10) (c := k7c10) (by decide +kernel) rfl rfl rfl (by decide +kernel)
set_option maxRecDepth 65536 in
theorem w_c10 : (Jvm.Cond.code ({ cls := "java/lang/String", name := "lastIndexOf", desc := "(II)I" } : Jvm.MethodName) jdk_42_method_83_code (3 : Nat) (Option.some Jvm.ClassFile.FieldType.int)).before args0 about1 = true := code_word (m := ⟨7, 5⟩) (meth := k7m5) (c := k7c5) (by decide +kernel) rfl rfl rfl (by decide +kernel)
set_option maxRecDepth 65536 in
theorem w_c11 : (Jvm.Cond.code ({ cls := "java/lang/String", name := "isLatin1", desc := "()Z" } : Jvm.MethodName) jdk_42_method_154_code (1 : Nat) (Option.some Jvm.ClassFile.FieldType.boolean)).before args0 about1 = true := code_word (m := ⟨7, 11⟩) (meth := k7m11) (c := k7c11) (by decide +kernel) rfl rfl rfl (by decide +kernel)
set_option maxRecDepth 65536 in
theorem w_c12 : (Jvm.Cond.code ({ cls := "java/lang/StringLatin1", name := "lastIndexOf", desc := "([BII)I" } : Jvm.MethodName) jdk_43_method_27_code (4 : Nat) (Option.some Jvm.ClassFile.FieldType.int)).before args0 about1 = true := code_word (m := ⟨9, 3⟩) (meth := k9m3) (c := k9c3) (by decide +kernel) rfl rfl rfl (by decide +kernel)
set_option maxRecDepth 65536 in
theorem w_c13 : (Jvm.Cond.code ({ cls := "java/lang/StringLatin1", name := "canEncode", desc := "(I)Z" } : Jvm.MethodName) jdk_43_method_4_code (1 : Nat) (Option.some Jvm.ClassFile.FieldType.boolean)).before args0 about1 = true := code_word (m := ⟨9, 2⟩) (meth := k9m2) (c := k9c2) (by decide +kernel) rfl rfl rfl (by decide +kernel)
set_option maxRecDepth 65536 in
theorem w_c14 : (Jvm.Cond.code ({ cls := "java/lang/Math", name := "min", desc := "(II)I" } : Jvm.MethodName) jdk_29_method_69_code (2 : Nat) (Option.some Jvm.ClassFile.FieldType.int)).before args0 about1 = true := code_word (m := ⟨10, 1⟩) (meth := k10m1) (c := k10c1) (by decide +kernel) rfl rfl rfl (by decide +kernel)
set_option maxRecDepth 65536 in
theorem w_c15 : (Jvm.Cond.code ({ cls := "java/lang/String", name := "substring", desc := "(I)Ljava/lang/String;" } : Jvm.MethodName) jdk_42_method_91_code (2 : Nat) (Option.some (Jvm.ClassFile.FieldType.object "java/lang/String"))).before args0 about1 = true := code_word (m := ⟨7, 6⟩) (meth := k7m6) (c := k7c6) (by decide +kernel) rfl rfl rfl (by decide +kernel)
set_option maxRecDepth 65536 in
theorem w_c16 : (Jvm.Cond.code ({ cls := "java/lang/String", name := "substring", desc := "(II)Ljava/lang/String;" } : Jvm.MethodName) jdk_42_method_92_code (5 : Nat) (Option.some (Jvm.ClassFile.FieldType.object "java/lang/String"))).before args0 about1 = true := code_word (m := ⟨7, 7⟩) (meth := k7m7) (c := k7c7) (by decide +kernel) rfl rfl rfl (by decide +kernel)
set_option maxRecDepth 65536 in
theorem w_c17 : (Jvm.Cond.code ({ cls := "java/lang/String", name := "checkBoundsBeginEnd", desc := "(III)V" } : Jvm.MethodName) jdk_42_method_158_code (3 : Nat) (Option.none : Option Jvm.ClassFile.FieldType)).before args0 about1 = true := code_word (m := ⟨7, 13⟩) (meth := k7m13) (c := k7c13) (by decide +kernel) rfl rfl rfl (by decide +kernel)
set_option maxRecDepth 65536 in
theorem w_c18 : (Jvm.Cond.code ({ cls := "jdk/internal/util/Preconditions", name := "checkFromToIndex", desc := "(IIILjava/util/function/BiFunction;)I" } : Jvm.MethodName) jdk_41_method_12_code (4 : Nat) (Option.some Jvm.ClassFile.FieldType.int)).before args0 about1 = true := code_word (m := ⟨11, 2⟩) (meth := k11m2) (c := k11c2) (by decide +kernel) rfl rfl rfl (by decide +kernel)
set_option maxRecDepth 65536 in
theorem w_c19 : (Jvm.Cond.code ({ cls := "java/lang/StringUTF16", name := "compress", desc := "([CII)[B" } : Jvm.MethodName) jdk_52_method_16_code (6 : Nat) (Option.some (Jvm.ClassFile.FieldType.array Jvm.ClassFile.FieldType.byte))).before args0 about1 = true := code_word (m := ⟨12, 2⟩) (meth := k12m2) (c := k12c2) (by decide +kernel) rfl rfl rfl (by decide +kernel)
set_option maxRecDepth 65536 in
theorem w_c20 : (Jvm.Cond.code ({ cls := "java/lang/StringUTF16", name := "compress", desc := "([CI[BII)I" } : Jvm.MethodName) jdk_52_method_21_code (7 : Nat) (Option.some Jvm.ClassFile.FieldType.int)).before args0 about1 = true := code_word (m := ⟨12, 3⟩) (meth := k12m3) (c := k12c3) (by decide +kernel) rfl rfl rfl (by decide +kernel)
set_option maxRecDepth 65536 in
theorem w_c21 : (Jvm.Cond.code ({ cls := "java/lang/StringUTF16", name := "coderFromArrayLen", desc := "([BI)B" } : Jvm.MethodName) jdk_52_method_15_code (2 : Nat) (Option.some Jvm.ClassFile.FieldType.byte)).before args0 about1 = true := code_word (m := ⟨12, 1⟩) (meth := k12m1) (c := k12c1) (by decide +kernel) rfl rfl rfl (by decide +kernel)
set_option maxRecDepth 65536 in
theorem w_c22 : (Jvm.Cond.code ({ cls := "java/lang/String", name := "charAt", desc := "(I)C" } : Jvm.MethodName) jdk_42_method_56_code (2 : Nat) (Option.some Jvm.ClassFile.FieldType.char)).before args0 about1 = true := code_word (m := ⟨7, 3⟩) (meth := k7m3) (c := k7c3) (by decide +kernel) rfl rfl rfl (by decide +kernel)
set_option maxRecDepth 65536 in
theorem w_c23 : (Jvm.Cond.code ({ cls := "java/lang/StringLatin1", name := "charAt", desc := "([BI)C" } : Jvm.MethodName) jdk_43_method_2_code (2 : Nat) (Option.some Jvm.ClassFile.FieldType.char)).before args0 about1 = true := code_word (m := ⟨9, 1⟩) (meth := k9m1) (c := k9c1) (by decide +kernel) rfl rfl rfl (by decide +kernel)
set_option maxRecDepth 65536 in
theorem w_c24 : (Jvm.Cond.code ({ cls := "java/lang/String", name := "checkIndex", desc := "(II)V" } : Jvm.MethodName) jdk_42_method_155_code (2 : Nat) (Option.none : Option Jvm.ClassFile.FieldType)).before args0 about1 = true := code_word (m := ⟨7, 12⟩) (meth := k7m12) (c := k7c12) (by decide +kernel) rfl rfl rfl (by decide +kernel)
set_option maxRecDepth 65536 in
theorem w_c25 : (Jvm.Cond.code ({ cls := "jdk/internal/util/Preconditions", name := "checkIndex", desc := "(IILjava/util/function/BiFunction;)I" } : Jvm.MethodName) jdk_41_method_11_code (3 : Nat) (Option.some Jvm.ClassFile.FieldType.int)).before args0 about1 = true := code_word (m := ⟨11, 1⟩) (meth := k11m1) (c := k11c1) (by decide +kernel) rfl rfl rfl (by decide +kernel)
set_option maxRecDepth 65536 in
theorem w_c26 : (Jvm.Cond.code ({ cls := "java/lang/StringLatin1", name := "newString", desc := "([BII)Ljava/lang/String;" } : Jvm.MethodName) jdk_43_method_47_code (3 : Nat) (Option.some (Jvm.ClassFile.FieldType.object "java/lang/String"))).before args0 about1 = true := code_word (m := ⟨9, 4⟩) (meth := k9m4) (c := k9c4) (by decide +kernel) rfl rfl rfl (by decide +kernel)
set_option maxRecDepth 65536 in
theorem w_c27 : (Jvm.Cond.code ({ cls := "java/util/Arrays", name := "copyOfRange", desc := "([BII)[B" } : Jvm.MethodName) jdk_65_method_132_code (3 : Nat) (Option.some (Jvm.ClassFile.FieldType.array Jvm.ClassFile.FieldType.byte))).before args0 about1 = true := code_word (m := ⟨13, 2⟩) (meth := k13m2) (c := k13c2) (by decide +kernel) rfl rfl rfl (by decide +kernel)
set_option maxRecDepth 65536 in
theorem w_c28 : (Jvm.Cond.code ({ cls := "java/util/Arrays", name := "copyOfRangeByte", desc := "([BII)[B" } : Jvm.MethodName) jdk_65_method_133_code (5 : Nat) (Option.some (Jvm.ClassFile.FieldType.array Jvm.ClassFile.FieldType.byte))).before args0 about1 = true := code_word (m := ⟨13, 3⟩) (meth := k13m3) (c := k13c3) (by decide +kernel) rfl rfl rfl (by decide +kernel)
set_option maxRecDepth 65536 in
theorem w_c29 : (Jvm.Cond.code ({ cls := "java/util/Arrays", name := "checkLength", desc := "(II)V" } : Jvm.MethodName) jdk_65_method_131_code (2 : Nat) (Option.none : Option Jvm.ClassFile.FieldType)).before args0 about1 = true := code_word (m := ⟨13, 1⟩) (meth := k13m1) (c := k13c1) (by decide +kernel) rfl rfl rfl (by decide +kernel)
set_option maxRecDepth 65536 in
theorem w_c30 : (Jvm.Cond.code ({ cls := "java/lang/String", name := "<init>", desc := "([BB)V" } : Jvm.MethodName) jdk_42_method_151_code (3 : Nat) (Option.none : Option Jvm.ClassFile.FieldType)).before args0 about1 = true := code_word (m := ⟨7, 9⟩) (meth := k7m9) (c := k7c9) (by decide +kernel) rfl rfl rfl (by decide +kernel)
def codes1 : List Jvm.Cond := [Jvm.Cond.code x code maxLocals ret, Jvm.Cond.code ({ cls := "com/example/faultscope/faultscope/bpmn/BpmnDocumentLocalPartPinLaw", name := "ch", desc := "(I)C" } : Jvm.MethodName) method_3_code (1 : Nat) (Option.some Jvm.ClassFile.FieldType.char), Jvm.Cond.code ({ cls := "com/example/faultscope/faultscope/bpmn/BpmnDocumentLocalPartPinLaw", name := "make", desc := "(I[C)Ljava/lang/String;" } : Jvm.MethodName) method_4_code (2 : Nat) (Option.some (Jvm.ClassFile.FieldType.object "java/lang/String")), Jvm.Cond.code ({ cls := "java/lang/String", name := "<init>", desc := "([C)V" } : Jvm.MethodName) jdk_42_method_3_code (2 : Nat) (Option.none : Option Jvm.ClassFile.FieldType), Jvm.Cond.code ({ cls := "java/lang/String", name := "<init>", desc := "([CIILjava/lang/Void;)V" } : Jvm.MethodName) jdk_42_method_149_code (6 : Nat) (Option.none : Option Jvm.ClassFile.FieldType), Jvm.Cond.code ({ cls := "java/lang/Object", name := "<init>", desc := "()V" } : Jvm.MethodName) object_method_1_code (1 : Nat) (Option.none : Option Jvm.ClassFile.FieldType), Jvm.Cond.code ({ cls := "com/example/faultscope/faultscope/bpmn/BpmnDocument", name := "localPart", desc := "(Ljava/lang/String;)Ljava/lang/String;" } : Jvm.MethodName) prog_13_method_17_code (1 : Nat) (Option.some (Jvm.ClassFile.FieldType.object "java/lang/String")), Jvm.Cond.code ({ cls := "java/lang/String", name := "lastIndexOf", desc := "(I)I" } : Jvm.MethodName) jdk_42_method_82_code (2 : Nat) (Option.some Jvm.ClassFile.FieldType.int), Jvm.Cond.code ({ cls := "java/lang/String", name := "length", desc := "()I" } : Jvm.MethodName) jdk_42_method_54_code (1 : Nat) (Option.some Jvm.ClassFile.FieldType.int), Jvm.Cond.code ({ cls := "java/lang/String", name := "coder", desc := "()B" } : Jvm.MethodName) jdk_42_method_152_code (1 : Nat) (Option.some Jvm.ClassFile.FieldType.byte), Jvm.Cond.code ({ cls := "java/lang/String", name := "lastIndexOf", desc := "(II)I" } : Jvm.MethodName) jdk_42_method_83_code (3 : Nat) (Option.some Jvm.ClassFile.FieldType.int), Jvm.Cond.code ({ cls := "java/lang/String", name := "isLatin1", desc := "()Z" } : Jvm.MethodName) jdk_42_method_154_code (1 : Nat) (Option.some Jvm.ClassFile.FieldType.boolean), Jvm.Cond.code ({ cls := "java/lang/StringLatin1", name := "lastIndexOf", desc := "([BII)I" } : Jvm.MethodName) jdk_43_method_27_code (4 : Nat) (Option.some Jvm.ClassFile.FieldType.int), Jvm.Cond.code ({ cls := "java/lang/StringLatin1", name := "canEncode", desc := "(I)Z" } : Jvm.MethodName) jdk_43_method_4_code (1 : Nat) (Option.some Jvm.ClassFile.FieldType.boolean), Jvm.Cond.code ({ cls := "java/lang/Math", name := "min", desc := "(II)I" } : Jvm.MethodName) jdk_29_method_69_code (2 : Nat) (Option.some Jvm.ClassFile.FieldType.int), Jvm.Cond.code ({ cls := "java/lang/String", name := "substring", desc := "(I)Ljava/lang/String;" } : Jvm.MethodName) jdk_42_method_91_code (2 : Nat) (Option.some (Jvm.ClassFile.FieldType.object "java/lang/String")), Jvm.Cond.code ({ cls := "java/lang/String", name := "substring", desc := "(II)Ljava/lang/String;" } : Jvm.MethodName) jdk_42_method_92_code (5 : Nat) (Option.some (Jvm.ClassFile.FieldType.object "java/lang/String")), Jvm.Cond.code ({ cls := "java/lang/String", name := "checkBoundsBeginEnd", desc := "(III)V" } : Jvm.MethodName) jdk_42_method_158_code (3 : Nat) (Option.none : Option Jvm.ClassFile.FieldType), Jvm.Cond.code ({ cls := "jdk/internal/util/Preconditions", name := "checkFromToIndex", desc := "(IIILjava/util/function/BiFunction;)I" } : Jvm.MethodName) jdk_41_method_12_code (4 : Nat) (Option.some Jvm.ClassFile.FieldType.int), Jvm.Cond.code ({ cls := "java/lang/StringUTF16", name := "compress", desc := "([CII)[B" } : Jvm.MethodName) jdk_52_method_16_code (6 : Nat) (Option.some (Jvm.ClassFile.FieldType.array Jvm.ClassFile.FieldType.byte)), Jvm.Cond.code ({ cls := "java/lang/StringUTF16", name := "compress", desc := "([CI[BII)I" } : Jvm.MethodName) jdk_52_method_21_code (7 : Nat) (Option.some Jvm.ClassFile.FieldType.int), Jvm.Cond.code ({ cls := "java/lang/StringUTF16", name := "coderFromArrayLen", desc := "([BI)B" } : Jvm.MethodName) jdk_52_method_15_code (2 : Nat) (Option.some Jvm.ClassFile.FieldType.byte), Jvm.Cond.code ({ cls := "java/lang/String", name := "charAt", desc := "(I)C" } : Jvm.MethodName) jdk_42_method_56_code (2 : Nat) (Option.some Jvm.ClassFile.FieldType.char), Jvm.Cond.code ({ cls := "java/lang/StringLatin1", name := "charAt", desc := "([BI)C" } : Jvm.MethodName) jdk_43_method_2_code (2 : Nat) (Option.some Jvm.ClassFile.FieldType.char), Jvm.Cond.code ({ cls := "java/lang/String", name := "checkIndex", desc := "(II)V" } : Jvm.MethodName) jdk_42_method_155_code (2 : Nat) (Option.none : Option Jvm.ClassFile.FieldType), Jvm.Cond.code ({ cls := "jdk/internal/util/Preconditions", name := "checkIndex", desc := "(IILjava/util/function/BiFunction;)I" } : Jvm.MethodName) jdk_41_method_11_code (3 : Nat) (Option.some Jvm.ClassFile.FieldType.int), Jvm.Cond.code ({ cls := "java/lang/StringLatin1", name := "newString", desc := "([BII)Ljava/lang/String;" } : Jvm.MethodName) jdk_43_method_47_code (3 : Nat) (Option.some (Jvm.ClassFile.FieldType.object "java/lang/String")), Jvm.Cond.code ({ cls := "java/util/Arrays", name := "copyOfRange", desc := "([BII)[B" } : Jvm.MethodName) jdk_65_method_132_code (3 : Nat) (Option.some (Jvm.ClassFile.FieldType.array Jvm.ClassFile.FieldType.byte)), Jvm.Cond.code ({ cls := "java/util/Arrays", name := "copyOfRangeByte", desc := "([BII)[B" } : Jvm.MethodName) jdk_65_method_133_code (5 : Nat) (Option.some (Jvm.ClassFile.FieldType.array Jvm.ClassFile.FieldType.byte)), Jvm.Cond.code ({ cls := "java/util/Arrays", name := "checkLength", desc := "(II)V" } : Jvm.MethodName) jdk_65_method_131_code (2 : Nat) (Option.none : Option Jvm.ClassFile.FieldType), Jvm.Cond.code ({ cls := "java/lang/String", name := "<init>", desc := "([BB)V" } : Jvm.MethodName) jdk_42_method_151_code (3 : Nat) (Option.none : Option Jvm.ClassFile.FieldType)]
set_option maxRecDepth 65536 in
theorem codes_eq : words1.filter isCode = codes1 := rfl
theorem w_codes : ∀ c ∈ words1.filter isCode, c.before args0 about1 = true := by
  rw [codes_eq]
  intro c hc
  simp only [codes1, List.mem_cons, List.not_mem_nil, or_false] at hc
  rcases hc with rfl | rfl | rfl | rfl | rfl | rfl | rfl | rfl | rfl | rfl | rfl | rfl | rfl | rfl | rfl | rfl | rfl | rfl | rfl | rfl | rfl | rfl | rfl | rfl | rfl | rfl | rfl | rfl | rfl | rfl | rfl
  · exact w_c0
  · exact w_c1
  · exact w_c2
  · exact w_c3
  · exact w_c4
  · exact w_c5
  · exact w_c6
  · exact w_c7
  · exact w_c8
  · exact w_c9
  · exact w_c10
  · exact w_c11
  · exact w_c12
  · exact w_c13
  · exact w_c14
  · exact w_c15
  · exact w_c16
  · exact w_c17
  · exact w_c18
  · exact w_c19
  · exact w_c20
  · exact w_c21
  · exact w_c22
  · exact w_c23
  · exact w_c24
  · exact w_c25
  · exact w_c26
  · exact w_c27
  · exact w_c28
  · exact w_c29
  · exact w_c30
set_option maxRecDepth 65536 in
theorem w_t1 : (words1.take 24).all (fun c => isCode c || c.before args0 about1) = true := by decide +kernel
set_option maxRecDepth 65536 in
theorem w_t2 : ((words1.drop 24).take 24).all (fun c => isCode c || c.before args0 about1) = true := by decide +kernel
set_option maxRecDepth 65536 in
theorem w_t3 : (((words1.drop 24).drop 24).take 24).all (fun c => isCode c || c.before args0 about1) = true := by decide +kernel
set_option maxRecDepth 65536 in
theorem w_t4 : ((((words1.drop 24).drop 24).drop 24).take 24).all (fun c => isCode c || c.before args0 about1) = true := by decide +kernel
set_option maxRecDepth 65536 in
theorem w_t5 : (((((words1.drop 24).drop 24).drop 24).drop 24).take 24).all (fun c => isCode c || c.before args0 about1) = true := by decide +kernel
set_option maxRecDepth 65536 in
theorem w_t6 : (((((words1.drop 24).drop 24).drop 24).drop 24).drop 24).all (fun c => isCode c || c.before args0 about1) = true := by decide +kernel
theorem w_tables : (allAtoms (Jvm.Cond.code x code maxLocals ret :: tables_1)).before args0 about1 = true := by
  rw [allAtoms_all]
  show words1.all (fun c => c.before args0 about1) = true
  refine all_split ?_ w_codes
  rw [← List.take_append_drop 24 words1, List.all_append, w_t1, ← List.take_append_drop 24 (words1.drop 24), List.all_append, w_t2, ← List.take_append_drop 24 ((words1.drop 24).drop 24), List.all_append, w_t3, ← List.take_append_drop 24 (((words1.drop 24).drop 24).drop 24), List.all_append, w_t4, ← List.take_append_drop 24 ((((words1.drop 24).drop 24).drop 24).drop 24), List.all_append, w_t5, w_t6]
  rfl
set_option maxRecDepth 65536 in
theorem w_rest : rest_1_c.before args0 about1 = true := by decide +kernel
set_option maxRecDepth 65536 in
theorem w_case : (Jvm.Cond.and given_1 narrow_1).before args0 about1 = true := by decide +kernel
set_option maxRecDepth 65536 in
theorem w_consts : constsHeld consts_1 about1 := Jvm.Lit.constsHeldB_iff.mp (by decide +kernel)
theorem w_applies : (headSpec (Jvm.Cond.code x code maxLocals ret :: tables_1) room_1).applies x e0.platform about1 = true :=
  (Spec.applies_iff w_frames).mpr ⟨w_running, w_runnable, w_alone, w_named, w_hears, w_ripe, w_room, w_tables⟩
theorem atStart : AtStart classFile x code maxLocals ret World_1 tables_1 room_1 Calls_1 rest_1 Pre_1 launch0 p0 e0 about1 theMethod args0 below0 :=
  ⟨lists_1, trivial, launch0.admits_env _ _ _, launch0.least_env, fairChoices_fair.cas, fairChoices_fair.clock, w_frames, w_args, w_heap, w_applies, ⟨w_consts, trivial⟩, w_rest, w_case⟩
end start1
theorem witness_1 : WitnessClaimed_1 := ⟨start1.p0, start1.e0, start1.about1, start1.theMethod, start1.args0, start1.below0, start1.atStart⟩
end Jvm.Pilot.@@N@@
