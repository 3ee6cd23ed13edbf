import JvmDerived
import JvmDerived.Pilot.@@N@@Statement
import JvmDerived.Pilot.@@N@@Code
set_option linter.unusedVariables false
set_option linter.unusedSimpArgs false
set_option maxRecDepth 65536
set_option maxHeartbeats 40000000
namespace Jvm.Pilot.@@N@@
open Jvm Jvm.ClassFile Sem Op Lib Jvm.Free Jvm.Stand Jvm.LawKit Jvm.RoadKit Bundle Jvm.Pilot.@@N@@.Jvm.D
abbrev vI (x : Int32) : Value := .int x
abbrev vR (x : Addr) : Value := .ref x
abbrev sI (x : Int32) : Slot := .val (.int x)
abbrev sR (x : Addr) : Slot := .val (.ref x)
abbrev sU : Slot := .unset
abbrev sN : Slot := .val .null
abbrev St (p : Program) (e : Env) (below : List Frame) (T : State) (g : JFrame) (t : State) : Prop := Steps p.tables e below (T.setTop g) t
abbrev Ct (l : Launch) (Z : State) (y : MethodName) (bytes : ByteArray) (maxL : Nat) (ret : Option FieldType) (rm : Room) (as' : Array Value) (h : Heap) (Q : Option Value → Heap → List Loc → Prop) : Prop :=
  MetFree l y (head1 [Jvm.Cond.code y bytes maxL ret] rm) (fun a U => a = as' ∧ Z.Warmed39 U.vm ∧ U.heap = h) (fun _ _ _ _ _ => True) (fun _ U o U' => ∃ v L, o = .returned v ∧ Q v U'.heap L ∧ FrameEnd U o U' L rm.cells rm.slots)
abbrev CtW (EL : List (String × Nat)) (sx : List Addr) (l : Launch) (Z : State) (y : MethodName) (bytes : ByteArray) (maxL : Nat) (ret : Option FieldType) (rm : Room) (as' : Array Value) (h : Heap) (Q : Option Value → Heap → List Loc → Prop) : Prop :=
  MetFree l y (head1 [Jvm.Cond.code y bytes maxL ret] rm) (fun a U => a = as' ∧ Z.Warmed39 U.vm ∧ U.heap = h ∧ CHv Z EL U.vm h ∧ ∀ x ∈ sx, Safe Z EL U.vm h x) (fun _ _ _ _ _ => True) (fun _ U o U' => ∃ v L, o = .returned v ∧ Q v U'.heap L ∧ CHr Z EL U.vm U.heap U'.vm U'.heap ∧ ReturnedEndW U o U' L rm.cells rm.slots)
abbrev End (p : Program) (e : Env) (s : State) (below : List Frame) (rm : Room) (Q : Option Value → Heap → List Loc → Prop) (S : State) : Prop :=
  ∃ s₂ o, Steps p.tables e below S s₂ ∧ s₂.status = .running ∧ Ended s₂ below o ∧ ∃ v L, o = .returned v ∧ Q v s₂.heap L ∧ FrameEnd s o s₂ L rm.cells rm.slots
abbrev EndW (EL : List (String × Nat)) (Z : State) (p : Program) (e : Env) (s : State) (below : List Frame) (rm : Room) (Q : Option Value → Heap → List Loc → Prop) (S : State) : Prop :=
  ∃ s₂ o, Steps p.tables e below S s₂ ∧ s₂.status = .running ∧ Ended s₂ below o ∧ ∃ v L, o = .returned v ∧ Q v s₂.heap L ∧ CHr Z EL s.vm s.heap s₂.vm s₂.heap ∧ ReturnedEndW s o s₂ L rm.cells rm.slots
theorem own_bd {l : Launch} {Z : State} {y : MethodName} {bytes : ByteArray} {maxL : Nat} {ret : Option FieldType} {rm : Room} {as' : Array Value} {h0 : Heap} {Q : Option Value → Heap → List Loc → Prop} {L0 : Array Slot} (hp : plainFor y = true) (ef : ∀ m, entryFrame m as' maxL = mkF m 0 L0 [])
    (H : ∀ (p : Program) (e : Env) (s : State) (m : MethodId) (below : List Frame) (meth : Method) (c : Code) (s₁ : State), meth.sig.returnType = ret → meth.locks = false → Z.Warmed39 s.vm → p.tables.exec = Jvm.exec → c.code = bytes → c.maxLocals = maxL → s.vm.findClass y.cls = some m.cls → meth.name = y.name → Stand p l e rm s m as' below meth c s₁ [] 0 0 → s₁.heap = h0 → End p e s below rm Q (s₁.setTop (mkF m 0 L0 []))) : Ct l Z y bytes maxL ret rm as' h0 Q := by
  refine MetFree.of_bodySF hp hisR ?_
  intro p e s m args below meth c s₁ Bd hml hP hK
  obtain ⟨rfl, hZ, hh⟩ := hP
  obtain ⟨s₂, o, h1, r⟩ := H p e s m below meth c s₁ Bd.returns Bd.notSynchronized hZ Bd.exec Bd.bytes hml (findClass_of_methodNamed Bd.named) (name_of_methodNamed Bd.named Bd.method).1 (Stand.of_body Bd) (by rw [← hh, Bd.state]; rfl)
  exact ⟨s₂, o, castTop (ef m) h1, r⟩
theorem own_bdW {EL : List (String × Nat)} {sx : List Addr} {l : Launch} {Z : State} {y : MethodName} {bytes : ByteArray} {maxL : Nat} {ret : Option FieldType} {rm : Room} {as' : Array Value} {h0 : Heap} {Q : Option Value → Heap → List Loc → Prop} {L0 : Array Slot} (hp : plainFor y = true) (ef : ∀ m, entryFrame m as' maxL = mkF m 0 L0 [])
    (H : ∀ (p : Program) (e : Env) (s : State) (m : MethodId) (below : List Frame) (meth : Method) (c : Code) (s₁ : State), meth.sig.returnType = ret → meth.locks = false → Z.Warmed39 s.vm → p.tables.exec = Jvm.exec → c.code = bytes → c.maxLocals = maxL → s.vm.findClass y.cls = some m.cls → meth.name = y.name → Stand p l e rm (s.setVm s.vm) m as' below meth c s₁ [] 0 0 → s₁.heap = h0 → s.heap = h0 → CHr Z EL s.vm h0 s.vm h0 → (∀ x ∈ sx, Safe Z EL s.vm h0 x) → s.Since s.vm h0.size → EndW EL Z p e s below rm Q (s₁.setTop (mkF m 0 L0 []))) : CtW EL sx l Z y bytes maxL ret rm as' h0 Q := by
  refine MetFree.of_bodySF hp hisR ?_
  intro p e s m args below meth c s₁ Bd hml hP hK
  obtain ⟨rfl, hZ, hh, H0, hsx⟩ := hP
  obtain ⟨s₂, o, h1, r⟩ := H p e s m below meth c s₁ Bd.returns Bd.notSynchronized hZ Bd.exec Bd.bytes hml (findClass_of_methodNamed Bd.named) (name_of_methodNamed Bd.named Bd.method).1 (Stand.of_body Bd) (by rw [← hh, Bd.state]; rfl) hh (CHr.refl H0) hsx ((State.WarmedH.refl s).since _)
  exact ⟨s₂, o, castTop (ef m) h1, r⟩
theorem own_end {p : Program} {l : Launch} {e : Env} {R : Room} {s : State} {m : MethodId} {args : Array Value} {below : List Frame} {meth : Method} {c : Code} {T : State} {L : List Loc} {cells slots : Nat} (X : Stand p l e R s m args below meth c T L cells slots) (hlk : meth.locks = false) {v : Option Value} (hv : meth.sig.returnType = none → v = none) (hfit : cells ≤ R.cells ∧ slots ≤ R.slots) {Q : Option Value → Heap → List Loc → Prop} (hq : Q v T.heap L) {S : State}
    (hs : ∀ fs, (∀ (f : JFrame) (acts : List Action), f.method = m → f.locked = none → f.entered = [] → (doReturn e (T.setTop f) acts v).1 = T.setFrames fs) → Steps p.tables e below S (T.setFrames fs)) : End p e s below R Q S := by
  obtain ⟨fs, hr, hrun, hended, hW, hsame⟩ := X.leave hv
  exact ⟨_, _, hs fs hr, hrun, hended, _, _, rfl, hq, ⟨_, rfl⟩, hW, hsame.mono hfit.1 hfit.2⟩
section OwnSteps
variable {tb : Tables} [Ours tb] {e : Env} {below : List Frame} {T target : State} {m : MethodId} {c : Code} {g : JFrame} {rest : List Value}
theorem Own.iadd (h : At T m c below) (hx : tb.exec = Jvm.exec) (hg : g.method = m) {x : Int32} {y : Int32} {z : Int32} (hd : decode c.code g.pc = .ok (.iadd, 1)) (hs : g.stack = .int y :: .int x :: rest) (hz : (x + y) = z)
    (hr : Steps tb e below (T.setTop { g with pc := g.pc + 1, stack := .int z :: rest }) target) : Steps tb e below (T.setTop g) target := XS.iadd h hx hg hd hs (by rw [show (x + y) = z from hz]; exact hr)
theorem Own.imul (h : At T m c below) (hx : tb.exec = Jvm.exec) (hg : g.method = m) {x : Int32} {y : Int32} {z : Int32} (hd : decode c.code g.pc = .ok (.imul, 1)) (hs : g.stack = .int y :: .int x :: rest) (hz : (x * y) = z)
    (hr : Steps tb e below (T.setTop { g with pc := g.pc + 1, stack := .int z :: rest }) target) : Steps tb e below (T.setTop g) target := XS.imul h hx hg hd hs (by rw [show (x * y) = z from hz]; exact hr)
theorem Own.iand (h : At T m c below) (hx : tb.exec = Jvm.exec) (hg : g.method = m) {x : Int32} {y : Int32} {z : Int32} (hd : decode c.code g.pc = .ok (.iand, 1)) (hs : g.stack = .int y :: .int x :: rest) (hz : (x &&& y) = z)
    (hr : Steps tb e below (T.setTop { g with pc := g.pc + 1, stack := .int z :: rest }) target) : Steps tb e below (T.setTop g) target := XS.iand h hx hg hd hs (by rw [show (x &&& y) = z from hz]; exact hr)
theorem Own.ishr (h : At T m c below) (hx : tb.exec = Jvm.exec) (hg : g.method = m) {x : Int32} {y : Int32} {z : Int32} (hd : decode c.code g.pc = .ok (.ishr, 1)) (hs : g.stack = .int y :: .int x :: rest) (hz : (x >>> (y &&& 31)) = z)
    (hr : Steps tb e below (T.setTop { g with pc := g.pc + 1, stack := .int z :: rest }) target) : Steps tb e below (T.setTop g) target := XS.ishr h hx hg hd hs (by rw [show (x >>> (y &&& 31)) = z from hz]; exact hr)
theorem Own.iushr (h : At T m c below) (hx : tb.exec = Jvm.exec) (hg : g.method = m) {x : Int32} {y : Int32} {z : Int32} (hd : decode c.code g.pc = .ok (.iushr, 1)) (hs : g.stack = .int y :: .int x :: rest) (hz : ((x.toUInt32 >>> (y &&& 31).toUInt32).toInt32) = z)
    (hr : Steps tb e below (T.setTop { g with pc := g.pc + 1, stack := .int z :: rest }) target) : Steps tb e below (T.setTop g) target := XS.iushr h hx hg hd hs (by rw [show ((x.toUInt32 >>> (y &&& 31).toUInt32).toInt32) = z from hz]; exact hr)
theorem Own.i2b (h : At T m c below) (hx : tb.exec = Jvm.exec) (hg : g.method = m) {x : Int32} {z : Int32} (hd : decode c.code g.pc = .ok (.i2b, 1)) (hs : g.stack = .int x :: rest) (hz : (x.toInt8.toInt32) = z)
    (hr : Steps tb e below (T.setTop { g with pc := g.pc + 1, stack := .int z :: rest }) target) : Steps tb e below (T.setTop g) target := XS.i2b h hx hg hd hs (by rw [show (x.toInt8.toInt32) = z from hz]; exact hr)
theorem Own.i2c (h : At T m c below) (hx : tb.exec = Jvm.exec) (hg : g.method = m) {x : Int32} {z : Int32} (hd : decode c.code g.pc = .ok (.i2c, 1)) (hs : g.stack = .int x :: rest) (hz : (x.toUInt32.toUInt16.toUInt32.toInt32) = z)
    (hr : Steps tb e below (T.setTop { g with pc := g.pc + 1, stack := .int z :: rest }) target) : Steps tb e below (T.setTop g) target := XS.i2c h hx hg hd hs (by rw [show (x.toUInt32.toUInt16.toUInt32.toInt32) = z from hz]; exact hr)
theorem Own.iinc (h : At T m c below) (hx : tb.exec = Jvm.exec) (hg : g.method = m) {k : Nat} {cst : Int} {x z : Int32} {l' : Array Slot} (hd : decode c.code g.pc = .ok (.iinc k cst, 3)) (hl : g.locals[k]? = some (.val (.int x))) (hz : x + Int32.ofInt cst = z) (hl' : storeLocals g.locals k (.int z) = some l')
    (hr : Steps tb e below (T.setTop { g with pc := g.pc + 3, locals := l' }) target) : Steps tb e below (T.setTop g) target := XS.iinc h hx hg hd hl (by rw [hz]; exact hl') hr
theorem Own.iload (h : At T m c below) (hx : tb.exec = Jvm.exec) (hg : g.method = m) {k : Nat} {v z : Int32} (hd : decode c.code g.pc = .ok (.iload k, 2)) (hl : g.locals[k]? = some (.val (.int v))) (hz : v = z)
    (hr : Steps tb e below (T.setTop { g with pc := g.pc + 2, stack := .int z :: g.stack }) target) : Steps tb e below (T.setTop g) target := XS.iload h hx hg hd hl (by rw [hz]; exact hr)
end OwnSteps
theorem own_irem {p : Program} {l : Launch} {e : Env} {R : Room} {s : State} {m : MethodId} {args : Array Value} {below : List Frame} {meth : Method} {c : Code} {T : State} {locs : List Loc} {cells slots : Nat} {g : JFrame} {target : State} (X : Stand p l e R s m args below meth c T locs cells slots) (hx : p.tables.exec = Jvm.exec) (hg : g.method = m) {x y z : Int32} {rest : List Value} (hd : decode c.code g.pc = .ok (.irem, 1)) (hs : g.stack = .int y :: .int x :: rest) (hy : y ≠ 0) (hz : x % y = z)
    (hr : Steps p.tables e below (T.setTop { g with pc := g.pc + 1, stack := .int z :: rest }) target) : Steps p.tables e below (T.setTop g) target := iremM X hx hg hd hs hy (by rw [hz]; exact hr)
section OwnCalls
variable {p : Program} {l : Launch} {e : Env} {R : Room} {s : State} {m : MethodId} {args : Array Value} {below : List Frame} {meth : Method} {c : Code} {T : State} {locs : List Loc} {cells slots : Nat} {Z : State} {a0 : Array Value} {h : Heap}
theorem own_callS (X : Stand p l e R s m args below meth c T locs cells slots) (hx : p.tables.exec = Jvm.exec) (hZ : Z.Warmed39 s.vm) {own : String} {index W maxL : Nat} {y : MethodName} {bytes : ByteArray} {ret : Option FieldType} {rm : Room} {as' : Array Value} {Q : Option Value → Heap → List Loc → Prop}
    (hown : s.vm.findClass own = some m.cls) (w1 : (Jvm.Cond.methodLink own index y).before a0 Z = true) (w2 : (Jvm.Cond.static y).before a0 Z = true) (w3 : (Jvm.Cond.initialized y.cls).before a0 Z = true) (w4 : (Jvm.Cond.code y bytes maxL ret).before a0 Z = true) (hy : y.cls ≠ "java/lang/invoke/MethodHandle" ∧ y.cls ≠ "java/lang/invoke/VarHandle")
    (hM : MetFree l y (head1 [Jvm.Cond.code y bytes maxL ret] rm) (fun a U => a = as' ∧ Z.Warmed39 U.vm ∧ U.heap = h) (fun _ _ _ _ _ => True) (fun _ U o U' => ∃ v L, o = .returned v ∧ Q v U'.heap L ∧ FrameEnd U o U' L rm.cells rm.slots)) (eT : T.heap = h)
    {g : JFrame} (hg : g.method = m) {ml : Nat} (hml : c.maxLocals = ml) (hsz : g.locals.size = ml) {rest : List Value} (hlen : ∀ sig, parseMethodDescriptor y.desc = some sig → (as'.toList).length = sig.parameters.length) (hstack : g.stack = (as'.toList).reverse ++ rest) (has : (as'.toList).toArray = as') (hW : 2 * g.monitorRoom + (rest.map fun v => v.category).sum = W)
    (hdg : decode c.code g.pc = .ok (.invokestatic index, 3)) (hfit : (rm.frames + 1 ≤ R.frames ∧ W + (maxL + 11) + rm.locals ≤ R.locals) ∧ cells + rm.cells ≤ R.cells ∧ slots + rm.slots ≤ R.slots) :
    ∃ (v : Option Value) (T' : State) (L : List Loc), Q v T'.heap L ∧ Stand p l e R s m args below meth c T' (locs ++ L) (cells + rm.cells) (slots + rm.slots) ∧ ∀ target, Steps p.tables e below (T'.setTop { g with pc := g.pc + 3, stack := v.toList ++ rest }) target → Steps p.tables e below (T.setTop g) target := by
  obtain ⟨v, _, ⟨T', L', c', s'⟩, -, X', ⟨L, hq, e1, e2, e3⟩, st⟩ := Jvm.LawKit.callS X hx hown (mvT hZ w1) (mvT hZ w2) (mvT hZ w3) (mvT hZ w4) hy (backOf (W := W) hM hZ w4 w3 hfit.1.1 hfit.1.2) hg (hsz.trans hml.symm) hlen hstack (Nat.le_of_eq hW) hdg (fun _ _ => ⟨has, eT, hfit.2.1, hfit.2.2⟩)
  subst e1 e2 e3
  exact ⟨v, T', L, hq, X', st⟩
theorem own_special (X : Stand p l e R s m args below meth c T locs cells slots) (hx : p.tables.exec = Jvm.exec) (hZ : Z.Warmed39 s.vm) {own : String} {index W maxL : Nat} {y : MethodName} {bytes : ByteArray} {rm : Room} {as' : Array Value} {Q : Option Value → Heap → List Loc → Prop} (hy1 : y.name = "<init>")
    (hown : s.vm.findClass own = some m.cls) (w1 : (Jvm.Cond.methodLink own index y).before a0 Z = true) (w2 : (Jvm.Cond.instanceMethod y).before a0 Z = true) (w3 : (Jvm.Cond.initialized y.cls).before a0 Z = true) (w4 : (Jvm.Cond.code y bytes maxL none).before a0 Z = true) (hy : y.cls ≠ "java/lang/invoke/MethodHandle" ∧ y.cls ≠ "java/lang/invoke/VarHandle")
    (hM : MetFree l y (head1 [Jvm.Cond.code y bytes maxL none] rm) (fun a U => a = as' ∧ Z.Warmed39 U.vm ∧ U.heap = h) (fun _ _ _ _ _ => True) (fun _ U o U' => ∃ v L, o = .returned v ∧ Q v U'.heap L ∧ FrameEnd U o U' L rm.cells rm.slots)) (eT : T.heap = h)
    {g : JFrame} (hg : g.method = m) {ml : Nat} (hml : c.maxLocals = ml) (hsz : g.locals.size = ml) {a : Addr} {rest : List Value} (hlen : ∀ sig, parseMethodDescriptor y.desc = some sig → (as'.toList.tail).length = sig.parameters.length) (hstack : g.stack = (as'.toList.tail).reverse ++ .ref a :: rest) (has : (.ref a :: as'.toList.tail).toArray = as') (hW : 2 * g.monitorRoom + (rest.map fun v => v.category).sum = W)
    (hdg : decode c.code g.pc = .ok (.invokespecial index, 3)) (hfit : (rm.frames + 1 ≤ R.frames ∧ W + (maxL + 11) + rm.locals ≤ R.locals) ∧ cells + rm.cells ≤ R.cells ∧ slots + rm.slots ≤ R.slots) :
    ∃ (v : Option Value) (T' : State) (L : List Loc), Q v T'.heap L ∧ Stand p l e R s m args below meth c T' (locs ++ L) (cells + rm.cells) (slots + rm.slots) ∧ ∀ target, Steps p.tables e below (T'.setTop { g with pc := g.pc + 3, stack := v.toList ++ rest }) target → Steps p.tables e below (T.setTop g) target := by
  obtain ⟨v, _, ⟨T', L', c', s'⟩, -, X', ⟨L, hq, e1, e2, e3⟩, st⟩ := X.specialBack hx hy1 hown (mvT hZ w1) (mvT hZ w2) (mvT hZ w4) hy (backOf (W := W) hM hZ w4 w3 hfit.1.1 hfit.1.2) hg (hsz.trans hml.symm) (Steps.refl _) hlen hstack (Nat.le_of_eq hW) hdg (fun _ _ => ⟨has, eT, hfit.2.1, hfit.2.2⟩)
  subst e1 e2 e3
  exact ⟨v, T', L, hq, X', fun _ k => st.trans k⟩
theorem own_virtual (X : Stand p l e R s m args below meth c T locs cells slots) (hx : p.tables.exec = Jvm.exec) (hZ : Z.Warmed39 s.vm) {own C : String} {index W maxL : Nat} {y z : MethodName} {bytes : ByteArray} {ret : Option FieldType} {rm : Room} {as' : Array Value} {Q : Option Value → Heap → List Loc → Prop}
    (hown : s.vm.findClass own = some m.cls) (w1 : (Jvm.Cond.methodLink own index y).before a0 Z = true) (w2 : (Jvm.Cond.declares y).before a0 Z = true) (nf : NotFace s y) (w5 : (Jvm.Cond.selects C y z).before a0 Z = true) (w6 : (Jvm.Cond.instanceMethod z).before a0 Z = true) (w3 : (Jvm.Cond.initialized z.cls).before a0 Z = true) (w4 : (Jvm.Cond.code z bytes maxL ret).before a0 Z = true) (hy : y.cls ≠ "java/lang/invoke/MethodHandle" ∧ y.cls ≠ "java/lang/invoke/VarHandle")
    (hM : MetFree l z (head1 [Jvm.Cond.code z bytes maxL ret] rm) (fun a U => a = as' ∧ Z.Warmed39 U.vm ∧ U.heap = h) (fun _ _ _ _ _ => True) (fun _ U o U' => ∃ v L, o = .returned v ∧ Q v U'.heap L ∧ FrameEnd U o U' L rm.cells rm.slots)) (eT : T.heap = h) {b : Addr} (E : Exa Z h b C)
    {g : JFrame} (hg : g.method = m) {ml : Nat} (hml : c.maxLocals = ml) (hsz : g.locals.size = ml) {rest : List Value} (hlen : ∀ sig, parseMethodDescriptor y.desc = some sig → (as'.toList.tail).length = sig.parameters.length) (hstack : g.stack = (as'.toList.tail).reverse ++ .ref b :: rest) (has : (.ref b :: as'.toList.tail).toArray = as') (hW : 2 * g.monitorRoom + (rest.map fun v => v.category).sum = W)
    (hdg : decode c.code g.pc = .ok (.invokevirtual index, 3)) (hfit : (rm.frames + 1 ≤ R.frames ∧ W + (maxL + 11) + rm.locals ≤ R.locals) ∧ cells + rm.cells ≤ R.cells ∧ slots + rm.slots ≤ R.slots) :
    ∃ (v : Option Value) (T' : State) (L : List Loc), Q v T'.heap L ∧ Stand p l e R s m args below meth c T' (locs ++ L) (cells + rm.cells) (slots + rm.slots) ∧ ∀ target, Steps p.tables e below (T'.setTop { g with pc := g.pc + 3, stack := v.toList ++ rest }) target → Steps p.tables e below (T.setTop g) target := by
  obtain ⟨cB, kB, qa, qb, qc⟩ := isOf hZ eT E
  obtain ⟨v, _, ⟨T', L', c', s'⟩, -, X', ⟨L, hq, e1, e2, e3⟩, st⟩ := X.virtualBack hx hown (mvT hZ w1) (mvT hZ w2) nf (mvT hZ w5) (mvT hZ w6) hy (backOf (W := W) hM hZ w4 w3 hfit.1.1 hfit.1.2) qa qc hg (hsz.trans hml.symm) (Steps.refl _) hlen hstack (Nat.le_of_eq hW) hdg (fun _ _ => ⟨has, eT, hfit.2.1, hfit.2.2⟩)
  subst e1 e2 e3
  exact ⟨v, T', L, hq, X', fun _ k => st.trans k⟩
theorem own_iface (X : Stand p l e R s m args below meth c T locs cells slots) (hx : p.tables.exec = Jvm.exec) (hZ : Z.Warmed39 s.vm) {own C : String} {index count W maxL : Nat} {y z : MethodName} {bytes : ByteArray} {ret : Option FieldType} {rm : Room} {as' : Array Value} {Q : Option Value → Heap → List Loc → Prop}
    (hown : s.vm.findClass own = some m.cls) (w1 : (Jvm.Cond.methodLink own index y).before a0 Z = true) (w2 : (Jvm.Cond.declares y).before a0 Z = true) (w7 : (Jvm.Cond.interfaceMethod y.cls y.cls y.name y.desc).before args s = true) (w5 : (Jvm.Cond.selects C y z).before a0 Z = true) (w6 : (Jvm.Cond.instanceMethod z).before a0 Z = true) (w8 : (Jvm.Cond.publicMethod z).before args s = true) (w9 : (Jvm.Cond.unhidden C y.name y.desc).before args s = true) (w10 : (Jvm.Cond.castable C y.cls).before a0 Z = true) (w3 : (Jvm.Cond.initialized z.cls).before a0 Z = true) (w4 : (Jvm.Cond.code z bytes maxL ret).before a0 Z = true) (hy : y.cls ≠ "java/lang/invoke/MethodHandle" ∧ y.cls ≠ "java/lang/invoke/VarHandle")
    (hM : MetFree l z (head1 [Jvm.Cond.code z bytes maxL ret] rm) (fun a U => a = as' ∧ Z.Warmed39 U.vm ∧ U.heap = h) (fun _ _ _ _ _ => True) (fun _ U o U' => ∃ v L, o = .returned v ∧ Q v U'.heap L ∧ FrameEnd U o U' L rm.cells rm.slots)) (eT : T.heap = h) {b : Addr} (E : Exa Z h b C)
    {g : JFrame} (hg : g.method = m) {ml : Nat} (hml : c.maxLocals = ml) (hsz : g.locals.size = ml) {rest : List Value} (hlen : ∀ sig, parseMethodDescriptor y.desc = some sig → (as'.toList.tail).length = sig.parameters.length) (hstack : g.stack = (as'.toList.tail).reverse ++ .ref b :: rest) (has : (.ref b :: as'.toList.tail).toArray = as') (hW : 2 * g.monitorRoom + (rest.map fun v => v.category).sum = W)
    (hdg : decode c.code g.pc = .ok (.invokeinterface index count, 5)) (hfit : (rm.frames + 1 ≤ R.frames ∧ W + (maxL + 11) + rm.locals ≤ R.locals) ∧ cells + rm.cells ≤ R.cells ∧ slots + rm.slots ≤ R.slots) :
    ∃ (v : Option Value) (T' : State) (L : List Loc), Q v T'.heap L ∧ Stand p l e R s m args below meth c T' (locs ++ L) (cells + rm.cells) (slots + rm.slots) ∧ ∀ target, Steps p.tables e below (T'.setTop { g with pc := g.pc + 5, stack := v.toList ++ rest }) target → Steps p.tables e below (T.setTop g) target := by
  obtain ⟨cB, kB, qa, qb, qc⟩ := isOf hZ eT E
  obtain ⟨v, _, ⟨T', L', c', s'⟩, -, X', ⟨L, hq, e1, e2, e3⟩, st⟩ := X.interfaceBack hx hown (mvT hZ w1) (mvT hZ w2) w7 (mvT hZ w5) (mvT hZ w6) w8 w9 (mvT hZ w10) hy (backOf (W := W) hM hZ w4 w3 hfit.1.1 hfit.1.2) qa qb qc hg (hsz.trans hml.symm) (Steps.refl _) hlen hstack (Nat.le_of_eq hW) hdg (fun _ _ => ⟨has, eT, hfit.2.1, hfit.2.2⟩)
  subst e1 e2 e3
  exact ⟨v, T', L, hq, X', fun _ k => st.trans k⟩
theorem own_private (X : Stand p l e R s m args below meth c T locs cells slots) (hx : p.tables.exec = Jvm.exec) (hZ : Z.Warmed39 s.vm) {own K : String} {index W maxL : Nat} {y : MethodName} {bytes : ByteArray} {ret : Option FieldType} {rm : Room} {as' : Array Value} {Q : Option Value → Heap → List Loc → Prop}
    (hown : s.vm.findClass own = some m.cls) (w1 : (Jvm.Cond.methodLink own index y).before a0 Z = true) (w2 : (Jvm.Cond.instanceMethod y).before a0 Z = true) (hsel : (Jvm.Cond.selects y.cls y y).before args s = true) (w6 : (Jvm.Cond.privateMethod y).before a0 Z = true) (w3 : (Jvm.Cond.initialized y.cls).before a0 Z = true) (w4 : (Jvm.Cond.code y bytes maxL ret).before a0 Z = true) (hy : y.cls ≠ "java/lang/invoke/MethodHandle" ∧ y.cls ≠ "java/lang/invoke/VarHandle")
    (hM : MetFree l y (head1 [Jvm.Cond.code y bytes maxL ret] rm) (fun a U => a = as' ∧ Z.Warmed39 U.vm ∧ U.heap = h) (fun _ _ _ _ _ => True) (fun _ U o U' => ∃ v L, o = .returned v ∧ Q v U'.heap L ∧ FrameEnd U o U' L rm.cells rm.slots)) (eT : T.heap = h) {b : Addr} (E : Exa Z h b K)
    {g : JFrame} (hg : g.method = m) {ml : Nat} (hml : c.maxLocals = ml) (hsz : g.locals.size = ml) {rest : List Value} (hlen : ∀ sig, parseMethodDescriptor y.desc = some sig → (as'.toList.tail).length = sig.parameters.length) (hstack : g.stack = (as'.toList.tail).reverse ++ .ref b :: rest) (has : (.ref b :: as'.toList.tail).toArray = as') (hW : 2 * g.monitorRoom + (rest.map fun v => v.category).sum = W)
    (hdg : decode c.code g.pc = .ok (.invokevirtual index, 3)) (hfit : (rm.frames + 1 ≤ R.frames ∧ W + (maxL + 11) + rm.locals ≤ R.locals) ∧ cells + rm.cells ≤ R.cells ∧ slots + rm.slots ≤ R.slots) :
    ∃ (v : Option Value) (T' : State) (L : List Loc), Q v T'.heap L ∧ Stand p l e R s m args below meth c T' (locs ++ L) (cells + rm.cells) (slots + rm.slots) ∧ ∀ target, Steps p.tables e below (T'.setTop { g with pc := g.pc + 3, stack := v.toList ++ rest }) target → Steps p.tables e below (T.setTop g) target := by
  obtain ⟨cq, q, q'⟩ := E.cell
  obtain ⟨v, _, ⟨T', L', c', s'⟩, -, X', ⟨L, hq, e1, e2, e3⟩, st⟩ := X.privateBack hx hown (mvT hZ w1) (mvT hZ w2) hsel (Cond.privateMethod_at (mvP hZ w6 (args := #[]))) (mvT hZ w4) hy (backOf (W := W) hM hZ w4 w3 hfit.1.1 hfit.1.2) hg (hsz.trans hml.symm) (Steps.refl _) (by rw [eT]; exact q) q' hlen hstack (Nat.le_of_eq hW) hdg (fun _ _ => ⟨has, eT, hfit.2.1, hfit.2.2⟩)
  subst e1 e2 e3
  exact ⟨v, T', L, hq, X', fun _ k => st.trans k⟩
end OwnCalls
section OwnHeap
variable {p : Program} {l : Launch} {e : Env} {R : Room} {s : State} {m : MethodId} {args : Array Value} {below : List Frame} {meth : Method} {c : Code} {T : State} {locs : List Loc} {cells slots : Nat} {Z : State} {a0 : Array Value} {h h0 : Heap} {n0 : Nat} {ws : List Addr}
theorem own_newO (X : Stand p l e R s m args below meth c T locs cells slots) (hx : p.tables.exec = Jvm.exec) (hZ : Z.Warmed39 s.vm) {own C : String} {index n : Nat} (hown : s.vm.findClass own = some m.cls) (w : (Jvm.Cond.classLink own index C).before a0 Z = true) (wi : (Jvm.Cond.instantiable C n).before a0 Z = true) (wz : (Jvm.Cond.initialized C).before a0 Z = true) (eT : T.heap = h) (O : Old Z n0 h) (K : Keep h0 h ws)
    {g : JFrame} (hg : g.method = m) (hd : decode c.code g.pc = .ok (.new index, 3)) (hc : cells + 1 ≤ R.cells) (hl : slots + n ≤ R.slots) :
    ∃ (T' : State) (h' : Heap) (b : Addr), Stand p l e R s m args below meth c T' locs (cells + 1) (slots + n) ∧ T'.heap = h' ∧ Ext h h' ∧ Exa Z h' b C ∧ (∀ {O nm d : String} {ty : FieldType}, Laid Z a0 C O nm d → parseFieldDescriptor d = some ty → Fld Z h' b O nm d (defaultValue ty)) ∧ h.size ≤ b ∧ Old Z n0 h' ∧ Keep h0 h' ws ∧
      ∀ target, Steps p.tables e below (T'.setTop { g with pc := g.pc + 3, stack := .ref b :: g.stack }) target → Steps p.tables e below (T.setTop g) target := by
  obtain ⟨T', h', X', e', E', A', D', -, st⟩ := newO X hx hZ hown w wi wz eT hg hd hc hl
  exact ⟨T', h', h.size, X', e', E', A', D', Nat.le_refl _, O.ext E', K.ext E', st⟩
theorem own_newR (X : Stand p l e R s m args below meth c T locs cells slots) (hx : p.tables.exec = Jvm.exec) (hZ : Z.Warmed39 s.vm) {own C : String} {index cap : Nat} {vs : List Value} (hvs : List.replicate cap .null = vs) (hown : s.vm.findClass own = some m.cls) (w1 : (Jvm.Cond.classLink own index C).before a0 Z = true) (w2 : (Jvm.Cond.arrayOver (.object C)).before a0 Z = true) (eT : T.heap = h) (O : Old Z n0 h) (K : Keep h0 h ws) {g : JFrame} (hg : g.method = m) (hd : decode c.code g.pc = .ok (.anewarray index, 3)) {n : Int32} {rest : List Value} (hs : g.stack = .int n :: rest)
    (hn : ¬ n < 0) (hcap : n.toNatClampNeg ≤ cap) (hb : cap * 8 ≤ 536870912) (hc : cells + 1 ≤ R.cells) (hl : slots + cap ≤ R.slots) :
    ∃ (T' : State) (h' : Heap) (k : ClassId) (b : Addr), Stand p l e R s m args below meth c T' locs (cells + 1) (slots + cap) ∧ T'.heap = h' ∧ Ext h h' ∧ Arv Z h' b k (.object C) n vs .null ∧ Ovr Z k C ∧ h.size ≤ b ∧ Old Z n0 h' ∧ Keep h0 h' ws ∧
      ∀ target, Steps p.tables e below (T'.setTop { g with pc := g.pc + 3, stack := .ref b :: rest }) target → Steps p.tables e below (T.setTop g) target := by
  subst hvs
  obtain ⟨T', h', k, X', e', E', A', O', st⟩ := newR X hx hZ hown w1 w2 eT hg hd hs hn hcap hb hc hl
  exact ⟨T', h', k, h.size, X', e', E', (Arv.new A' hn).pad (pad_rep [] _ cap), O', Nat.le_refl _, O.ext E', K.ext E', st⟩
theorem own_put (X : Stand p l e R s m args below meth c T locs cells slots) (hx : p.tables.exec = Jvm.exec) (hZ : Z.Warmed39 s.vm) {own R0 Ow n d host C : String} {index kk : Nat} {ty : FieldType} (hown : s.vm.findClass own = some m.cls) (w : (Jvm.Cond.fieldLink own index R0 n d).before a0 Z = true ∨ (Jvm.Cond.fieldLinkNest own index R0 n d host).before a0 Z = true) (via : Via Z R0 Ow n d)
    (eT : T.heap = h) (O : Old Z n0 h) (K : Keep h0 h ws) (N : Fr n0 locs) {a : Addr} (qn : n0 ≤ a) (qk : a ∈ ws ∨ h0.size ≤ a) {v old : Value} (F : Fld Z h a Ow n d old) (E : Exa Z h a C) (L : (Jvm.Cond.lays C Ow n d).before a0 Z = true ∨ ((Jvm.Cond.laysFinal C Ow n d).before a0 Z = true ∧ own = Ow ∧ meth.name = "<init>")) (wi : (Jvm.Cond.instantiable C kk).before a0 Z = true)
    (hty : parseFieldDescriptor d = some ty) (hn : narrow ty v = v) (hf : fits ty v = true) {g : JFrame} (hg : g.method = m) {rest : List Value} (hs : g.stack = v :: .ref a :: rest) (hd : decode c.code g.pc = .ok (.putfield index, 3)) :
    ∃ (T' : State) (h' : Heap) (L' : List Loc), Stand p l e R s m args below meth c T' L' cells slots ∧ T'.heap = h' ∧ Wr h h' a (Jvm.RoadKit.slotOf Z Ow n d) v ∧ Fld Z h' a Ow n d v ∧ Old Z n0 h' ∧ Keep h0 h' ws ∧ Fr n0 L' ∧ ∀ target, Steps p.tables e below (T'.setTop { g with pc := g.pc + 3, stack := rest }) target → Steps p.tables e below (T.setTop g) target := by
  obtain ⟨T', h', X', e', W', st⟩ := putF X hx hZ hown w via eT F E L wi hty hn hf hg hs hd
  exact ⟨T', h', _, X', e', W', F.same W', O.wr W' qn, K.wr W' qk, Fr.snoc X' N qn, st⟩
theorem own_putN (X : Stand p l e R s m args below meth c T locs cells slots) (hx : p.tables.exec = Jvm.exec) (hZ : Z.Warmed39 s.vm) {own R0 Ow n d C : String} {index kk : Nat} {ty : FieldType} (hown : s.vm.findClass own = some m.cls) (w : (Jvm.Cond.fieldLink own index R0 n d).before a0 Z = true) (via : Via Z R0 Ow n d)
    (eT : T.heap = h) (O : Old Z n0 h) (K : Keep h0 h ws) (N : Fr n0 locs) {a : Addr} (qn : n0 ≤ a) (qk : a ∈ ws ∨ h0.size ≤ a) {v v' old : Value} (F : Fld Z h a Ow n d old) (E : Exa Z h a C) (L : (Jvm.Cond.lays C Ow n d).before a0 Z = true ∨ ((Jvm.Cond.laysFinal C Ow n d).before a0 Z = true ∧ own = Ow ∧ meth.name = "<init>")) (wi : (Jvm.Cond.instantiable C kk).before a0 Z = true)
    (hty : parseFieldDescriptor d = some ty) (hn : narrow ty v = v') (hf : fits ty v' = true) {g : JFrame} (hg : g.method = m) {rest : List Value} (hs : g.stack = v :: .ref a :: rest) (hd : decode c.code g.pc = .ok (.putfield index, 3)) :
    ∃ (T' : State) (h' : Heap) (L' : List Loc), Stand p l e R s m args below meth c T' L' cells slots ∧ T'.heap = h' ∧ Wr h h' a (Jvm.RoadKit.slotOf Z Ow n d) v' ∧ Fld Z h' a Ow n d v' ∧ Old Z n0 h' ∧ Keep h0 h' ws ∧ Fr n0 L' ∧ ∀ target, Steps p.tables e below (T'.setTop { g with pc := g.pc + 3, stack := rest }) target → Steps p.tables e below (T.setTop g) target := by
  obtain ⟨T', h', X', e', W', st⟩ := putFN X hx hZ hown w via eT F E L wi hty hn hf hg hs hd
  exact ⟨T', h', _, X', e', W', F.same W', O.wr W' qn, K.wr W' qk, Fr.snoc X' N qn, st⟩
theorem own_stR (X : Stand p l e R s m args below meth c T locs cells slots) (hx : p.tables.exec = Jvm.exec) (hZ : Z.Warmed39 s.vm) (eT : T.heap = h) {a : Addr} {k : ClassId} {ty : FieldType} {n : Int32} {vs vs' : List Value} {dv : Value} (V : Arv Z h a k ty n vs dv) (O : Old Z n0 h) (K : Keep h0 h ws) (N : Fr n0 locs) (qn : n0 ≤ a) (qk : a ∈ ws ∨ h0.size ≤ a) {j : Int32} (i : Nat) (hj : ((¬ j < 0 ∧ j < n) ∧ j.toNatClampNeg = i)) (hi : i < vs.length) {v : Value} (hvs : vs.set i v = vs') (hty : ty.isReference = true) (hfv : fits ty v = true)
    (sto : v = .null ∨ ∃ (y : Addr) (C : String), v = .ref y ∧ Ovr Z k C ∧ Ins Z h y C true) {g : JFrame} (hg : g.method = m) {rest : List Value} (hs : g.stack = v :: .int j :: .ref a :: rest) (hd : decode c.code g.pc = .ok (.aastore, 1)) :
    ∃ (T' : State) (h' : Heap) (L' : List Loc), Stand p l e R s m args below meth c T' L' cells slots ∧ T'.heap = h' ∧ Wr h h' a j.toNatClampNeg v ∧ Arv Z h' a k ty n vs' dv ∧ Old Z n0 h' ∧ Keep h0 h' ws ∧ Fr n0 L' ∧ ∀ target, Steps p.tables e below (T'.setTop { g with pc := g.pc + 1, stack := rest }) target → Steps p.tables e below (T.setTop g) target := by
  subst hvs
  obtain ⟨cl, Ar, q, Sz, Ng, Hs, Gt⟩ := V
  obtain ⟨T', h', X', e', W', st⟩ := stR X hx hZ eT Ar (j := j) (inb_of Sz hj.1) hty (sto.elim Or.inl fun ⟨y, C, e1, e2, e3⟩ => e1 ▸ Sto.ofV Ar q e2 e3) hg hs hd
  exact ⟨T', h', _, X', e', W', Arv.set Ar q Sz Ng Hs Gt hfv W' i hj.2 hi, O.wr W' qn, K.wr W' qk, Fr.snoc X' N qn, st⟩
theorem own_baloadB (X : Stand p l e R s m args below meth c T locs cells slots) (hx : p.tables.exec = Jvm.exec) (hZ : Z.Warmed39 s.vm) (eT : T.heap = h) {a : Addr} {k : ClassId} {n : Int32} {vs : List Value} {dv : Value} (V : Arv Z h a k .byte n vs dv) {j : Int32} (hj : ¬ j < 0 ∧ j < n) {v : Value} (hv : vs.getD j.toNatClampNeg dv = v)
    {g : JFrame} (hg : g.method = m) {rest : List Value} (hs : g.stack = .int j :: .ref a :: rest) (hd : decode c.code g.pc = .ok (.baload, 1)) {target : State} (hr : Steps p.tables e below (T.setTop { g with pc := g.pc + 1, stack := v :: rest }) target) : Steps p.tables e below (T.setTop g) target := by
  obtain ⟨cl, Ar, q, Sz, Ng, Hs, Gt⟩ := V
  exact X.baloadBytes hx (by rw [eT]; exact Ar.1) (State.isArrayOf_alike hZ.alike Ar.2.1) Ar.2.2 (inb_of Sz hj) (Hs.at (inb_of Sz hj) hv) hg hs hd _ hr
theorem own_aaload (X : Stand p l e R s m args below meth c T locs cells slots) (hx : p.tables.exec = Jvm.exec) (hZ : Z.Warmed39 s.vm) (eT : T.heap = h) {a : Addr} {k : ClassId} {ty : FieldType} {n : Int32} {vs : List Value} {dv : Value} (V : Arv Z h a k ty n vs dv) {j : Int32} (hj : ¬ j < 0 ∧ j < n) {v : Value} (hv : vs.getD j.toNatClampNeg dv = v) (hty : ty.isReference = true)
    {g : JFrame} (hg : g.method = m) {rest : List Value} (hs : g.stack = .int j :: .ref a :: rest) (hd : decode c.code g.pc = .ok (.aaload, 1)) {target : State} (hr : Steps p.tables e below (T.setTop { g with pc := g.pc + 1, stack := v :: rest }) target) : Steps p.tables e below (T.setTop g) target := by
  obtain ⟨cl, Ar, q, Sz, Ng, Hs, Gt⟩ := V
  exact X.aaload hx (by rw [eT]; exact Ar.1) (State.isArrayOf_alike hZ.alike Ar.2.1) hty Ar.2.2 (inb_of Sz hj) (Hs.at (inb_of Sz hj) hv) hg hs hd _ hr
theorem own_alen (X : Stand p l e R s m args below meth c T locs cells slots) (hx : p.tables.exec = Jvm.exec) (hZ : Z.Warmed39 s.vm) (eT : T.heap = h) {a : Addr} {k : ClassId} {ty : FieldType} {n : Int32} {vs : List Value} {dv : Value} (V : Arv Z h a k ty n vs dv)
    {g : JFrame} (hg : g.method = m) {rest : List Value} (hs : g.stack = .ref a :: rest) (hd : decode c.code g.pc = .ok (.arraylength, 1)) {target : State} (hr : Steps p.tables e below (T.setTop { g with pc := g.pc + 1, stack := .int n :: rest }) target) : Steps p.tables e below (T.setTop g) target := by
  obtain ⟨cl, Ar, q, Sz, Ng, Hs, Gt⟩ := V
  exact X.arraylength hx (by rw [eT]; exact Ar.1) (State.isArrayOf_alike hZ.alike Ar.2.1) hg hs hd _ (by rw [len_of Sz Ng]; exact hr)
end OwnHeap
section OwnWide
variable {p : Program} {l : Launch} {e : Env} {R : Room} {s : State} {m : MethodId} {args : Array Value} {below : List Frame} {meth : Method} {c : Code} {T : State} {locs : List Loc} {cells slots : Nat} {Z : State} {a0 : Array Value} {h : Heap} {vm0 : Vm} {EL : List (String × Nat)} {sx : List Addr}
theorem own_backS {y : MethodName} {bytes : ByteArray} {maxL : Nat} {ret : Option FieldType} {rm : Room} {len W : Nat} {as' : Array Value} {Q : Option Value → Heap → List Loc → Prop}
    (hM : MetFree l y (head1 [Jvm.Cond.code y bytes maxL ret] rm) (fun a U => a = as' ∧ Z.Warmed39 U.vm ∧ U.heap = h ∧ CHv Z EL U.vm h ∧ ∀ x ∈ sx, Safe Z EL U.vm h x) (fun _ _ _ _ _ => True) (fun _ U o U' => ∃ v L, o = .returned v ∧ Q v U'.heap L ∧ CHr Z EL U.vm U.heap U'.vm U'.heap ∧ ReturnedEndW U o U' L rm.cells rm.slots))
    (hZ : Z.Warmed39 (s.setVm vm0).vm) (wc : (Jvm.Cond.code y bytes maxL ret).before a0 Z = true) (wz : (Jvm.Cond.initialized y.cls).before a0 Z = true) (hf : rm.frames + 1 ≤ R.frames) (hl : W + (maxL + 11) + rm.locals ≤ R.locals) (hEL : EW Z a0 EL) (H : CHv Z EL vm0 h) (hsx : ∀ x ∈ sx, x < h.size ∧ Safe Z EL vm0 h x) :
    BackS l R p e below (s.setVm vm0) args y len W (fun A a => a = as' ∧ A.U.heap = h ∧ A.cells + rm.cells ≤ R.cells ∧ A.slots + rm.slots ≤ R.slots)
      (fun A _ v B => ∃ L, Q v B.U.heap L ∧ B.locs = A.locs ++ L ∧ B.cells = A.cells + rm.cells ∧ B.slots = A.slots + rm.slots ∧ CHr Z EL vm0 h B.U.vm B.U.heap) :=
  BackS.of_freeW (bytes := bytes) (maxL := maxL) (ret := ret) (E := fun _ first o t L k n => k = rm.cells ∧ n = rm.slots ∧ (∃ v, o = .returned v ∧ Q v t.heap L) ∧ CHr Z EL first.vm first.heap t.vm t.heap) hM hf hl
    (fun m meth c A a Y hp => have hU : Z.Warmed39 A.U.vm := wtrans (s := s.setVm vm0) hZ Y.warmed
      ⟨by show (Jvm.Cond.and _ .tt).before a A.U = true; rw [Cond.before_and, mv hU wc]; rfl, mv hU wc, mv hU wz, hp.2.2.1, hp.2.2.2⟩)
    (fun m meth c A a g mk Y hp => ⟨hp.1, wtrans (s := s.setVm vm0) hZ Y.warmed, hp.2.1, (CHv.at Y hZ hEL H).1, fun x hx => (CHv.at Y hZ hEL H).safe (hsx x hx).1 (hsx x hx).2⟩) (fun _ _ _ _ _ _ _ _ _ => trivial)
    (fun _ _ _ _ ⟨v, L, h1, h2, h3, h4⟩ => ⟨L, _, _, h4, rfl, rfl, ⟨v, h1, h2⟩, h3⟩)
    (fun m meth c A a g mk v t L k n Y hp _ _ ⟨e1, e2, ⟨v', e3, e4⟩, e5⟩ => by
      cases e3; subst e1 e2
      refine ⟨L, e4, rfl, rfl, rfl, (CHv.at Y hZ hEL H).trans ?_⟩
      rw [← hp.2.1]; exact e5)
theorem own_callSW (X : Stand p l e R (s.setVm vm0) m args below meth c T locs cells slots) (hx : p.tables.exec = Jvm.exec) (hZ : Z.Warmed39 (s.setVm vm0).vm) {own : String} {index W maxL : Nat} {y : MethodName} {bytes : ByteArray} {ret : Option FieldType} {rm : Room} {as' : Array Value} {Q : Option Value → Heap → List Loc → Prop}
    (hown : (s.setVm vm0).vm.findClass own = some m.cls) (w1 : (Jvm.Cond.methodLink own index y).before a0 Z = true) (w2 : (Jvm.Cond.static y).before a0 Z = true) (w3 : (Jvm.Cond.initialized y.cls).before a0 Z = true) (w4 : (Jvm.Cond.code y bytes maxL ret).before a0 Z = true) (hy : y.cls ≠ "java/lang/invoke/MethodHandle" ∧ y.cls ≠ "java/lang/invoke/VarHandle")
    (hM : MetFree l y (head1 [Jvm.Cond.code y bytes maxL ret] rm) (fun a U => a = as' ∧ Z.Warmed39 U.vm ∧ U.heap = h ∧ CHv Z EL U.vm h ∧ ∀ x ∈ sx, Safe Z EL U.vm h x) (fun _ _ _ _ _ => True) (fun _ U o U' => ∃ v L, o = .returned v ∧ Q v U'.heap L ∧ CHr Z EL U.vm U.heap U'.vm U'.heap ∧ ReturnedEndW U o U' L rm.cells rm.slots)) (eT : T.heap = h) {k0 : Nat} (hS : s.Since vm0 k0) (hk : k0 ≤ h.size) (hEL : EW Z a0 EL) (H : CHv Z EL vm0 h) (hsx : ∀ x ∈ sx, x < h.size ∧ Safe Z EL vm0 h x)
    {g : JFrame} (hg : g.method = m) {ml : Nat} (hml : c.maxLocals = ml) (hsz : g.locals.size = ml) {rest : List Value} (hlen : ∀ sig, parseMethodDescriptor y.desc = some sig → (as'.toList).length = sig.parameters.length) (hstack : g.stack = (as'.toList).reverse ++ rest) (has : (as'.toList).toArray = as') (hW : 2 * g.monitorRoom + (rest.map fun v => v.category).sum = W)
    (hdg : decode c.code g.pc = .ok (.invokestatic index, 3)) (hfit : (rm.frames + 1 ≤ R.frames ∧ W + (maxL + 11) + rm.locals ≤ R.locals) ∧ cells + rm.cells ≤ R.cells ∧ slots + rm.slots ≤ R.slots) :
    ∃ (v : Option Value) (T' : State) (L : List Loc), Q v T'.heap L ∧ s.Since T'.vm T'.heap.size ∧ Z.Warmed39 (s.setVm T'.vm).vm ∧ (s.setVm T'.vm).vm.findClass own = some m.cls ∧ CHr Z EL vm0 h T'.vm T'.heap ∧ Stand p l e R (s.setVm T'.vm) m args below meth c T' (locs ++ L) (cells + rm.cells) (slots + rm.slots) ∧ ∀ target, Steps p.tables e below (T'.setTop { g with pc := g.pc + 3, stack := v.toList ++ rest }) target → Steps p.tables e below (T.setTop g) target := by
  obtain ⟨v, _, ⟨T', L', c', s'⟩, -, X', hS2, hgr, ⟨L, hq, e1, e2, e3, hC⟩, st⟩ := callSS X hx hown (mvT hZ w1) (mvT hZ w2) (mvT hZ w3) (mvT hZ w4) hy (own_backS (W := W) hM hZ w4 w3 hfit.1.1 hfit.1.2 hEL H hsx) hg (hsz.trans hml.symm) hlen hstack (Nat.le_of_eq hW) hdg (fun _ _ => ⟨has, eT, hfit.2.1, hfit.2.2⟩)
  subst e1 e2 e3
  have hr := rebS (n1 := T.heap.size) hS (by rw [eT]; exact hk) X' hS2 hgr hZ hown
  exact ⟨v, T', L, hq, hr.2.1, hr.2.2.1, hr.2.2.2, hC, hr.1, fun _ k => st.trans k⟩
theorem own_virtualW (X : Stand p l e R (s.setVm vm0) m args below meth c T locs cells slots) (hx : p.tables.exec = Jvm.exec) (hZ : Z.Warmed39 (s.setVm vm0).vm) {own C : String} {index W maxL : Nat} {y z : MethodName} {bytes : ByteArray} {ret : Option FieldType} {rm : Room} {as' : Array Value} {Q : Option Value → Heap → List Loc → Prop}
    (hown : (s.setVm vm0).vm.findClass own = some m.cls) (w1 : (Jvm.Cond.methodLink own index y).before a0 Z = true) (w2 : (Jvm.Cond.declares y).before a0 Z = true) (nf : NotFace (s.setVm vm0) y) (w5 : (Jvm.Cond.selects C y z).before a0 Z = true) (w6 : (Jvm.Cond.instanceMethod z).before a0 Z = true) (w3 : (Jvm.Cond.initialized z.cls).before a0 Z = true) (w4 : (Jvm.Cond.code z bytes maxL ret).before a0 Z = true) (hy : y.cls ≠ "java/lang/invoke/MethodHandle" ∧ y.cls ≠ "java/lang/invoke/VarHandle")
    (hM : MetFree l z (head1 [Jvm.Cond.code z bytes maxL ret] rm) (fun a U => a = as' ∧ Z.Warmed39 U.vm ∧ U.heap = h ∧ CHv Z EL U.vm h ∧ ∀ x ∈ sx, Safe Z EL U.vm h x) (fun _ _ _ _ _ => True) (fun _ U o U' => ∃ v L, o = .returned v ∧ Q v U'.heap L ∧ CHr Z EL U.vm U.heap U'.vm U'.heap ∧ ReturnedEndW U o U' L rm.cells rm.slots)) (eT : T.heap = h) {k0 : Nat} (hS : s.Since vm0 k0) (hk : k0 ≤ h.size) (hEL : EW Z a0 EL) (H : CHv Z EL vm0 h) (hsx : ∀ x ∈ sx, x < h.size ∧ Safe Z EL vm0 h x) {b : Addr} (E : Exa Z h b C)
    {g : JFrame} (hg : g.method = m) {ml : Nat} (hml : c.maxLocals = ml) (hsz : g.locals.size = ml) {rest : List Value} (hlen : ∀ sig, parseMethodDescriptor y.desc = some sig → (as'.toList.tail).length = sig.parameters.length) (hstack : g.stack = (as'.toList.tail).reverse ++ .ref b :: rest) (has : (.ref b :: as'.toList.tail).toArray = as') (hW : 2 * g.monitorRoom + (rest.map fun v => v.category).sum = W)
    (hdg : decode c.code g.pc = .ok (.invokevirtual index, 3)) (hfit : (rm.frames + 1 ≤ R.frames ∧ W + (maxL + 11) + rm.locals ≤ R.locals) ∧ cells + rm.cells ≤ R.cells ∧ slots + rm.slots ≤ R.slots) :
    ∃ (v : Option Value) (T' : State) (L : List Loc), Q v T'.heap L ∧ s.Since T'.vm T'.heap.size ∧ Z.Warmed39 (s.setVm T'.vm).vm ∧ (s.setVm T'.vm).vm.findClass own = some m.cls ∧ CHr Z EL vm0 h T'.vm T'.heap ∧ Stand p l e R (s.setVm T'.vm) m args below meth c T' (locs ++ L) (cells + rm.cells) (slots + rm.slots) ∧ ∀ target, Steps p.tables e below (T'.setTop { g with pc := g.pc + 3, stack := v.toList ++ rest }) target → Steps p.tables e below (T.setTop g) target := by
  obtain ⟨cB, kB, qa, qb, qc⟩ := isOf hZ eT E
  obtain ⟨v, _, ⟨T', L', c', s'⟩, -, X', hS2, hgr, ⟨L, hq, e1, e2, e3, hC⟩, st⟩ := X.virtualBackS hx hown (mvT hZ w1) (mvT hZ w2) nf (mvT hZ w5) (mvT hZ w6) hy (own_backS (W := W) hM hZ w4 w3 hfit.1.1 hfit.1.2 hEL H hsx) qa qc hg (hsz.trans hml.symm) (Steps.refl _) hlen hstack (Nat.le_of_eq hW) hdg (fun _ _ => ⟨has, eT, hfit.2.1, hfit.2.2⟩)
  subst e1 e2 e3
  have hr := rebS (n1 := T.heap.size) hS (by rw [eT]; exact hk) X' hS2 hgr hZ hown
  exact ⟨v, T', L, hq, hr.2.1, hr.2.2.1, hr.2.2.2, hC, hr.1, fun _ k => st.trans k⟩
theorem own_privateW (X : Stand p l e R (s.setVm vm0) m args below meth c T locs cells slots) (hx : p.tables.exec = Jvm.exec) (hZ : Z.Warmed39 (s.setVm vm0).vm) {own K : String} {index W maxL : Nat} {y : MethodName} {bytes : ByteArray} {ret : Option FieldType} {rm : Room} {as' : Array Value} {Q : Option Value → Heap → List Loc → Prop}
    (hown : (s.setVm vm0).vm.findClass own = some m.cls) (w1 : (Jvm.Cond.methodLink own index y).before a0 Z = true) (w2 : (Jvm.Cond.instanceMethod y).before a0 Z = true) (hsel : (Jvm.Cond.selects y.cls y y).before args (s.setVm vm0) = true) (w6 : (Jvm.Cond.privateMethod y).before a0 Z = true) (w3 : (Jvm.Cond.initialized y.cls).before a0 Z = true) (w4 : (Jvm.Cond.code y bytes maxL ret).before a0 Z = true) (hy : y.cls ≠ "java/lang/invoke/MethodHandle" ∧ y.cls ≠ "java/lang/invoke/VarHandle")
    (hM : MetFree l y (head1 [Jvm.Cond.code y bytes maxL ret] rm) (fun a U => a = as' ∧ Z.Warmed39 U.vm ∧ U.heap = h ∧ CHv Z EL U.vm h ∧ ∀ x ∈ sx, Safe Z EL U.vm h x) (fun _ _ _ _ _ => True) (fun _ U o U' => ∃ v L, o = .returned v ∧ Q v U'.heap L ∧ CHr Z EL U.vm U.heap U'.vm U'.heap ∧ ReturnedEndW U o U' L rm.cells rm.slots)) (eT : T.heap = h) {k0 : Nat} (hS : s.Since vm0 k0) (hk : k0 ≤ h.size) (hEL : EW Z a0 EL) (H : CHv Z EL vm0 h) (hsx : ∀ x ∈ sx, x < h.size ∧ Safe Z EL vm0 h x) {b : Addr} (E : Exa Z h b K)
    {g : JFrame} (hg : g.method = m) {ml : Nat} (hml : c.maxLocals = ml) (hsz : g.locals.size = ml) {rest : List Value} (hlen : ∀ sig, parseMethodDescriptor y.desc = some sig → (as'.toList.tail).length = sig.parameters.length) (hstack : g.stack = (as'.toList.tail).reverse ++ .ref b :: rest) (has : (.ref b :: as'.toList.tail).toArray = as') (hW : 2 * g.monitorRoom + (rest.map fun v => v.category).sum = W)
    (hdg : decode c.code g.pc = .ok (.invokevirtual index, 3)) (hfit : (rm.frames + 1 ≤ R.frames ∧ W + (maxL + 11) + rm.locals ≤ R.locals) ∧ cells + rm.cells ≤ R.cells ∧ slots + rm.slots ≤ R.slots) :
    ∃ (v : Option Value) (T' : State) (L : List Loc), Q v T'.heap L ∧ s.Since T'.vm T'.heap.size ∧ Z.Warmed39 (s.setVm T'.vm).vm ∧ (s.setVm T'.vm).vm.findClass own = some m.cls ∧ CHr Z EL vm0 h T'.vm T'.heap ∧ Stand p l e R (s.setVm T'.vm) m args below meth c T' (locs ++ L) (cells + rm.cells) (slots + rm.slots) ∧ ∀ target, Steps p.tables e below (T'.setTop { g with pc := g.pc + 3, stack := v.toList ++ rest }) target → Steps p.tables e below (T.setTop g) target := by
  obtain ⟨cq, q, q'⟩ := E.cell
  obtain ⟨v, _, ⟨T', L', c', s'⟩, -, X', hS2, hgr, ⟨L, hq, e1, e2, e3, hC⟩, st⟩ := X.privateBackS hx hown (mvT hZ w1) (mvT hZ w2) hsel (Cond.privateMethod_at (mvP hZ w6 (args := #[]))) (mvT hZ w4) hy (own_backS (W := W) hM hZ w4 w3 hfit.1.1 hfit.1.2 hEL H hsx) hg (hsz.trans hml.symm) (Steps.refl _) (by rw [eT]; exact q) q' hlen hstack (Nat.le_of_eq hW) hdg (fun _ _ => ⟨has, eT, hfit.2.1, hfit.2.2⟩)
  subst e1 e2 e3
  have hr := rebS (n1 := T.heap.size) hS (by rw [eT]; exact hk) X' hS2 hgr hZ hown
  exact ⟨v, T', L, hq, hr.2.1, hr.2.2.1, hr.2.2.2, hC, hr.1, fun _ k => st.trans k⟩
theorem own_endW (X : Stand p l e R (s.setVm vm0) m args below meth c T locs cells slots) (hlk : meth.locks = false) {v : Option Value} (hv : meth.sig.returnType = none → v = none) {k0 : Nat} (hS : s.Since vm0 k0) (hk : k0 ≤ h.size) (hfit : cells ≤ R.cells ∧ slots ≤ R.slots) {h0 : Heap} (hh : s.heap = h0) (eT : T.heap = h) (C : CHr Z EL s.vm h0 vm0 h) (hZ : Z.Warmed39 vm0) (hEL : EW Z a0 EL) {Q : Option Value → Heap → List Loc → Prop} (hq : Q v T.heap locs) {S : State}
    (hs : ∀ fs, (∀ (f : JFrame) (acts : List Action), f.method = m → f.locked = none → f.entered = [] → (doReturn e (T.setTop f) acts v).1 = T.setFrames fs) → Steps p.tables e below S (T.setFrames fs)) : EndW EL Z p e s below R Q S := by
  subst hh eT
  obtain ⟨fs, hr, hrun, hended, hRW⟩ := X.leaveW hS hk hv
  have hC : CHr Z EL s.vm s.heap T.vm T.heap := C.trans (CHv.at X hZ hEL C.1)
  exact ⟨_, _, hs fs hr, hrun, hended, _, _, rfl, hq, hC, hRW.1, hRW.2.1, hRW.2.2.1, hRW.2.2.2.mono hfit.1 hfit.2⟩
theorem own_sx0 : ∀ x ∈ ([] : List Addr), x < h.size ∧ Safe Z EL vm0 h x := fun _ q => nomatch q
end OwnWide
section OwnSites
variable {p : Program} {l : Launch} {e : Env} {R : Room} {s : State} {m : MethodId} {args : Array Value} {below : List Frame} {meth : Method} {c : Code} {T : State} {locs : List Loc} {cells slots : Nat} {Z : State} {a0 : Array Value} {h : Heap} {own C : String} {index W maxL : Nat} {y : MethodName} {bytes : ByteArray} {ret : Option FieldType} {ps : List FieldType} {r : Option FieldType} {rm : Room} {as' : Array Value} {Q : Option Value → Heap → List Loc → Prop}
abbrev WS (Z : State) (a0 : Array Value) (own : String) (index : Nat) (y : MethodName) (bytes : ByteArray) (maxL : Nat) (ret : Option FieldType) (ps : List FieldType) (r : Option FieldType) : Prop := (Jvm.Cond.methodLink own index y).before a0 Z = true ∧ (Jvm.Cond.static y).before a0 Z = true ∧ (Jvm.Cond.initialized y.cls).before a0 Z = true ∧ (Jvm.Cond.code y bytes maxL ret).before a0 Z = true ∧ (y.cls ≠ "java/lang/invoke/MethodHandle" ∧ y.cls ≠ "java/lang/invoke/VarHandle") ∧ parseMethodDescriptor y.desc = some ⟨ps, r⟩
abbrev WI (Z : State) (a0 : Array Value) (own : String) (index : Nat) (y : MethodName) (bytes : ByteArray) (maxL : Nat) (ps : List FieldType) : Prop := (Jvm.Cond.methodLink own index y).before a0 Z = true ∧ (Jvm.Cond.instanceMethod y).before a0 Z = true ∧ (Jvm.Cond.initialized y.cls).before a0 Z = true ∧ (Jvm.Cond.code y bytes maxL none).before a0 Z = true ∧ (y.cls ≠ "java/lang/invoke/MethodHandle" ∧ y.cls ≠ "java/lang/invoke/VarHandle") ∧ parseMethodDescriptor y.desc = some ⟨ps, none⟩ ∧ y.name = "<init>"
abbrev WV (Z : State) (a0 : Array Value) (own : String) (index : Nat) (C : String) (y : MethodName) (bytes : ByteArray) (maxL : Nat) (ret : Option FieldType) (ps : List FieldType) (r : Option FieldType) : Prop := (Jvm.Cond.methodLink own index y).before a0 Z = true ∧ (Jvm.Cond.declares y).before a0 Z = true ∧ (Jvm.Cond.selects C y y).before a0 Z = true ∧ (Jvm.Cond.instanceMethod y).before a0 Z = true ∧ (Jvm.Cond.initialized y.cls).before a0 Z = true ∧ (Jvm.Cond.code y bytes maxL ret).before a0 Z = true ∧ (y.cls ≠ "java/lang/invoke/MethodHandle" ∧ y.cls ≠ "java/lang/invoke/VarHandle") ∧ parseMethodDescriptor y.desc = some ⟨ps, r⟩
theorem cS (X : Stand p l e R s m args below meth c T locs cells slots) (hx : p.tables.exec = Jvm.exec) (hZ : Z.Warmed39 s.vm) (hown : s.vm.findClass own = some m.cls) (w : WS Z a0 own index y bytes maxL ret ps r) (hM : Ct l Z y bytes maxL ret rm as' h Q) (eT : T.heap = h) {g : JFrame} (hg : g.method = m) {ml : Nat} (hml : c.maxLocals = ml) (hsz : g.locals.size = ml) {rest : List Value} (hlen : (as'.toList).length = ps.length) (hstack : g.stack = (as'.toList).reverse ++ rest) (has : (as'.toList).toArray = as') (hW : 2 * g.monitorRoom + (rest.map fun v => v.category).sum = W) (hdg : decode c.code g.pc = .ok (.invokestatic index, 3)) (hfit : (rm.frames + 1 ≤ R.frames ∧ W + (maxL + 11) + rm.locals ≤ R.locals) ∧ cells + rm.cells ≤ R.cells ∧ slots + rm.slots ≤ R.slots) :
    ∃ (v : Option Value) (T' : State) (L : List Loc), Q v T'.heap L ∧ Stand p l e R s m args below meth c T' (locs ++ L) (cells + rm.cells) (slots + rm.slots) ∧ ∀ target, Steps p.tables e below (T'.setTop { g with pc := g.pc + 3, stack := v.toList ++ rest }) target → Steps p.tables e below (T.setTop g) target :=
  own_callS X hx hZ hown w.1 w.2.1 w.2.2.1 w.2.2.2.1 w.2.2.2.2.1 hM eT hg hml hsz (lenOf w.2.2.2.2.2 hlen) hstack has hW hdg hfit
theorem cI (X : Stand p l e R s m args below meth c T locs cells slots) (hx : p.tables.exec = Jvm.exec) (hZ : Z.Warmed39 s.vm) (hown : s.vm.findClass own = some m.cls) (w : WI Z a0 own index y bytes maxL ps) (hM : Ct l Z y bytes maxL none rm as' h Q) (eT : T.heap = h) {b : Addr} {g : JFrame} (hg : g.method = m) {ml : Nat} (hml : c.maxLocals = ml) (hsz : g.locals.size = ml) {rest : List Value} (hlen : (as'.toList.tail).length = ps.length) (hstack : g.stack = (as'.toList.tail).reverse ++ .ref b :: rest) (has : (.ref b :: as'.toList.tail).toArray = as') (hW : 2 * g.monitorRoom + (rest.map fun v => v.category).sum = W) (hdg : decode c.code g.pc = .ok (.invokespecial index, 3)) (hfit : (rm.frames + 1 ≤ R.frames ∧ W + (maxL + 11) + rm.locals ≤ R.locals) ∧ cells + rm.cells ≤ R.cells ∧ slots + rm.slots ≤ R.slots) :
    ∃ (v : Option Value) (T' : State) (L : List Loc), Q v T'.heap L ∧ Stand p l e R s m args below meth c T' (locs ++ L) (cells + rm.cells) (slots + rm.slots) ∧ ∀ target, Steps p.tables e below (T'.setTop { g with pc := g.pc + 3, stack := v.toList ++ rest }) target → Steps p.tables e below (T.setTop g) target :=
  own_special X hx hZ w.2.2.2.2.2.2 hown w.1 w.2.1 w.2.2.1 w.2.2.2.1 w.2.2.2.2.1 hM eT hg hml hsz (lenOf w.2.2.2.2.2.1 hlen) hstack has hW hdg hfit
theorem cV (X : Stand p l e R s m args below meth c T locs cells slots) (hx : p.tables.exec = Jvm.exec) (hZ : Z.Warmed39 s.vm) (hown : s.vm.findClass own = some m.cls) (w : WV Z a0 own index C y bytes maxL ret ps r) (hM : Ct l Z y bytes maxL ret rm as' h Q) (eT : T.heap = h) {b : Addr} (E : Exa Z h b C) {g : JFrame} (hg : g.method = m) {ml : Nat} (hml : c.maxLocals = ml) (hsz : g.locals.size = ml) {rest : List Value} (hlen : (as'.toList.tail).length = ps.length) (hstack : g.stack = (as'.toList.tail).reverse ++ .ref b :: rest) (has : (.ref b :: as'.toList.tail).toArray = as') (hW : 2 * g.monitorRoom + (rest.map fun v => v.category).sum = W) (hdg : decode c.code g.pc = .ok (.invokevirtual index, 3)) (hfit : (rm.frames + 1 ≤ R.frames ∧ W + (maxL + 11) + rm.locals ≤ R.locals) ∧ cells + rm.cells ≤ R.cells ∧ slots + rm.slots ≤ R.slots) :
    ∃ (v : Option Value) (T' : State) (L : List Loc), Q v T'.heap L ∧ Stand p l e R s m args below meth c T' (locs ++ L) (cells + rm.cells) (slots + rm.slots) ∧ ∀ target, Steps p.tables e below (T'.setTop { g with pc := g.pc + 3, stack := v.toList ++ rest }) target → Steps p.tables e below (T.setTop g) target :=
  own_virtual X hx hZ hown w.1 w.2.1 (notFace_of_selects (args := #[]) (mvT hZ w.2.2.1)) w.2.2.1 w.2.2.2.1 w.2.2.2.2.1 w.2.2.2.2.2.1 w.2.2.2.2.2.2.1 hM eT E hg hml hsz (lenOf w.2.2.2.2.2.2.2 hlen) hstack has hW hdg hfit
theorem cSW {vm0 : Vm} {EL : List (String × Nat)} {sx : List Addr} (X : Stand p l e R (s.setVm vm0) m args below meth c T locs cells slots) (hx : p.tables.exec = Jvm.exec) (hZ : Z.Warmed39 (s.setVm vm0).vm) (hown : (s.setVm vm0).vm.findClass own = some m.cls) (w : WS Z a0 own index y bytes maxL ret ps r) (hM : CtW EL sx l Z y bytes maxL ret rm as' h Q) (eT : T.heap = h) {k0 : Nat} (hS : s.Since vm0 k0) (hk : k0 ≤ h.size) (hEL : EW Z a0 EL) (H : CHv Z EL vm0 h) (hsx : ∀ x ∈ sx, x < h.size ∧ Safe Z EL vm0 h x) {g : JFrame} (hg : g.method = m) {ml : Nat} (hml : c.maxLocals = ml) (hsz : g.locals.size = ml) {rest : List Value} (hlen : (as'.toList).length = ps.length) (hstack : g.stack = (as'.toList).reverse ++ rest) (has : (as'.toList).toArray = as') (hW : 2 * g.monitorRoom + (rest.map fun v => v.category).sum = W) (hdg : decode c.code g.pc = .ok (.invokestatic index, 3)) (hfit : (rm.frames + 1 ≤ R.frames ∧ W + (maxL + 11) + rm.locals ≤ R.locals) ∧ cells + rm.cells ≤ R.cells ∧ slots + rm.slots ≤ R.slots) :
    ∃ (v : Option Value) (T' : State) (L : List Loc), Q v T'.heap L ∧ s.Since T'.vm T'.heap.size ∧ Z.Warmed39 (s.setVm T'.vm).vm ∧ (s.setVm T'.vm).vm.findClass own = some m.cls ∧ CHr Z EL vm0 h T'.vm T'.heap ∧ Stand p l e R (s.setVm T'.vm) m args below meth c T' (locs ++ L) (cells + rm.cells) (slots + rm.slots) ∧ ∀ target, Steps p.tables e below (T'.setTop { g with pc := g.pc + 3, stack := v.toList ++ rest }) target → Steps p.tables e below (T.setTop g) target :=
  own_callSW X hx hZ hown w.1 w.2.1 w.2.2.1 w.2.2.2.1 w.2.2.2.2.1 hM eT hS hk hEL H hsx hg hml hsz (lenOf w.2.2.2.2.2 hlen) hstack has hW hdg hfit
theorem cVW {vm0 : Vm} {EL : List (String × Nat)} {sx : List Addr} (X : Stand p l e R (s.setVm vm0) m args below meth c T locs cells slots) (hx : p.tables.exec = Jvm.exec) (hZ : Z.Warmed39 (s.setVm vm0).vm) (hown : (s.setVm vm0).vm.findClass own = some m.cls) (w : WV Z a0 own index C y bytes maxL ret ps r) (hM : CtW EL sx l Z y bytes maxL ret rm as' h Q) (eT : T.heap = h) {k0 : Nat} (hS : s.Since vm0 k0) (hk : k0 ≤ h.size) (hEL : EW Z a0 EL) (H : CHv Z EL vm0 h) (hsx : ∀ x ∈ sx, x < h.size ∧ Safe Z EL vm0 h x) {b : Addr} (E : Exa Z h b C) {g : JFrame} (hg : g.method = m) {ml : Nat} (hml : c.maxLocals = ml) (hsz : g.locals.size = ml) {rest : List Value} (hlen : (as'.toList.tail).length = ps.length) (hstack : g.stack = (as'.toList.tail).reverse ++ .ref b :: rest) (has : (.ref b :: as'.toList.tail).toArray = as') (hW : 2 * g.monitorRoom + (rest.map fun v => v.category).sum = W) (hdg : decode c.code g.pc = .ok (.invokevirtual index, 3)) (hfit : (rm.frames + 1 ≤ R.frames ∧ W + (maxL + 11) + rm.locals ≤ R.locals) ∧ cells + rm.cells ≤ R.cells ∧ slots + rm.slots ≤ R.slots) :
    ∃ (v : Option Value) (T' : State) (L : List Loc), Q v T'.heap L ∧ s.Since T'.vm T'.heap.size ∧ Z.Warmed39 (s.setVm T'.vm).vm ∧ (s.setVm T'.vm).vm.findClass own = some m.cls ∧ CHr Z EL vm0 h T'.vm T'.heap ∧ Stand p l e R (s.setVm T'.vm) m args below meth c T' (locs ++ L) (cells + rm.cells) (slots + rm.slots) ∧ ∀ target, Steps p.tables e below (T'.setTop { g with pc := g.pc + 3, stack := v.toList ++ rest }) target → Steps p.tables e below (T.setTop g) target :=
  own_virtualW X hx hZ hown w.1 w.2.1 (notFace_of_selects (args := #[]) (mvT hZ w.2.2.1)) w.2.2.1 w.2.2.2.1 w.2.2.2.2.1 w.2.2.2.2.2.1 w.2.2.2.2.2.2.1 hM eT hS hk hEL H hsx E hg hml hsz (lenOf w.2.2.2.2.2.2.2 hlen) hstack has hW hdg hfit
end OwnSites
theorem own_irr (x : Int32) : ¬ (x < x) := Int32.lt_irrefl
theorem own_old_le {Z : State} {n0 : Nat} {h : Heap} (O : Old Z n0 h) : n0 ≤ h.size := O.1 ▸ O.2.1
theorem own_sta {Z : State} {args : Array Value} {C n d : String} {z : Int32} (h : (Jvm.Cond.eq (Term.static C n d) (Term.int z)).value args Z none Z [] = some true) : (Term.static C n d).eval args Z none [] Z = some (.int z) := by
  obtain ⟨x, y, e1, e2, k1, -⟩ := cmp_v (Or.inl h)
  cases (Term.int_eval z).symm.trans e2
  have hx : ∃ q, x = .int q := by cases x <;> simp [Kin, Value.isRef] at k1 ⊢
  obtain ⟨q, rfl⟩ := hx
  have := gotT (P := q = z) (by simp [Cond.value, e1, Term.int_eval]) h
  rw [e1, this]
theorem own_len {Z : State} {args : Array Value} {t : Term} {a : Addr} {cl : Cell} {ty : FieldType} {z : Int32} (ev : t.eval args Z none [] Z = some (.ref a)) (A : Arr Z Z.heap a cl ty) (h : (Jvm.Cond.eq (Term.length t) (Term.int z)).value args Z none Z [] = some true) : cl.slots.size < 2 ^ 31 ∧ cl.slots.size.toInt32 = z := by
  obtain ⟨x, y, e1, e2, k1, -⟩ := cmp_v (Or.inl h)
  cases (Term.int_eval z).symm.trans e2
  have harr := A.fin (Vm.Alike.refl _)
  have h31 := SBG.length_lt ev harr e1
  refine ⟨h31, ?_⟩
  rw [len_f ev harr h31] at e1
  cases Option.some.inj e1
  exact gotT (P := cl.slots.size.toInt32 = z) (by simp [Cond.value, len_f ev harr h31, Term.int_eval]) h
theorem own_lsw {tb : Tables} [Ours tb] {e : Env} {below : List Frame} {T target : State} {m : MethodId} {c : Code} {g : JFrame} (h : At T m c below) (hx : tb.exec = Jvm.exec) (hg : g.method = m) {dflt : Int} {prs : Array (Int × Int)} {len : Nat} {o : Int} {pc0 pc' : Nat} (hpc : g.pc = pc0) (hd : decode c.code g.pc = .ok (.lookupswitch dflt prs, len)) {i : Int32} {rest : List Value} (hs : g.stack = .int i :: rest)
    (hso : (prs.toList.zip (prs.toList.drop 1)).all (fun (a, next) => a.1 < next.1) = true) (hoff : lookupswitch.offset prs.toList dflt i.toInt = o) (ho : 0 ≤ (pc0 : Int) + o) (hp : ((pc0 : Int) + o).toNat = pc')
    (hr : Steps tb e below (T.setTop { g with pc := pc', stack := rest }) target) : Steps tb e below (T.setTop g) target := by
  subst hg hpc hp
  have hso' := List.all_eq_true.mp hso
  jvm_step h [h.top, hx, hd, hs, lookupswitch.wp_chain, hoff, ho]
  refine ⟨?_, hr⟩
  simpa using hso
theorem own_getFR (X : Stand p l e R s m args below meth c T locs cells slots) (hx : p.tables.exec = Jvm.exec) (hZ : Z.Warmed39 s.vm) {own R0 O n d : String} {index : Nat} (hown : s.vm.findClass own = some m.cls) (w : (Jvm.Cond.fieldRef own index R0 n d).before a0 Z = true) (via : Via Z R0 O n d)
    (eT : T.heap = h) {a : Addr} {v : Value} (F : Fld Z h a O n d v) {g : JFrame} (hg : g.method = m) {rest : List Value} (hs : g.stack = .ref a :: rest) (hd : decode c.code g.pc = .ok (.getfield index, 3)) : ∀ target, Steps p.tables e below (T.setTop { g with pc := g.pc + 3, stack := v :: rest }) target → Steps p.tables e below (T.setTop g) target := by
  obtain ⟨cell, cf, k, i, f, h1, h2, h3, h4, -, -, h7⟩ := F
  have w1 : (Jvm.Cond.fieldRef own index R0 n d).before a0 (Z.setVm s.vm) = true := Cond.fieldRef_warmed39 hZ w
  have w2 : (Jvm.Cond.fieldRef own index R0 n d).before a0 ((Z.setVm s.vm).setVm T.vm) = true := Cond.fieldRef_warmed (s := Z.setVm s.vm) X.warmed w1
  obtain ⟨k1, hi1, -⟩ := State.fieldFound?_setVm (s := Z) hZ.alike (via _ h2)
  obtain ⟨k2, hi2, -⟩ := State.fieldFound?_setVm (s := Z.setVm s.vm) X.warmed.alike hi1
  obtain ⟨c', k', i', f', q1, q2⟩ := Cond.fieldRef_spec (s := (Z.setVm s.vm).setVm T.vm) (cur := m.cls) (by show T.vm.findClass own = _; rw [X.warmed.alike.findClass]; exact hown) w2
  cases hi2.symm.trans q1
  intro target hrest
  subst hg
  jvm_step X.here [hx, hd, getfield.wp_ready (e := e) (s := T) (f := g) X.here.top q2 h3 hs (show T.heap[a]? = some cell by rw [eT]; exact h1) h4 h7]
  exact hrest
theorem own_selP {y : MethodName} {n : Nat} (w2 : (Jvm.Cond.instanceMethod y).before a0 Z = true) (w6 : (Jvm.Cond.privateMethod y).before a0 Z = true) (wi : (Jvm.Cond.instantiable y.cls n).before a0 Z = true) (hy : y.cls ≠ "java/lang/invoke/MethodHandle" ∧ y.cls ≠ "java/lang/invoke/VarHandle") : (Jvm.Cond.selects y.cls y y).before a0 Z = true := by
  obtain ⟨c, k, q1, q2, -, q3, -⟩ := Cond.instantiable_spec wi
  simp only [Bool.or_eq_false_iff] at q3
  exact selects_self_of_private q1 q2 q3.1 (Cond.privateMethod_at w6) w2 hy
theorem own_rng (x : Int32) : -2147483648 ≤ x.toInt ∧ x.toInt ≤ 2147483647 := by have := rng32 x; omega
theorem own_mask (x m : Int32) {n : Int} (h : m.toInt = n ∧ 0 ≤ n) : 0 ≤ (x &&& m).toInt ∧ (x &&& m).toInt ≤ n := by have := c_and x m (by omega); omega
theorem own_rem (x y : Int32) (d : Int) {lo hi l h : Int} (hy : y.toInt = d ∧ 0 < d) (hx : lo ≤ x.toInt ∧ x.toInt ≤ hi) (q : (0 ≤ lo ∧ l = 0 ∧ d - 1 ≤ h) ∨ (l = -(d - 1) ∧ h = d - 1)) : l ≤ (x % y).toInt ∧ (x % y).toInt ≤ h := by
  have := c_iremV x y
  rcases Int.lt_or_le x.toInt 0 with g | g
  · have := this.2 g (by omega); omega
  · have := this.1 g (by omega); omega
theorem own_ltT {x y : Int32} (h : x.toInt < y.toInt) : x < y := Int32.lt_iff_toInt_lt.mpr h
theorem own_ltF {x y : Int32} (h : ¬ (x.toInt < y.toInt)) : ¬ (x < y) := fun q => h (Int32.lt_iff_toInt_lt.mp q)
theorem own_hv {meth : Method} {t : FieldType} {v : Option Value} (hret : meth.sig.returnType = some t) : meth.sig.returnType = none → v = none := fun h => by rw [hret] at h; cases h
theorem own_sub {Z : State} {args : Array Value} {a b : Term} {idx : List Nat} {x y : Int32} (ha : a.eval args Z none idx Z = some (.int x)) (hb : b.eval args Z none idx Z = some (.int y)) : (Term.sub a b).eval args Z none idx Z = some (.int (x - y)) := by simp [Term.eval, ha, hb]
theorem own_box {Z : State} {a : Addr} {c : Cell} {K d : String} {z : Int32} {val : Int32 → Value} (B : Bxs Z a c K d z val) {j : Int32} (h1 : ¬ (j < 0)) (h2 : j < z) : ∃ b : Addr, c.slots[j.toNatClampNeg]? = some (.ref b) ∧ Exa Z Z.heap b K ∧ Fld Z Z.heap b K "value" d (val j) := B.2.2.2 j (inb_of B.2.1 ⟨h1, h2⟩)
theorem own_boxload {p : Program} {l : Launch} {e : Env} {R : Room} {s : State} {m : MethodId} {args : Array Value} {below : List Frame} {meth : Method} {c : Code} {T : State} {locs : List Loc} {cells slots : Nat} {Z : State} {h : Heap} {n0 : Nat} (X : Stand p l e R s m args below meth c T locs cells slots) (hx : p.tables.exec = Jvm.exec) (hZ : Z.Warmed39 s.vm) (eT : T.heap = h) (O : Old Z n0 h)
    {a b : Addr} {cl : Cell} {K d : String} {z : Int32} {val : Int32 → Value} (B : Bxs Z a cl K d z val) {j : Int32} (h1 : ¬ (j < 0)) (h2 : j < z) (el : cl.slots[j.toNatClampNeg]? = some (.ref b))
    {g : JFrame} (hg : g.method = m) {rest : List Value} (hs : g.stack = .int j :: .ref a :: rest) (hd : decode c.code g.pc = .ok (.aaload, 1)) {target : State} (hr : Steps p.tables e below (T.setTop { g with pc := g.pc + 1, stack := .ref b :: rest }) target) : Steps p.tables e below (T.setTop g) target := by
  have Ar := (B.ext O.2).1
  exact X.aaload hx (by rw [eT]; exact Ar.1) (State.isArrayOf_alike hZ.alike Ar.2.1) rfl Ar.2.2 (inb_of B.2.1 ⟨h1, h2⟩) el hg hs hd _ hr
theorem own_not {Z : State} {args : Array Value} {t : Term} {x z : Int32} (ev : t.eval args Z none [] Z = some (.int x)) (h : (Jvm.Cond.not (Jvm.Cond.eq t (Term.int z))).value args Z none Z [] = some true) : ¬ (x = z) := gotF (Cond.eq_ints ev (Term.int_eval z)) (not_v h)
theorem own_ltF' {x y : Int32} (h : ¬ (x < y)) : ¬ (x.toInt < y.toInt) := fun q => h (Int32.lt_iff_toInt_lt.mpr q)
theorem own_eqF' {x y : Int32} (h : ¬ (x = y)) : ¬ (x.toInt = y.toInt) := fun q => h (Int32.toInt_inj.mp q)
section OwnDbl
variable {tb : Tables} [Ours tb] {e : Env} {below : List Frame} {T target : State} {m : MethodId} {c : Code} {g : JFrame}
end OwnDbl
section OwnMir
variable {p : Program} {l : Launch} {e : Env} {R : Room} {s Z : State} {m : MethodId} {args a0 : Array Value} {below : List Frame} {meth : Method} {c : Code} {T : State} {locs : List Loc} {cells slots : Nat} {h h0 : Heap} {n0 : Nat} {ws : List Addr}
end OwnMir
section OwnObV
variable {Z : State} {h h' : Heap} {v v' : Value} {a : Addr} {sl : Nat} {ws : List Addr}
abbrev ObV (Z : State) (h : Heap) (v : Value) : Prop := v = .null ∨ ∃ y : Addr, v = .ref y ∧ Ins Z h y "java/lang/Object" true
theorem own_insK {C : String} {bo : Bool} (F : Ins Z h a C bo) (K : Keep h h' ws) : Ins Z h' a C bo := by
  obtain ⟨cell, cT, h1, h2, h3⟩ := F
  obtain ⟨c', q, e1, e2, -⟩ := K.2.2 _ _ h1
  exact ⟨c', cT, q, h2, by rw [e1, e2]; exact h3⟩
theorem own_obW (F : ObV Z h v) (W : Wr h h' a sl v') : ObV Z h' v := F.elim Or.inl fun ⟨y, e, i⟩ => Or.inr ⟨y, e, Ins.wr W i⟩
theorem own_obK (F : ObV Z h v) (K : Keep h h' ws) : ObV Z h' v := F.elim Or.inl fun ⟨y, e, i⟩ => Or.inr ⟨y, e, own_insK i K⟩
theorem own_obR (F : ObV Z h v) : v.isRef = true := by rcases F with rfl | ⟨y, rfl, -⟩ <;> rfl
theorem own_obF {C : String} (F : ObV Z h v) : fits (.object C) v = true := by rcases F with rfl | ⟨y, rfl, -⟩ <;> rfl
theorem own_obS {k : ClassId} (O : Ovr Z k "java/lang/Object") (F : ObV Z h v) : v = .null ∨ ∃ (y : Addr) (C : String), v = .ref y ∧ Ovr Z k C ∧ Ins Z h y C true := F.elim Or.inl fun ⟨y, e, i⟩ => Or.inr ⟨y, _, e, O, i⟩
end OwnObV
section OwnUpd
end OwnUpd
section OwnSelP
variable {Z : State} {a0 : Array Value}
end OwnSelP
section OwnShort
variable {p : Program} {l : Launch} {e : Env} {R : Room} {s : State} {m : MethodId} {args : Array Value} {below : List Frame} {meth : Method} {c : Code} {T : State} {locs : List Loc} {cells slots : Nat} {g : JFrame} {code : ByteArray} {target : State}
theorem wal (X : Stand p l e R s m args below meth c T locs cells slots) (hx : p.tables.exec = Jvm.exec) (hby : c.code = code) (hg : g.method = m) {k : Fin 4} {v : Value} (hd : decode code g.pc = .ok (.aload_n k, 1)) (hl : g.locals[k.val]? = some (.val v)) (hv : v.isRef = true) (hr : Steps p.tables e below (T.setTop { g with pc := g.pc + 1, stack := v :: g.stack }) target) : Steps p.tables e below (T.setTop g) target := XS.aloadN X.here hx hg (hb hby hd) hl hv hr
theorem waL (X : Stand p l e R s m args below meth c T locs cells slots) (hx : p.tables.exec = Jvm.exec) (hby : c.code = code) (hg : g.method = m) {k : Nat} {v : Value} (hd : decode code g.pc = .ok (.aload k, 2)) (hl : g.locals[k]? = some (.val v)) (hv : v.isRef = true) (hr : Steps p.tables e below (T.setTop { g with pc := g.pc + 2, stack := v :: g.stack }) target) : Steps p.tables e below (T.setTop g) target := XS.aload X.here hx hg (hb hby hd) hl hv hr
theorem wil (X : Stand p l e R s m args below meth c T locs cells slots) (hx : p.tables.exec = Jvm.exec) (hby : c.code = code) (hg : g.method = m) {k : Fin 4} {v : Int32} (hd : decode code g.pc = .ok (.iload_n k, 1)) (hl : g.locals[k.val]? = some (.val (.int v))) (hr : Steps p.tables e below (T.setTop { g with pc := g.pc + 1, stack := .int v :: g.stack }) target) : Steps p.tables e below (T.setTop g) target := XS.iloadN X.here hx hg (hb hby hd) hl hr
theorem wiL (X : Stand p l e R s m args below meth c T locs cells slots) (hx : p.tables.exec = Jvm.exec) (hby : c.code = code) (hg : g.method = m) {k : Nat} {v : Int32} (hd : decode code g.pc = .ok (.iload k, 2)) (hl : g.locals[k]? = some (.val (.int v))) (hr : Steps p.tables e below (T.setTop { g with pc := g.pc + 2, stack := .int v :: g.stack }) target) : Steps p.tables e below (T.setTop g) target := XS.iload X.here hx hg (hb hby hd) hl hr
theorem wic (X : Stand p l e R s m args below meth c T locs cells slots) (hx : p.tables.exec = Jvm.exec) (hby : c.code = code) (hg : g.method = m) {i : Int} (hd : decode code g.pc = .ok (.iconst i, 1)) (hr : Steps p.tables e below (T.setTop { g with pc := g.pc + 1, stack := .int (Int32.ofInt i) :: g.stack }) target) : Steps p.tables e below (T.setTop g) target := XS.iconst X.here hx hg (hb hby hd) hr
theorem wbp (X : Stand p l e R s m args below meth c T locs cells slots) (hx : p.tables.exec = Jvm.exec) (hby : c.code = code) (hg : g.method = m) {i : Int} (hd : decode code g.pc = .ok (.bipush i, 2)) (hr : Steps p.tables e below (T.setTop { g with pc := g.pc + 2, stack := .int (Int8.ofInt i).toInt32 :: g.stack }) target) : Steps p.tables e below (T.setTop g) target := XS.bipush X.here hx hg (hb hby hd) hr
theorem wsp (X : Stand p l e R s m args below meth c T locs cells slots) (hx : p.tables.exec = Jvm.exec) (hby : c.code = code) (hg : g.method = m) {i : Int} (hd : decode code g.pc = .ok (.sipush i, 3)) (hr : Steps p.tables e below (T.setTop { g with pc := g.pc + 3, stack := .int (Int16.ofInt i).toInt32 :: g.stack }) target) : Steps p.tables e below (T.setTop g) target := XS.sipush X.here hx hg (hb hby hd) hr
theorem wdu (X : Stand p l e R s m args below meth c T locs cells slots) (hx : p.tables.exec = Jvm.exec) (hby : c.code = code) (hg : g.method = m) {x : Value} {rest : List Value} (hd : decode code g.pc = .ok (.dup, 1)) (hs : g.stack = x :: rest) (hc : x.category = 1) (hr : Steps p.tables e below (T.setTop { g with pc := g.pc + 1, stack := x :: x :: rest }) target) : Steps p.tables e below (T.setTop g) target := XS.dup X.here hx hg (hb hby hd) hs hc hr
theorem was (X : Stand p l e R s m args below meth c T locs cells slots) (hx : p.tables.exec = Jvm.exec) (hby : c.code = code) (hg : g.method = m) {k : Fin 4} {x : Value} {rest : List Value} {l' : Array Slot} (hd : decode code g.pc = .ok (.astore_n k, 1)) (hs : g.stack = x :: rest) (hv : x.isRef = true) (hl : storeLocals g.locals k.val x = some l') (hr : Steps p.tables e below (T.setTop { g with pc := g.pc + 1, stack := rest, locals := l' }) target) : Steps p.tables e below (T.setTop g) target := XS.astoreN X.here hx hg (hb hby hd) hs hv hl hr
theorem waS (X : Stand p l e R s m args below meth c T locs cells slots) (hx : p.tables.exec = Jvm.exec) (hby : c.code = code) (hg : g.method = m) {k : Nat} {x : Value} {rest : List Value} {l' : Array Slot} (hd : decode code g.pc = .ok (.astore k, 2)) (hs : g.stack = x :: rest) (hv : x.isRef = true) (hl : storeLocals g.locals k x = some l') (hr : Steps p.tables e below (T.setTop { g with pc := g.pc + 2, stack := rest, locals := l' }) target) : Steps p.tables e below (T.setTop g) target := XS.astore X.here hx hg (hb hby hd) hs hv hl hr
theorem wis (X : Stand p l e R s m args below meth c T locs cells slots) (hx : p.tables.exec = Jvm.exec) (hby : c.code = code) (hg : g.method = m) {k : Fin 4} {x : Int32} {rest : List Value} {l' : Array Slot} (hd : decode code g.pc = .ok (.istore_n k, 1)) (hs : g.stack = .int x :: rest) (hl : storeLocals g.locals k.val (.int x) = some l') (hr : Steps p.tables e below (T.setTop { g with pc := g.pc + 1, stack := rest, locals := l' }) target) : Steps p.tables e below (T.setTop g) target := XS.istoreN X.here hx hg (hb hby hd) hs hl hr
theorem wiS (X : Stand p l e R s m args below meth c T locs cells slots) (hx : p.tables.exec = Jvm.exec) (hby : c.code = code) (hg : g.method = m) {k : Nat} {x : Int32} {rest : List Value} {l' : Array Slot} (hd : decode code g.pc = .ok (.istore k, 2)) (hs : g.stack = .int x :: rest) (hl : storeLocals g.locals k (.int x) = some l') (hr : Steps p.tables e below (T.setTop { g with pc := g.pc + 2, stack := rest, locals := l' }) target) : Steps p.tables e below (T.setTop g) target := XS.istore X.here hx hg (hb hby hd) hs hl hr
theorem wgt (X : Stand p l e R s m args below meth c T locs cells slots) (hx : p.tables.exec = Jvm.exec) (hby : c.code = code) (hg : g.method = m) {o : Int} {pc0 pc' : Nat} (hpc : g.pc = pc0) (hd : decode code g.pc = .ok (.goto o, 3)) (ho : 0 ≤ (pc0 : Int) + o) (hp : ((pc0 : Int) + o).toNat = pc') (hr : Steps p.tables e below (T.setTop { g with pc := pc' }) target) : Steps p.tables e below (T.setTop g) target := XS.goto X.here hx hg hpc (hb hby hd) ho hp hr
theorem wfy (X : Stand p l e R s m args below meth c T locs cells slots) (hx : p.tables.exec = Jvm.exec) (hby : c.code = code) (hg : g.method = m) {cd : ClassFile.Cond} {x : Int32} {rest : List Value} {o : Int} {pc0 pc' : Nat} (hpc : g.pc = pc0) (hd : decode code g.pc = .ok (.ifCond cd o, 3)) (hs : g.stack = .int x :: rest) (hc : ifCond.holds cd x = true) (ho : 0 ≤ (pc0 : Int) + o) (hp : ((pc0 : Int) + o).toNat = pc') (hr : Steps p.tables e below (T.setTop { g with pc := pc', stack := rest }) target) : Steps p.tables e below (T.setTop g) target := XS.ifYes X.here hx hg hpc (hb hby hd) hs hc ho hp hr
theorem wfn (X : Stand p l e R s m args below meth c T locs cells slots) (hx : p.tables.exec = Jvm.exec) (hby : c.code = code) (hg : g.method = m) {cd : ClassFile.Cond} {o : Int} {x : Int32} {rest : List Value} (hd : decode code g.pc = .ok (.ifCond cd o, 3)) (hs : g.stack = .int x :: rest) (hc : ifCond.holds cd x = false) (hr : Steps p.tables e below (T.setTop { g with pc := g.pc + 3, stack := rest }) target) : Steps p.tables e below (T.setTop g) target := XS.ifNo X.here hx hg (hb hby hd) hs hc hr
theorem wcy (X : Stand p l e R s m args below meth c T locs cells slots) (hx : p.tables.exec = Jvm.exec) (hby : c.code = code) (hg : g.method = m) {cd : ClassFile.Cond} {x y : Int32} {rest : List Value} {o : Int} {pc0 pc' : Nat} (hpc : g.pc = pc0) (hd : decode code g.pc = .ok (.if_icmp cd o, 3)) (hs : g.stack = .int y :: .int x :: rest) (hc : if_icmp.holds cd x y = true) (ho : 0 ≤ (pc0 : Int) + o) (hp : ((pc0 : Int) + o).toNat = pc') (hr : Steps p.tables e below (T.setTop { g with pc := pc', stack := rest }) target) : Steps p.tables e below (T.setTop g) target := XS.icmpYes X.here hx hg hpc (hb hby hd) hs hc ho hp hr
theorem wcn (X : Stand p l e R s m args below meth c T locs cells slots) (hx : p.tables.exec = Jvm.exec) (hby : c.code = code) (hg : g.method = m) {cd : ClassFile.Cond} {o : Int} {x y : Int32} {rest : List Value} (hd : decode code g.pc = .ok (.if_icmp cd o, 3)) (hs : g.stack = .int y :: .int x :: rest) (hc : if_icmp.holds cd x y = false) (hr : Steps p.tables e below (T.setTop { g with pc := g.pc + 3, stack := rest }) target) : Steps p.tables e below (T.setTop g) target := XS.icmpNo X.here hx hg (hb hby hd) hs hc hr
theorem wan (X : Stand p l e R s m args below meth c T locs cells slots) (hx : p.tables.exec = Jvm.exec) (hby : c.code = code) (hg : g.method = m) (hd : decode code g.pc = .ok (.aconst_null, 1)) (hr : Steps p.tables e below (T.setTop { g with pc := g.pc + 1, stack := .null :: g.stack }) target) : Steps p.tables e below (T.setTop g) target := XS.aconstNull X.here hx hg (hb hby hd) hr
end OwnShort
abbrev z0 : String := "java/util/ArrayList"
abbrev z1 : String := "com/example/latchwork/latchwork/etcd/Json$Reader"
abbrev z2 : String := "java/lang/Object"
abbrev z3 : String := "java/lang/String"
abbrev z4 : String := "[Ljava/lang/Object;"
abbrev z5 : String := "java/util/LinkedHashMap"
abbrev z6 : String := "java/util/AbstractList"
abbrev z7 : String := "elementData"
abbrev z8 : String := "com/example/latchwork/latchwork/etcd/Json"
abbrev z9 : String := "com/example/latchwork/latchwork/etcd/JsonElementPinLaw"
abbrev z10 : String := "(I)Ljava/lang/Object;"
abbrev z11 : String := "java/lang/Integer"
abbrev z12 : String := "(Ljava/lang/Object;[Ljava/lang/Object;I)V"
abbrev z13 : String := "java/lang/StringLatin1"
abbrev z14 : String := "(Ljava/util/List;I)Ljava/util/Map;"
abbrev z15 : String := "(Ljava/lang/Object;)Z"
abbrev z16 : String := "java/util/Map"
abbrev z17 : String := "java/util/HashMap"
abbrev z18 : String := "jdk/internal/util/Preconditions"
abbrev z19 : String := "(IIIILjava/util/Map;)Ljava/lang/Object;"
abbrev z20 : String := "Ljava/lang/String;"
abbrev z21 : String := "(IILjava/util/function/BiFunction;)I"
abbrev z22 : String := "java/util/Objects"
abbrev z23 : String := "java/util/List"
abbrev z24 : String := "java/lang/Math"
abbrev z25 : String := "accessOrder"
def SF (Z : State) (w1 : Int32) (w2 : Value) (w3 : Addr) (clw3 : Cell) (w4 : Addr) (kw4 : ClassId) (w5 : Addr) (kw5 : ClassId) : Prop := Sta Z Z.heap "java/lang/Integer$IntegerCache" "high" "I" (.int (127 : Int32)) ∧ Sta Z Z.heap z3 "COMPACT_STRINGS" "Z" (.int w1) ∧ ¬ (w1 = (0 : Int32)) ∧ Sta Z Z.heap z18 "SIOOBE_FORMATTER" "Ljava/util/function/BiFunction;" w2 ∧ w2.isRef = true ∧ Sta Z Z.heap "java/lang/Integer$IntegerCache" "cache" "[Ljava/lang/Integer;" (.ref w3) ∧ Bxs Z w3 clw3 z11 "I" (256 : Int32) (fun j => .int (j - (128 : Int32))) ∧ Sta Z Z.heap z0 "DEFAULTCAPACITY_EMPTY_ELEMENTDATA" z4 (.ref w4) ∧ Arv Z Z.heap w4 kw4 (.object z2) (0 : Int32) [] .null ∧ Exa Z Z.heap w4 z4 ∧ Sta Z Z.heap z0 "EMPTY_ELEMENTDATA" z4 (.ref w5) ∧ Arv Z Z.heap w5 kw5 (.object z2) (0 : Int32) [] .null ∧ Exa Z Z.heap w5 z4
theorem d29_0 : decode method_3_code 0 = .ok (.iload_n 2, 1) := by decide +kernel
theorem d29_1 : decode method_3_code 1 = .ok (.iconst 2, 1) := by decide +kernel
theorem d29_2 : decode method_3_code 2 = .ok (.iload_n 0, 1) := by decide +kernel
theorem d29_3 : decode method_3_code 3 = .ok (.imul, 1) := by decide +kernel
theorem d29_4 : decode method_3_code 4 = .ok (.iushr, 1) := by decide +kernel
theorem d29_5 : decode method_3_code 5 = .ok (.iconst 3, 1) := by decide +kernel
theorem d29_6 : decode method_3_code 6 = .ok (.iand, 1) := by decide +kernel
theorem d29_7 : decode method_3_code 7 = .ok (.istore 5, 2) := by decide +kernel
theorem d29_9 : decode method_3_code 9 = .ok (.iload_n 0, 1) := by decide +kernel
theorem d29_10 : decode method_3_code 10 = .ok (.iload_n 1, 1) := by decide +kernel
theorem d29_11 : decode method_3_code 11 = .ok (.if_icmp .eq 8, 3) := by decide +kernel
theorem d29_14 : decode method_3_code 14 = .ok (.iload 5, 2) := by decide +kernel
theorem d29_16 : decode method_3_code 16 = .ok (.ifCond .ne 6, 3) := by decide +kernel
theorem en_13 (t : Int32) (q : (0 ≤ t.toInt ∧ t.toInt ≤ 3)) : t = (0 : Int32) ∨ t = (1 : Int32) ∨ t = (2 : Int32) ∨ t = (3 : Int32) := by
  have q' : t.toInt = 0 ∨ t.toInt = 1 ∨ t.toInt = 2 ∨ t.toInt = 3 := by omega
  rcases q' with r | r | r | r
  · exact Or.inl (Int32.toInt_inj.mp (r.trans (by decide)))
  · exact Or.inr (Or.inl (Int32.toInt_inj.mp (r.trans (by decide))))
  · exact Or.inr (Or.inr (Or.inl (Int32.toInt_inj.mp (r.trans (by decide)))))
  · exact Or.inr (Or.inr (Or.inr ((Int32.toInt_inj.mp (r.trans (by decide))))))
theorem d29_19 : decode method_3_code 19 = .ok (.aload 4, 2) := by decide +kernel
theorem d29_21 : decode method_3_code 21 = .ok (.areturn, 1) := by decide +kernel
theorem m200 : (Jvm.Cond.castable z5 z2) ∈ tables_1 := List.mem_of_getElem? (i := 200) rfl
theorem d29_22 : decode method_3_code 22 = .ok (.iload 5, 2) := by decide +kernel
theorem d29_24 : decode method_3_code 24 = .ok (.iconst 1, 1) := by decide +kernel
theorem d29_25 : decode method_3_code 25 = .ok (.if_icmp .ne 8, 3) := by decide +kernel
theorem d29_28 : decode method_3_code 28 = .ok (.iload_n 3, 1) := by decide +kernel
theorem d29_29 : decode method_3_code 29 = .ok (.invokestatic 43, 3) := by decide +kernel
theorem m232 : (Jvm.Cond.methodLink z9 (43 : Nat) (⟨z11, "valueOf", "(I)Ljava/lang/Integer;"⟩ : MethodName)) ∈ tables_1 := List.mem_of_getElem? (i := 232) rfl
theorem d39_0 : decode jdk_33_method_22_code 0 = .ok (.iload_n 0, 1) := by decide +kernel
theorem d39_1 : decode jdk_33_method_22_code 1 = .ok (.bipush (-128), 2) := by decide +kernel
theorem d39_3 : decode jdk_33_method_22_code 3 = .ok (.if_icmp .lt 20, 3) := by decide +kernel
theorem d39_23 : decode jdk_33_method_22_code 23 = .ok (.new 1, 3) := by decide +kernel
theorem m238 : (Jvm.Cond.classLink z11 (1 : Nat) z11) ∈ tables_1 := List.mem_of_getElem? (i := 238) rfl
theorem m239 : (Jvm.Cond.instantiable z11 (1 : Nat)) ∈ tables_1 := List.mem_of_getElem? (i := 239) rfl
theorem m234 : (Jvm.Cond.initialized z11) ∈ tables_1 := List.mem_of_getElem? (i := 234) rfl
theorem m252 : (Jvm.Cond.laysFinal z11 z11 "value" "I") ∈ tables_1 := List.mem_of_getElem? (i := 252) rfl
theorem d39_26 : decode jdk_33_method_22_code 26 = .ok (.dup, 1) := by decide +kernel
theorem d39_27 : decode jdk_33_method_22_code 27 = .ok (.iload_n 0, 1) := by decide +kernel
theorem d39_28 : decode jdk_33_method_22_code 28 = .ok (.invokespecial 199, 3) := by decide +kernel
theorem m240 : (Jvm.Cond.methodLink z11 (199 : Nat) (⟨z11, "<init>", "(I)V"⟩ : MethodName)) ∈ tables_1 := List.mem_of_getElem? (i := 240) rfl
theorem d40_0 : decode jdk_33_method_23_code 0 = .ok (.aload_n 0, 1) := by decide +kernel
theorem d40_1 : decode jdk_33_method_23_code 1 = .ok (.invokespecial 202, 3) := by decide +kernel
theorem m244 : (Jvm.Cond.methodLink z11 (202 : Nat) (⟨"java/lang/Number", "<init>", "()V"⟩ : MethodName)) ∈ tables_1 := List.mem_of_getElem? (i := 244) rfl
theorem d41_0 : decode jdk_18_method_1_code 0 = .ok (.aload_n 0, 1) := by decide +kernel
theorem d41_1 : decode jdk_18_method_1_code 1 = .ok (.invokespecial 1, 3) := by decide +kernel
theorem m250 : (Jvm.Cond.methodLink "java/lang/Number" (1 : Nat) (⟨z2, "<init>", "()V"⟩ : MethodName)) ∈ tables_1 := List.mem_of_getElem? (i := 250) rfl
theorem m21 : (Jvm.Cond.code (⟨z2, "<init>", "()V"⟩ : MethodName) object_method_1_code (1 : Nat) (Option.none : Option Jvm.ClassFile.FieldType)) ∈ tables_1 := List.mem_of_getElem? (i := 21) rfl
theorem m20 : (Jvm.Cond.instanceMethod (⟨z2, "<init>", "()V"⟩ : MethodName)) ∈ tables_1 := List.mem_of_getElem? (i := 20) rfl
theorem d41_4 : decode jdk_18_method_1_code 4 = .ok (.return_, 1) := by decide +kernel
theorem ef44 (m : MethodId) (x0 : Addr) : entryFrame m #[(.ref x0)] 1 = mkF m 0 #[.val (.ref x0)] [] := by first | (simp [entryFrame, mkF, argsToLocals, Value.category]; done) | rfl
theorem pn45 : plainName "java/lang/Number" = true := by first | (simp [plainName, overriddenIn]; done) | decide +kernel
theorem m249 : (Jvm.Cond.code (⟨"java/lang/Number", "<init>", "()V"⟩ : MethodName) jdk_18_method_1_code (1 : Nat) (Option.none : Option Jvm.ClassFile.FieldType)) ∈ tables_1 := List.mem_of_getElem? (i := 249) rfl
theorem m248 : (Jvm.Cond.initialized "java/lang/Number") ∈ tables_1 := List.mem_of_getElem? (i := 248) rfl
theorem pd48 : parseMethodDescriptor "()V" = some ⟨[], none⟩ := by decide +kernel
theorem m245 : (Jvm.Cond.instanceMethod (⟨"java/lang/Number", "<init>", "()V"⟩ : MethodName)) ∈ tables_1 := List.mem_of_getElem? (i := 245) rfl
theorem d40_4 : decode jdk_33_method_23_code 4 = .ok (.aload_n 0, 1) := by decide +kernel
theorem d40_5 : decode jdk_33_method_23_code 5 = .ok (.iload_n 1, 1) := by decide +kernel
theorem d40_6 : decode jdk_33_method_23_code 6 = .ok (.putfield 205, 3) := by decide +kernel
theorem m251 : (Jvm.Cond.fieldLink z11 (205 : Nat) z11 "value" "I") ∈ tables_1 := List.mem_of_getElem? (i := 251) rfl
theorem d40_9 : decode jdk_33_method_23_code 9 = .ok (.return_, 1) := by decide +kernel
theorem ef55 (m : MethodId) (x0 : Addr) (x1 : Int32) : entryFrame m #[(.ref x0), (.int x1)] 2 = mkF m 0 #[.val (.ref x0), .val (.int x1)] [] := by first | (simp [entryFrame, mkF, argsToLocals, Value.category]; done) | rfl
theorem pn56 : plainName z11 = true := by first | (simp [plainName, overriddenIn]; done) | decide +kernel
theorem m243 : (Jvm.Cond.code (⟨z11, "<init>", "(I)V"⟩ : MethodName) jdk_33_method_23_code (2 : Nat) (Option.none : Option Jvm.ClassFile.FieldType)) ∈ tables_1 := List.mem_of_getElem? (i := 243) rfl
theorem pd58 : parseMethodDescriptor "(I)V" = some ⟨[.int], none⟩ := by decide +kernel
theorem m241 : (Jvm.Cond.instanceMethod (⟨z11, "<init>", "(I)V"⟩ : MethodName)) ∈ tables_1 := List.mem_of_getElem? (i := 241) rfl
theorem d39_31 : decode jdk_33_method_22_code 31 = .ok (.areturn, 1) := by decide +kernel
theorem ef61 (m : MethodId) (x0 : Int32) : entryFrame m #[(.int x0)] 1 = mkF m 0 #[.val (.int x0)] [] := by first | (simp [entryFrame, mkF, argsToLocals, Value.category]; done) | rfl
theorem m235 : (Jvm.Cond.code (⟨z11, "valueOf", "(I)Ljava/lang/Integer;"⟩ : MethodName) jdk_33_method_22_code (1 : Nat) (Option.some (FieldType.object z11))) ∈ tables_1 := List.mem_of_getElem? (i := 235) rfl
theorem pd63 : parseMethodDescriptor "(I)Ljava/lang/Integer;" = some ⟨[.int], some (.object z11)⟩ := by decide +kernel
theorem m233 : (Jvm.Cond.static (⟨z11, "valueOf", "(I)Ljava/lang/Integer;"⟩ : MethodName)) ∈ tables_1 := List.mem_of_getElem? (i := 233) rfl
theorem d29_32 : decode method_3_code 32 = .ok (.areturn, 1) := by decide +kernel
theorem m253 : (Jvm.Cond.castable z11 z2) ∈ tables_1 := List.mem_of_getElem? (i := 253) rfl
theorem d39_6 : decode jdk_33_method_22_code 6 = .ok (.iload_n 0, 1) := by decide +kernel
theorem d39_7 : decode jdk_33_method_22_code 7 = .ok (.getstatic 191, 3) := by decide +kernel
theorem m236 : (Jvm.Cond.fieldLink z11 (191 : Nat) "java/lang/Integer$IntegerCache" "high" "I") ∈ tables_1 := List.mem_of_getElem? (i := 236) rfl
theorem d39_10 : decode jdk_33_method_22_code 10 = .ok (.if_icmp .gt 13, 3) := by decide +kernel
theorem d39_13 : decode jdk_33_method_22_code 13 = .ok (.getstatic 195, 3) := by decide +kernel
theorem m255 : (Jvm.Cond.fieldLink z11 (195 : Nat) "java/lang/Integer$IntegerCache" "cache" "[Ljava/lang/Integer;") ∈ tables_1 := List.mem_of_getElem? (i := 255) rfl
theorem d39_16 : decode jdk_33_method_22_code 16 = .ok (.iload_n 0, 1) := by decide +kernel
theorem d39_17 : decode jdk_33_method_22_code 17 = .ok (.sipush 128, 3) := by decide +kernel
theorem d39_20 : decode jdk_33_method_22_code 20 = .ok (.iadd, 1) := by decide +kernel
theorem d39_21 : decode jdk_33_method_22_code 21 = .ok (.aaload, 1) := by decide +kernel
theorem d39_22 : decode jdk_33_method_22_code 22 = .ok (.areturn, 1) := by decide +kernel
theorem d29_33 : decode method_3_code 33 = .ok (.iload 5, 2) := by decide +kernel
theorem d29_35 : decode method_3_code 35 = .ok (.iconst 2, 1) := by decide +kernel
theorem d29_36 : decode method_3_code 36 = .ok (.if_icmp .ne 5, 3) := by decide +kernel
theorem d29_39 : decode method_3_code 39 = .ok (.aconst_null, 1) := by decide +kernel
theorem d29_40 : decode method_3_code 40 = .ok (.areturn, 1) := by decide +kernel
theorem d29_41 : decode method_3_code 41 = .ok (.new 16, 3) := by decide +kernel
theorem m141 : (Jvm.Cond.classLink z9 (16 : Nat) z0) ∈ tables_1 := List.mem_of_getElem? (i := 141) rfl
theorem m142 : (Jvm.Cond.instantiable z0 (3 : Nat)) ∈ tables_1 := List.mem_of_getElem? (i := 142) rfl
theorem m143 : (Jvm.Cond.initialized z0) ∈ tables_1 := List.mem_of_getElem? (i := 143) rfl
theorem m161 : (Jvm.Cond.lays z0 z6 "modCount" "I") ∈ tables_1 := List.mem_of_getElem? (i := 161) rfl
theorem m164 : (Jvm.Cond.lays z0 z0 z7 z4) ∈ tables_1 := List.mem_of_getElem? (i := 164) rfl
theorem m181 : (Jvm.Cond.lays z0 z0 "size" "I") ∈ tables_1 := List.mem_of_getElem? (i := 181) rfl
theorem d29_44 : decode method_3_code 44 = .ok (.dup, 1) := by decide +kernel
theorem d29_45 : decode method_3_code 45 = .ok (.invokespecial 18, 3) := by decide +kernel
theorem m144 : (Jvm.Cond.methodLink z9 (18 : Nat) (⟨z0, "<init>", "()V"⟩ : MethodName)) ∈ tables_1 := List.mem_of_getElem? (i := 144) rfl
theorem d26_0 : decode jdk_38_method_2_code 0 = .ok (.aload_n 0, 1) := by decide +kernel
theorem d26_1 : decode jdk_38_method_2_code 1 = .ok (.invokespecial 1, 3) := by decide +kernel
theorem m147 : (Jvm.Cond.methodLink z0 (1 : Nat) (⟨z6, "<init>", "()V"⟩ : MethodName)) ∈ tables_1 := List.mem_of_getElem? (i := 147) rfl
theorem d27_0 : decode jdk_39_method_1_code 0 = .ok (.aload_n 0, 1) := by decide +kernel
theorem d27_1 : decode jdk_39_method_1_code 1 = .ok (.invokespecial 1, 3) := by decide +kernel
theorem m153 : (Jvm.Cond.methodLink z6 (1 : Nat) (⟨"java/util/AbstractCollection", "<init>", "()V"⟩ : MethodName)) ∈ tables_1 := List.mem_of_getElem? (i := 153) rfl
theorem d28_0 : decode jdk_22_method_1_code 0 = .ok (.aload_n 0, 1) := by decide +kernel
theorem d28_1 : decode jdk_22_method_1_code 1 = .ok (.invokespecial 1, 3) := by decide +kernel
theorem m159 : (Jvm.Cond.methodLink "java/util/AbstractCollection" (1 : Nat) (⟨z2, "<init>", "()V"⟩ : MethodName)) ∈ tables_1 := List.mem_of_getElem? (i := 159) rfl
theorem d28_4 : decode jdk_22_method_1_code 4 = .ok (.return_, 1) := by decide +kernel
theorem pn103 : plainName "java/util/AbstractCollection" = true := by first | (simp [plainName, overriddenIn]; done) | decide +kernel
theorem m158 : (Jvm.Cond.code (⟨"java/util/AbstractCollection", "<init>", "()V"⟩ : MethodName) jdk_22_method_1_code (1 : Nat) (Option.none : Option Jvm.ClassFile.FieldType)) ∈ tables_1 := List.mem_of_getElem? (i := 158) rfl
theorem m157 : (Jvm.Cond.initialized "java/util/AbstractCollection") ∈ tables_1 := List.mem_of_getElem? (i := 157) rfl
theorem m154 : (Jvm.Cond.instanceMethod (⟨"java/util/AbstractCollection", "<init>", "()V"⟩ : MethodName)) ∈ tables_1 := List.mem_of_getElem? (i := 154) rfl
theorem d27_4 : decode jdk_39_method_1_code 4 = .ok (.aload_n 0, 1) := by decide +kernel
theorem d27_5 : decode jdk_39_method_1_code 5 = .ok (.iconst 0, 1) := by decide +kernel
theorem d27_6 : decode jdk_39_method_1_code 6 = .ok (.putfield 7, 3) := by decide +kernel
theorem m160 : (Jvm.Cond.fieldLink z6 (7 : Nat) z6 "modCount" "I") ∈ tables_1 := List.mem_of_getElem? (i := 160) rfl
theorem d27_9 : decode jdk_39_method_1_code 9 = .ok (.return_, 1) := by decide +kernel
theorem pn112 : plainName z6 = true := by first | (simp [plainName, overriddenIn]; done) | decide +kernel
theorem m152 : (Jvm.Cond.code (⟨z6, "<init>", "()V"⟩ : MethodName) jdk_39_method_1_code (1 : Nat) (Option.none : Option Jvm.ClassFile.FieldType)) ∈ tables_1 := List.mem_of_getElem? (i := 152) rfl
theorem m151 : (Jvm.Cond.initialized z6) ∈ tables_1 := List.mem_of_getElem? (i := 151) rfl
theorem m148 : (Jvm.Cond.instanceMethod (⟨z6, "<init>", "()V"⟩ : MethodName)) ∈ tables_1 := List.mem_of_getElem? (i := 148) rfl
theorem d26_4 : decode jdk_38_method_2_code 4 = .ok (.aload_n 0, 1) := by decide +kernel
theorem d26_5 : decode jdk_38_method_2_code 5 = .ok (.getstatic 39, 3) := by decide +kernel
theorem m162 : (Jvm.Cond.fieldLink z0 (39 : Nat) z0 "DEFAULTCAPACITY_EMPTY_ELEMENTDATA" z4) ∈ tables_1 := List.mem_of_getElem? (i := 162) rfl
theorem d26_8 : decode jdk_38_method_2_code 8 = .ok (.putfield 9, 3) := by decide +kernel
theorem m163 : (Jvm.Cond.fieldLink z0 (9 : Nat) z0 z7 z4) ∈ tables_1 := List.mem_of_getElem? (i := 163) rfl
theorem d26_11 : decode jdk_38_method_2_code 11 = .ok (.return_, 1) := by decide +kernel
theorem pn122 : plainName z0 = true := by first | (simp [plainName, overriddenIn]; done) | decide +kernel
theorem m146 : (Jvm.Cond.code (⟨z0, "<init>", "()V"⟩ : MethodName) jdk_38_method_2_code (1 : Nat) (Option.none : Option Jvm.ClassFile.FieldType)) ∈ tables_1 := List.mem_of_getElem? (i := 146) rfl
theorem m145 : (Jvm.Cond.instanceMethod (⟨z0, "<init>", "()V"⟩ : MethodName)) ∈ tables_1 := List.mem_of_getElem? (i := 145) rfl
theorem d29_48 : decode method_3_code 48 = .ok (.areturn, 1) := by decide +kernel
theorem m254 : (Jvm.Cond.castable z0 z2) ∈ tables_1 := List.mem_of_getElem? (i := 254) rfl
theorem pn127 : plainName z9 = true := by first | (simp [plainName, overriddenIn]; done) | decide +kernel
theorem ef128 (m : MethodId) (x0 : Int32) (x1 : Int32) (x2 : Int32) (x3 : Int32) (x4 : Addr) : entryFrame m #[(.int x0), (.int x1), (.int x2), (.int x3), (.ref x4)] 6 = mkF m 0 #[.val (.int x0), .val (.int x1), .val (.int x2), .val (.int x3), .val (.ref x4), .unset] [] := by first | (simp [entryFrame, mkF, argsToLocals, Value.category]; done) | rfl
theorem m0 : (Jvm.Cond.constant z9 (7 : Nat) (2147483647 : Int32)) ∈ tables_1 := List.mem_of_getElem? (i := 0) rfl
theorem en_130 (t : Int32) (q : (1 ≤ t.toInt ∧ t.toInt ≤ 4)) : t = (1 : Int32) ∨ t = (2 : Int32) ∨ t = (3 : Int32) ∨ t = (4 : Int32) := by
  have q' : t.toInt = 1 ∨ t.toInt = 2 ∨ t.toInt = 3 ∨ t.toInt = 4 := by omega
  rcases q' with r | r | r | r
  · exact Or.inl (Int32.toInt_inj.mp (r.trans (by decide)))
  · exact Or.inr (Or.inl (Int32.toInt_inj.mp (r.trans (by decide))))
  · exact Or.inr (Or.inr (Or.inl (Int32.toInt_inj.mp (r.trans (by decide)))))
  · exact Or.inr (Or.inr (Or.inr ((Int32.toInt_inj.mp (r.trans (by decide))))))
theorem en_131 (t : Int32) (q : 0 ≤ t.toInt ∧ t.toInt ≤ 0) : t = (0 : Int32) := Int32.toInt_inj.mp ((show t.toInt = 0 by omega).trans (by decide))
theorem m1 : (Jvm.Cond.stringLink z9 (8 : Nat) "{}") ∈ tables_1 := List.mem_of_getElem? (i := 1) rfl
theorem m9 : (Jvm.Cond.methodLink z9 (10 : Nat) (⟨z8, "parseObject", "(Ljava/lang/String;)Ljava/util/Map;"⟩ : MethodName)) ∈ tables_1 := List.mem_of_getElem? (i := 9) rfl
theorem d1_0 : decode prog_16_method_2_code 0 = .ok (.new 7, 3) := by decide +kernel
theorem m13 : (Jvm.Cond.classLink z8 (7 : Nat) z1) ∈ tables_1 := List.mem_of_getElem? (i := 13) rfl
theorem m14 : (Jvm.Cond.instantiable z1 (2 : Nat)) ∈ tables_1 := List.mem_of_getElem? (i := 14) rfl
theorem m15 : (Jvm.Cond.initialized z1) ∈ tables_1 := List.mem_of_getElem? (i := 15) rfl
theorem m23 : (Jvm.Cond.laysFinal z1 z1 "text" z20) ∈ tables_1 := List.mem_of_getElem? (i := 23) rfl
theorem m35 : (Jvm.Cond.lays z1 z1 "at" "I") ∈ tables_1 := List.mem_of_getElem? (i := 35) rfl
theorem d1_3 : decode prog_16_method_2_code 3 = .ok (.dup, 1) := by decide +kernel
theorem d1_4 : decode prog_16_method_2_code 4 = .ok (.aload_n 0, 1) := by decide +kernel
theorem d1_5 : decode prog_16_method_2_code 5 = .ok (.invokespecial 9, 3) := by decide +kernel
theorem m16 : (Jvm.Cond.methodLink z8 (9 : Nat) (⟨z1, "<init>", "(Ljava/lang/String;)V"⟩ : MethodName)) ∈ tables_1 := List.mem_of_getElem? (i := 16) rfl
theorem d2_0 : decode prog_17_method_1_code 0 = .ok (.aload_n 0, 1) := by decide +kernel
theorem d2_1 : decode prog_17_method_1_code 1 = .ok (.invokespecial 3, 3) := by decide +kernel
theorem m19 : (Jvm.Cond.methodLink z1 (3 : Nat) (⟨z2, "<init>", "()V"⟩ : MethodName)) ∈ tables_1 := List.mem_of_getElem? (i := 19) rfl
theorem d2_4 : decode prog_17_method_1_code 4 = .ok (.aload_n 0, 1) := by decide +kernel
theorem d2_5 : decode prog_17_method_1_code 5 = .ok (.aload_n 1, 1) := by decide +kernel
theorem d2_6 : decode prog_17_method_1_code 6 = .ok (.putfield 9, 3) := by decide +kernel
theorem m22 : (Jvm.Cond.fieldLink z1 (9 : Nat) z1 "text" z20) ∈ tables_1 := List.mem_of_getElem? (i := 22) rfl
theorem d2_9 : decode prog_17_method_1_code 9 = .ok (.return_, 1) := by decide +kernel
theorem ef152 (m : MethodId) (x0 : Addr) (x1 : Addr) : entryFrame m #[(.ref x0), (.ref x1)] 2 = mkF m 0 #[.val (.ref x0), .val (.ref x1)] [] := by first | (simp [entryFrame, mkF, argsToLocals, Value.category]; done) | rfl
theorem pn153 : plainName z1 = true := by first | (simp [plainName, overriddenIn]; done) | decide +kernel
theorem m18 : (Jvm.Cond.code (⟨z1, "<init>", "(Ljava/lang/String;)V"⟩ : MethodName) prog_17_method_1_code (2 : Nat) (Option.none : Option Jvm.ClassFile.FieldType)) ∈ tables_1 := List.mem_of_getElem? (i := 18) rfl
theorem pd155 : parseMethodDescriptor "(Ljava/lang/String;)V" = some ⟨[(.object z3)], none⟩ := by decide +kernel
theorem m17 : (Jvm.Cond.instanceMethod (⟨z1, "<init>", "(Ljava/lang/String;)V"⟩ : MethodName)) ∈ tables_1 := List.mem_of_getElem? (i := 17) rfl
theorem d1_8 : decode prog_16_method_2_code 8 = .ok (.astore_n 1, 1) := by decide +kernel
theorem d1_9 : decode prog_16_method_2_code 9 = .ok (.aload_n 1, 1) := by decide +kernel
theorem d1_10 : decode prog_16_method_2_code 10 = .ok (.iconst 0, 1) := by decide +kernel
theorem d1_11 : decode prog_16_method_2_code 11 = .ok (.invokevirtual 12, 3) := by decide +kernel
theorem m24 : (Jvm.Cond.methodLink z8 (12 : Nat) (⟨z1, "value", z10⟩ : MethodName)) ∈ tables_1 := List.mem_of_getElem? (i := 24) rfl
theorem m27 : (Jvm.Cond.selects z1 (⟨z1, "value", z10⟩ : MethodName) (⟨z1, "value", z10⟩ : MethodName)) ∈ tables_1 := List.mem_of_getElem? (i := 27) rfl
theorem d4_0 : decode prog_17_method_2_code 0 = .ok (.aload_n 0, 1) := by decide +kernel
theorem d4_1 : decode prog_17_method_2_code 1 = .ok (.invokevirtual 15, 3) := by decide +kernel
theorem m29 : (Jvm.Cond.methodLink z1 (15 : Nat) (⟨z1, "skipSpace", "()V"⟩ : MethodName)) ∈ tables_1 := List.mem_of_getElem? (i := 29) rfl
theorem m32 : (Jvm.Cond.selects z1 (⟨z1, "skipSpace", "()V"⟩ : MethodName) (⟨z1, "skipSpace", "()V"⟩ : MethodName)) ∈ tables_1 := List.mem_of_getElem? (i := 32) rfl
theorem d5_0 : decode prog_17_method_11_code 0 = .ok (.aload_n 0, 1) := by decide +kernel
theorem d5_1 : decode prog_17_method_11_code 1 = .ok (.getfield 18, 3) := by decide +kernel
theorem m34 : (Jvm.Cond.fieldLink z1 (18 : Nat) z1 "at" "I") ∈ tables_1 := List.mem_of_getElem? (i := 34) rfl
theorem d5_4 : decode prog_17_method_11_code 4 = .ok (.aload_n 0, 1) := by decide +kernel
theorem d5_5 : decode prog_17_method_11_code 5 = .ok (.getfield 9, 3) := by decide +kernel
theorem d5_8 : decode prog_17_method_11_code 8 = .ok (.invokevirtual 22, 3) := by decide +kernel
theorem m36 : (Jvm.Cond.methodLink z1 (22 : Nat) (⟨z3, "length", "()I"⟩ : MethodName)) ∈ tables_1 := List.mem_of_getElem? (i := 36) rfl
theorem m39 : (Jvm.Cond.selects z3 (⟨z3, "length", "()I"⟩ : MethodName) (⟨z3, "length", "()I"⟩ : MethodName)) ∈ tables_1 := List.mem_of_getElem? (i := 39) rfl
theorem d6_0 : decode jdk_42_method_54_code 0 = .ok (.aload_n 0, 1) := by decide +kernel
theorem d6_1 : decode jdk_42_method_54_code 1 = .ok (.getfield 9, 3) := by decide +kernel
theorem m41 : (Jvm.Cond.fieldLink z3 (9 : Nat) z3 "value" "[B") ∈ tables_1 := List.mem_of_getElem? (i := 41) rfl
theorem d6_4 : decode jdk_42_method_54_code 4 = .ok (.arraylength, 1) := by decide +kernel
theorem d6_5 : decode jdk_42_method_54_code 5 = .ok (.aload_n 0, 1) := by decide +kernel
theorem d6_6 : decode jdk_42_method_54_code 6 = .ok (.invokevirtual 335, 3) := by decide +kernel
theorem m42 : (Jvm.Cond.methodLink z3 (335 : Nat) (⟨z3, "coder", "()B"⟩ : MethodName)) ∈ tables_1 := List.mem_of_getElem? (i := 42) rfl
theorem m45 : (Jvm.Cond.selects z3 (⟨z3, "coder", "()B"⟩ : MethodName) (⟨z3, "coder", "()B"⟩ : MethodName)) ∈ tables_1 := List.mem_of_getElem? (i := 45) rfl
theorem d7_0 : decode jdk_42_method_152_code 0 = .ok (.getstatic 38, 3) := by decide +kernel
theorem m47 : (Jvm.Cond.fieldLink z3 (38 : Nat) z3 "COMPACT_STRINGS" "Z") ∈ tables_1 := List.mem_of_getElem? (i := 47) rfl
theorem d7_3 : decode jdk_42_method_152_code 3 = .ok (.ifCond .eq 10, 3) := by decide +kernel
theorem d7_6 : decode jdk_42_method_152_code 6 = .ok (.aload_n 0, 1) := by decide +kernel
theorem d7_7 : decode jdk_42_method_152_code 7 = .ok (.getfield 15, 3) := by decide +kernel
theorem m48 : (Jvm.Cond.fieldLink z3 (15 : Nat) z3 "coder" "B") ∈ tables_1 := List.mem_of_getElem? (i := 48) rfl
theorem d7_10 : decode jdk_42_method_152_code 10 = .ok (.goto 4, 3) := by decide +kernel
theorem d7_14 : decode jdk_42_method_152_code 14 = .ok (.ireturn, 1) := by decide +kernel
theorem pn191 : plainName z3 = true := by first | (simp [plainName, overriddenIn]; done) | decide +kernel
theorem m46 : (Jvm.Cond.code (⟨z3, "coder", "()B"⟩ : MethodName) jdk_42_method_152_code (1 : Nat) (Option.some FieldType.byte)) ∈ tables_1 := List.mem_of_getElem? (i := 46) rfl
theorem m2 : (Jvm.Cond.initialized z3) ∈ tables_1 := List.mem_of_getElem? (i := 2) rfl
theorem pd194 : parseMethodDescriptor "()B" = some ⟨[], some .byte⟩ := by decide +kernel
theorem m43 : (Jvm.Cond.declares (⟨z3, "coder", "()B"⟩ : MethodName)) ∈ tables_1 := List.mem_of_getElem? (i := 43) rfl
theorem m44 : (Jvm.Cond.instanceMethod (⟨z3, "coder", "()B"⟩ : MethodName)) ∈ tables_1 := List.mem_of_getElem? (i := 44) rfl
theorem d6_9 : decode jdk_42_method_54_code 9 = .ok (.ishr, 1) := by decide +kernel
theorem d6_10 : decode jdk_42_method_54_code 10 = .ok (.ireturn, 1) := by decide +kernel
theorem m40 : (Jvm.Cond.code (⟨z3, "length", "()I"⟩ : MethodName) jdk_42_method_54_code (1 : Nat) (Option.some FieldType.int)) ∈ tables_1 := List.mem_of_getElem? (i := 40) rfl
theorem pd200 : parseMethodDescriptor "()I" = some ⟨[], some .int⟩ := by decide +kernel
theorem m37 : (Jvm.Cond.declares (⟨z3, "length", "()I"⟩ : MethodName)) ∈ tables_1 := List.mem_of_getElem? (i := 37) rfl
theorem m38 : (Jvm.Cond.instanceMethod (⟨z3, "length", "()I"⟩ : MethodName)) ∈ tables_1 := List.mem_of_getElem? (i := 38) rfl
theorem d5_11 : decode prog_17_method_11_code 11 = .ok (.if_icmp .ge 35, 3) := by decide +kernel
theorem d5_14 : decode prog_17_method_11_code 14 = .ok (.ldc 175, 2) := by decide +kernel
theorem m49 : (Jvm.Cond.stringLink z1 (175 : Nat) " \t\r\n") ∈ tables_1 := List.mem_of_getElem? (i := 49) rfl
theorem d5_16 : decode prog_17_method_11_code 16 = .ok (.aload_n 0, 1) := by decide +kernel
theorem d5_17 : decode prog_17_method_11_code 17 = .ok (.getfield 9, 3) := by decide +kernel
theorem d5_20 : decode prog_17_method_11_code 20 = .ok (.aload_n 0, 1) := by decide +kernel
theorem d5_21 : decode prog_17_method_11_code 21 = .ok (.getfield 18, 3) := by decide +kernel
theorem d5_24 : decode prog_17_method_11_code 24 = .ok (.invokevirtual 36, 3) := by decide +kernel
theorem m50 : (Jvm.Cond.methodLink z1 (36 : Nat) (⟨z3, "charAt", "(I)C"⟩ : MethodName)) ∈ tables_1 := List.mem_of_getElem? (i := 50) rfl
theorem m53 : (Jvm.Cond.selects z3 (⟨z3, "charAt", "(I)C"⟩ : MethodName) (⟨z3, "charAt", "(I)C"⟩ : MethodName)) ∈ tables_1 := List.mem_of_getElem? (i := 53) rfl
theorem d8_0 : decode jdk_42_method_56_code 0 = .ok (.aload_n 0, 1) := by decide +kernel
theorem d8_1 : decode jdk_42_method_56_code 1 = .ok (.invokevirtual 492, 3) := by decide +kernel
theorem m55 : (Jvm.Cond.methodLink z3 (492 : Nat) (⟨z3, "isLatin1", "()Z"⟩ : MethodName)) ∈ tables_1 := List.mem_of_getElem? (i := 55) rfl
theorem m58 : (Jvm.Cond.selects z3 (⟨z3, "isLatin1", "()Z"⟩ : MethodName) (⟨z3, "isLatin1", "()Z"⟩ : MethodName)) ∈ tables_1 := List.mem_of_getElem? (i := 58) rfl
theorem d9_0 : decode jdk_42_method_154_code 0 = .ok (.getstatic 38, 3) := by decide +kernel
theorem d9_3 : decode jdk_42_method_154_code 3 = .ok (.ifCond .eq 14, 3) := by decide +kernel
theorem d9_6 : decode jdk_42_method_154_code 6 = .ok (.aload_n 0, 1) := by decide +kernel
theorem d9_7 : decode jdk_42_method_154_code 7 = .ok (.getfield 15, 3) := by decide +kernel
theorem d9_10 : decode jdk_42_method_154_code 10 = .ok (.ifCond .ne 7, 3) := by decide +kernel
theorem d9_13 : decode jdk_42_method_154_code 13 = .ok (.iconst 1, 1) := by decide +kernel
theorem d9_14 : decode jdk_42_method_154_code 14 = .ok (.goto 4, 3) := by decide +kernel
theorem d9_18 : decode jdk_42_method_154_code 18 = .ok (.ireturn, 1) := by decide +kernel
theorem m59 : (Jvm.Cond.code (⟨z3, "isLatin1", "()Z"⟩ : MethodName) jdk_42_method_154_code (1 : Nat) (Option.some FieldType.boolean)) ∈ tables_1 := List.mem_of_getElem? (i := 59) rfl
theorem pd226 : parseMethodDescriptor "()Z" = some ⟨[], some .boolean⟩ := by decide +kernel
theorem m56 : (Jvm.Cond.declares (⟨z3, "isLatin1", "()Z"⟩ : MethodName)) ∈ tables_1 := List.mem_of_getElem? (i := 56) rfl
theorem m57 : (Jvm.Cond.instanceMethod (⟨z3, "isLatin1", "()Z"⟩ : MethodName)) ∈ tables_1 := List.mem_of_getElem? (i := 57) rfl
theorem d8_4 : decode jdk_42_method_56_code 4 = .ok (.ifCond .eq 12, 3) := by decide +kernel
theorem d8_7 : decode jdk_42_method_56_code 7 = .ok (.aload_n 0, 1) := by decide +kernel
theorem d8_8 : decode jdk_42_method_56_code 8 = .ok (.getfield 9, 3) := by decide +kernel
theorem d8_11 : decode jdk_42_method_56_code 11 = .ok (.iload_n 1, 1) := by decide +kernel
theorem d8_12 : decode jdk_42_method_56_code 12 = .ok (.invokestatic 495, 3) := by decide +kernel
theorem m60 : (Jvm.Cond.methodLink z3 (495 : Nat) (⟨z13, "charAt", "([BI)C"⟩ : MethodName)) ∈ tables_1 := List.mem_of_getElem? (i := 60) rfl
theorem d10_0 : decode jdk_43_method_2_code 0 = .ok (.iload_n 1, 1) := by decide +kernel
theorem d10_1 : decode jdk_43_method_2_code 1 = .ok (.aload_n 0, 1) := by decide +kernel
theorem d10_2 : decode jdk_43_method_2_code 2 = .ok (.arraylength, 1) := by decide +kernel
theorem d10_3 : decode jdk_43_method_2_code 3 = .ok (.invokestatic 9, 3) := by decide +kernel
theorem m64 : (Jvm.Cond.methodLink z13 (9 : Nat) (⟨z3, "checkIndex", "(II)V"⟩ : MethodName)) ∈ tables_1 := List.mem_of_getElem? (i := 64) rfl
theorem d11_0 : decode jdk_42_method_155_code 0 = .ok (.iload_n 0, 1) := by decide +kernel
theorem d11_1 : decode jdk_42_method_155_code 1 = .ok (.iload_n 1, 1) := by decide +kernel
theorem d11_2 : decode jdk_42_method_155_code 2 = .ok (.getstatic 1053, 3) := by decide +kernel
theorem m67 : (Jvm.Cond.fieldLink z3 (1053 : Nat) z18 "SIOOBE_FORMATTER" "Ljava/util/function/BiFunction;") ∈ tables_1 := List.mem_of_getElem? (i := 67) rfl
theorem d11_5 : decode jdk_42_method_155_code 5 = .ok (.invokestatic 1059, 3) := by decide +kernel
theorem m69 : (Jvm.Cond.methodLink z3 (1059 : Nat) (⟨z18, "checkIndex", z21⟩ : MethodName)) ∈ tables_1 := List.mem_of_getElem? (i := 69) rfl
theorem d12_0 : decode jdk_41_method_11_code 0 = .ok (.iload_n 0, 1) := by decide +kernel
theorem d12_1 : decode jdk_41_method_11_code 1 = .ok (.ifCond .lt 8, 3) := by decide +kernel
theorem d12_4 : decode jdk_41_method_11_code 4 = .ok (.iload_n 0, 1) := by decide +kernel
theorem d12_5 : decode jdk_41_method_11_code 5 = .ok (.iload_n 1, 1) := by decide +kernel
theorem d12_6 : decode jdk_41_method_11_code 6 = .ok (.if_icmp .lt 10, 3) := by decide +kernel
theorem d12_16 : decode jdk_41_method_11_code 16 = .ok (.iload_n 0, 1) := by decide +kernel
theorem d12_17 : decode jdk_41_method_11_code 17 = .ok (.ireturn, 1) := by decide +kernel
theorem ef253 (m : MethodId) (x0 : Int32) (x1 : Int32) (x2 : Value) (hx2 : x2.isRef = true) : entryFrame m #[(.int x0), (.int x1), x2] 3 = mkF m 0 #[.val (.int x0), .val (.int x1), .val x2] [] := by rcases ref_cases hx2 with rfl | ⟨q2, rfl⟩ <;> rfl
theorem pn254 : plainName z18 = true := by first | (simp [plainName, overriddenIn]; done) | decide +kernel
theorem m71 : (Jvm.Cond.code (⟨z18, "checkIndex", z21⟩ : MethodName) jdk_41_method_11_code (3 : Nat) (Option.some FieldType.int)) ∈ tables_1 := List.mem_of_getElem? (i := 71) rfl
theorem m68 : (Jvm.Cond.initialized z18) ∈ tables_1 := List.mem_of_getElem? (i := 68) rfl
theorem pd257 : parseMethodDescriptor z21 = some ⟨[.int, .int, (.object "java/util/function/BiFunction")], some .int⟩ := by decide +kernel
theorem m70 : (Jvm.Cond.static (⟨z18, "checkIndex", z21⟩ : MethodName)) ∈ tables_1 := List.mem_of_getElem? (i := 70) rfl
theorem d11_8 : decode jdk_42_method_155_code 8 = .ok (.pop, 1) := by decide +kernel
theorem d11_9 : decode jdk_42_method_155_code 9 = .ok (.return_, 1) := by decide +kernel
theorem ef261 (m : MethodId) (x0 : Int32) (x1 : Int32) : entryFrame m #[(.int x0), (.int x1)] 2 = mkF m 0 #[.val (.int x0), .val (.int x1)] [] := by first | (simp [entryFrame, mkF, argsToLocals, Value.category]; done) | rfl
theorem m66 : (Jvm.Cond.code (⟨z3, "checkIndex", "(II)V"⟩ : MethodName) jdk_42_method_155_code (2 : Nat) (Option.none : Option Jvm.ClassFile.FieldType)) ∈ tables_1 := List.mem_of_getElem? (i := 66) rfl
theorem pd263 : parseMethodDescriptor "(II)V" = some ⟨[.int, .int], none⟩ := by decide +kernel
theorem m65 : (Jvm.Cond.static (⟨z3, "checkIndex", "(II)V"⟩ : MethodName)) ∈ tables_1 := List.mem_of_getElem? (i := 65) rfl
theorem d10_6 : decode jdk_43_method_2_code 6 = .ok (.aload_n 0, 1) := by decide +kernel
theorem d10_7 : decode jdk_43_method_2_code 7 = .ok (.iload_n 1, 1) := by decide +kernel
theorem d10_8 : decode jdk_43_method_2_code 8 = .ok (.baload, 1) := by decide +kernel
theorem d10_9 : decode jdk_43_method_2_code 9 = .ok (.sipush 255, 3) := by decide +kernel
theorem d10_12 : decode jdk_43_method_2_code 12 = .ok (.iand, 1) := by decide +kernel
theorem d10_13 : decode jdk_43_method_2_code 13 = .ok (.i2c, 1) := by decide +kernel
theorem d10_14 : decode jdk_43_method_2_code 14 = .ok (.ireturn, 1) := by decide +kernel
theorem pn272 : plainName z13 = true := by first | (simp [plainName, overriddenIn]; done) | decide +kernel
theorem m63 : (Jvm.Cond.code (⟨z13, "charAt", "([BI)C"⟩ : MethodName) jdk_43_method_2_code (2 : Nat) (Option.some FieldType.char)) ∈ tables_1 := List.mem_of_getElem? (i := 63) rfl
theorem m62 : (Jvm.Cond.initialized z13) ∈ tables_1 := List.mem_of_getElem? (i := 62) rfl
theorem pd275 : parseMethodDescriptor "([BI)C" = some ⟨[(.array .byte), .int], some .char⟩ := by decide +kernel
theorem m61 : (Jvm.Cond.static (⟨z13, "charAt", "([BI)C"⟩ : MethodName)) ∈ tables_1 := List.mem_of_getElem? (i := 61) rfl
theorem d8_15 : decode jdk_42_method_56_code 15 = .ok (.ireturn, 1) := by decide +kernel
theorem m54 : (Jvm.Cond.code (⟨z3, "charAt", "(I)C"⟩ : MethodName) jdk_42_method_56_code (2 : Nat) (Option.some FieldType.char)) ∈ tables_1 := List.mem_of_getElem? (i := 54) rfl
theorem pd279 : parseMethodDescriptor "(I)C" = some ⟨[.int], some .char⟩ := by decide +kernel
theorem m51 : (Jvm.Cond.declares (⟨z3, "charAt", "(I)C"⟩ : MethodName)) ∈ tables_1 := List.mem_of_getElem? (i := 51) rfl
theorem m52 : (Jvm.Cond.instanceMethod (⟨z3, "charAt", "(I)C"⟩ : MethodName)) ∈ tables_1 := List.mem_of_getElem? (i := 52) rfl
theorem d5_27 : decode prog_17_method_11_code 27 = .ok (.invokevirtual 177, 3) := by decide +kernel
theorem m72 : (Jvm.Cond.methodLink z1 (177 : Nat) (⟨z3, "indexOf", "(I)I"⟩ : MethodName)) ∈ tables_1 := List.mem_of_getElem? (i := 72) rfl
theorem m75 : (Jvm.Cond.selects z3 (⟨z3, "indexOf", "(I)I"⟩ : MethodName) (⟨z3, "indexOf", "(I)I"⟩ : MethodName)) ∈ tables_1 := List.mem_of_getElem? (i := 75) rfl
theorem d13_0 : decode jdk_42_method_79_code 0 = .ok (.aload_n 0, 1) := by decide +kernel
theorem d13_1 : decode jdk_42_method_79_code 1 = .ok (.iload_n 1, 1) := by decide +kernel
theorem d13_2 : decode jdk_42_method_79_code 2 = .ok (.iconst 0, 1) := by decide +kernel
theorem d13_3 : decode jdk_42_method_79_code 3 = .ok (.invokevirtual 633, 3) := by decide +kernel
theorem m77 : (Jvm.Cond.methodLink z3 (633 : Nat) (⟨z3, "indexOf", "(II)I"⟩ : MethodName)) ∈ tables_1 := List.mem_of_getElem? (i := 77) rfl
theorem m80 : (Jvm.Cond.selects z3 (⟨z3, "indexOf", "(II)I"⟩ : MethodName) (⟨z3, "indexOf", "(II)I"⟩ : MethodName)) ∈ tables_1 := List.mem_of_getElem? (i := 80) rfl
theorem d14_0 : decode jdk_42_method_80_code 0 = .ok (.aload_n 0, 1) := by decide +kernel
theorem d14_1 : decode jdk_42_method_80_code 1 = .ok (.invokevirtual 492, 3) := by decide +kernel
theorem d14_4 : decode jdk_42_method_80_code 4 = .ok (.ifCond .eq 19, 3) := by decide +kernel
theorem d14_7 : decode jdk_42_method_80_code 7 = .ok (.aload_n 0, 1) := by decide +kernel
theorem d14_8 : decode jdk_42_method_80_code 8 = .ok (.getfield 9, 3) := by decide +kernel
theorem d14_11 : decode jdk_42_method_80_code 11 = .ok (.iload_n 1, 1) := by decide +kernel
theorem d14_12 : decode jdk_42_method_80_code 12 = .ok (.iload_n 2, 1) := by decide +kernel
theorem d14_13 : decode jdk_42_method_80_code 13 = .ok (.aload_n 0, 1) := by decide +kernel
theorem d14_14 : decode jdk_42_method_80_code 14 = .ok (.invokevirtual 505, 3) := by decide +kernel
theorem m82 : (Jvm.Cond.methodLink z3 (505 : Nat) (⟨z3, "length", "()I"⟩ : MethodName)) ∈ tables_1 := List.mem_of_getElem? (i := 82) rfl
theorem d14_17 : decode jdk_42_method_80_code 17 = .ok (.invokestatic 637, 3) := by decide +kernel
theorem m83 : (Jvm.Cond.methodLink z3 (637 : Nat) (⟨z13, "indexOf", "([BIII)I"⟩ : MethodName)) ∈ tables_1 := List.mem_of_getElem? (i := 83) rfl
theorem d15_0 : decode jdk_43_method_22_code 0 = .ok (.iload_n 1, 1) := by decide +kernel
theorem d15_1 : decode jdk_43_method_22_code 1 = .ok (.invokestatic 88, 3) := by decide +kernel
theorem m86 : (Jvm.Cond.methodLink z13 (88 : Nat) (⟨z13, "canEncode", "(I)Z"⟩ : MethodName)) ∈ tables_1 := List.mem_of_getElem? (i := 86) rfl
theorem d16_0 : decode jdk_43_method_4_code 0 = .ok (.iload_n 0, 1) := by decide +kernel
theorem d16_1 : decode jdk_43_method_4_code 1 = .ok (.ifCond .lt 14, 3) := by decide +kernel
theorem d16_4 : decode jdk_43_method_4_code 4 = .ok (.iload_n 0, 1) := by decide +kernel
theorem d16_5 : decode jdk_43_method_4_code 5 = .ok (.sipush 255, 3) := by decide +kernel
theorem d16_8 : decode jdk_43_method_4_code 8 = .ok (.if_icmp .gt 7, 3) := by decide +kernel
theorem d16_11 : decode jdk_43_method_4_code 11 = .ok (.iconst 1, 1) := by decide +kernel
theorem d16_12 : decode jdk_43_method_4_code 12 = .ok (.goto 4, 3) := by decide +kernel
theorem d16_16 : decode jdk_43_method_4_code 16 = .ok (.ireturn, 1) := by decide +kernel
theorem m88 : (Jvm.Cond.code (⟨z13, "canEncode", "(I)Z"⟩ : MethodName) jdk_43_method_4_code (1 : Nat) (Option.some FieldType.boolean)) ∈ tables_1 := List.mem_of_getElem? (i := 88) rfl
theorem pd315 : parseMethodDescriptor "(I)Z" = some ⟨[.int], some .boolean⟩ := by decide +kernel
theorem m87 : (Jvm.Cond.static (⟨z13, "canEncode", "(I)Z"⟩ : MethodName)) ∈ tables_1 := List.mem_of_getElem? (i := 87) rfl
theorem d15_4 : decode jdk_43_method_22_code 4 = .ok (.ifCond .ne 5, 3) := by decide +kernel
theorem d15_9 : decode jdk_43_method_22_code 9 = .ok (.iload_n 2, 1) := by decide +kernel
theorem d15_10 : decode jdk_43_method_22_code 10 = .ok (.iconst 0, 1) := by decide +kernel
theorem d15_11 : decode jdk_43_method_22_code 11 = .ok (.invokestatic 92, 3) := by decide +kernel
theorem m89 : (Jvm.Cond.methodLink z13 (92 : Nat) (⟨z24, "max", "(II)I"⟩ : MethodName)) ∈ tables_1 := List.mem_of_getElem? (i := 89) rfl
theorem d17_0 : decode jdk_29_method_65_code 0 = .ok (.iload_n 0, 1) := by decide +kernel
theorem d17_1 : decode jdk_29_method_65_code 1 = .ok (.iload_n 1, 1) := by decide +kernel
theorem d17_2 : decode jdk_29_method_65_code 2 = .ok (.if_icmp .lt 7, 3) := by decide +kernel
theorem d17_5 : decode jdk_29_method_65_code 5 = .ok (.iload_n 0, 1) := by decide +kernel
theorem d17_6 : decode jdk_29_method_65_code 6 = .ok (.goto 4, 3) := by decide +kernel
theorem d17_10 : decode jdk_29_method_65_code 10 = .ok (.ireturn, 1) := by decide +kernel
theorem m92 : (Jvm.Cond.code (⟨z24, "max", "(II)I"⟩ : MethodName) jdk_29_method_65_code (2 : Nat) (Option.some FieldType.int)) ∈ tables_1 := List.mem_of_getElem? (i := 92) rfl
theorem m91 : (Jvm.Cond.initialized z24) ∈ tables_1 := List.mem_of_getElem? (i := 91) rfl
theorem pd330 : parseMethodDescriptor "(II)I" = some ⟨[.int, .int], some .int⟩ := by decide +kernel
theorem m90 : (Jvm.Cond.static (⟨z24, "max", "(II)I"⟩ : MethodName)) ∈ tables_1 := List.mem_of_getElem? (i := 90) rfl
theorem d15_14 : decode jdk_43_method_22_code 14 = .ok (.istore_n 2, 1) := by decide +kernel
theorem d15_15 : decode jdk_43_method_22_code 15 = .ok (.iload_n 3, 1) := by decide +kernel
theorem d15_16 : decode jdk_43_method_22_code 16 = .ok (.aload_n 0, 1) := by decide +kernel
theorem d15_17 : decode jdk_43_method_22_code 17 = .ok (.arraylength, 1) := by decide +kernel
theorem d15_18 : decode jdk_43_method_22_code 18 = .ok (.invokestatic 38, 3) := by decide +kernel
theorem m93 : (Jvm.Cond.methodLink z13 (38 : Nat) (⟨z24, "min", "(II)I"⟩ : MethodName)) ∈ tables_1 := List.mem_of_getElem? (i := 93) rfl
theorem d18_0 : decode jdk_29_method_69_code 0 = .ok (.iload_n 0, 1) := by decide +kernel
theorem d18_1 : decode jdk_29_method_69_code 1 = .ok (.iload_n 1, 1) := by decide +kernel
theorem d18_2 : decode jdk_29_method_69_code 2 = .ok (.if_icmp .gt 7, 3) := by decide +kernel
theorem d18_5 : decode jdk_29_method_69_code 5 = .ok (.iload_n 0, 1) := by decide +kernel
theorem d18_6 : decode jdk_29_method_69_code 6 = .ok (.goto 4, 3) := by decide +kernel
theorem d18_10 : decode jdk_29_method_69_code 10 = .ok (.ireturn, 1) := by decide +kernel
theorem m95 : (Jvm.Cond.code (⟨z24, "min", "(II)I"⟩ : MethodName) jdk_29_method_69_code (2 : Nat) (Option.some FieldType.int)) ∈ tables_1 := List.mem_of_getElem? (i := 95) rfl
theorem m94 : (Jvm.Cond.static (⟨z24, "min", "(II)I"⟩ : MethodName)) ∈ tables_1 := List.mem_of_getElem? (i := 94) rfl
theorem d15_21 : decode jdk_43_method_22_code 21 = .ok (.istore_n 3, 1) := by decide +kernel
theorem d15_22 : decode jdk_43_method_22_code 22 = .ok (.iload_n 2, 1) := by decide +kernel
theorem d15_23 : decode jdk_43_method_22_code 23 = .ok (.iload_n 3, 1) := by decide +kernel
theorem d15_24 : decode jdk_43_method_22_code 24 = .ok (.if_icmp .lt 5, 3) := by decide +kernel
theorem d15_29 : decode jdk_43_method_22_code 29 = .ok (.aload_n 0, 1) := by decide +kernel
theorem d15_30 : decode jdk_43_method_22_code 30 = .ok (.iload_n 1, 1) := by decide +kernel
theorem d15_31 : decode jdk_43_method_22_code 31 = .ok (.iload_n 2, 1) := by decide +kernel
theorem d15_32 : decode jdk_43_method_22_code 32 = .ok (.iload_n 3, 1) := by decide +kernel
theorem d15_33 : decode jdk_43_method_22_code 33 = .ok (.invokestatic 95, 3) := by decide +kernel
theorem m96 : (Jvm.Cond.methodLink z13 (95 : Nat) (⟨z13, "indexOfChar", "([BIII)I"⟩ : MethodName)) ∈ tables_1 := List.mem_of_getElem? (i := 96) rfl
theorem d19_0 : decode jdk_43_method_23_code 0 = .ok (.iload_n 1, 1) := by decide +kernel
theorem d19_1 : decode jdk_43_method_23_code 1 = .ok (.i2b, 1) := by decide +kernel
theorem d19_2 : decode jdk_43_method_23_code 2 = .ok (.istore 4, 2) := by decide +kernel
theorem d19_4 : decode jdk_43_method_23_code 4 = .ok (.iload_n 2, 1) := by decide +kernel
theorem d19_5 : decode jdk_43_method_23_code 5 = .ok (.istore 5, 2) := by decide +kernel
theorem d19_7 : decode jdk_43_method_23_code 7 = .ok (.iload 5, 2) := by decide +kernel
theorem d19_9 : decode jdk_43_method_23_code 9 = .ok (.iload_n 3, 1) := by decide +kernel
theorem d19_10 : decode jdk_43_method_23_code 10 = .ok (.if_icmp .ge 21, 3) := by decide +kernel
theorem d19_13 : decode jdk_43_method_23_code 13 = .ok (.aload_n 0, 1) := by decide +kernel
theorem d19_14 : decode jdk_43_method_23_code 14 = .ok (.iload 5, 2) := by decide +kernel
theorem d19_16 : decode jdk_43_method_23_code 16 = .ok (.baload, 1) := by decide +kernel
theorem d19_17 : decode jdk_43_method_23_code 17 = .ok (.iload 4, 2) := by decide +kernel
theorem d19_19 : decode jdk_43_method_23_code 19 = .ok (.if_icmp .ne 6, 3) := by decide +kernel
theorem d19_25 : decode jdk_43_method_23_code 25 = .ok (.iinc 5 1, 3) := by decide +kernel
theorem d19_28 : decode jdk_43_method_23_code 28 = .ok (.goto (-21), 3) := by decide +kernel
theorem d19_31 : decode jdk_43_method_23_code 31 = .ok (.iconst (-1), 1) := by decide +kernel
theorem d19_32 : decode jdk_43_method_23_code 32 = .ok (.ireturn, 1) := by decide +kernel
theorem ef373 (m : MethodId) (x0 : Addr) (x1 : Int32) (x2 : Int32) (x3 : Int32) : entryFrame m #[(.ref x0), (.int x1), (.int x2), (.int x3)] 6 = mkF m 0 #[.val (.ref x0), .val (.int x1), .val (.int x2), .val (.int x3), .unset, .unset] [] := by first | (simp [entryFrame, mkF, argsToLocals, Value.category]; done) | rfl
theorem m98 : (Jvm.Cond.code (⟨z13, "indexOfChar", "([BIII)I"⟩ : MethodName) jdk_43_method_23_code (6 : Nat) (Option.some FieldType.int)) ∈ tables_1 := List.mem_of_getElem? (i := 98) rfl
theorem pd375 : parseMethodDescriptor "([BIII)I" = some ⟨[(.array .byte), .int, .int, .int], some .int⟩ := by decide +kernel
theorem m97 : (Jvm.Cond.static (⟨z13, "indexOfChar", "([BIII)I"⟩ : MethodName)) ∈ tables_1 := List.mem_of_getElem? (i := 97) rfl
theorem d15_36 : decode jdk_43_method_22_code 36 = .ok (.ireturn, 1) := by decide +kernel
theorem ef378 (m : MethodId) (x0 : Addr) (x1 : Int32) (x2 : Int32) (x3 : Int32) : entryFrame m #[(.ref x0), (.int x1), (.int x2), (.int x3)] 4 = mkF m 0 #[.val (.ref x0), .val (.int x1), .val (.int x2), .val (.int x3)] [] := by first | (simp [entryFrame, mkF, argsToLocals, Value.category]; done) | rfl
theorem m85 : (Jvm.Cond.code (⟨z13, "indexOf", "([BIII)I"⟩ : MethodName) jdk_43_method_22_code (4 : Nat) (Option.some FieldType.int)) ∈ tables_1 := List.mem_of_getElem? (i := 85) rfl
theorem m84 : (Jvm.Cond.static (⟨z13, "indexOf", "([BIII)I"⟩ : MethodName)) ∈ tables_1 := List.mem_of_getElem? (i := 84) rfl
theorem d14_20 : decode jdk_42_method_80_code 20 = .ok (.goto 16, 3) := by decide +kernel
theorem d14_36 : decode jdk_42_method_80_code 36 = .ok (.ireturn, 1) := by decide +kernel
theorem ef383 (m : MethodId) (x0 : Addr) (x1 : Int32) (x2 : Int32) : entryFrame m #[(.ref x0), (.int x1), (.int x2)] 3 = mkF m 0 #[.val (.ref x0), .val (.int x1), .val (.int x2)] [] := by first | (simp [entryFrame, mkF, argsToLocals, Value.category]; done) | rfl
theorem m81 : (Jvm.Cond.code (⟨z3, "indexOf", "(II)I"⟩ : MethodName) jdk_42_method_80_code (3 : Nat) (Option.some FieldType.int)) ∈ tables_1 := List.mem_of_getElem? (i := 81) rfl
theorem m78 : (Jvm.Cond.declares (⟨z3, "indexOf", "(II)I"⟩ : MethodName)) ∈ tables_1 := List.mem_of_getElem? (i := 78) rfl
theorem m79 : (Jvm.Cond.instanceMethod (⟨z3, "indexOf", "(II)I"⟩ : MethodName)) ∈ tables_1 := List.mem_of_getElem? (i := 79) rfl
theorem d13_6 : decode jdk_42_method_79_code 6 = .ok (.ireturn, 1) := by decide +kernel
theorem m76 : (Jvm.Cond.code (⟨z3, "indexOf", "(I)I"⟩ : MethodName) jdk_42_method_79_code (2 : Nat) (Option.some FieldType.int)) ∈ tables_1 := List.mem_of_getElem? (i := 76) rfl
theorem pd389 : parseMethodDescriptor "(I)I" = some ⟨[.int], some .int⟩ := by decide +kernel
theorem m73 : (Jvm.Cond.declares (⟨z3, "indexOf", "(I)I"⟩ : MethodName)) ∈ tables_1 := List.mem_of_getElem? (i := 73) rfl
theorem m74 : (Jvm.Cond.instanceMethod (⟨z3, "indexOf", "(I)I"⟩ : MethodName)) ∈ tables_1 := List.mem_of_getElem? (i := 74) rfl
theorem d5_30 : decode prog_17_method_11_code 30 = .ok (.ifCond .lt 16, 3) := by decide +kernel
theorem d5_46 : decode prog_17_method_11_code 46 = .ok (.return_, 1) := by decide +kernel
theorem m33 : (Jvm.Cond.code (⟨z1, "skipSpace", "()V"⟩ : MethodName) prog_17_method_11_code (1 : Nat) (Option.none : Option Jvm.ClassFile.FieldType)) ∈ tables_1 := List.mem_of_getElem? (i := 33) rfl
theorem m30 : (Jvm.Cond.declares (⟨z1, "skipSpace", "()V"⟩ : MethodName)) ∈ tables_1 := List.mem_of_getElem? (i := 30) rfl
theorem m31 : (Jvm.Cond.instanceMethod (⟨z1, "skipSpace", "()V"⟩ : MethodName)) ∈ tables_1 := List.mem_of_getElem? (i := 31) rfl
theorem d4_4 : decode prog_17_method_2_code 4 = .ok (.aload_n 0, 1) := by decide +kernel
theorem d4_5 : decode prog_17_method_2_code 5 = .ok (.getfield 18, 3) := by decide +kernel
theorem d4_8 : decode prog_17_method_2_code 8 = .ok (.aload_n 0, 1) := by decide +kernel
theorem d4_9 : decode prog_17_method_2_code 9 = .ok (.getfield 9, 3) := by decide +kernel
theorem d4_12 : decode prog_17_method_2_code 12 = .ok (.invokevirtual 22, 3) := by decide +kernel
theorem d4_15 : decode prog_17_method_2_code 15 = .ok (.if_icmp .ne 10, 3) := by decide +kernel
theorem d4_25 : decode prog_17_method_2_code 25 = .ok (.iload_n 1, 1) := by decide +kernel
theorem d4_26 : decode prog_17_method_2_code 26 = .ok (.bipush 64, 2) := by decide +kernel
theorem d4_28 : decode prog_17_method_2_code 28 = .ok (.if_icmp .ne 10, 3) := by decide +kernel
theorem d4_38 : decode prog_17_method_2_code 38 = .ok (.aload_n 0, 1) := by decide +kernel
theorem d4_39 : decode prog_17_method_2_code 39 = .ok (.getfield 9, 3) := by decide +kernel
theorem d4_42 : decode prog_17_method_2_code 42 = .ok (.aload_n 0, 1) := by decide +kernel
theorem d4_43 : decode prog_17_method_2_code 43 = .ok (.getfield 18, 3) := by decide +kernel
theorem d4_46 : decode prog_17_method_2_code 46 = .ok (.invokevirtual 36, 3) := by decide +kernel
theorem d4_49 : decode prog_17_method_2_code 49 = .ok (.istore_n 2, 1) := by decide +kernel
theorem d4_50 : decode prog_17_method_2_code 50 = .ok (.iload_n 2, 1) := by decide +kernel
theorem d4_51 : decode prog_17_method_2_code 51 = .ok (.lookupswitch 120 #[(34, 75), (91, 66), (102, 96), (110, 109), (116, 83), (123, 57)], 57) := by decide +kernel
theorem d4_108 : decode prog_17_method_2_code 108 = .ok (.aload_n 0, 1) := by decide +kernel
theorem d4_109 : decode prog_17_method_2_code 109 = .ok (.iload_n 1, 1) := by decide +kernel
theorem d4_110 : decode prog_17_method_2_code 110 = .ok (.invokevirtual 40, 3) := by decide +kernel
theorem m99 : (Jvm.Cond.methodLink z1 (40 : Nat) (⟨z1, "object", "(I)Ljava/util/Map;"⟩ : MethodName)) ∈ tables_1 := List.mem_of_getElem? (i := 99) rfl
theorem d20_0 : decode prog_17_method_3_code 0 = .ok (.new 75, 3) := by decide +kernel
theorem m103 : (Jvm.Cond.classLink z1 (75 : Nat) z5) ∈ tables_1 := List.mem_of_getElem? (i := 103) rfl
theorem m104 : (Jvm.Cond.instantiable z5 (12 : Nat)) ∈ tables_1 := List.mem_of_getElem? (i := 104) rfl
theorem m105 : (Jvm.Cond.initialized z5) ∈ tables_1 := List.mem_of_getElem? (i := 105) rfl
theorem m124 : (Jvm.Cond.laysFinal z5 z17 "loadFactor" "F") ∈ tables_1 := List.mem_of_getElem? (i := 124) rfl
theorem m126 : (Jvm.Cond.lays z5 z5 "putMode" "I") ∈ tables_1 := List.mem_of_getElem? (i := 126) rfl
theorem m128 : (Jvm.Cond.laysFinal z5 z5 z25 "Z") ∈ tables_1 := List.mem_of_getElem? (i := 128) rfl
theorem d20_3 : decode prog_17_method_3_code 3 = .ok (.dup, 1) := by decide +kernel
theorem d20_4 : decode prog_17_method_3_code 4 = .ok (.invokespecial 77, 3) := by decide +kernel
theorem m106 : (Jvm.Cond.methodLink z1 (77 : Nat) (⟨z5, "<init>", "()V"⟩ : MethodName)) ∈ tables_1 := List.mem_of_getElem? (i := 106) rfl
theorem d21_0 : decode jdk_94_method_16_code 0 = .ok (.aload_n 0, 1) := by decide +kernel
theorem d21_1 : decode jdk_94_method_16_code 1 = .ok (.invokespecial 87, 3) := by decide +kernel
theorem m109 : (Jvm.Cond.methodLink z5 (87 : Nat) (⟨z17, "<init>", "()V"⟩ : MethodName)) ∈ tables_1 := List.mem_of_getElem? (i := 109) rfl
theorem d22_0 : decode jdk_69_method_7_code 0 = .ok (.aload_n 0, 1) := by decide +kernel
theorem d22_1 : decode jdk_69_method_7_code 1 = .ok (.invokespecial 43, 3) := by decide +kernel
theorem m115 : (Jvm.Cond.methodLink z17 (43 : Nat) (⟨"java/util/AbstractMap", "<init>", "()V"⟩ : MethodName)) ∈ tables_1 := List.mem_of_getElem? (i := 115) rfl
theorem d23_0 : decode jdk_71_method_1_code 0 = .ok (.aload_n 0, 1) := by decide +kernel
theorem d23_1 : decode jdk_71_method_1_code 1 = .ok (.invokespecial 1, 3) := by decide +kernel
theorem m121 : (Jvm.Cond.methodLink "java/util/AbstractMap" (1 : Nat) (⟨z2, "<init>", "()V"⟩ : MethodName)) ∈ tables_1 := List.mem_of_getElem? (i := 121) rfl
theorem d23_4 : decode jdk_71_method_1_code 4 = .ok (.return_, 1) := by decide +kernel
theorem pn438 : plainName "java/util/AbstractMap" = true := by first | (simp [plainName, overriddenIn]; done) | decide +kernel
theorem m120 : (Jvm.Cond.code (⟨"java/util/AbstractMap", "<init>", "()V"⟩ : MethodName) jdk_71_method_1_code (1 : Nat) (Option.none : Option Jvm.ClassFile.FieldType)) ∈ tables_1 := List.mem_of_getElem? (i := 120) rfl
theorem m119 : (Jvm.Cond.initialized "java/util/AbstractMap") ∈ tables_1 := List.mem_of_getElem? (i := 119) rfl
theorem m116 : (Jvm.Cond.instanceMethod (⟨"java/util/AbstractMap", "<init>", "()V"⟩ : MethodName)) ∈ tables_1 := List.mem_of_getElem? (i := 116) rfl
theorem d22_4 : decode jdk_69_method_7_code 4 = .ok (.aload_n 0, 1) := by decide +kernel
theorem d22_5 : decode jdk_69_method_7_code 5 = .ok (.ldc 92, 2) := by decide +kernel
theorem m122 : (Jvm.Cond.constantFloat z17 (92 : Nat) (1061158912 : UInt32)) ∈ tables_1 := List.mem_of_getElem? (i := 122) rfl
theorem d22_7 : decode jdk_69_method_7_code 7 = .ok (.putfield 81, 3) := by decide +kernel
theorem m123 : (Jvm.Cond.fieldLink z17 (81 : Nat) z17 "loadFactor" "F") ∈ tables_1 := List.mem_of_getElem? (i := 123) rfl
theorem d22_10 : decode jdk_69_method_7_code 10 = .ok (.return_, 1) := by decide +kernel
theorem pn448 : plainName z17 = true := by first | (simp [plainName, overriddenIn]; done) | decide +kernel
theorem m114 : (Jvm.Cond.code (⟨z17, "<init>", "()V"⟩ : MethodName) jdk_69_method_7_code (1 : Nat) (Option.none : Option Jvm.ClassFile.FieldType)) ∈ tables_1 := List.mem_of_getElem? (i := 114) rfl
theorem m113 : (Jvm.Cond.initialized z17) ∈ tables_1 := List.mem_of_getElem? (i := 113) rfl
theorem m110 : (Jvm.Cond.instanceMethod (⟨z17, "<init>", "()V"⟩ : MethodName)) ∈ tables_1 := List.mem_of_getElem? (i := 110) rfl
theorem d21_4 : decode jdk_94_method_16_code 4 = .ok (.aload_n 0, 1) := by decide +kernel
theorem d21_5 : decode jdk_94_method_16_code 5 = .ok (.iconst 0, 1) := by decide +kernel
theorem d21_6 : decode jdk_94_method_16_code 6 = .ok (.putfield 1, 3) := by decide +kernel
theorem m125 : (Jvm.Cond.fieldLink z5 (1 : Nat) z5 "putMode" "I") ∈ tables_1 := List.mem_of_getElem? (i := 125) rfl
theorem d21_9 : decode jdk_94_method_16_code 9 = .ok (.aload_n 0, 1) := by decide +kernel
theorem d21_10 : decode jdk_94_method_16_code 10 = .ok (.iconst 0, 1) := by decide +kernel
theorem d21_11 : decode jdk_94_method_16_code 11 = .ok (.putfield 64, 3) := by decide +kernel
theorem m127 : (Jvm.Cond.fieldLink z5 (64 : Nat) z5 z25 "Z") ∈ tables_1 := List.mem_of_getElem? (i := 127) rfl
theorem d21_14 : decode jdk_94_method_16_code 14 = .ok (.return_, 1) := by decide +kernel
theorem pn461 : plainName z5 = true := by first | (simp [plainName, overriddenIn]; done) | decide +kernel
theorem m108 : (Jvm.Cond.code (⟨z5, "<init>", "()V"⟩ : MethodName) jdk_94_method_16_code (1 : Nat) (Option.none : Option Jvm.ClassFile.FieldType)) ∈ tables_1 := List.mem_of_getElem? (i := 108) rfl
theorem m107 : (Jvm.Cond.instanceMethod (⟨z5, "<init>", "()V"⟩ : MethodName)) ∈ tables_1 := List.mem_of_getElem? (i := 107) rfl
theorem d20_7 : decode prog_17_method_3_code 7 = .ok (.astore_n 2, 1) := by decide +kernel
theorem d20_8 : decode prog_17_method_3_code 8 = .ok (.aload_n 0, 1) := by decide +kernel
theorem d20_9 : decode prog_17_method_3_code 9 = .ok (.dup, 1) := by decide +kernel
theorem d20_10 : decode prog_17_method_3_code 10 = .ok (.getfield 18, 3) := by decide +kernel
theorem d20_13 : decode prog_17_method_3_code 13 = .ok (.iconst 1, 1) := by decide +kernel
theorem d20_14 : decode prog_17_method_3_code 14 = .ok (.iadd, 1) := by decide +kernel
theorem d20_15 : decode prog_17_method_3_code 15 = .ok (.putfield 18, 3) := by decide +kernel
theorem d20_18 : decode prog_17_method_3_code 18 = .ok (.aload_n 0, 1) := by decide +kernel
theorem d20_19 : decode prog_17_method_3_code 19 = .ok (.invokevirtual 15, 3) := by decide +kernel
theorem d20_22 : decode prog_17_method_3_code 22 = .ok (.aload_n 0, 1) := by decide +kernel
theorem d20_23 : decode prog_17_method_3_code 23 = .ok (.bipush 125, 2) := by decide +kernel
theorem d20_25 : decode prog_17_method_3_code 25 = .ok (.invokevirtual 78, 3) := by decide +kernel
theorem m129 : (Jvm.Cond.methodLink z1 (78 : Nat) (⟨z1, "take", "(C)Z"⟩ : MethodName)) ∈ tables_1 := List.mem_of_getElem? (i := 129) rfl
theorem d24_0 : decode prog_17_method_10_code 0 = .ok (.aload_n 0, 1) := by decide +kernel
theorem d24_1 : decode prog_17_method_10_code 1 = .ok (.getfield 18, 3) := by decide +kernel
theorem d24_4 : decode prog_17_method_10_code 4 = .ok (.aload_n 0, 1) := by decide +kernel
theorem d24_5 : decode prog_17_method_10_code 5 = .ok (.getfield 9, 3) := by decide +kernel
theorem d24_8 : decode prog_17_method_10_code 8 = .ok (.invokevirtual 22, 3) := by decide +kernel
theorem d24_11 : decode prog_17_method_10_code 11 = .ok (.if_icmp .ge 22, 3) := by decide +kernel
theorem d24_14 : decode prog_17_method_10_code 14 = .ok (.aload_n 0, 1) := by decide +kernel
theorem d24_15 : decode prog_17_method_10_code 15 = .ok (.getfield 9, 3) := by decide +kernel
theorem d24_18 : decode prog_17_method_10_code 18 = .ok (.aload_n 0, 1) := by decide +kernel
theorem d24_19 : decode prog_17_method_10_code 19 = .ok (.getfield 18, 3) := by decide +kernel
theorem d24_22 : decode prog_17_method_10_code 22 = .ok (.invokevirtual 36, 3) := by decide +kernel
theorem d24_25 : decode prog_17_method_10_code 25 = .ok (.iload_n 1, 1) := by decide +kernel
theorem d24_26 : decode prog_17_method_10_code 26 = .ok (.if_icmp .ne 7, 3) := by decide +kernel
theorem d24_29 : decode prog_17_method_10_code 29 = .ok (.iconst 1, 1) := by decide +kernel
theorem d24_30 : decode prog_17_method_10_code 30 = .ok (.goto 4, 3) := by decide +kernel
theorem d24_34 : decode prog_17_method_10_code 34 = .ok (.istore_n 2, 1) := by decide +kernel
theorem d24_35 : decode prog_17_method_10_code 35 = .ok (.iload_n 2, 1) := by decide +kernel
theorem d24_36 : decode prog_17_method_10_code 36 = .ok (.ifCond .eq 13, 3) := by decide +kernel
theorem d24_39 : decode prog_17_method_10_code 39 = .ok (.aload_n 0, 1) := by decide +kernel
theorem d24_40 : decode prog_17_method_10_code 40 = .ok (.dup, 1) := by decide +kernel
theorem d24_41 : decode prog_17_method_10_code 41 = .ok (.getfield 18, 3) := by decide +kernel
theorem d24_44 : decode prog_17_method_10_code 44 = .ok (.iconst 1, 1) := by decide +kernel
theorem d24_45 : decode prog_17_method_10_code 45 = .ok (.iadd, 1) := by decide +kernel
theorem d24_46 : decode prog_17_method_10_code 46 = .ok (.putfield 18, 3) := by decide +kernel
theorem d24_49 : decode prog_17_method_10_code 49 = .ok (.iload_n 2, 1) := by decide +kernel
theorem d24_50 : decode prog_17_method_10_code 50 = .ok (.ireturn, 1) := by decide +kernel
theorem ef503 (m : MethodId) (x0 : Addr) (x1 : Int32) : entryFrame m #[(.ref x0), (.int x1)] 3 = mkF m 0 #[.val (.ref x0), .val (.int x1), .unset] [] := by first | (simp [entryFrame, mkF, argsToLocals, Value.category]; done) | rfl
theorem m132 : (Jvm.Cond.code (⟨z1, "take", "(C)Z"⟩ : MethodName) prog_17_method_10_code (3 : Nat) (Option.some FieldType.boolean)) ∈ tables_1 := List.mem_of_getElem? (i := 132) rfl
theorem pd505 : parseMethodDescriptor "(C)Z" = some ⟨[.char], some .boolean⟩ := by decide +kernel
theorem m130 : (Jvm.Cond.instanceMethod (⟨z1, "take", "(C)Z"⟩ : MethodName)) ∈ tables_1 := List.mem_of_getElem? (i := 130) rfl
theorem m131 : (Jvm.Cond.privateMethod (⟨z1, "take", "(C)Z"⟩ : MethodName)) ∈ tables_1 := List.mem_of_getElem? (i := 131) rfl
theorem d20_28 : decode prog_17_method_3_code 28 = .ok (.ifCond .eq 5, 3) := by decide +kernel
theorem d20_31 : decode prog_17_method_3_code 31 = .ok (.aload_n 2, 1) := by decide +kernel
theorem d20_32 : decode prog_17_method_3_code 32 = .ok (.areturn, 1) := by decide +kernel
theorem ef511 (m : MethodId) (x0 : Addr) (x1 : Int32) : entryFrame m #[(.ref x0), (.int x1)] 4 = mkF m 0 #[.val (.ref x0), .val (.int x1), .unset, .unset] [] := by first | (simp [entryFrame, mkF, argsToLocals, Value.category]; done) | rfl
theorem m102 : (Jvm.Cond.code (⟨z1, "object", "(I)Ljava/util/Map;"⟩ : MethodName) prog_17_method_3_code (4 : Nat) (Option.some (FieldType.object z16))) ∈ tables_1 := List.mem_of_getElem? (i := 102) rfl
theorem pd513 : parseMethodDescriptor "(I)Ljava/util/Map;" = some ⟨[.int], some (.object z16)⟩ := by decide +kernel
theorem m100 : (Jvm.Cond.instanceMethod (⟨z1, "object", "(I)Ljava/util/Map;"⟩ : MethodName)) ∈ tables_1 := List.mem_of_getElem? (i := 100) rfl
theorem m101 : (Jvm.Cond.privateMethod (⟨z1, "object", "(I)Ljava/util/Map;"⟩ : MethodName)) ∈ tables_1 := List.mem_of_getElem? (i := 101) rfl
theorem d4_113 : decode prog_17_method_2_code 113 = .ok (.astore_n 3, 1) := by decide +kernel
theorem d4_114 : decode prog_17_method_2_code 114 = .ok (.goto 62, 3) := by decide +kernel
theorem d4_176 : decode prog_17_method_2_code 176 = .ok (.aload_n 3, 1) := by decide +kernel
theorem d4_177 : decode prog_17_method_2_code 177 = .ok (.areturn, 1) := by decide +kernel
theorem m28 : (Jvm.Cond.code (⟨z1, "value", z10⟩ : MethodName) prog_17_method_2_code (4 : Nat) (Option.some (FieldType.object z2))) ∈ tables_1 := List.mem_of_getElem? (i := 28) rfl
theorem pd521 : parseMethodDescriptor z10 = some ⟨[.int], some (.object z2)⟩ := by decide +kernel
theorem m25 : (Jvm.Cond.declares (⟨z1, "value", z10⟩ : MethodName)) ∈ tables_1 := List.mem_of_getElem? (i := 25) rfl
theorem m26 : (Jvm.Cond.instanceMethod (⟨z1, "value", z10⟩ : MethodName)) ∈ tables_1 := List.mem_of_getElem? (i := 26) rfl
theorem d1_14 : decode prog_16_method_2_code 14 = .ok (.astore_n 2, 1) := by decide +kernel
theorem d1_15 : decode prog_16_method_2_code 15 = .ok (.aload_n 1, 1) := by decide +kernel
theorem d1_16 : decode prog_16_method_2_code 16 = .ok (.invokevirtual 16, 3) := by decide +kernel
theorem m133 : (Jvm.Cond.methodLink z8 (16 : Nat) (⟨z1, "skipSpace", "()V"⟩ : MethodName)) ∈ tables_1 := List.mem_of_getElem? (i := 133) rfl
theorem d1_19 : decode prog_16_method_2_code 19 = .ok (.aload_n 1, 1) := by decide +kernel
theorem d1_20 : decode prog_16_method_2_code 20 = .ok (.getfield 19, 3) := by decide +kernel
theorem m134 : (Jvm.Cond.fieldRef z8 (19 : Nat) z1 "at" "I") ∈ tables_1 := List.mem_of_getElem? (i := 134) rfl
theorem d1_23 : decode prog_16_method_2_code 23 = .ok (.aload_n 0, 1) := by decide +kernel
theorem d1_24 : decode prog_16_method_2_code 24 = .ok (.invokevirtual 23, 3) := by decide +kernel
theorem m135 : (Jvm.Cond.methodLink z8 (23 : Nat) (⟨z3, "length", "()I"⟩ : MethodName)) ∈ tables_1 := List.mem_of_getElem? (i := 135) rfl
theorem d1_27 : decode prog_16_method_2_code 27 = .ok (.if_icmp .ge 10, 3) := by decide +kernel
theorem d1_37 : decode prog_16_method_2_code 37 = .ok (.aload_n 2, 1) := by decide +kernel
theorem d1_38 : decode prog_16_method_2_code 38 = .ok (.instanceof 35, 3) := by decide +kernel
theorem m136 : (Jvm.Cond.classLink z8 (35 : Nat) z16) ∈ tables_1 := List.mem_of_getElem? (i := 136) rfl
theorem m137 : (Jvm.Cond.castable z5 z16) ∈ tables_1 := List.mem_of_getElem? (i := 137) rfl
theorem d1_41 : decode prog_16_method_2_code 41 = .ok (.ifCond .ne 13, 3) := by decide +kernel
theorem d1_54 : decode prog_16_method_2_code 54 = .ok (.aload_n 2, 1) := by decide +kernel
theorem d1_55 : decode prog_16_method_2_code 55 = .ok (.invokestatic 42, 3) := by decide +kernel
theorem m138 : (Jvm.Cond.methodLink z8 (42 : Nat) (⟨z8, "asObject", "(Ljava/lang/Object;)Ljava/util/Map;"⟩ : MethodName)) ∈ tables_1 := List.mem_of_getElem? (i := 138) rfl
theorem d25_0 : decode prog_16_method_10_code 0 = .ok (.aload_n 0, 1) := by decide +kernel
theorem d25_1 : decode prog_16_method_10_code 1 = .ok (.checkcast 35, 3) := by decide +kernel
theorem d25_4 : decode prog_16_method_10_code 4 = .ok (.areturn, 1) := by decide +kernel
theorem pn546 : plainName z8 = true := by first | (simp [plainName, overriddenIn]; done) | decide +kernel
theorem m140 : (Jvm.Cond.code (⟨z8, "asObject", "(Ljava/lang/Object;)Ljava/util/Map;"⟩ : MethodName) prog_16_method_10_code (1 : Nat) (Option.some (FieldType.object z16))) ∈ tables_1 := List.mem_of_getElem? (i := 140) rfl
theorem m11 : (Jvm.Cond.initialized z8) ∈ tables_1 := List.mem_of_getElem? (i := 11) rfl
theorem pd549 : parseMethodDescriptor "(Ljava/lang/Object;)Ljava/util/Map;" = some ⟨[(.object z2)], some (.object z16)⟩ := by decide +kernel
theorem m139 : (Jvm.Cond.static (⟨z8, "asObject", "(Ljava/lang/Object;)Ljava/util/Map;"⟩ : MethodName)) ∈ tables_1 := List.mem_of_getElem? (i := 139) rfl
theorem d1_58 : decode prog_16_method_2_code 58 = .ok (.areturn, 1) := by decide +kernel
theorem ef552 (m : MethodId) (x0 : Addr) : entryFrame m #[(.ref x0)] 3 = mkF m 0 #[.val (.ref x0), .unset, .unset] [] := by first | (simp [entryFrame, mkF, argsToLocals, Value.category]; done) | rfl
theorem m12 : (Jvm.Cond.code (⟨z8, "parseObject", "(Ljava/lang/String;)Ljava/util/Map;"⟩ : MethodName) prog_16_method_2_code (3 : Nat) (Option.some (FieldType.object z16))) ∈ tables_1 := List.mem_of_getElem? (i := 12) rfl
theorem pd554 : parseMethodDescriptor "(Ljava/lang/String;)Ljava/util/Map;" = some ⟨[(.object z3)], some (.object z16)⟩ := by decide +kernel
theorem m10 : (Jvm.Cond.static (⟨z8, "parseObject", "(Ljava/lang/String;)Ljava/util/Map;"⟩ : MethodName)) ∈ tables_1 := List.mem_of_getElem? (i := 10) rfl
theorem m165 : (Jvm.Cond.methodLink z9 (19 : Nat) (⟨z9, "slot", z19⟩ : MethodName)) ∈ tables_1 := List.mem_of_getElem? (i := 165) rfl
theorem m168 : (Jvm.Cond.code (⟨z9, "slot", z19⟩ : MethodName) method_3_code (6 : Nat) (Option.some (FieldType.object z2))) ∈ tables_1 := List.mem_of_getElem? (i := 168) rfl
theorem m167 : (Jvm.Cond.initialized z9) ∈ tables_1 := List.mem_of_getElem? (i := 167) rfl
theorem pd559 : parseMethodDescriptor z19 = some ⟨[.int, .int, .int, .int, (.object z16)], some (.object z2)⟩ := by decide +kernel
theorem m166 : (Jvm.Cond.static (⟨z9, "slot", z19⟩ : MethodName)) ∈ tables_1 := List.mem_of_getElem? (i := 166) rfl
theorem m169 : (Jvm.Cond.methodLink z9 (25 : Nat) (⟨z23, "add", z15⟩ : MethodName)) ∈ tables_1 := List.mem_of_getElem? (i := 169) rfl
theorem m172 : (Jvm.Cond.selects z0 (⟨z23, "add", z15⟩ : MethodName) (⟨z0, "add", z15⟩ : MethodName)) ∈ tables_1 := List.mem_of_getElem? (i := 172) rfl
theorem d30_0 : decode jdk_38_method_25_code 0 = .ok (.aload_n 0, 1) := by decide +kernel
theorem d30_1 : decode jdk_38_method_25_code 1 = .ok (.dup, 1) := by decide +kernel
theorem d30_2 : decode jdk_38_method_25_code 2 = .ok (.getfield 63, 3) := by decide +kernel
theorem m178 : (Jvm.Cond.fieldLink z0 (63 : Nat) z0 "modCount" "I") ∈ tables_1 := List.mem_of_getElem? (i := 178) rfl
theorem m179 : (Jvm.Cond.sameField z0 z6 "modCount" "I") ∈ tables_1 := List.mem_of_getElem? (i := 179) rfl
theorem d30_5 : decode jdk_38_method_25_code 5 = .ok (.iconst 1, 1) := by decide +kernel
theorem d30_6 : decode jdk_38_method_25_code 6 = .ok (.iadd, 1) := by decide +kernel
theorem d30_7 : decode jdk_38_method_25_code 7 = .ok (.putfield 63, 3) := by decide +kernel
theorem d30_10 : decode jdk_38_method_25_code 10 = .ok (.aload_n 0, 1) := by decide +kernel
theorem d30_11 : decode jdk_38_method_25_code 11 = .ok (.aload_n 1, 1) := by decide +kernel
theorem d30_12 : decode jdk_38_method_25_code 12 = .ok (.aload_n 0, 1) := by decide +kernel
theorem d30_13 : decode jdk_38_method_25_code 13 = .ok (.getfield 9, 3) := by decide +kernel
theorem d30_16 : decode jdk_38_method_25_code 16 = .ok (.aload_n 0, 1) := by decide +kernel
theorem d30_17 : decode jdk_38_method_25_code 17 = .ok (.getfield 48, 3) := by decide +kernel
theorem m180 : (Jvm.Cond.fieldLink z0 (48 : Nat) z0 "size" "I") ∈ tables_1 := List.mem_of_getElem? (i := 180) rfl
theorem d30_20 : decode jdk_38_method_25_code 20 = .ok (.invokevirtual 131, 3) := by decide +kernel
theorem m182 : (Jvm.Cond.methodLink z0 (131 : Nat) (⟨z0, "add", z12⟩ : MethodName)) ∈ tables_1 := List.mem_of_getElem? (i := 182) rfl
theorem m185 : (Jvm.Cond.selects z0 (⟨z0, "add", z12⟩ : MethodName) (⟨z0, "add", z12⟩ : MethodName)) ∈ tables_1 := List.mem_of_getElem? (i := 185) rfl
theorem d31_0 : decode jdk_38_method_24_code 0 = .ok (.iload_n 3, 1) := by decide +kernel
theorem d31_1 : decode jdk_38_method_24_code 1 = .ok (.aload_n 2, 1) := by decide +kernel
theorem d31_2 : decode jdk_38_method_24_code 2 = .ok (.arraylength, 1) := by decide +kernel
theorem d31_3 : decode jdk_38_method_24_code 3 = .ok (.if_icmp .ne 8, 3) := by decide +kernel
theorem d31_6 : decode jdk_38_method_24_code 6 = .ok (.aload_n 0, 1) := by decide +kernel
theorem d31_7 : decode jdk_38_method_24_code 7 = .ok (.invokevirtual 129, 3) := by decide +kernel
theorem m187 : (Jvm.Cond.methodLink z0 (129 : Nat) (⟨z0, "grow", "()[Ljava/lang/Object;"⟩ : MethodName)) ∈ tables_1 := List.mem_of_getElem? (i := 187) rfl
theorem m190 : (Jvm.Cond.selects z0 (⟨z0, "grow", "()[Ljava/lang/Object;"⟩ : MethodName) (⟨z0, "grow", "()[Ljava/lang/Object;"⟩ : MethodName)) ∈ tables_1 := List.mem_of_getElem? (i := 190) rfl
theorem d32_0 : decode jdk_38_method_7_code 0 = .ok (.aload_n 0, 1) := by decide +kernel
theorem d32_1 : decode jdk_38_method_7_code 1 = .ok (.aload_n 0, 1) := by decide +kernel
theorem d32_2 : decode jdk_38_method_7_code 2 = .ok (.getfield 48, 3) := by decide +kernel
theorem d32_5 : decode jdk_38_method_7_code 5 = .ok (.iconst 1, 1) := by decide +kernel
theorem d32_6 : decode jdk_38_method_7_code 6 = .ok (.iadd, 1) := by decide +kernel
theorem d32_7 : decode jdk_38_method_7_code 7 = .ok (.invokevirtual 69, 3) := by decide +kernel
theorem m192 : (Jvm.Cond.methodLink z0 (69 : Nat) (⟨z0, "grow", "(I)[Ljava/lang/Object;"⟩ : MethodName)) ∈ tables_1 := List.mem_of_getElem? (i := 192) rfl
theorem m195 : (Jvm.Cond.selects z0 (⟨z0, "grow", "(I)[Ljava/lang/Object;"⟩ : MethodName) (⟨z0, "grow", "(I)[Ljava/lang/Object;"⟩ : MethodName)) ∈ tables_1 := List.mem_of_getElem? (i := 195) rfl
theorem d33_0 : decode jdk_38_method_6_code 0 = .ok (.aload_n 0, 1) := by decide +kernel
theorem d33_1 : decode jdk_38_method_6_code 1 = .ok (.getfield 9, 3) := by decide +kernel
theorem d33_4 : decode jdk_38_method_6_code 4 = .ok (.arraylength, 1) := by decide +kernel
theorem d33_5 : decode jdk_38_method_6_code 5 = .ok (.istore_n 2, 1) := by decide +kernel
theorem d33_6 : decode jdk_38_method_6_code 6 = .ok (.iload_n 2, 1) := by decide +kernel
theorem d33_7 : decode jdk_38_method_6_code 7 = .ok (.ifCond .gt 13, 3) := by decide +kernel
theorem d33_10 : decode jdk_38_method_6_code 10 = .ok (.aload_n 0, 1) := by decide +kernel
theorem d33_11 : decode jdk_38_method_6_code 11 = .ok (.getfield 9, 3) := by decide +kernel
theorem d33_14 : decode jdk_38_method_6_code 14 = .ok (.getstatic 39, 3) := by decide +kernel
theorem d33_17 : decode jdk_38_method_6_code 17 = .ok (.if_acmp .eq 28, 3) := by decide +kernel
theorem d33_45 : decode jdk_38_method_6_code 45 = .ok (.aload_n 0, 1) := by decide +kernel
theorem d33_46 : decode jdk_38_method_6_code 46 = .ok (.bipush 10, 2) := by decide +kernel
theorem d33_48 : decode jdk_38_method_6_code 48 = .ok (.iload_n 1, 1) := by decide +kernel
theorem d33_49 : decode jdk_38_method_6_code 49 = .ok (.invokestatic 79, 3) := by decide +kernel
theorem m197 : (Jvm.Cond.methodLink z0 (79 : Nat) (⟨z24, "max", "(II)I"⟩ : MethodName)) ∈ tables_1 := List.mem_of_getElem? (i := 197) rfl
theorem d33_52 : decode jdk_38_method_6_code 52 = .ok (.anewarray 7, 3) := by decide +kernel
theorem m198 : (Jvm.Cond.classLink z0 (7 : Nat) z2) ∈ tables_1 := List.mem_of_getElem? (i := 198) rfl
theorem m199 : (Jvm.Cond.arrayOver (FieldType.object z2)) ∈ tables_1 := List.mem_of_getElem? (i := 199) rfl
theorem d33_55 : decode jdk_38_method_6_code 55 = .ok (.dup_x1, 1) := by decide +kernel
theorem d33_56 : decode jdk_38_method_6_code 56 = .ok (.putfield 9, 3) := by decide +kernel
theorem d33_59 : decode jdk_38_method_6_code 59 = .ok (.areturn, 1) := by decide +kernel
theorem m196 : (Jvm.Cond.code (⟨z0, "grow", "(I)[Ljava/lang/Object;"⟩ : MethodName) jdk_38_method_6_code (4 : Nat) (Option.some (FieldType.array (FieldType.object z2)))) ∈ tables_1 := List.mem_of_getElem? (i := 196) rfl
theorem pd619 : parseMethodDescriptor "(I)[Ljava/lang/Object;" = some ⟨[.int], some (.array (.object z2))⟩ := by decide +kernel
theorem m193 : (Jvm.Cond.instanceMethod (⟨z0, "grow", "(I)[Ljava/lang/Object;"⟩ : MethodName)) ∈ tables_1 := List.mem_of_getElem? (i := 193) rfl
theorem m194 : (Jvm.Cond.privateMethod (⟨z0, "grow", "(I)[Ljava/lang/Object;"⟩ : MethodName)) ∈ tables_1 := List.mem_of_getElem? (i := 194) rfl
theorem d32_10 : decode jdk_38_method_7_code 10 = .ok (.areturn, 1) := by decide +kernel
theorem m191 : (Jvm.Cond.code (⟨z0, "grow", "()[Ljava/lang/Object;"⟩ : MethodName) jdk_38_method_7_code (1 : Nat) (Option.some (FieldType.array (FieldType.object z2)))) ∈ tables_1 := List.mem_of_getElem? (i := 191) rfl
theorem pd624 : parseMethodDescriptor "()[Ljava/lang/Object;" = some ⟨[], some (.array (.object z2))⟩ := by decide +kernel
theorem m188 : (Jvm.Cond.instanceMethod (⟨z0, "grow", "()[Ljava/lang/Object;"⟩ : MethodName)) ∈ tables_1 := List.mem_of_getElem? (i := 188) rfl
theorem m189 : (Jvm.Cond.privateMethod (⟨z0, "grow", "()[Ljava/lang/Object;"⟩ : MethodName)) ∈ tables_1 := List.mem_of_getElem? (i := 189) rfl
theorem d31_10 : decode jdk_38_method_24_code 10 = .ok (.astore_n 2, 1) := by decide +kernel
theorem d31_11 : decode jdk_38_method_24_code 11 = .ok (.aload_n 2, 1) := by decide +kernel
theorem d31_12 : decode jdk_38_method_24_code 12 = .ok (.iload_n 3, 1) := by decide +kernel
theorem d31_13 : decode jdk_38_method_24_code 13 = .ok (.aload_n 1, 1) := by decide +kernel
theorem d31_14 : decode jdk_38_method_24_code 14 = .ok (.aastore, 1) := by decide +kernel
theorem d31_15 : decode jdk_38_method_24_code 15 = .ok (.aload_n 0, 1) := by decide +kernel
theorem d31_16 : decode jdk_38_method_24_code 16 = .ok (.iload_n 3, 1) := by decide +kernel
theorem d31_17 : decode jdk_38_method_24_code 17 = .ok (.iconst 1, 1) := by decide +kernel
theorem d31_18 : decode jdk_38_method_24_code 18 = .ok (.iadd, 1) := by decide +kernel
theorem d31_19 : decode jdk_38_method_24_code 19 = .ok (.putfield 48, 3) := by decide +kernel
theorem d31_22 : decode jdk_38_method_24_code 22 = .ok (.return_, 1) := by decide +kernel
theorem ef638 (m : MethodId) (x0 : Addr) (x1 : Addr) (x2 : Addr) (x3 : Int32) : entryFrame m #[(.ref x0), (.ref x1), (.ref x2), (.int x3)] 4 = mkF m 0 #[.val (.ref x0), .val (.ref x1), .val (.ref x2), .val (.int x3)] [] := by first | (simp [entryFrame, mkF, argsToLocals, Value.category]; done) | rfl
theorem m186 : (Jvm.Cond.code (⟨z0, "add", z12⟩ : MethodName) jdk_38_method_24_code (4 : Nat) (Option.none : Option Jvm.ClassFile.FieldType)) ∈ tables_1 := List.mem_of_getElem? (i := 186) rfl
theorem pd640 : parseMethodDescriptor z12 = some ⟨[(.object z2), (.array (.object z2)), .int], none⟩ := by decide +kernel
theorem m183 : (Jvm.Cond.instanceMethod (⟨z0, "add", z12⟩ : MethodName)) ∈ tables_1 := List.mem_of_getElem? (i := 183) rfl
theorem m184 : (Jvm.Cond.privateMethod (⟨z0, "add", z12⟩ : MethodName)) ∈ tables_1 := List.mem_of_getElem? (i := 184) rfl
theorem d30_23 : decode jdk_38_method_25_code 23 = .ok (.iconst 1, 1) := by decide +kernel
theorem d30_24 : decode jdk_38_method_25_code 24 = .ok (.ireturn, 1) := by decide +kernel
theorem m177 : (Jvm.Cond.code (⟨z0, "add", z15⟩ : MethodName) jdk_38_method_25_code (2 : Nat) (Option.some FieldType.boolean)) ∈ tables_1 := List.mem_of_getElem? (i := 177) rfl
theorem pd646 : parseMethodDescriptor z15 = some ⟨[(.object z2)], some .boolean⟩ := by decide +kernel
theorem m170 : (Jvm.Cond.declares (⟨z23, "add", z15⟩ : MethodName)) ∈ tables_1 := List.mem_of_getElem? (i := 170) rfl
theorem m171 : (Jvm.Cond.interfaceMethod z23 z23 "add" z15) ∈ tables_1 := List.mem_of_getElem? (i := 171) rfl
theorem m173 : (Jvm.Cond.instanceMethod (⟨z0, "add", z15⟩ : MethodName)) ∈ tables_1 := List.mem_of_getElem? (i := 173) rfl
theorem m174 : (Jvm.Cond.publicMethod (⟨z0, "add", z15⟩ : MethodName)) ∈ tables_1 := List.mem_of_getElem? (i := 174) rfl
theorem m175 : (Jvm.Cond.unhidden z0 "add" z15) ∈ tables_1 := List.mem_of_getElem? (i := 175) rfl
theorem m176 : (Jvm.Cond.castable z0 z23) ∈ tables_1 := List.mem_of_getElem? (i := 176) rfl
theorem m201 : (Jvm.Cond.methodLink z9 (31 : Nat) (⟨z8, "element", z14⟩ : MethodName)) ∈ tables_1 := List.mem_of_getElem? (i := 201) rfl
theorem d34_0 : decode prog_16_method_9_code 0 = .ok (.iload_n 1, 1) := by decide +kernel
theorem d34_1 : decode prog_16_method_9_code 1 = .ok (.aload_n 0, 1) := by decide +kernel
theorem d34_2 : decode prog_16_method_9_code 2 = .ok (.invokeinterface 117 1, 5) := by decide +kernel
theorem m204 : (Jvm.Cond.methodLink z8 (117 : Nat) (⟨z23, "size", "()I"⟩ : MethodName)) ∈ tables_1 := List.mem_of_getElem? (i := 204) rfl
theorem m207 : (Jvm.Cond.selects z0 (⟨z23, "size", "()I"⟩ : MethodName) (⟨z0, "size", "()I"⟩ : MethodName)) ∈ tables_1 := List.mem_of_getElem? (i := 207) rfl
theorem d35_0 : decode jdk_38_method_8_code 0 = .ok (.aload_n 0, 1) := by decide +kernel
theorem d35_1 : decode jdk_38_method_8_code 1 = .ok (.getfield 48, 3) := by decide +kernel
theorem d35_4 : decode jdk_38_method_8_code 4 = .ok (.ireturn, 1) := by decide +kernel
theorem m211 : (Jvm.Cond.code (⟨z0, "size", "()I"⟩ : MethodName) jdk_38_method_8_code (1 : Nat) (Option.some FieldType.int)) ∈ tables_1 := List.mem_of_getElem? (i := 211) rfl
theorem m205 : (Jvm.Cond.declares (⟨z23, "size", "()I"⟩ : MethodName)) ∈ tables_1 := List.mem_of_getElem? (i := 205) rfl
theorem m206 : (Jvm.Cond.interfaceMethod z23 z23 "size" "()I") ∈ tables_1 := List.mem_of_getElem? (i := 206) rfl
theorem m208 : (Jvm.Cond.instanceMethod (⟨z0, "size", "()I"⟩ : MethodName)) ∈ tables_1 := List.mem_of_getElem? (i := 208) rfl
theorem m209 : (Jvm.Cond.publicMethod (⟨z0, "size", "()I"⟩ : MethodName)) ∈ tables_1 := List.mem_of_getElem? (i := 209) rfl
theorem m210 : (Jvm.Cond.unhidden z0 "size" "()I") ∈ tables_1 := List.mem_of_getElem? (i := 210) rfl
theorem d34_7 : decode prog_16_method_9_code 7 = .ok (.if_icmp .ge 13, 3) := by decide +kernel
theorem d34_10 : decode prog_16_method_9_code 10 = .ok (.aload_n 0, 1) := by decide +kernel
theorem d34_11 : decode prog_16_method_9_code 11 = .ok (.iload_n 1, 1) := by decide +kernel
theorem d34_12 : decode prog_16_method_9_code 12 = .ok (.invokeinterface 120 2, 5) := by decide +kernel
theorem m212 : (Jvm.Cond.methodLink z8 (120 : Nat) (⟨z23, "get", z10⟩ : MethodName)) ∈ tables_1 := List.mem_of_getElem? (i := 212) rfl
theorem m215 : (Jvm.Cond.selects z0 (⟨z23, "get", z10⟩ : MethodName) (⟨z0, "get", z10⟩ : MethodName)) ∈ tables_1 := List.mem_of_getElem? (i := 215) rfl
theorem d36_0 : decode jdk_38_method_20_code 0 = .ok (.iload_n 1, 1) := by decide +kernel
theorem d36_1 : decode jdk_38_method_20_code 1 = .ok (.aload_n 0, 1) := by decide +kernel
theorem d36_2 : decode jdk_38_method_20_code 2 = .ok (.getfield 48, 3) := by decide +kernel
theorem d36_5 : decode jdk_38_method_20_code 5 = .ok (.invokestatic 118, 3) := by decide +kernel
theorem m220 : (Jvm.Cond.methodLink z0 (118 : Nat) (⟨z22, "checkIndex", "(II)I"⟩ : MethodName)) ∈ tables_1 := List.mem_of_getElem? (i := 220) rfl
theorem d37_0 : decode jdk_31_method_17_code 0 = .ok (.iload_n 0, 1) := by decide +kernel
theorem d37_1 : decode jdk_31_method_17_code 1 = .ok (.iload_n 1, 1) := by decide +kernel
theorem d37_2 : decode jdk_31_method_17_code 2 = .ok (.aconst_null, 1) := by decide +kernel
theorem d37_3 : decode jdk_31_method_17_code 3 = .ok (.invokestatic 105, 3) := by decide +kernel
theorem m224 : (Jvm.Cond.methodLink z22 (105 : Nat) (⟨z18, "checkIndex", z21⟩ : MethodName)) ∈ tables_1 := List.mem_of_getElem? (i := 224) rfl
theorem ef684 (m : MethodId) (x0 : Int32) (x1 : Int32) : entryFrame m #[(.int x0), (.int x1), .null] 3 = mkF m 0 #[.val (.int x0), .val (.int x1), sN] [] := by first | (simp [entryFrame, mkF, argsToLocals, Value.category]; done) | rfl
theorem d37_6 : decode jdk_31_method_17_code 6 = .ok (.ireturn, 1) := by decide +kernel
theorem pn686 : plainName z22 = true := by first | (simp [plainName, overriddenIn]; done) | decide +kernel
theorem m223 : (Jvm.Cond.code (⟨z22, "checkIndex", "(II)I"⟩ : MethodName) jdk_31_method_17_code (2 : Nat) (Option.some FieldType.int)) ∈ tables_1 := List.mem_of_getElem? (i := 223) rfl
theorem m222 : (Jvm.Cond.initialized z22) ∈ tables_1 := List.mem_of_getElem? (i := 222) rfl
theorem m221 : (Jvm.Cond.static (⟨z22, "checkIndex", "(II)I"⟩ : MethodName)) ∈ tables_1 := List.mem_of_getElem? (i := 221) rfl
theorem d36_8 : decode jdk_38_method_20_code 8 = .ok (.pop, 1) := by decide +kernel
theorem d36_9 : decode jdk_38_method_20_code 9 = .ok (.aload_n 0, 1) := by decide +kernel
theorem d36_10 : decode jdk_38_method_20_code 10 = .ok (.iload_n 1, 1) := by decide +kernel
theorem d36_11 : decode jdk_38_method_20_code 11 = .ok (.invokevirtual 123, 3) := by decide +kernel
theorem m225 : (Jvm.Cond.methodLink z0 (123 : Nat) (⟨z0, z7, z10⟩ : MethodName)) ∈ tables_1 := List.mem_of_getElem? (i := 225) rfl
theorem m228 : (Jvm.Cond.selects z0 (⟨z0, z7, z10⟩ : MethodName) (⟨z0, z7, z10⟩ : MethodName)) ∈ tables_1 := List.mem_of_getElem? (i := 228) rfl
theorem d38_0 : decode jdk_38_method_18_code 0 = .ok (.aload_n 0, 1) := by decide +kernel
theorem d38_1 : decode jdk_38_method_18_code 1 = .ok (.getfield 9, 3) := by decide +kernel
theorem d38_4 : decode jdk_38_method_18_code 4 = .ok (.iload_n 1, 1) := by decide +kernel
theorem d38_5 : decode jdk_38_method_18_code 5 = .ok (.aaload, 1) := by decide +kernel
theorem d38_6 : decode jdk_38_method_18_code 6 = .ok (.areturn, 1) := by decide +kernel
theorem m229 : (Jvm.Cond.code (⟨z0, z7, z10⟩ : MethodName) jdk_38_method_18_code (2 : Nat) (Option.some (FieldType.object z2))) ∈ tables_1 := List.mem_of_getElem? (i := 229) rfl
theorem m226 : (Jvm.Cond.declares (⟨z0, z7, z10⟩ : MethodName)) ∈ tables_1 := List.mem_of_getElem? (i := 226) rfl
theorem m227 : (Jvm.Cond.instanceMethod (⟨z0, z7, z10⟩ : MethodName)) ∈ tables_1 := List.mem_of_getElem? (i := 227) rfl
theorem d36_14 : decode jdk_38_method_20_code 14 = .ok (.areturn, 1) := by decide +kernel
theorem m219 : (Jvm.Cond.code (⟨z0, "get", z10⟩ : MethodName) jdk_38_method_20_code (2 : Nat) (Option.some (FieldType.object z2))) ∈ tables_1 := List.mem_of_getElem? (i := 219) rfl
theorem m213 : (Jvm.Cond.declares (⟨z23, "get", z10⟩ : MethodName)) ∈ tables_1 := List.mem_of_getElem? (i := 213) rfl
theorem m214 : (Jvm.Cond.interfaceMethod z23 z23 "get" z10) ∈ tables_1 := List.mem_of_getElem? (i := 214) rfl
theorem m216 : (Jvm.Cond.instanceMethod (⟨z0, "get", z10⟩ : MethodName)) ∈ tables_1 := List.mem_of_getElem? (i := 216) rfl
theorem m217 : (Jvm.Cond.publicMethod (⟨z0, "get", z10⟩ : MethodName)) ∈ tables_1 := List.mem_of_getElem? (i := 217) rfl
theorem m218 : (Jvm.Cond.unhidden z0 "get" z10) ∈ tables_1 := List.mem_of_getElem? (i := 218) rfl
theorem d34_17 : decode prog_16_method_9_code 17 = .ok (.goto 4, 3) := by decide +kernel
theorem d34_21 : decode prog_16_method_9_code 21 = .ok (.astore_n 2, 1) := by decide +kernel
theorem d34_22 : decode prog_16_method_9_code 22 = .ok (.aload_n 2, 1) := by decide +kernel
theorem d34_23 : decode prog_16_method_9_code 23 = .ok (.instanceof 35, 3) := by decide +kernel
theorem d34_26 : decode prog_16_method_9_code 26 = .ok (.ifCond .ne 17, 3) := by decide +kernel
theorem d34_43 : decode prog_16_method_9_code 43 = .ok (.aload_n 2, 1) := by decide +kernel
theorem d34_44 : decode prog_16_method_9_code 44 = .ok (.invokestatic 42, 3) := by decide +kernel
theorem d34_47 : decode prog_16_method_9_code 47 = .ok (.areturn, 1) := by decide +kernel
theorem m203 : (Jvm.Cond.code (⟨z8, "element", z14⟩ : MethodName) prog_16_method_9_code (3 : Nat) (Option.some (FieldType.object z16))) ∈ tables_1 := List.mem_of_getElem? (i := 203) rfl
theorem pd720 : parseMethodDescriptor z14 = some ⟨[(.object z23), .int], some (.object z16)⟩ := by decide +kernel
theorem m202 : (Jvm.Cond.static (⟨z8, "element", z14⟩ : MethodName)) ∈ tables_1 := List.mem_of_getElem? (i := 202) rfl
theorem m230 : (Jvm.Cond.methodLink z9 (35 : Nat) (⟨z23, "size", "()I"⟩ : MethodName)) ∈ tables_1 := List.mem_of_getElem? (i := 230) rfl
theorem m231 : (Jvm.Cond.methodLink z9 (39 : Nat) (⟨z23, "get", z10⟩ : MethodName)) ∈ tables_1 := List.mem_of_getElem? (i := 231) rfl
theorem en_724 (t : Int32) (q : (0 ≤ t.toInt ∧ t.toInt ≤ 1)) : t = (0 : Int32) ∨ t = (1 : Int32) := by
  have q' : t.toInt = 0 ∨ t.toInt = 1 := by omega
  rcases q' with r | r
  · exact Or.inl (Int32.toInt_inj.mp (r.trans (by decide)))
  · exact Or.inr ((Int32.toInt_inj.mp (r.trans (by decide))))
theorem ef725 (m : MethodId) (x0 : Addr) (x1 : Value) (x2 : Addr) (x3 : Int32) (hx1 : x1.isRef = true) : entryFrame m #[(.ref x0), x1, (.ref x2), (.int x3)] 4 = mkF m 0 #[.val (.ref x0), .val x1, .val (.ref x2), .val (.int x3)] [] := by rcases ref_cases hx1 with rfl | ⟨q1, rfl⟩ <;> rfl
theorem ef726 (m : MethodId) (x0 : Addr) (x1 : Value) (hx1 : x1.isRef = true) : entryFrame m #[(.ref x0), x1] 2 = mkF m 0 #[.val (.ref x0), .val x1] [] := by rcases ref_cases hx1 with rfl | ⟨q1, rfl⟩ <;> rfl
theorem en_727 (t : Int32) (q : (0 ≤ t.toInt ∧ t.toInt ≤ 2)) : t = (0 : Int32) ∨ t = (1 : Int32) ∨ t = (2 : Int32) := by
  have q' : t.toInt = 0 ∨ t.toInt = 1 ∨ t.toInt = 2 := by omega
  rcases q' with r | r | r
  · exact Or.inl (Int32.toInt_inj.mp (r.trans (by decide)))
  · exact Or.inr (Or.inl (Int32.toInt_inj.mp (r.trans (by decide))))
  · exact Or.inr (Or.inr ((Int32.toInt_inj.mp (r.trans (by decide)))))
theorem ef728 (m : MethodId) (x0 : Int32) (x1 : Int32) (x2 : Int32) (x3 : Int32) : entryFrame m #[(.int x0), (.int x1), (.int x2), (.int x3)] maxLocals = mkF m 0 #[.val (.int x0), .val (.int x1), .val (.int x2), .val (.int x3), .unset, .unset, .unset, .unset, .unset, .unset, .unset, .unset, .unset] [] := by first | (simp [entryFrame, mkF, argsToLocals, Value.category, maxLocals]; done) | rfl
theorem j19 : (Jvm.Cond.initializedFor "java/lang/Integer$IntegerCache" "high" "I") ∈ jdkStatics_1 := List.mem_of_getElem? (i := 19) rfl
theorem j0 : (Jvm.Cond.initializedFor z3 "COMPACT_STRINGS" "Z") ∈ jdkStatics_1 := List.mem_of_getElem? (i := 0) rfl
theorem j7 : (Jvm.Cond.initializedFor z18 "SIOOBE_FORMATTER" "Ljava/util/function/BiFunction;") ∈ jdkStatics_1 := List.mem_of_getElem? (i := 7) rfl
theorem m237 : (Jvm.Cond.initialized "java/lang/Integer$IntegerCache") ∈ tables_1 := List.mem_of_getElem? (i := 237) rfl
theorem j20 : (Jvm.Cond.laysStatic "java/lang/Integer$IntegerCache" "cache" "[Ljava/lang/Integer;") ∈ jdkStatics_1 := List.mem_of_getElem? (i := 20) rfl
theorem j11 : (Jvm.Cond.laysStatic z0 "DEFAULTCAPACITY_EMPTY_ELEMENTDATA" z4) ∈ jdkStatics_1 := List.mem_of_getElem? (i := 11) rfl
theorem j10 : (Jvm.Cond.initializedFor z0 "EMPTY_ELEMENTDATA" z4) ∈ jdkStatics_1 := List.mem_of_getElem? (i := 10) rfl
theorem j2 : (Jvm.Cond.not (Jvm.Cond.eq (Jvm.Term.static z3 "COMPACT_STRINGS" "Z") (Jvm.Term.int (0 : Int32)))) ∈ jdkStatics_1 := List.mem_of_getElem? (i := 2) rfl
theorem m4 : (Jvm.Cond.arrayClass FieldType.byte) ∈ tables_1 := List.mem_of_getElem? (i := 4) rfl
theorem m3 : (Jvm.Cond.instantiable z3 (4 : Nat)) ∈ tables_1 := List.mem_of_getElem? (i := 3) rfl
theorem m5 : (Jvm.Cond.laysFinal z3 z3 "value" "[B") ∈ tables_1 := List.mem_of_getElem? (i := 5) rfl
theorem m6 : (Jvm.Cond.laysFinal z3 z3 "coder" "B") ∈ tables_1 := List.mem_of_getElem? (i := 6) rfl
theorem m7 : (Jvm.Cond.soleField z3 "value") ∈ tables_1 := List.mem_of_getElem? (i := 7) rfl
theorem m8 : (Jvm.Cond.soleField z3 "coder") ∈ tables_1 := List.mem_of_getElem? (i := 8) rfl
def EL : List (String × Nat) := consts_1
theorem own_str {Z : State} {a0 : Array Value} (hw : ∀ d ∈ tables_1, d.before a0 Z = true) (hj : ∀ d ∈ jdkStatics_1, d.before a0 Z = true) : ∀ a ∈ Bundle.stringAtoms, a.before a0 Z = true := fun d hd => by
  simp only [Bundle.stringAtoms, List.mem_cons, List.not_mem_nil, or_false] at hd
  rcases hd with rfl | rfl | rfl | rfl | rfl | rfl | rfl
  · exact (hw _ m2)
  · exact (hw _ m3)
  · exact (hw _ m4)
  · exact (hw _ m5)
  · exact (hw _ m6)
  · exact (hw _ m7)
  · exact (hw _ m8)
theorem own_EW {Z : State} {a0 : Array Value} (hw : ∀ d ∈ tables_1, d.before a0 Z = true) (hj : ∀ d ∈ jdkStatics_1, d.before a0 Z = true) : EW Z a0 EL := (EW.cons (hw _ m49) (by decide) (EW.cons (hw _ m1) (by decide) EW.nil))
def Cx (Z : State) (a0 : Array Value) (w1 : Int32) (w2 : Value) (w3 : Addr) (clw3 : Cell) (w4 : Addr) (kw4 : ClassId) (w5 : Addr) (kw5 : ClassId) : Prop := (∀ d ∈ tables_1, d.before a0 Z = true) ∧ (∀ d ∈ jdkStatics_1, d.before a0 Z = true) ∧ SF Z w1 w2 w3 clw3 w4 kw4 w5 kw5
variable {l : Launch} {Z : State} {a0 : Array Value} {h0 : Heap} {n0 : Nat} {w1 : Int32} {w2 : Value} {w3 : Addr} {clw3 : Cell} {w4 : Addr} {kw4 : ClassId} {w5 : Addr} {kw5 : ClassId}
theorem cw0 (cx : Cx Z a0 w1 w2 w3 clw3 w4 kw4 w5 kw5) : WI Z a0 z11 202 ⟨"java/lang/Number", "<init>", "()V"⟩ jdk_18_method_1_code 1 [] := ⟨(cx.1 _ m244), (cx.1 _ m245), (cx.1 _ m248), (cx.1 _ m249), by decide, pd48, rfl⟩
theorem cw1 (cx : Cx Z a0 w1 w2 w3 clw3 w4 kw4 w5 kw5) : WI Z a0 z11 199 ⟨z11, "<init>", "(I)V"⟩ jdk_33_method_23_code 2 [.int] := ⟨(cx.1 _ m240), (cx.1 _ m241), (cx.1 _ m234), (cx.1 _ m243), by decide, pd58, rfl⟩
theorem cw2 (cx : Cx Z a0 w1 w2 w3 clw3 w4 kw4 w5 kw5) : WS Z a0 z9 43 ⟨z11, "valueOf", "(I)Ljava/lang/Integer;"⟩ jdk_33_method_22_code 1 (some (.object z11)) [.int] (some (.object z11)) := ⟨(cx.1 _ m232), (cx.1 _ m233), (cx.1 _ m234), (cx.1 _ m235), by decide, pd63⟩
theorem cw3 (cx : Cx Z a0 w1 w2 w3 clw3 w4 kw4 w5 kw5) : WI Z a0 z6 1 ⟨"java/util/AbstractCollection", "<init>", "()V"⟩ jdk_22_method_1_code 1 [] := ⟨(cx.1 _ m153), (cx.1 _ m154), (cx.1 _ m157), (cx.1 _ m158), by decide, pd48, rfl⟩
theorem cw4 (cx : Cx Z a0 w1 w2 w3 clw3 w4 kw4 w5 kw5) : WI Z a0 z0 1 ⟨z6, "<init>", "()V"⟩ jdk_39_method_1_code 1 [] := ⟨(cx.1 _ m147), (cx.1 _ m148), (cx.1 _ m151), (cx.1 _ m152), by decide, pd48, rfl⟩
theorem cw5 (cx : Cx Z a0 w1 w2 w3 clw3 w4 kw4 w5 kw5) : WI Z a0 z9 18 ⟨z0, "<init>", "()V"⟩ jdk_38_method_2_code 1 [] := ⟨(cx.1 _ m144), (cx.1 _ m145), (cx.1 _ m143), (cx.1 _ m146), by decide, pd48, rfl⟩
theorem cw6 (cx : Cx Z a0 w1 w2 w3 clw3 w4 kw4 w5 kw5) : WI Z a0 z8 9 ⟨z1, "<init>", "(Ljava/lang/String;)V"⟩ prog_17_method_1_code 2 [(.object z3)] := ⟨(cx.1 _ m16), (cx.1 _ m17), (cx.1 _ m15), (cx.1 _ m18), by decide, pd155, rfl⟩
theorem cw7 (cx : Cx Z a0 w1 w2 w3 clw3 w4 kw4 w5 kw5) : WV Z a0 z3 335 z3 ⟨z3, "coder", "()B"⟩ jdk_42_method_152_code 1 (some .byte) [] (some .byte) := ⟨(cx.1 _ m42), (cx.1 _ m43), (cx.1 _ m45), (cx.1 _ m44), (cx.1 _ m2), (cx.1 _ m46), by decide, pd194⟩
theorem cw8 (cx : Cx Z a0 w1 w2 w3 clw3 w4 kw4 w5 kw5) : WV Z a0 z1 22 z3 ⟨z3, "length", "()I"⟩ jdk_42_method_54_code 1 (some .int) [] (some .int) := ⟨(cx.1 _ m36), (cx.1 _ m37), (cx.1 _ m39), (cx.1 _ m38), (cx.1 _ m2), (cx.1 _ m40), by decide, pd200⟩
theorem cw9 (cx : Cx Z a0 w1 w2 w3 clw3 w4 kw4 w5 kw5) : WV Z a0 z3 492 z3 ⟨z3, "isLatin1", "()Z"⟩ jdk_42_method_154_code 1 (some .boolean) [] (some .boolean) := ⟨(cx.1 _ m55), (cx.1 _ m56), (cx.1 _ m58), (cx.1 _ m57), (cx.1 _ m2), (cx.1 _ m59), by decide, pd226⟩
theorem cw10 (cx : Cx Z a0 w1 w2 w3 clw3 w4 kw4 w5 kw5) : WS Z a0 z3 1059 ⟨z18, "checkIndex", z21⟩ jdk_41_method_11_code 3 (some .int) [.int, .int, (.object "java/util/function/BiFunction")] (some .int) := ⟨(cx.1 _ m69), (cx.1 _ m70), (cx.1 _ m68), (cx.1 _ m71), by decide, pd257⟩
theorem cw11 (cx : Cx Z a0 w1 w2 w3 clw3 w4 kw4 w5 kw5) : WS Z a0 z13 9 ⟨z3, "checkIndex", "(II)V"⟩ jdk_42_method_155_code 2 none [.int, .int] none := ⟨(cx.1 _ m64), (cx.1 _ m65), (cx.1 _ m2), (cx.1 _ m66), by decide, pd263⟩
theorem cw12 (cx : Cx Z a0 w1 w2 w3 clw3 w4 kw4 w5 kw5) : WS Z a0 z3 495 ⟨z13, "charAt", "([BI)C"⟩ jdk_43_method_2_code 2 (some .char) [(.array .byte), .int] (some .char) := ⟨(cx.1 _ m60), (cx.1 _ m61), (cx.1 _ m62), (cx.1 _ m63), by decide, pd275⟩
theorem cw13 (cx : Cx Z a0 w1 w2 w3 clw3 w4 kw4 w5 kw5) : WV Z a0 z1 36 z3 ⟨z3, "charAt", "(I)C"⟩ jdk_42_method_56_code 2 (some .char) [.int] (some .char) := ⟨(cx.1 _ m50), (cx.1 _ m51), (cx.1 _ m53), (cx.1 _ m52), (cx.1 _ m2), (cx.1 _ m54), by decide, pd279⟩
theorem cw14 (cx : Cx Z a0 w1 w2 w3 clw3 w4 kw4 w5 kw5) : WV Z a0 z3 505 z3 ⟨z3, "length", "()I"⟩ jdk_42_method_54_code 1 (some .int) [] (some .int) := ⟨(cx.1 _ m82), (cx.1 _ m37), (cx.1 _ m39), (cx.1 _ m38), (cx.1 _ m2), (cx.1 _ m40), by decide, pd200⟩
theorem cw15 (cx : Cx Z a0 w1 w2 w3 clw3 w4 kw4 w5 kw5) : WS Z a0 z13 88 ⟨z13, "canEncode", "(I)Z"⟩ jdk_43_method_4_code 1 (some .boolean) [.int] (some .boolean) := ⟨(cx.1 _ m86), (cx.1 _ m87), (cx.1 _ m62), (cx.1 _ m88), by decide, pd315⟩
theorem cw16 (cx : Cx Z a0 w1 w2 w3 clw3 w4 kw4 w5 kw5) : WS Z a0 z13 92 ⟨z24, "max", "(II)I"⟩ jdk_29_method_65_code 2 (some .int) [.int, .int] (some .int) := ⟨(cx.1 _ m89), (cx.1 _ m90), (cx.1 _ m91), (cx.1 _ m92), by decide, pd330⟩
theorem cw17 (cx : Cx Z a0 w1 w2 w3 clw3 w4 kw4 w5 kw5) : WS Z a0 z13 38 ⟨z24, "min", "(II)I"⟩ jdk_29_method_69_code 2 (some .int) [.int, .int] (some .int) := ⟨(cx.1 _ m93), (cx.1 _ m94), (cx.1 _ m91), (cx.1 _ m95), by decide, pd330⟩
theorem cw18 (cx : Cx Z a0 w1 w2 w3 clw3 w4 kw4 w5 kw5) : WS Z a0 z13 95 ⟨z13, "indexOfChar", "([BIII)I"⟩ jdk_43_method_23_code 6 (some .int) [(.array .byte), .int, .int, .int] (some .int) := ⟨(cx.1 _ m96), (cx.1 _ m97), (cx.1 _ m62), (cx.1 _ m98), by decide, pd375⟩
theorem cw19 (cx : Cx Z a0 w1 w2 w3 clw3 w4 kw4 w5 kw5) : WS Z a0 z3 637 ⟨z13, "indexOf", "([BIII)I"⟩ jdk_43_method_22_code 4 (some .int) [(.array .byte), .int, .int, .int] (some .int) := ⟨(cx.1 _ m83), (cx.1 _ m84), (cx.1 _ m62), (cx.1 _ m85), by decide, pd375⟩
theorem cw20 (cx : Cx Z a0 w1 w2 w3 clw3 w4 kw4 w5 kw5) : WV Z a0 z3 633 z3 ⟨z3, "indexOf", "(II)I"⟩ jdk_42_method_80_code 3 (some .int) [.int, .int] (some .int) := ⟨(cx.1 _ m77), (cx.1 _ m78), (cx.1 _ m80), (cx.1 _ m79), (cx.1 _ m2), (cx.1 _ m81), by decide, pd330⟩
theorem cw21 (cx : Cx Z a0 w1 w2 w3 clw3 w4 kw4 w5 kw5) : WV Z a0 z1 177 z3 ⟨z3, "indexOf", "(I)I"⟩ jdk_42_method_79_code 2 (some .int) [.int] (some .int) := ⟨(cx.1 _ m72), (cx.1 _ m73), (cx.1 _ m75), (cx.1 _ m74), (cx.1 _ m2), (cx.1 _ m76), by decide, pd389⟩
theorem cw22 (cx : Cx Z a0 w1 w2 w3 clw3 w4 kw4 w5 kw5) : WV Z a0 z1 15 z1 ⟨z1, "skipSpace", "()V"⟩ prog_17_method_11_code 1 none [] none := ⟨(cx.1 _ m29), (cx.1 _ m30), (cx.1 _ m32), (cx.1 _ m31), (cx.1 _ m15), (cx.1 _ m33), by decide, pd48⟩
theorem cw23 (cx : Cx Z a0 w1 w2 w3 clw3 w4 kw4 w5 kw5) : WI Z a0 z17 43 ⟨"java/util/AbstractMap", "<init>", "()V"⟩ jdk_71_method_1_code 1 [] := ⟨(cx.1 _ m115), (cx.1 _ m116), (cx.1 _ m119), (cx.1 _ m120), by decide, pd48, rfl⟩
theorem cw24 (cx : Cx Z a0 w1 w2 w3 clw3 w4 kw4 w5 kw5) : WI Z a0 z5 87 ⟨z17, "<init>", "()V"⟩ jdk_69_method_7_code 1 [] := ⟨(cx.1 _ m109), (cx.1 _ m110), (cx.1 _ m113), (cx.1 _ m114), by decide, pd48, rfl⟩
theorem cw25 (cx : Cx Z a0 w1 w2 w3 clw3 w4 kw4 w5 kw5) : WI Z a0 z1 77 ⟨z5, "<init>", "()V"⟩ jdk_94_method_16_code 1 [] := ⟨(cx.1 _ m106), (cx.1 _ m107), (cx.1 _ m105), (cx.1 _ m108), by decide, pd48, rfl⟩
theorem cw26 (cx : Cx Z a0 w1 w2 w3 clw3 w4 kw4 w5 kw5) : WV Z a0 z8 12 z1 ⟨z1, "value", z10⟩ prog_17_method_2_code 4 (some (.object z2)) [.int] (some (.object z2)) := ⟨(cx.1 _ m24), (cx.1 _ m25), (cx.1 _ m27), (cx.1 _ m26), (cx.1 _ m15), (cx.1 _ m28), by decide, pd521⟩
theorem cw27 (cx : Cx Z a0 w1 w2 w3 clw3 w4 kw4 w5 kw5) : WV Z a0 z8 16 z1 ⟨z1, "skipSpace", "()V"⟩ prog_17_method_11_code 1 none [] none := ⟨(cx.1 _ m133), (cx.1 _ m30), (cx.1 _ m32), (cx.1 _ m31), (cx.1 _ m15), (cx.1 _ m33), by decide, pd48⟩
theorem cw28 (cx : Cx Z a0 w1 w2 w3 clw3 w4 kw4 w5 kw5) : WV Z a0 z8 23 z3 ⟨z3, "length", "()I"⟩ jdk_42_method_54_code 1 (some .int) [] (some .int) := ⟨(cx.1 _ m135), (cx.1 _ m37), (cx.1 _ m39), (cx.1 _ m38), (cx.1 _ m2), (cx.1 _ m40), by decide, pd200⟩
theorem cw29 (cx : Cx Z a0 w1 w2 w3 clw3 w4 kw4 w5 kw5) : WS Z a0 z8 42 ⟨z8, "asObject", "(Ljava/lang/Object;)Ljava/util/Map;"⟩ prog_16_method_10_code 1 (some (.object z16)) [(.object z2)] (some (.object z16)) := ⟨(cx.1 _ m138), (cx.1 _ m139), (cx.1 _ m11), (cx.1 _ m140), by decide, pd549⟩
theorem cw30 (cx : Cx Z a0 w1 w2 w3 clw3 w4 kw4 w5 kw5) : WS Z a0 z9 10 ⟨z8, "parseObject", "(Ljava/lang/String;)Ljava/util/Map;"⟩ prog_16_method_2_code 3 (some (.object z16)) [(.object z3)] (some (.object z16)) := ⟨(cx.1 _ m9), (cx.1 _ m10), (cx.1 _ m11), (cx.1 _ m12), by decide, pd554⟩
theorem cw31 (cx : Cx Z a0 w1 w2 w3 clw3 w4 kw4 w5 kw5) : WS Z a0 z9 19 ⟨z9, "slot", z19⟩ method_3_code 6 (some (.object z2)) [.int, .int, .int, .int, (.object z16)] (some (.object z2)) := ⟨(cx.1 _ m165), (cx.1 _ m166), (cx.1 _ m167), (cx.1 _ m168), by decide, pd559⟩
theorem cw32 (cx : Cx Z a0 w1 w2 w3 clw3 w4 kw4 w5 kw5) : WS Z a0 z0 79 ⟨z24, "max", "(II)I"⟩ jdk_29_method_65_code 2 (some .int) [.int, .int] (some .int) := ⟨(cx.1 _ m197), (cx.1 _ m90), (cx.1 _ m91), (cx.1 _ m92), by decide, pd330⟩
theorem cw33 (cx : Cx Z a0 w1 w2 w3 clw3 w4 kw4 w5 kw5) : WS Z a0 z22 105 ⟨z18, "checkIndex", z21⟩ jdk_41_method_11_code 3 (some .int) [.int, .int, (.object "java/util/function/BiFunction")] (some .int) := ⟨(cx.1 _ m224), (cx.1 _ m70), (cx.1 _ m68), (cx.1 _ m71), by decide, pd257⟩
theorem cw34 (cx : Cx Z a0 w1 w2 w3 clw3 w4 kw4 w5 kw5) : WS Z a0 z0 118 ⟨z22, "checkIndex", "(II)I"⟩ jdk_31_method_17_code 2 (some .int) [.int, .int] (some .int) := ⟨(cx.1 _ m220), (cx.1 _ m221), (cx.1 _ m222), (cx.1 _ m223), by decide, pd330⟩
theorem cw35 (cx : Cx Z a0 w1 w2 w3 clw3 w4 kw4 w5 kw5) : WV Z a0 z0 123 z0 ⟨z0, z7, z10⟩ jdk_38_method_18_code 2 (some (.object z2)) [.int] (some (.object z2)) := ⟨(cx.1 _ m225), (cx.1 _ m226), (cx.1 _ m228), (cx.1 _ m227), (cx.1 _ m143), (cx.1 _ m229), by decide, pd521⟩
theorem cw36 (cx : Cx Z a0 w1 w2 w3 clw3 w4 kw4 w5 kw5) : WS Z a0 z9 31 ⟨z8, "element", z14⟩ prog_16_method_9_code 3 (some (.object z16)) [(.object z23), .int] (some (.object z16)) := ⟨(cx.1 _ m201), (cx.1 _ m202), (cx.1 _ m11), (cx.1 _ m203), by decide, pd720⟩
def Qrm1 (Z : State) (h0 : Heap) (n0 : Nat) (v : Option Value) (h : Heap) (L : List Loc) : Prop := v = none ∧ Fr n0 L ∧ h = h0
theorem rm1 (cx : Cx Z a0 w1 w2 w3 clw3 w4 kw4 w5 kw5) (a1 : Addr) (O0 : Old Z n0 h0) : Ct l Z ⟨"java/lang/Number", "<init>", "()V"⟩ jdk_18_method_1_code 1 none ⟨1, 0, 0, 12⟩ #[(vR a1)] h0 (Qrm1 Z h0 n0) := by
  obtain ⟨hw, hj, hS⟩ := id cx
  refine own_bd (plainFor_of_name pn45) (fun m => ef44 m a1) fun p e s m below meth c s₁ hret hlk hZ hx hby hml hown hnm X0 e0 => ?_
  have N0 := Fr.nil n0
  obtain ⟨T1, X1, e1, st1⟩ := initO X0 hx hZ hown (hw _ m250) (hw _ m20) (hw _ m21) e0 (g := (mkF m 1 #[sR a1] [(vR a1)])) rfl (by rw [hml]; rfl) rfl (hb hby d41_1) (by decide) (W := 0) (Nat.le_of_eq rfl) (by decide)
  refine own_end X1 hlk (v := none) (fun _ => rfl) (by decide) (by rw [e1]; exact ⟨rfl, N0, rfl⟩) fun fs hr => ?_
  show St p e below s₁ (mkF m 0 #[sR a1] []) _
  refine wal X0 hx hby rfl d41_0 rfl rfl ?_
  refine st1 _ ?_
  exact X1.returnOut hx hret (hb hby d41_4) hr
def Qrm2 (Z : State) (p1 : Int32) (a2 : Addr) (h0 : Heap) (n0 : Nat) (v : Option Value) (h : Heap) (L : List Loc) : Prop := v = none ∧ Fr n0 L ∧ Keep h0 h [a2] ∧ Fld Z h a2 z11 "value" "I" (vI p1)
theorem rm2 (cx : Cx Z a0 w1 w2 w3 clw3 w4 kw4 w5 kw5) (p1 : Int32) (a2 : Addr) (O0 : Old Z n0 h0) (PE1 : Exa Z h0 a2 z11) (PF2 : Fld Z h0 a2 z11 "value" "I" (vI 0)) (gn3 : n0 ≤ a2) : Ct l Z ⟨z11, "<init>", "(I)V"⟩ jdk_33_method_23_code 2 none ⟨2, 0, 0, 24⟩ #[(vR a2), (vI p1)] h0 (Qrm2 Z p1 a2 h0 n0) := by
  obtain ⟨hw, hj, hS⟩ := id cx
  refine own_bd (plainFor_of_name pn56) (fun m => ef55 m a2 p1) fun p e s m below meth c s₁ hret hlk hZ hx hby hml hown hnm X0 e0 => ?_
  have N0 := Fr.nil n0
  obtain ⟨_, T1, L1, ⟨rfl, N1q, e1⟩, X1, st1⟩ := cI X0 hx hZ (W := 0) hown (cw0 cx) (rm1 cx a2 O0) e0 (g := (mkF m 1 #[sR a2, sI p1] [(vR a2)])) rfl hml rfl (rest := []) rfl rfl rfl rfl (hb hby d40_1) (by decide)
  obtain ⟨T2, h2, L'2, X2, e2, W2, Fw2, O2, K2, N2, st2⟩ := own_put X1 hx hZ hown (host := "") (Or.inl (hw _ m251)) Via.refl e1 O0 (Keep.refl h0 [a2]) (Fr.app N0 N1q) gn3 (Or.inl (List.mem_of_getElem? (i := 0) rfl)) PF2 PE1 (Or.inr ⟨(hw _ m252), rfl, hnm⟩) (hw _ m239) (ty := .int) (by decide) rfl rfl (g := (mkF m 6 #[sR a2, sI p1] [(vI p1), (vR a2)])) rfl rfl (hb hby d40_6)
  refine own_end X2 hlk (v := none) (fun _ => rfl) (by decide) (by rw [e2]; exact ⟨rfl, N2, K2, Fw2⟩) fun fs hr => ?_
  show St p e below s₁ (mkF m 0 #[sR a2, sI p1] []) _
  refine wal X0 hx hby rfl d40_0 rfl rfl ?_
  refine st1 _ ?_
  refine wal X1 hx hby rfl d40_4 rfl rfl ?_
  refine wil X1 hx hby rfl d40_5 rfl ?_
  refine st2 _ ?_
  exact X2.returnOut hx hret (hb hby d40_9) hr
def Qrm3 (Z : State) (p1 : Int32) (h0 : Heap) (n0 : Nat) (v : Option Value) (h : Heap) (L : List Loc) : Prop := ∃ x0 : Addr, v = some (vR x0) ∧ Fr n0 L ∧ Keep h0 h [] ∧ h0.size ≤ x0 ∧ Exa Z h x0 z11 ∧ Fld Z h x0 z11 "value" "I" (vI p1)
theorem rm3 (cx : Cx Z a0 w1 w2 w3 clw3 w4 kw4 w5 kw5) (p1 : Int32) (O0 : Old Z n0 h0) (hc1 : p1 < (-128 : Int32)) : Ct l Z ⟨z11, "valueOf", "(I)Ljava/lang/Integer;"⟩ jdk_33_method_22_code 1 (some (.object z11)) ⟨3, 1, 1, 38⟩ #[(vI p1)] h0 (Qrm3 Z p1 h0 n0) := by
  obtain ⟨hw, hj, hS⟩ := id cx
  refine own_bd (plainFor_of_name pn56) (fun m => ef61 m p1) fun p e s m below meth c s₁ hret hlk hZ hx hby hml hown hnm X0 e0 => ?_
  have N0 := Fr.nil n0
  obtain ⟨T1, h1, b1, X1, e1, E1, A1, D1, g1, O1, K1, st1⟩ := own_newO X0 hx hZ hown (hw _ m238) (hw _ m239) (hw _ m234) e0 O0 (Keep.refl h0 []) (g := (mkF m 23 #[sI p1] [])) rfl (hb hby d39_23) (by decide) (by decide)
  have F1_1 : Fld Z h1 b1 z11 "value" "I" (vI 0) := D1 (Or.inr (hw _ m252)) (ty := .int) (by decide)
  obtain ⟨_, T2, L2, ⟨rfl, N2q, Kq2, q2_0⟩, X2, st2⟩ := cI X1 hx hZ (W := 1) hown (cw1 cx) (rm2 cx p1 b1 O1 A1 F1_1 (Nat.le_trans (own_old_le O0) g1)) e1 (g := (mkF m 28 #[sI p1] [(vI p1), (vR b1), (vR b1)])) rfl hml rfl (rest := [(vR b1)]) rfl rfl rfl rfl (hb hby d39_28) (by decide)
  have N2 := Fr.app N0 N2q
  have O2 : Old Z n0 T2.heap := O1.keep Kq2 (allS (Nat.le_trans (own_old_le O0) g1) all0)
  have K2 : Keep h0 T2.heap [] := K1.trans Kq2 (allS (Or.inr (Nat.le_trans (Keep.refl h0 []).1 g1)) all0)
  have f3 : Exa Z T2.heap b1 z11 := (A1.keep Kq2)
  refine own_end X2 hlk (v := some (vR b1)) (own_hv hret) (by decide) ⟨b1, rfl, N2, K2, (Nat.le_trans (Keep.refl h0 []).1 g1), f3, q2_0⟩ fun fs hr => ?_
  show St p e below s₁ (mkF m 0 #[sI p1] []) _
  refine wil X0 hx hby rfl d39_0 rfl ?_
  refine wbp X0 hx hby rfl d39_1 ?_
  refine wcy X0 hx hby rfl (pc0 := 3) (pc' := 23) rfl d39_3 rfl (tlt hc1).1 (by decide) (by decide) ?_
  refine st1 _ ?_
  refine wdu X1 hx hby rfl d39_26 rfl rfl ?_
  refine wil X1 hx hby rfl d39_27 rfl ?_
  refine st2 _ ?_
  exact retOut X2 hx hret rfl (Or.inr (Or.inr (Or.inr (Or.inr ⟨rfl, rfl, rfl⟩)))) (hb hby d39_31) hr
def Qrm4 (Z : State) (p1 : Int32) (h0 : Heap) (n0 : Nat) (v : Option Value) (h : Heap) (L : List Loc) : Prop := ∃ x0 : Addr, v = some (vR x0) ∧ Fr n0 L ∧ Keep h0 h [] ∧ h0.size ≤ x0 ∧ Exa Z h x0 z11 ∧ Fld Z h x0 z11 "value" "I" (vI p1)
theorem rm4 (cx : Cx Z a0 w1 w2 w3 clw3 w4 kw4 w5 kw5) (p1 : Int32) (O0 : Old Z n0 h0) (hc1 : ¬ (p1 < (-128 : Int32))) (hc2 : (127 : Int32) < p1) : Ct l Z ⟨z11, "valueOf", "(I)Ljava/lang/Integer;"⟩ jdk_33_method_22_code 1 (some (.object z11)) ⟨3, 1, 1, 38⟩ #[(vI p1)] h0 (Qrm4 Z p1 h0 n0) := by
  obtain ⟨hw, hj, hS⟩ := id cx
  refine own_bd (plainFor_of_name pn56) (fun m => ef61 m p1) fun p e s m below meth c s₁ hret hlk hZ hx hby hml hown hnm X0 e0 => ?_
  have N0 := Fr.nil n0
  obtain ⟨T1, X1, e1, st1⟩ := getS2 X0 hx hZ hown (host := "") (Or.inl (hw _ m236)) Via.refl e0 (hS.1.ext O0.2) (g := (mkF m 7 #[sI p1] [(vI p1)])) rfl (hb hby d39_7)
  obtain ⟨T2, h2, b2, X2, e2, E2, A2, D2, g2, O2, K2, st2⟩ := own_newO X1 hx hZ hown (hw _ m238) (hw _ m239) (hw _ m234) e1 O0 (Keep.refl h0 []) (g := (mkF m 23 #[sI p1] [])) rfl (hb hby d39_23) (by decide) (by decide)
  have F2_1 : Fld Z h2 b2 z11 "value" "I" (vI 0) := D2 (Or.inr (hw _ m252)) (ty := .int) (by decide)
  obtain ⟨_, T3, L3, ⟨rfl, N3q, Kq3, q3_0⟩, X3, st3⟩ := cI X2 hx hZ (W := 1) hown (cw1 cx) (rm2 cx p1 b2 O2 A2 F2_1 (Nat.le_trans (own_old_le O0) g2)) e2 (g := (mkF m 28 #[sI p1] [(vI p1), (vR b2), (vR b2)])) rfl hml rfl (rest := [(vR b2)]) rfl rfl rfl rfl (hb hby d39_28) (by decide)
  have N3 := Fr.app N0 N3q
  have O3 : Old Z n0 T3.heap := O2.keep Kq3 (allS (Nat.le_trans (own_old_le O0) g2) all0)
  have K3 : Keep h0 T3.heap [] := K2.trans Kq3 (allS (Or.inr (Nat.le_trans (Keep.refl h0 []).1 g2)) all0)
  have f4 : Exa Z T3.heap b2 z11 := (A2.keep Kq3)
  refine own_end X3 hlk (v := some (vR b2)) (own_hv hret) (by decide) ⟨b2, rfl, N3, K3, (Nat.le_trans (Keep.refl h0 []).1 g2), f4, q3_0⟩ fun fs hr => ?_
  show St p e below s₁ (mkF m 0 #[sI p1] []) _
  refine wil X0 hx hby rfl d39_0 rfl ?_
  refine wbp X0 hx hby rfl d39_1 ?_
  refine wcn X0 hx hby rfl d39_3 rfl (flt hc1).1 ?_
  refine wil X0 hx hby rfl d39_6 rfl ?_
  refine st1 _ ?_
  refine wcy X1 hx hby rfl (pc0 := 10) (pc' := 23) rfl d39_10 rfl (tlt hc2).2.2.1 (by decide) (by decide) ?_
  refine st2 _ ?_
  refine wdu X2 hx hby rfl d39_26 rfl rfl ?_
  refine wil X2 hx hby rfl d39_27 rfl ?_
  refine st3 _ ?_
  exact retOut X3 hx hret rfl (Or.inr (Or.inr (Or.inr (Or.inr ⟨rfl, rfl, rfl⟩)))) (hb hby d39_31) hr
def Qrm5 (Z : State) (a2 : Addr) (h0 : Heap) (n0 : Nat) (v : Option Value) (h : Heap) (L : List Loc) : Prop := v = some (vR a2) ∧ Fr n0 L ∧ h = h0
theorem rm5 (cx : Cx Z a0 w1 w2 w3 clw3 w4 kw4 w5 kw5) (p1 : Int32) (a2 : Addr) (O0 : Old Z n0 h0) (hc1 : ¬ (p1 < (-128 : Int32))) (hc2 : ¬ ((127 : Int32) < p1)) (ze3 : clw3.slots[((p1 + (128 : Int32))).toNatClampNeg]? = some (.ref a2)) (hc4 : ¬ ((p1 + (128 : Int32)) < (0 : Int32))) (hc5 : (p1 + (128 : Int32)) < (256 : Int32)) : Ct l Z ⟨z11, "valueOf", "(I)Ljava/lang/Integer;"⟩ jdk_33_method_22_code 1 (some (.object z11)) ⟨0, 0, 0, 0⟩ #[(vI p1)] h0 (Qrm5 Z a2 h0 n0) := by
  obtain ⟨hw, hj, hS⟩ := id cx
  refine own_bd (plainFor_of_name pn56) (fun m => ef61 m p1) fun p e s m below meth c s₁ hret hlk hZ hx hby hml hown hnm X0 e0 => ?_
  have N0 := Fr.nil n0
  obtain ⟨T1, X1, e1, st1⟩ := getS2 X0 hx hZ hown (host := "") (Or.inl (hw _ m236)) Via.refl e0 (hS.1.ext O0.2) (g := (mkF m 7 #[sI p1] [(vI p1)])) rfl (hb hby d39_7)
  obtain ⟨T2, X2, e2, st2⟩ := getS2 X1 hx hZ hown (host := "") (Or.inl (hw _ m255)) Via.refl e1 (hS.2.2.2.2.2.1.ext O0.2) (g := (mkF m 13 #[sI p1] [])) rfl (hb hby d39_13)
  refine own_end X2 hlk (v := some (vR a2)) (own_hv hret) (by decide) (by rw [e2]; exact ⟨rfl, N0, rfl⟩) fun fs hr => ?_
  show St p e below s₁ (mkF m 0 #[sI p1] []) _
  refine wil X0 hx hby rfl d39_0 rfl ?_
  refine wbp X0 hx hby rfl d39_1 ?_
  refine wcn X0 hx hby rfl d39_3 rfl (flt hc1).1 ?_
  refine wil X0 hx hby rfl d39_6 rfl ?_
  refine st1 _ ?_
  refine wcn X1 hx hby rfl d39_10 rfl (flt hc2).2.2.1 ?_
  refine st2 _ ?_
  refine wil X2 hx hby rfl d39_16 rfl ?_
  refine wsp X2 hx hby rfl d39_17 ?_
  refine XS.iadd X2.here hx rfl (hb hby d39_20) rfl ?_
  refine own_boxload X2 hx hZ e2 O0 hS.2.2.2.2.2.2.1 (j := (p1 + (128 : Int32))) hc4 hc5 ze3 (g := (mkF m 21 #[sI p1] [(vI (p1 + (128 : Int32))), (vR w3)])) rfl rfl (hb hby d39_21) ?_
  exact retOut X2 hx hret rfl (Or.inr (Or.inr (Or.inr (Or.inr ⟨rfl, rfl, rfl⟩)))) (hb hby d39_22) hr
def Qrm6 (Z : State) (h0 : Heap) (n0 : Nat) (v : Option Value) (h : Heap) (L : List Loc) : Prop := v = none ∧ Fr n0 L ∧ h = h0
theorem rm6 (cx : Cx Z a0 w1 w2 w3 clw3 w4 kw4 w5 kw5) (a1 : Addr) (O0 : Old Z n0 h0) : Ct l Z ⟨"java/util/AbstractCollection", "<init>", "()V"⟩ jdk_22_method_1_code 1 none ⟨1, 0, 0, 12⟩ #[(vR a1)] h0 (Qrm6 Z h0 n0) := by
  obtain ⟨hw, hj, hS⟩ := id cx
  refine own_bd (plainFor_of_name pn103) (fun m => ef44 m a1) fun p e s m below meth c s₁ hret hlk hZ hx hby hml hown hnm X0 e0 => ?_
  have N0 := Fr.nil n0
  obtain ⟨T1, X1, e1, st1⟩ := initO X0 hx hZ hown (hw _ m159) (hw _ m20) (hw _ m21) e0 (g := (mkF m 1 #[sR a1] [(vR a1)])) rfl (by rw [hml]; rfl) rfl (hb hby d28_1) (by decide) (W := 0) (Nat.le_of_eq rfl) (by decide)
  refine own_end X1 hlk (v := none) (fun _ => rfl) (by decide) (by rw [e1]; exact ⟨rfl, N0, rfl⟩) fun fs hr => ?_
  show St p e below s₁ (mkF m 0 #[sR a1] []) _
  refine wal X0 hx hby rfl d28_0 rfl rfl ?_
  refine st1 _ ?_
  exact X1.returnOut hx hret (hb hby d28_4) hr
def Qrm7 (Z : State) (a1 : Addr) (h0 : Heap) (n0 : Nat) (v : Option Value) (h : Heap) (L : List Loc) : Prop := v = none ∧ Fr n0 L ∧ Keep h0 h [a1] ∧ Fld Z h a1 z6 "modCount" "I" (vI 0) ∧ Fld Z h a1 z0 z7 z4 .null ∧ Fld Z h a1 z0 "size" "I" (vI 0)
theorem rm7 (cx : Cx Z a0 w1 w2 w3 clw3 w4 kw4 w5 kw5) (a1 : Addr) (O0 : Old Z n0 h0) (PE1 : Exa Z h0 a1 z0) (PF2 : Fld Z h0 a1 z6 "modCount" "I" (vI 0)) (PF3 : Fld Z h0 a1 z0 z7 z4 .null) (PF4 : Fld Z h0 a1 z0 "size" "I" (vI 0)) (gn5 : n0 ≤ a1) : Ct l Z ⟨z6, "<init>", "()V"⟩ jdk_39_method_1_code 1 none ⟨2, 0, 0, 24⟩ #[(vR a1)] h0 (Qrm7 Z a1 h0 n0) := by
  obtain ⟨hw, hj, hS⟩ := id cx
  refine own_bd (plainFor_of_name pn112) (fun m => ef44 m a1) fun p e s m below meth c s₁ hret hlk hZ hx hby hml hown hnm X0 e0 => ?_
  have N0 := Fr.nil n0
  obtain ⟨_, T1, L1, ⟨rfl, N1q, e1⟩, X1, st1⟩ := cI X0 hx hZ (W := 0) hown (cw3 cx) (rm6 cx a1 O0) e0 (g := (mkF m 1 #[sR a1] [(vR a1)])) rfl hml rfl (rest := []) rfl rfl rfl rfl (hb hby d27_1) (by decide)
  obtain ⟨T2, h2, L'2, X2, e2, W2, Fw2, O2, K2, N2, st2⟩ := own_put X1 hx hZ hown (host := "") (Or.inl (hw _ m160)) Via.refl e1 O0 (Keep.refl h0 [a1]) (Fr.app N0 N1q) gn5 (Or.inl (List.mem_of_getElem? (i := 0) rfl)) PF2 PE1 (Or.inl (hw _ m161)) (hw _ m142) (ty := .int) (by decide) rfl rfl (g := (mkF m 6 #[sR a1] [(vI 0), (vR a1)])) rfl rfl (hb hby d27_6)
  have f3 : Fld Z h2 a1 z0 z7 z4 .null := (PF3.other W2 (Or.inr (slot_ne (Or.inl (hw _ m164)) (Or.inl (hw _ m161)) (by decide) (t := (.array (.object z2))) (t' := .int) (by decide) (by decide))))
  have f4 : Fld Z h2 a1 z0 "size" "I" (vI 0) := (PF4.other W2 (Or.inr (slot_ne (Or.inl (hw _ m181)) (Or.inl (hw _ m161)) (by decide) (t := .int) (t' := .int) (by decide) (by decide))))
  refine own_end X2 hlk (v := none) (fun _ => rfl) (by decide) (by rw [e2]; exact ⟨rfl, N2, K2, Fw2, f3, f4⟩) fun fs hr => ?_
  show St p e below s₁ (mkF m 0 #[sR a1] []) _
  refine wal X0 hx hby rfl d27_0 rfl rfl ?_
  refine st1 _ ?_
  refine wal X1 hx hby rfl d27_4 rfl rfl ?_
  refine wic X1 hx hby rfl d27_5 ?_
  refine st2 _ ?_
  exact X2.returnOut hx hret (hb hby d27_9) hr
def Qrm8 (Z : State) (w4 : Addr) (a1 : Addr) (h0 : Heap) (n0 : Nat) (v : Option Value) (h : Heap) (L : List Loc) : Prop := v = none ∧ Fr n0 L ∧ Keep h0 h [a1] ∧ Fld Z h a1 z6 "modCount" "I" (vI 0) ∧ Fld Z h a1 z0 z7 z4 (vR w4) ∧ Fld Z h a1 z0 "size" "I" (vI 0)
theorem rm8 (cx : Cx Z a0 w1 w2 w3 clw3 w4 kw4 w5 kw5) (a1 : Addr) (O0 : Old Z n0 h0) (PE1 : Exa Z h0 a1 z0) (PF2 : Fld Z h0 a1 z6 "modCount" "I" (vI 0)) (PF3 : Fld Z h0 a1 z0 z7 z4 .null) (PF4 : Fld Z h0 a1 z0 "size" "I" (vI 0)) (gn5 : n0 ≤ a1) : Ct l Z ⟨z0, "<init>", "()V"⟩ jdk_38_method_2_code 1 none ⟨3, 0, 0, 36⟩ #[(vR a1)] h0 (Qrm8 Z w4 a1 h0 n0) := by
  obtain ⟨hw, hj, hS⟩ := id cx
  refine own_bd (plainFor_of_name pn122) (fun m => ef44 m a1) fun p e s m below meth c s₁ hret hlk hZ hx hby hml hown hnm X0 e0 => ?_
  have N0 := Fr.nil n0
  obtain ⟨_, T1, L1, ⟨rfl, N1q, Kq1, q1_0, q1_1, q1_2⟩, X1, st1⟩ := cI X0 hx hZ (W := 0) hown (cw4 cx) (rm7 cx a1 O0 PE1 PF2 PF3 PF4 gn5) e0 (g := (mkF m 1 #[sR a1] [(vR a1)])) rfl hml rfl (rest := []) rfl rfl rfl rfl (hb hby d26_1) (by decide)
  have N1 := Fr.app N0 N1q
  have O1 : Old Z n0 T1.heap := O0.keep Kq1 (allS gn5 all0)
  have K1 : Keep h0 T1.heap [a1] := (Keep.refl h0 [a1]).trans Kq1 (allS (Or.inl (List.mem_of_getElem? (i := 0) rfl)) all0)
  obtain ⟨T2, X2, e2, st2⟩ := getS2 X1 hx hZ hown (host := "") (Or.inl (hw _ m162)) Via.refl (rfl : T1.heap = T1.heap) (hS.2.2.2.2.2.2.2.1.ext O1.2) (g := (mkF m 5 #[sR a1] [(vR a1)])) rfl (hb hby d26_5)
  have f3 : Exa Z T1.heap a1 z0 := (PE1.keep Kq1)
  obtain ⟨T4, h4, L'4, X4, e4, W4, Fw4, O4, K4, N4, st4⟩ := own_put X2 hx hZ hown (host := "") (Or.inl (hw _ m163)) Via.refl e2 O1 K1 N1 gn5 (Or.inl (List.mem_of_getElem? (i := 0) rfl)) q1_1 f3 (Or.inl (hw _ m164)) (hw _ m142) (ty := (.array (.object z2))) (by decide) rfl rfl (g := (mkF m 8 #[sR a1] [(vR w4), (vR a1)])) rfl rfl (hb hby d26_8)
  have f5 : Fld Z h4 a1 z6 "modCount" "I" (vI 0) := (q1_0.other W4 (Or.inr (slot_ne (Or.inl (hw _ m161)) (Or.inl (hw _ m164)) (by decide) (t := .int) (t' := (.array (.object z2))) (by decide) (by decide))))
  have f6 : Fld Z h4 a1 z0 "size" "I" (vI 0) := (q1_2.other W4 (Or.inr (slot_ne (Or.inl (hw _ m181)) (Or.inl (hw _ m164)) (by decide) (t := .int) (t' := (.array (.object z2))) (by decide) (by decide))))
  refine own_end X4 hlk (v := none) (fun _ => rfl) (by decide) (by rw [e4]; exact ⟨rfl, N4, K4, f5, Fw4, f6⟩) fun fs hr => ?_
  show St p e below s₁ (mkF m 0 #[sR a1] []) _
  refine wal X0 hx hby rfl d26_0 rfl rfl ?_
  refine st1 _ ?_
  refine wal X1 hx hby rfl d26_4 rfl rfl ?_
  refine st2 _ ?_
  refine st4 _ ?_
  exact X4.returnOut hx hret (hb hby d26_11) hr
def Qjm0 (Z : State) (w1 : Int32) (w2 : Value) (w3 : Addr) (clw3 : Cell) (w4 : Addr) (kw4 : ClassId) (w5 : Addr) (kw5 : ClassId) (p0 : Int32) (p1 : Int32) (p2 : Int32) (p3 : Int32) (p4 : Addr) (h0 : Heap) (n0 : Nat) (v : Option Value) (h : Heap) (L : List Loc) : Prop := ∃ z : Value, v = some z ∧ Fr n0 L ∧ Keep h0 h [] ∧ ObV Z h z
theorem jm0 (cx : Cx Z a0 w1 w2 w3 clw3 w4 kw4 w5 kw5) (p0 : Int32) (p1 : Int32) (p2 : Int32) (p3 : Int32) (p4 : Addr) (O0 : Old Z n0 h0) (hq0 : ¬ (p0 = p1)) (hEp4 : Exa Z h0 p4 z5) : Ct l Z ⟨z9, "slot", z19⟩ method_3_code 6 (some (.object z2)) ⟨4, 1, 3, 50⟩ #[(vI p0), (vI p1), (vI p2), (vI p3), (vR p4)] h0 (Qjm0 Z w1 w2 w3 clw3 w4 kw4 w5 kw5 p0 p1 p2 p3 p4 h0 n0) := by
  refine own_bd (plainFor_of_name pn127) (fun m => ef128 m p0 p1 p2 p3 p4) fun p e s m below meth c s₁ hret hlk hZ hx hby hml hown hnm X0 e0 => ?_
  obtain ⟨hw, hj, hS⟩ := id cx
  have N0 := Fr.nil n0
  obtain ⟨g0, hg0⟩ : ∃ g, g = mkF m 0 #[sI p0, sI p1, sI p2, sI p3, sR p4, sU] [] := ⟨_, rfl⟩
  rw [← hg0]
  have pre0 : ∀ t, St p e below s₁ (mkF m 0 #[sI p0, sI p1, sI p2, sI p3, sR p4, sU] []) t → St p e below s₁ g0 t := fun t k => hg0 ▸ k
  obtain ⟨x3, hx3⟩ : ∃ z, ((2 : Int32) * p0) = z := ⟨_, rfl⟩
  obtain ⟨x4, hx4⟩ : ∃ z, ((p2.toUInt32 >>> (x3 &&& 31).toUInt32).toInt32) = z := ⟨_, rfl⟩
  obtain ⟨x6, hx6⟩ : ∃ z, (x4 &&& (3 : Int32)) = z := ⟨_, rfl⟩
  have rx6 : 0 ≤ x6.toInt ∧ x6.toInt ≤ 3 := hx6 ▸ (own_mask x4 (3 : Int32) (by decide) : 0 ≤ ((x4 &&& (3 : Int32))).toInt ∧ ((x4 &&& (3 : Int32))).toInt ≤ 3)
  have pre1 : ∀ t, St p e below s₁ (mkF m 14 #[sI p0, sI p1, sI p2, sI p3, sR p4, sI x6] []) t → St p e below s₁ g0 t := fun t kt => pre0 _ (by
      show St p e below s₁ (mkF m 0 #[sI p0, sI p1, sI p2, sI p3, sR p4, sU] []) _
      refine wil X0 hx hby rfl d29_0 rfl ?_
      refine wic X0 hx hby rfl d29_1 ?_
      refine wil X0 hx hby rfl d29_2 rfl ?_
      refine Own.imul X0.here hx rfl (hb hby d29_3) rfl hx3 ?_
      refine Own.iushr X0.here hx rfl (hb hby d29_4) rfl hx4 ?_
      refine wic X0 hx hby rfl d29_5 ?_
      refine Own.iand X0.here hx rfl (hb hby d29_6) rfl hx6 ?_
      refine wiS X0 hx hby rfl d29_7 rfl (l' := #[sI p0, sI p1, sI p2, sI p3, sR p4, sI x6]) rfl ?_
      refine wil X0 hx hby rfl d29_9 rfl ?_
      refine wil X0 hx hby rfl d29_10 rfl ?_
      refine wcn X0 hx hby rfl d29_11 rfl (feq hq0).1 ?_
      exact kt)
  rcases en_13 x6 (by have q0 := own_rng p2; have q1 := (by decide : ((2 : Int32)).toInt = 2); have q2 := own_rng p0; have q3 := c_imul (2 : Int32) p0; have q4 := own_rng ((2 : Int32) * p0); have q5 := congrArg Int32.toInt hx3; have q6 := own_rng ((p2.toUInt32 >>> (x3 &&& 31).toUInt32).toInt32); have q7 := congrArg Int32.toInt hx4; have q8 := (by decide : ((3 : Int32)).toInt = 3); have q9 := (own_mask x4 (3 : Int32) (by decide) : 0 ≤ ((x4 &&& (3 : Int32))).toInt ∧ ((x4 &&& (3 : Int32))).toInt ≤ 3); have q10 := congrArg Int32.toInt hx6; have q11 := rx6; have q12 := own_rng p1; have q13 := own_eqF' hq0; omega) with hp0 | hp0 | hp0 | hp0
  · refine own_end X0 hlk (v := some (vR p4)) (own_hv hret) (by decide) (by rw [e0]; exact ⟨_, rfl, N0, (Keep.refl h0 []), Or.inr ⟨_, rfl, (Ins.of_exa hEp4 (hw _ m200))⟩⟩) fun fs hr => pre1 _ ?_
    refine Own.iload X0.here hx rfl (hb hby d29_14) rfl hp0 ?_
    refine wfn X0 hx hby rfl d29_16 rfl ((if0 _ _).trans (teq (by decide : (0 : Int32) = (0 : Int32))).2) ?_
    show St p e below s₁ (mkF m 19 #[sI p0, sI p1, sI p2, sI p3, sR p4, sI x6] []) _
    refine waL X0 hx hby rfl d29_19 rfl rfl ?_
    exact retOut X0 hx hret rfl (Or.inr (Or.inr (Or.inr (Or.inr ⟨rfl, rfl, rfl⟩)))) (hb hby d29_21) hr
  · have pre2 : ∀ t, St p e below s₁ (mkF m 29 #[sI p0, sI p1, sI p2, sI p3, sR p4, sI x6] [(vI p3)]) t → St p e below s₁ g0 t := fun t kt => pre1 _ (by
        refine Own.iload X0.here hx rfl (hb hby d29_14) rfl hp0 ?_
        refine wfy X0 hx hby rfl (pc0 := 16) (pc' := 22) rfl d29_16 rfl ((if0 _ _).trans (feq (by decide : ¬ ((1 : Int32) = (0 : Int32)))).2) (by decide) (by decide) ?_
        show St p e below s₁ (mkF m 22 #[sI p0, sI p1, sI p2, sI p3, sR p4, sI x6] []) _
        refine Own.iload X0.here hx rfl (hb hby d29_22) rfl hp0 ?_
        refine wic X0 hx hby rfl d29_24 ?_
        refine wcn X0 hx hby rfl d29_25 rfl (teq (by decide : (1 : Int32) = (1 : Int32))).2 ?_
        refine wil X0 hx hby rfl d29_28 rfl ?_
        exact kt)
    rcases Decidable.em (p3 < (-128 : Int32)) with hp1 | hp1
    · obtain ⟨_, T1, L1, ⟨c1_0, rfl, N1q, Kq1, lo1_0, q1_0, q1_1⟩, X1, st1⟩ := cS X0 hx hZ (W := 0) hown (cw2 cx) (rm3 cx p3 O0 hp1) e0 (g := (mkF m 29 #[sI p0, sI p1, sI p2, sI p3, sR p4, sI x6] [(vI p3)])) rfl hml rfl (rest := []) rfl rfl rfl rfl (hb hby d29_29) (by decide)
      have N1 := Fr.app N0 N1q
      have O1 : Old Z n0 T1.heap := O0.keep Kq1 all0
      have K1 : Keep h0 T1.heap [] := (Keep.refl h0 []).trans Kq1 all0
      refine own_end X1 hlk (v := some (vR c1_0)) (own_hv hret) (by decide) ⟨_, rfl, N1, K1, Or.inr ⟨_, rfl, (Ins.of_exa q1_0 (hw _ m253))⟩⟩ fun fs hr => pre2 _ ?_
      refine st1 _ ?_
      exact retOut X1 hx hret rfl (Or.inr (Or.inr (Or.inr (Or.inr ⟨rfl, rfl, rfl⟩)))) (hb hby d29_32) hr
    · rcases Decidable.em ((127 : Int32) < p3) with hp2 | hp2
      · obtain ⟨_, T1, L1, ⟨c1_0, rfl, N1q, Kq1, lo1_0, q1_0, q1_1⟩, X1, st1⟩ := cS X0 hx hZ (W := 0) hown (cw2 cx) (rm4 cx p3 O0 hp1 hp2) e0 (g := (mkF m 29 #[sI p0, sI p1, sI p2, sI p3, sR p4, sI x6] [(vI p3)])) rfl hml rfl (rest := []) rfl rfl rfl rfl (hb hby d29_29) (by decide)
        have N1 := Fr.app N0 N1q
        have O1 : Old Z n0 T1.heap := O0.keep Kq1 all0
        have K1 : Keep h0 T1.heap [] := (Keep.refl h0 []).trans Kq1 all0
        refine own_end X1 hlk (v := some (vR c1_0)) (own_hv hret) (by decide) ⟨_, rfl, N1, K1, Or.inr ⟨_, rfl, (Ins.of_exa q1_0 (hw _ m253))⟩⟩ fun fs hr => pre2 _ ?_
        refine st1 _ ?_
        exact retOut X1 hx hret rfl (Or.inr (Or.inr (Or.inr (Or.inr ⟨rfl, rfl, rfl⟩)))) (hb hby d29_32) hr
      · have hd0 : ¬ ((p3 + (128 : Int32)) < (0 : Int32)) := (by have q0 := own_rng p3; have q1 := (by decide : ((128 : Int32)).toInt = 128); have q2 := c_iadd p3 (128 : Int32); have q3 := own_rng (p3 + (128 : Int32)); have q4 := (by decide : ((0 : Int32)).toInt = 0); have q5 := (by decide : ((-128 : Int32)).toInt = -128); have q6 := own_ltF' hp1; have q7 := (by decide : ((127 : Int32)).toInt = 127); have q8 := own_ltF' hp2; exact own_ltF (by omega) : ¬ ((p3 + (128 : Int32)) < (0 : Int32)))
        have hd1 : (p3 + (128 : Int32)) < (256 : Int32) := (by have q0 := own_rng p3; have q1 := (by decide : ((128 : Int32)).toInt = 128); have q2 := c_iadd p3 (128 : Int32); have q3 := own_rng (p3 + (128 : Int32)); have q4 := (by decide : ((256 : Int32)).toInt = 256); have q5 := (by decide : ((-128 : Int32)).toInt = -128); have q6 := own_ltF' hp1; have q7 := (by decide : ((127 : Int32)).toInt = 127); have q8 := own_ltF' hp2; exact own_ltT (by omega) : (p3 + (128 : Int32)) < (256 : Int32))
        obtain ⟨r1, re1, rx1, rv1⟩ := own_box hS.2.2.2.2.2.2.1 hd0 hd1
        obtain ⟨_, T2, L2, ⟨rfl, N2q, e2⟩, X2, st2⟩ := cS X0 hx hZ (W := 0) hown (cw2 cx) (rm5 cx p3 r1 O0 hp1 hp2 re1 hd0 hd1) e0 (g := (mkF m 29 #[sI p0, sI p1, sI p2, sI p3, sR p4, sI x6] [(vI p3)])) rfl hml rfl (rest := []) rfl rfl rfl rfl (hb hby d29_29) (by decide)
        refine own_end X2 hlk (v := some (vR r1)) (own_hv hret) (by decide) (by rw [e2]; exact ⟨_, rfl, (Fr.app N0 N2q), (Keep.refl h0 []), Or.inr ⟨_, rfl, (Ins.of_exa (rx1.ext O0.2) (hw _ m253))⟩⟩) fun fs hr => pre2 _ ?_
        refine st2 _ ?_
        exact retOut X2 hx hret rfl (Or.inr (Or.inr (Or.inr (Or.inr ⟨rfl, rfl, rfl⟩)))) (hb hby d29_32) hr
  · refine own_end X0 hlk (v := some .null) (own_hv hret) (by decide) (by rw [e0]; exact ⟨_, rfl, N0, (Keep.refl h0 []), Or.inl rfl⟩) fun fs hr => pre1 _ ?_
    refine Own.iload X0.here hx rfl (hb hby d29_14) rfl hp0 ?_
    refine wfy X0 hx hby rfl (pc0 := 16) (pc' := 22) rfl d29_16 rfl ((if0 _ _).trans (feq (by decide : ¬ ((2 : Int32) = (0 : Int32)))).2) (by decide) (by decide) ?_
    show St p e below s₁ (mkF m 22 #[sI p0, sI p1, sI p2, sI p3, sR p4, sI x6] []) _
    refine Own.iload X0.here hx rfl (hb hby d29_22) rfl hp0 ?_
    refine wic X0 hx hby rfl d29_24 ?_
    refine wcy X0 hx hby rfl (pc0 := 25) (pc' := 33) rfl d29_25 rfl (feq (by decide : ¬ ((2 : Int32) = (1 : Int32)))).2 (by decide) (by decide) ?_
    show St p e below s₁ (mkF m 33 #[sI p0, sI p1, sI p2, sI p3, sR p4, sI x6] []) _
    refine Own.iload X0.here hx rfl (hb hby d29_33) rfl hp0 ?_
    refine wic X0 hx hby rfl d29_35 ?_
    refine wcn X0 hx hby rfl d29_36 rfl (teq (by decide : (2 : Int32) = (2 : Int32))).2 ?_
    refine wan X0 hx hby rfl d29_39 ?_
    exact retOut X0 hx hret rfl (Or.inr (Or.inr (Or.inr (Or.inr ⟨rfl, rfl, rfl⟩)))) (hb hby d29_40) hr
  · obtain ⟨T1, h1, b1, X1, e1, E1, A1, D1, g1, O1, K1, st1⟩ := own_newO X0 hx hZ hown (hw _ m141) (hw _ m142) (hw _ m143) e0 O0 (Keep.refl h0 []) (g := (mkF m 41 #[sI p0, sI p1, sI p2, sI p3, sR p4, sI x6] [])) rfl (hb hby d29_41) (by decide) (by decide)
    have F1_1 : Fld Z h1 b1 z6 "modCount" "I" (vI 0) := D1 (Or.inl (hw _ m161)) (ty := .int) (by decide)
    have F1_2 : Fld Z h1 b1 z0 z7 z4 .null := D1 (Or.inl (hw _ m164)) (ty := (.array (.object z2))) (by decide)
    have F1_3 : Fld Z h1 b1 z0 "size" "I" (vI 0) := D1 (Or.inl (hw _ m181)) (ty := .int) (by decide)
    obtain ⟨_, T2, L2, ⟨rfl, N2q, Kq2, q2_0, q2_1, q2_2⟩, X2, st2⟩ := cI X1 hx hZ (W := 1) hown (cw5 cx) (rm8 cx b1 O1 A1 F1_1 F1_2 F1_3 (Nat.le_trans (own_old_le O0) g1)) e1 (g := (mkF m 45 #[sI p0, sI p1, sI p2, sI p3, sR p4, sI x6] [(vR b1), (vR b1)])) rfl hml rfl (rest := [(vR b1)]) rfl rfl rfl rfl (hb hby d29_45) (by decide)
    have N2 := Fr.app N0 N2q
    have O2 : Old Z n0 T2.heap := O1.keep Kq2 (allS (Nat.le_trans (own_old_le O0) g1) all0)
    have K2 : Keep h0 T2.heap [] := K1.trans Kq2 (allS (Or.inr (Nat.le_trans (Keep.refl h0 []).1 g1)) all0)
    have f3 : Exa Z T2.heap b1 z0 := (A1.keep Kq2)
    refine own_end X2 hlk (v := some (vR b1)) (own_hv hret) (by decide) ⟨_, rfl, N2, K2, Or.inr ⟨_, rfl, (Ins.of_exa f3 (hw _ m254))⟩⟩ fun fs hr => pre1 _ ?_
    refine Own.iload X0.here hx rfl (hb hby d29_14) rfl hp0 ?_
    refine wfy X0 hx hby rfl (pc0 := 16) (pc' := 22) rfl d29_16 rfl ((if0 _ _).trans (feq (by decide : ¬ ((3 : Int32) = (0 : Int32)))).2) (by decide) (by decide) ?_
    show St p e below s₁ (mkF m 22 #[sI p0, sI p1, sI p2, sI p3, sR p4, sI x6] []) _
    refine Own.iload X0.here hx rfl (hb hby d29_22) rfl hp0 ?_
    refine wic X0 hx hby rfl d29_24 ?_
    refine wcy X0 hx hby rfl (pc0 := 25) (pc' := 33) rfl d29_25 rfl (feq (by decide : ¬ ((3 : Int32) = (1 : Int32)))).2 (by decide) (by decide) ?_
    show St p e below s₁ (mkF m 33 #[sI p0, sI p1, sI p2, sI p3, sR p4, sI x6] []) _
    refine Own.iload X0.here hx rfl (hb hby d29_33) rfl hp0 ?_
    refine wic X0 hx hby rfl d29_35 ?_
    refine wcy X0 hx hby rfl (pc0 := 36) (pc' := 41) rfl d29_36 rfl (feq (by decide : ¬ ((3 : Int32) = (2 : Int32)))).2 (by decide) (by decide) ?_
    show St p e below s₁ (mkF m 41 #[sI p0, sI p1, sI p2, sI p3, sR p4, sI x6] []) _
    refine st1 _ ?_
    refine wdu X1 hx hby rfl d29_44 rfl rfl ?_
    refine st2 _ ?_
    exact retOut X2 hx hret rfl (Or.inr (Or.inr (Or.inr (Or.inr ⟨rfl, rfl, rfl⟩)))) (hb hby d29_48) hr
def Qrm9 (Z : State) (a1 : Addr) (a2 : Addr) (h0 : Heap) (n0 : Nat) (v : Option Value) (h : Heap) (L : List Loc) : Prop := v = none ∧ Fr n0 L ∧ Keep h0 h [a1] ∧ Fld Z h a1 z1 "text" z20 (vR a2) ∧ Fld Z h a1 z1 "at" "I" (vI 0)
theorem rm9 (cx : Cx Z a0 w1 w2 w3 clw3 w4 kw4 w5 kw5) (a1 : Addr) (a2 : Addr) (O0 : Old Z n0 h0) (PE1 : Exa Z h0 a1 z1) (PF2 : Fld Z h0 a1 z1 "text" z20 .null) (PF3 : Fld Z h0 a1 z1 "at" "I" (vI 0)) (gn4 : n0 ≤ a1) : Ct l Z ⟨z1, "<init>", "(Ljava/lang/String;)V"⟩ prog_17_method_1_code 2 none ⟨1, 0, 0, 12⟩ #[(vR a1), (vR a2)] h0 (Qrm9 Z a1 a2 h0 n0) := by
  obtain ⟨hw, hj, hS⟩ := id cx
  refine own_bd (plainFor_of_name pn153) (fun m => ef152 m a1 a2) fun p e s m below meth c s₁ hret hlk hZ hx hby hml hown hnm X0 e0 => ?_
  have N0 := Fr.nil n0
  obtain ⟨T1, X1, e1, st1⟩ := initO X0 hx hZ hown (hw _ m19) (hw _ m20) (hw _ m21) e0 (g := (mkF m 1 #[sR a1, sR a2] [(vR a1)])) rfl (by rw [hml]; rfl) rfl (hb hby d2_1) (by decide) (W := 0) (Nat.le_of_eq rfl) (by decide)
  obtain ⟨T2, h2, L'2, X2, e2, W2, Fw2, O2, K2, N2, st2⟩ := own_put X1 hx hZ hown (host := "") (Or.inl (hw _ m22)) Via.refl e1 O0 (Keep.refl h0 [a1]) N0 gn4 (Or.inl (List.mem_of_getElem? (i := 0) rfl)) PF2 PE1 (Or.inr ⟨(hw _ m23), rfl, hnm⟩) (hw _ m14) (ty := (.object z3)) (by decide) rfl rfl (g := (mkF m 6 #[sR a1, sR a2] [(vR a2), (vR a1)])) rfl rfl (hb hby d2_6)
  have f3 : Fld Z h2 a1 z1 "at" "I" (vI 0) := (PF3.other W2 (Or.inr (slot_ne (Or.inl (hw _ m35)) (Or.inr (hw _ m23)) (by decide) (t := .int) (t' := (.object z3)) (by decide) (by decide))))
  refine own_end X2 hlk (v := none) (fun _ => rfl) (by decide) (by rw [e2]; exact ⟨rfl, N2, K2, Fw2, f3⟩) fun fs hr => ?_
  show St p e below s₁ (mkF m 0 #[sR a1, sR a2] []) _
  refine wal X0 hx hby rfl d2_0 rfl rfl ?_
  refine st1 _ ?_
  refine wal X1 hx hby rfl d2_4 rfl rfl ?_
  refine wal X1 hx hby rfl d2_5 rfl rfl ?_
  refine st2 _ ?_
  exact X2.returnOut hx hret (hb hby d2_9) hr
def Qrm10 (Z : State) (h0 : Heap) (n0 : Nat) (v : Option Value) (h : Heap) (L : List Loc) : Prop := v = some (vI 0) ∧ Fr n0 L ∧ h = h0
theorem rm10 (cx : Cx Z a0 w1 w2 w3 clw3 w4 kw4 w5 kw5) (a1 : Addr) (O0 : Old Z n0 h0) (PF1 : Fld Z h0 a1 z3 "coder" "B" (vI 0)) : Ct l Z ⟨z3, "coder", "()B"⟩ jdk_42_method_152_code 1 (some .byte) ⟨0, 0, 0, 0⟩ #[(vR a1)] h0 (Qrm10 Z h0 n0) := by
  obtain ⟨hw, hj, hS⟩ := id cx
  refine own_bd (plainFor_of_name pn191) (fun m => ef44 m a1) fun p e s m below meth c s₁ hret hlk hZ hx hby hml hown hnm X0 e0 => ?_
  have N0 := Fr.nil n0
  obtain ⟨T1, X1, e1, st1⟩ := getS2 X0 hx hZ hown (host := "") (Or.inl (hw _ m47)) Via.refl e0 (hS.2.1.ext O0.2) (g := (mkF m 0 #[sR a1] [])) rfl (hb hby d7_0)
  obtain ⟨T2, X2, e2, st2⟩ := getF X1 hx hZ hown (host := "") (Or.inl (hw _ m48)) Via.refl e1 PF1 (g := (mkF m 7 #[sR a1] [(vR a1)])) rfl rfl (hb hby d7_7)
  refine own_end X2 hlk (v := some (vI 0)) (own_hv hret) (by decide) (by rw [e2]; exact ⟨rfl, N0, rfl⟩) fun fs hr => ?_
  show St p e below s₁ (mkF m 0 #[sR a1] []) _
  refine st1 _ ?_
  refine wfn X1 hx hby rfl d7_3 rfl ((if0 _ _).trans (feq hS.2.2.1).1) ?_
  refine wal X1 hx hby rfl d7_6 rfl rfl ?_
  refine st2 _ ?_
  refine wgt X2 hx hby rfl (pc0 := 10) (pc' := 14) rfl d7_10 (by decide) (by decide) ?_
  exact retN X2 hx (t := .byte) hret (by simp) (hb hby d7_14) hr
def Qrm11 (Z : State) (h0 : Heap) (n0 : Nat) (v : Option Value) (h : Heap) (L : List Loc) : Prop := v = some (vI 2) ∧ Fr n0 L ∧ h = h0
theorem rm11 (cx : Cx Z a0 w1 w2 w3 clw3 w4 kw4 w5 kw5) (a1 : Addr) (a2 : Addr) (ck3 : ClassId) (O0 : Old Z n0 h0) (PF1 : Fld Z h0 a1 z3 "value" "[B" (vR a2)) (PV2 : Arv Z h0 a2 ck3 .byte (2 : Int32) [(vI 123), (vI 125)] (vI 0)) (PF3 : Fld Z h0 a1 z3 "coder" "B" (vI 0)) (PE4 : Exa Z h0 a1 z3) : Ct l Z ⟨z3, "length", "()I"⟩ jdk_42_method_54_code 1 (some .int) ⟨1, 0, 0, 13⟩ #[(vR a1)] h0 (Qrm11 Z h0 n0) := by
  obtain ⟨hw, hj, hS⟩ := id cx
  refine own_bd (plainFor_of_name pn191) (fun m => ef44 m a1) fun p e s m below meth c s₁ hret hlk hZ hx hby hml hown hnm X0 e0 => ?_
  have N0 := Fr.nil n0
  obtain ⟨T1, X1, e1, st1⟩ := getF X0 hx hZ hown (host := "") (Or.inl (hw _ m41)) Via.refl e0 PF1 (g := (mkF m 1 #[sR a1] [(vR a1)])) rfl rfl (hb hby d6_1)
  obtain ⟨_, T2, L2, ⟨rfl, N2q, e2⟩, X2, st2⟩ := cV X1 hx hZ (W := 1) hown (cw7 cx) (rm10 cx a1 O0 PF3) e1 PE4 (g := (mkF m 6 #[sR a1] [(vR a1), (vI 2)])) rfl hml rfl (rest := [(vI 2)]) rfl rfl rfl rfl (hb hby d6_6) (by decide)
  refine own_end X2 hlk (v := some (vI 2)) (own_hv hret) (by decide) (by rw [e2]; exact ⟨rfl, (Fr.app N0 N2q), rfl⟩) fun fs hr => ?_
  show St p e below s₁ (mkF m 0 #[sR a1] []) _
  refine wal X0 hx hby rfl d6_0 rfl rfl ?_
  refine st1 _ ?_
  refine own_alen X1 hx hZ e1 PV2 (g := (mkF m 4 #[sR a1] [(vR a2)])) rfl rfl (hb hby d6_4) ?_
  refine wal X1 hx hby rfl d6_5 rfl rfl ?_
  refine st2 _ ?_
  refine Own.ishr X2.here hx rfl (hb hby d6_9) rfl (by decide : ((2 : Int32) >>> ((0 : Int32) &&& 31)) = (2 : Int32)) ?_
  exact retOut X2 hx hret rfl (Or.inl ⟨rfl, Or.inl rfl, _, rfl⟩) (hb hby d6_10) hr
def Qrm12 (Z : State) (h0 : Heap) (n0 : Nat) (v : Option Value) (h : Heap) (L : List Loc) : Prop := v = some (vI 1) ∧ Fr n0 L ∧ h = h0
theorem rm12 (cx : Cx Z a0 w1 w2 w3 clw3 w4 kw4 w5 kw5) (a1 : Addr) (O0 : Old Z n0 h0) (PF1 : Fld Z h0 a1 z3 "coder" "B" (vI 0)) : Ct l Z ⟨z3, "isLatin1", "()Z"⟩ jdk_42_method_154_code 1 (some .boolean) ⟨0, 0, 0, 0⟩ #[(vR a1)] h0 (Qrm12 Z h0 n0) := by
  obtain ⟨hw, hj, hS⟩ := id cx
  refine own_bd (plainFor_of_name pn191) (fun m => ef44 m a1) fun p e s m below meth c s₁ hret hlk hZ hx hby hml hown hnm X0 e0 => ?_
  have N0 := Fr.nil n0
  obtain ⟨T1, X1, e1, st1⟩ := getS2 X0 hx hZ hown (host := "") (Or.inl (hw _ m47)) Via.refl e0 (hS.2.1.ext O0.2) (g := (mkF m 0 #[sR a1] [])) rfl (hb hby d9_0)
  obtain ⟨T2, X2, e2, st2⟩ := getF X1 hx hZ hown (host := "") (Or.inl (hw _ m48)) Via.refl e1 PF1 (g := (mkF m 7 #[sR a1] [(vR a1)])) rfl rfl (hb hby d9_7)
  refine own_end X2 hlk (v := some (vI 1)) (own_hv hret) (by decide) (by rw [e2]; exact ⟨rfl, N0, rfl⟩) fun fs hr => ?_
  show St p e below s₁ (mkF m 0 #[sR a1] []) _
  refine st1 _ ?_
  refine wfn X1 hx hby rfl d9_3 rfl ((if0 _ _).trans (feq hS.2.2.1).1) ?_
  refine wal X1 hx hby rfl d9_6 rfl rfl ?_
  refine st2 _ ?_
  refine wfn X2 hx hby rfl d9_10 rfl ((if0 _ _).trans (teq (by decide : (0 : Int32) = (0 : Int32))).2) ?_
  refine wic X2 hx hby rfl d9_13 ?_
  refine wgt X2 hx hby rfl (pc0 := 14) (pc' := 18) rfl d9_14 (by decide) (by decide) ?_
  exact retN X2 hx (t := .boolean) hret (by simp) (hb hby d9_18) hr
def Qrm13 (Z : State) (p1 : Int32) (h0 : Heap) (n0 : Nat) (v : Option Value) (h : Heap) (L : List Loc) : Prop := v = some (vI p1) ∧ Fr n0 L ∧ h = h0
theorem rm13 (cx : Cx Z a0 w1 w2 w3 clw3 w4 kw4 w5 kw5) (p1 : Int32) (p2 : Int32) (O0 : Old Z n0 h0) (hc1 : ¬ (p1 < (0 : Int32))) (hc2 : p1 < p2) : Ct l Z ⟨z18, "checkIndex", z21⟩ jdk_41_method_11_code 3 (some .int) ⟨0, 0, 0, 0⟩ #[(vI p1), (vI p2), w2] h0 (Qrm13 Z p1 h0 n0) := by
  obtain ⟨hw, hj, hS⟩ := id cx
  refine own_bd (plainFor_of_name pn254) (fun m => ef253 m p1 p2 w2 hS.2.2.2.2.1) fun p e s m below meth c s₁ hret hlk hZ hx hby hml hown hnm X0 e0 => ?_
  have N0 := Fr.nil n0
  refine own_end X0 hlk (v := some (vI p1)) (own_hv hret) (by decide) (by rw [e0]; exact ⟨rfl, N0, rfl⟩) fun fs hr => ?_
  show St p e below s₁ (mkF m 0 #[sI p1, sI p2, .val w2] []) _
  refine wil X0 hx hby rfl d12_0 rfl ?_
  refine wfn X0 hx hby rfl d12_1 rfl ((if0 _ _).trans (flt hc1).1) ?_
  refine wil X0 hx hby rfl d12_4 rfl ?_
  refine wil X0 hx hby rfl d12_5 rfl ?_
  refine wcy X0 hx hby rfl (pc0 := 6) (pc' := 16) rfl d12_6 rfl (tlt hc2).1 (by decide) (by decide) ?_
  refine wil X0 hx hby rfl d12_16 rfl ?_
  exact retOut X0 hx hret rfl (Or.inl ⟨rfl, Or.inl rfl, _, rfl⟩) (hb hby d12_17) hr
def Qrm14 (Z : State) (h0 : Heap) (n0 : Nat) (v : Option Value) (h : Heap) (L : List Loc) : Prop := v = none ∧ Fr n0 L ∧ h = h0
theorem rm14 (cx : Cx Z a0 w1 w2 w3 clw3 w4 kw4 w5 kw5) (p1 : Int32) (p2 : Int32) (O0 : Old Z n0 h0) (hc1 : ¬ (p1 < (0 : Int32))) (hc2 : p1 < p2) : Ct l Z ⟨z3, "checkIndex", "(II)V"⟩ jdk_42_method_155_code 2 none ⟨1, 0, 0, 14⟩ #[(vI p1), (vI p2)] h0 (Qrm14 Z h0 n0) := by
  obtain ⟨hw, hj, hS⟩ := id cx
  refine own_bd (plainFor_of_name pn191) (fun m => ef261 m p1 p2) fun p e s m below meth c s₁ hret hlk hZ hx hby hml hown hnm X0 e0 => ?_
  have N0 := Fr.nil n0
  obtain ⟨T1, X1, e1, st1⟩ := getS2 X0 hx hZ hown (host := "") (Or.inl (hw _ m67)) Via.refl e0 (hS.2.2.2.1.ext O0.2) (g := (mkF m 2 #[sI p1, sI p2] [(vI p2), (vI p1)])) rfl (hb hby d11_2)
  obtain ⟨_, T2, L2, ⟨rfl, N2q, e2⟩, X2, st2⟩ := cS X1 hx hZ (W := 0) hown (cw10 cx) (rm13 cx p1 p2 O0 hc1 hc2) e1 (g := (mkF m 5 #[sI p1, sI p2] [w2, (vI p2), (vI p1)])) rfl hml rfl (rest := []) rfl rfl rfl rfl (hb hby d11_5) (by decide)
  refine own_end X2 hlk (v := none) (fun _ => rfl) (by decide) (by rw [e2]; exact ⟨rfl, (Fr.app N0 N2q), rfl⟩) fun fs hr => ?_
  show St p e below s₁ (mkF m 0 #[sI p1, sI p2] []) _
  refine wil X0 hx hby rfl d11_0 rfl ?_
  refine wil X0 hx hby rfl d11_1 rfl ?_
  refine st1 _ ?_
  refine st2 _ ?_
  refine XS.pop X2.here hx rfl (hb hby d11_8) rfl rfl ?_
  exact X2.returnOut hx hret (hb hby d11_9) hr
def Qrm15 (Z : State) (h0 : Heap) (n0 : Nat) (v : Option Value) (h : Heap) (L : List Loc) : Prop := v = some (vI 123) ∧ Fr n0 L ∧ h = h0
theorem rm15 (cx : Cx Z a0 w1 w2 w3 clw3 w4 kw4 w5 kw5) (a1 : Addr) (ck2 : ClassId) (O0 : Old Z n0 h0) (PV1 : Arv Z h0 a1 ck2 .byte (2 : Int32) [(vI 123), (vI 125)] (vI 0)) : Ct l Z ⟨z13, "charAt", "([BI)C"⟩ jdk_43_method_2_code 2 (some .char) ⟨2, 0, 0, 27⟩ #[(vR a1), (vI 0)] h0 (Qrm15 Z h0 n0) := by
  obtain ⟨hw, hj, hS⟩ := id cx
  refine own_bd (plainFor_of_name pn272) (fun m => ef55 m a1 0) fun p e s m below meth c s₁ hret hlk hZ hx hby hml hown hnm X0 e0 => ?_
  have N0 := Fr.nil n0
  obtain ⟨_, T1, L1, ⟨rfl, N1q, e1⟩, X1, st1⟩ := cS X0 hx hZ (W := 0) hown (cw11 cx) (rm14 cx 0 2 O0 (by decide : ¬ ((0 : Int32) < (0 : Int32))) (by decide : (0 : Int32) < (2 : Int32))) e0 (g := (mkF m 3 #[sR a1, sI 0] [(vI 2), (vI 0)])) rfl hml rfl (rest := []) rfl rfl rfl rfl (hb hby d10_3) (by decide)
  refine own_end X1 hlk (v := some (vI 123)) (own_hv hret) (by decide) (by rw [e1]; exact ⟨rfl, (Fr.app N0 N1q), rfl⟩) fun fs hr => ?_
  show St p e below s₁ (mkF m 0 #[sR a1, sI 0] []) _
  refine wil X0 hx hby rfl d10_0 rfl ?_
  refine wal X0 hx hby rfl d10_1 rfl rfl ?_
  refine own_alen X0 hx hZ e0 PV1 (g := (mkF m 2 #[sR a1, sI 0] [(vR a1), (vI 0)])) rfl rfl (hb hby d10_2) ?_
  refine st1 _ ?_
  refine wal X1 hx hby rfl d10_6 rfl rfl ?_
  refine wil X1 hx hby rfl d10_7 rfl ?_
  refine own_baloadB X1 hx hZ e1 PV1 (j := 0) (by decide) (v := (vI 123)) rfl (g := (mkF m 8 #[sR a1, sI 0] [(vI 0), (vR a1)])) rfl rfl (hb hby d10_8) ?_
  refine wsp X1 hx hby rfl d10_9 ?_
  refine Own.iand X1.here hx rfl (hb hby d10_12) rfl (by decide : ((123 : Int32) &&& (255 : Int32)) = (123 : Int32)) ?_
  refine Own.i2c X1.here hx rfl (hb hby d10_13) rfl (by decide : ((123 : Int32).toUInt32.toUInt16.toUInt32.toInt32) = (123 : Int32)) ?_
  exact retN X1 hx (t := .char) hret (by simp) (hb hby d10_14) hr
def Qrm16 (Z : State) (h0 : Heap) (n0 : Nat) (v : Option Value) (h : Heap) (L : List Loc) : Prop := v = some (vI 123) ∧ Fr n0 L ∧ h = h0
theorem rm16 (cx : Cx Z a0 w1 w2 w3 clw3 w4 kw4 w5 kw5) (a1 : Addr) (a2 : Addr) (ck3 : ClassId) (O0 : Old Z n0 h0) (PF1 : Fld Z h0 a1 z3 "coder" "B" (vI 0)) (PE2 : Exa Z h0 a1 z3) (PF3 : Fld Z h0 a1 z3 "value" "[B" (vR a2)) (PV4 : Arv Z h0 a2 ck3 .byte (2 : Int32) [(vI 123), (vI 125)] (vI 0)) : Ct l Z ⟨z3, "charAt", "(I)C"⟩ jdk_42_method_56_code 2 (some .char) ⟨3, 0, 0, 40⟩ #[(vR a1), (vI 0)] h0 (Qrm16 Z h0 n0) := by
  obtain ⟨hw, hj, hS⟩ := id cx
  refine own_bd (plainFor_of_name pn191) (fun m => ef55 m a1 0) fun p e s m below meth c s₁ hret hlk hZ hx hby hml hown hnm X0 e0 => ?_
  have N0 := Fr.nil n0
  obtain ⟨_, T1, L1, ⟨rfl, N1q, e1⟩, X1, st1⟩ := cV X0 hx hZ (W := 0) hown (cw9 cx) (rm12 cx a1 O0 PF1) e0 PE2 (g := (mkF m 1 #[sR a1, sI 0] [(vR a1)])) rfl hml rfl (rest := []) rfl rfl rfl rfl (hb hby d8_1) (by decide)
  obtain ⟨T2, X2, e2, st2⟩ := getF X1 hx hZ hown (host := "") (Or.inl (hw _ m41)) Via.refl e1 PF3 (g := (mkF m 8 #[sR a1, sI 0] [(vR a1)])) rfl rfl (hb hby d8_8)
  obtain ⟨_, T3, L3, ⟨rfl, N3q, e3⟩, X3, st3⟩ := cS X2 hx hZ (W := 0) hown (cw12 cx) (rm15 cx a2 ck3 O0 PV4) e2 (g := (mkF m 12 #[sR a1, sI 0] [(vI 0), (vR a2)])) rfl hml rfl (rest := []) rfl rfl rfl rfl (hb hby d8_12) (by decide)
  refine own_end X3 hlk (v := some (vI 123)) (own_hv hret) (by decide) (by rw [e3]; exact ⟨rfl, (Fr.app (Fr.app N0 N1q) N3q), rfl⟩) fun fs hr => ?_
  show St p e below s₁ (mkF m 0 #[sR a1, sI 0] []) _
  refine wal X0 hx hby rfl d8_0 rfl rfl ?_
  refine st1 _ ?_
  refine wfn X1 hx hby rfl d8_4 rfl ((if0 _ _).trans (feq (by decide : ¬ ((1 : Int32) = (0 : Int32)))).1) ?_
  refine wal X1 hx hby rfl d8_7 rfl rfl ?_
  refine st2 _ ?_
  refine wil X2 hx hby rfl d8_11 rfl ?_
  refine st3 _ ?_
  exact retN X3 hx (t := .char) hret (by simp) (hb hby d8_15) hr
def Qrm17 (Z : State) (h0 : Heap) (n0 : Nat) (v : Option Value) (h : Heap) (L : List Loc) : Prop := v = some (vI 4) ∧ Fr n0 L ∧ h = h0
theorem rm17 (cx : Cx Z a0 w1 w2 w3 clw3 w4 kw4 w5 kw5) (a1 : Addr) (a2 : Addr) (ck3 : ClassId) (O0 : Old Z n0 h0) (PF1 : Fld Z h0 a1 z3 "value" "[B" (vR a2)) (PV2 : Arv Z h0 a2 ck3 .byte (4 : Int32) [(vI 32), (vI 9), (vI 13), (vI 10)] (vI 0)) (PF3 : Fld Z h0 a1 z3 "coder" "B" (vI 0)) (PE4 : Exa Z h0 a1 z3) : Ct l Z ⟨z3, "length", "()I"⟩ jdk_42_method_54_code 1 (some .int) ⟨1, 0, 0, 13⟩ #[(vR a1)] h0 (Qrm17 Z h0 n0) := by
  obtain ⟨hw, hj, hS⟩ := id cx
  refine own_bd (plainFor_of_name pn191) (fun m => ef44 m a1) fun p e s m below meth c s₁ hret hlk hZ hx hby hml hown hnm X0 e0 => ?_
  have N0 := Fr.nil n0
  obtain ⟨T1, X1, e1, st1⟩ := getF X0 hx hZ hown (host := "") (Or.inl (hw _ m41)) Via.refl e0 PF1 (g := (mkF m 1 #[sR a1] [(vR a1)])) rfl rfl (hb hby d6_1)
  obtain ⟨_, T2, L2, ⟨rfl, N2q, e2⟩, X2, st2⟩ := cV X1 hx hZ (W := 1) hown (cw7 cx) (rm10 cx a1 O0 PF3) e1 PE4 (g := (mkF m 6 #[sR a1] [(vR a1), (vI 4)])) rfl hml rfl (rest := [(vI 4)]) rfl rfl rfl rfl (hb hby d6_6) (by decide)
  refine own_end X2 hlk (v := some (vI 4)) (own_hv hret) (by decide) (by rw [e2]; exact ⟨rfl, (Fr.app N0 N2q), rfl⟩) fun fs hr => ?_
  show St p e below s₁ (mkF m 0 #[sR a1] []) _
  refine wal X0 hx hby rfl d6_0 rfl rfl ?_
  refine st1 _ ?_
  refine own_alen X1 hx hZ e1 PV2 (g := (mkF m 4 #[sR a1] [(vR a2)])) rfl rfl (hb hby d6_4) ?_
  refine wal X1 hx hby rfl d6_5 rfl rfl ?_
  refine st2 _ ?_
  refine Own.ishr X2.here hx rfl (hb hby d6_9) rfl (by decide : ((4 : Int32) >>> ((0 : Int32) &&& 31)) = (4 : Int32)) ?_
  exact retOut X2 hx hret rfl (Or.inl ⟨rfl, Or.inl rfl, _, rfl⟩) (hb hby d6_10) hr
def Qrm18 (Z : State) (h0 : Heap) (n0 : Nat) (v : Option Value) (h : Heap) (L : List Loc) : Prop := v = some (vI 1) ∧ Fr n0 L ∧ h = h0
theorem rm18 (cx : Cx Z a0 w1 w2 w3 clw3 w4 kw4 w5 kw5) (p1 : Int32) (O0 : Old Z n0 h0) (hc1 : ¬ (p1 < (0 : Int32))) (hc2 : ¬ ((255 : Int32) < p1)) : Ct l Z ⟨z13, "canEncode", "(I)Z"⟩ jdk_43_method_4_code 1 (some .boolean) ⟨0, 0, 0, 0⟩ #[(vI p1)] h0 (Qrm18 Z h0 n0) := by
  obtain ⟨hw, hj, hS⟩ := id cx
  refine own_bd (plainFor_of_name pn272) (fun m => ef61 m p1) fun p e s m below meth c s₁ hret hlk hZ hx hby hml hown hnm X0 e0 => ?_
  have N0 := Fr.nil n0
  refine own_end X0 hlk (v := some (vI 1)) (own_hv hret) (by decide) (by rw [e0]; exact ⟨rfl, N0, rfl⟩) fun fs hr => ?_
  show St p e below s₁ (mkF m 0 #[sI p1] []) _
  refine wil X0 hx hby rfl d16_0 rfl ?_
  refine wfn X0 hx hby rfl d16_1 rfl ((if0 _ _).trans (flt hc1).1) ?_
  refine wil X0 hx hby rfl d16_4 rfl ?_
  refine wsp X0 hx hby rfl d16_5 ?_
  refine wcn X0 hx hby rfl d16_8 rfl (flt hc2).2.2.1 ?_
  refine wic X0 hx hby rfl d16_11 ?_
  refine wgt X0 hx hby rfl (pc0 := 12) (pc' := 16) rfl d16_12 (by decide) (by decide) ?_
  exact retN X0 hx (t := .boolean) hret (by simp) (hb hby d16_16) hr
def Qrm19 (Z : State) (p1 : Int32) (h0 : Heap) (n0 : Nat) (v : Option Value) (h : Heap) (L : List Loc) : Prop := v = some (vI p1) ∧ Fr n0 L ∧ h = h0
theorem rm19 (cx : Cx Z a0 w1 w2 w3 clw3 w4 kw4 w5 kw5) (p1 : Int32) (O0 : Old Z n0 h0) : Ct l Z ⟨z24, "max", "(II)I"⟩ jdk_29_method_65_code 2 (some .int) ⟨0, 0, 0, 0⟩ #[(vI p1), (vI p1)] h0 (Qrm19 Z p1 h0 n0) := by
  obtain ⟨hw, hj, hS⟩ := id cx
  refine own_bd (Jvm.Free.JP.mathPlain rfl (by decide +kernel)) (fun m => ef261 m p1 p1) fun p e s m below meth c s₁ hret hlk hZ hx hby hml hown hnm X0 e0 => ?_
  have N0 := Fr.nil n0
  refine own_end X0 hlk (v := some (vI p1)) (own_hv hret) (by decide) (by rw [e0]; exact ⟨rfl, N0, rfl⟩) fun fs hr => ?_
  show St p e below s₁ (mkF m 0 #[sI p1, sI p1] []) _
  refine wil X0 hx hby rfl d17_0 rfl ?_
  refine wil X0 hx hby rfl d17_1 rfl ?_
  refine wcn X0 hx hby rfl d17_2 rfl (flt (own_irr _)).1 ?_
  refine wil X0 hx hby rfl d17_5 rfl ?_
  refine wgt X0 hx hby rfl (pc0 := 6) (pc' := 10) rfl d17_6 (by decide) (by decide) ?_
  exact retOut X0 hx hret rfl (Or.inl ⟨rfl, Or.inl rfl, _, rfl⟩) (hb hby d17_10) hr
def Qrm20 (Z : State) (p1 : Int32) (h0 : Heap) (n0 : Nat) (v : Option Value) (h : Heap) (L : List Loc) : Prop := v = some (vI p1) ∧ Fr n0 L ∧ h = h0
theorem rm20 (cx : Cx Z a0 w1 w2 w3 clw3 w4 kw4 w5 kw5) (p1 : Int32) (O0 : Old Z n0 h0) : Ct l Z ⟨z24, "min", "(II)I"⟩ jdk_29_method_69_code 2 (some .int) ⟨0, 0, 0, 0⟩ #[(vI p1), (vI p1)] h0 (Qrm20 Z p1 h0 n0) := by
  obtain ⟨hw, hj, hS⟩ := id cx
  refine own_bd (Jvm.Free.JP.mathPlain rfl (by decide +kernel)) (fun m => ef261 m p1 p1) fun p e s m below meth c s₁ hret hlk hZ hx hby hml hown hnm X0 e0 => ?_
  have N0 := Fr.nil n0
  refine own_end X0 hlk (v := some (vI p1)) (own_hv hret) (by decide) (by rw [e0]; exact ⟨rfl, N0, rfl⟩) fun fs hr => ?_
  show St p e below s₁ (mkF m 0 #[sI p1, sI p1] []) _
  refine wil X0 hx hby rfl d18_0 rfl ?_
  refine wil X0 hx hby rfl d18_1 rfl ?_
  refine wcn X0 hx hby rfl d18_2 rfl (flt (own_irr _)).2.2.1 ?_
  refine wil X0 hx hby rfl d18_5 rfl ?_
  refine wgt X0 hx hby rfl (pc0 := 6) (pc' := 10) rfl d18_6 (by decide) (by decide) ?_
  exact retOut X0 hx hret rfl (Or.inl ⟨rfl, Or.inl rfl, _, rfl⟩) (hb hby d18_10) hr
def Qrm21 (Z : State) (h0 : Heap) (n0 : Nat) (v : Option Value) (h : Heap) (L : List Loc) : Prop := v = some (vI (-1)) ∧ Fr n0 L ∧ h = h0
theorem rm21 (cx : Cx Z a0 w1 w2 w3 clw3 w4 kw4 w5 kw5) (a1 : Addr) (ck2 : ClassId) (O0 : Old Z n0 h0) (PV1 : Arv Z h0 a1 ck2 .byte (4 : Int32) [(vI 32), (vI 9), (vI 13), (vI 10)] (vI 0)) : Ct l Z ⟨z13, "indexOfChar", "([BIII)I"⟩ jdk_43_method_23_code 6 (some .int) ⟨0, 0, 0, 0⟩ #[(vR a1), (vI 123), (vI 0), (vI 4)] h0 (Qrm21 Z h0 n0) := by
  obtain ⟨hw, hj, hS⟩ := id cx
  refine own_bd (plainFor_of_name pn272) (fun m => ef373 m a1 123 0 4) fun p e s m below meth c s₁ hret hlk hZ hx hby hml hown hnm X0 e0 => ?_
  have N0 := Fr.nil n0
  refine own_end X0 hlk (v := some (vI (-1))) (own_hv hret) (by decide) (by rw [e0]; exact ⟨rfl, N0, rfl⟩) fun fs hr => ?_
  show St p e below s₁ (mkF m 0 #[sR a1, sI 123, sI 0, sI 4, sU, sU] []) _
  refine wil X0 hx hby rfl d19_0 rfl ?_
  refine Own.i2b X0.here hx rfl (hb hby d19_1) rfl (by decide : ((123 : Int32).toInt8.toInt32) = (123 : Int32)) ?_
  refine wiS X0 hx hby rfl d19_2 rfl (l' := #[sR a1, sI 123, sI 0, sI 4, sI 123, sU]) rfl ?_
  refine wil X0 hx hby rfl d19_4 rfl ?_
  refine wiS X0 hx hby rfl d19_5 rfl (l' := #[sR a1, sI 123, sI 0, sI 4, sI 123, sI 0]) rfl ?_
  refine wiL X0 hx hby rfl d19_7 rfl ?_
  refine wil X0 hx hby rfl d19_9 rfl ?_
  refine wcn X0 hx hby rfl d19_10 rfl (tlt (by decide : (0 : Int32) < (4 : Int32))).2.1 ?_
  refine wal X0 hx hby rfl d19_13 rfl rfl ?_
  refine wiL X0 hx hby rfl d19_14 rfl ?_
  refine own_baloadB X0 hx hZ e0 PV1 (j := 0) (by decide) (v := (vI 32)) rfl (g := (mkF m 16 #[sR a1, sI 123, sI 0, sI 4, sI 123, sI 0] [(vI 0), (vR a1)])) rfl rfl (hb hby d19_16) ?_
  refine wiL X0 hx hby rfl d19_17 rfl ?_
  refine wcy X0 hx hby rfl (pc0 := 19) (pc' := 25) rfl d19_19 rfl (feq (by decide : ¬ ((32 : Int32) = (123 : Int32)))).2 (by decide) (by decide) ?_
  refine Own.iinc X0.here hx rfl (hb hby d19_25) rfl (by decide : ((0 : Int32) + (1 : Int32)) = (1 : Int32)) (l' := #[sR a1, sI 123, sI 0, sI 4, sI 123, sI 1]) rfl ?_
  refine wgt X0 hx hby rfl (pc0 := 28) (pc' := 7) rfl d19_28 (by decide) (by decide) ?_
  refine wiL X0 hx hby rfl d19_7 rfl ?_
  show St p e below s₁ (mkF m 9 #[sR a1, sI 123, sI 0, sI 4, sI 123, sI 1] [(vI 1)]) _
  refine wil X0 hx hby rfl d19_9 rfl ?_
  refine wcn X0 hx hby rfl d19_10 rfl (tlt (by decide : (1 : Int32) < (4 : Int32))).2.1 ?_
  refine wal X0 hx hby rfl d19_13 rfl rfl ?_
  refine wiL X0 hx hby rfl d19_14 rfl ?_
  refine own_baloadB X0 hx hZ e0 PV1 (j := 1) (by decide) (v := (vI 9)) rfl (g := (mkF m 16 #[sR a1, sI 123, sI 0, sI 4, sI 123, sI 1] [(vI 1), (vR a1)])) rfl rfl (hb hby d19_16) ?_
  refine wiL X0 hx hby rfl d19_17 rfl ?_
  refine wcy X0 hx hby rfl (pc0 := 19) (pc' := 25) rfl d19_19 rfl (feq (by decide : ¬ ((9 : Int32) = (123 : Int32)))).2 (by decide) (by decide) ?_
  refine Own.iinc X0.here hx rfl (hb hby d19_25) rfl (by decide : ((1 : Int32) + (1 : Int32)) = (2 : Int32)) (l' := #[sR a1, sI 123, sI 0, sI 4, sI 123, sI 2]) rfl ?_
  refine wgt X0 hx hby rfl (pc0 := 28) (pc' := 7) rfl d19_28 (by decide) (by decide) ?_
  refine wiL X0 hx hby rfl d19_7 rfl ?_
  refine wil X0 hx hby rfl d19_9 rfl ?_
  refine wcn X0 hx hby rfl d19_10 rfl (tlt (by decide : (2 : Int32) < (4 : Int32))).2.1 ?_
  refine wal X0 hx hby rfl d19_13 rfl rfl ?_
  refine wiL X0 hx hby rfl d19_14 rfl ?_
  refine own_baloadB X0 hx hZ e0 PV1 (j := 2) (by decide) (v := (vI 13)) rfl (g := (mkF m 16 #[sR a1, sI 123, sI 0, sI 4, sI 123, sI 2] [(vI 2), (vR a1)])) rfl rfl (hb hby d19_16) ?_
  refine wiL X0 hx hby rfl d19_17 rfl ?_
  show St p e below s₁ (mkF m 19 #[sR a1, sI 123, sI 0, sI 4, sI 123, sI 2] [(vI 123), (vI 13)]) _
  refine wcy X0 hx hby rfl (pc0 := 19) (pc' := 25) rfl d19_19 rfl (feq (by decide : ¬ ((13 : Int32) = (123 : Int32)))).2 (by decide) (by decide) ?_
  refine Own.iinc X0.here hx rfl (hb hby d19_25) rfl (by decide : ((2 : Int32) + (1 : Int32)) = (3 : Int32)) (l' := #[sR a1, sI 123, sI 0, sI 4, sI 123, sI 3]) rfl ?_
  refine wgt X0 hx hby rfl (pc0 := 28) (pc' := 7) rfl d19_28 (by decide) (by decide) ?_
  refine wiL X0 hx hby rfl d19_7 rfl ?_
  refine wil X0 hx hby rfl d19_9 rfl ?_
  refine wcn X0 hx hby rfl d19_10 rfl (tlt (by decide : (3 : Int32) < (4 : Int32))).2.1 ?_
  refine wal X0 hx hby rfl d19_13 rfl rfl ?_
  refine wiL X0 hx hby rfl d19_14 rfl ?_
  refine own_baloadB X0 hx hZ e0 PV1 (j := 3) (by decide) (v := (vI 10)) rfl (g := (mkF m 16 #[sR a1, sI 123, sI 0, sI 4, sI 123, sI 3] [(vI 3), (vR a1)])) rfl rfl (hb hby d19_16) ?_
  refine wiL X0 hx hby rfl d19_17 rfl ?_
  refine wcy X0 hx hby rfl (pc0 := 19) (pc' := 25) rfl d19_19 rfl (feq (by decide : ¬ ((10 : Int32) = (123 : Int32)))).2 (by decide) (by decide) ?_
  refine Own.iinc X0.here hx rfl (hb hby d19_25) rfl (by decide : ((3 : Int32) + (1 : Int32)) = (4 : Int32)) (l' := #[sR a1, sI 123, sI 0, sI 4, sI 123, sI 4]) rfl ?_
  refine wgt X0 hx hby rfl (pc0 := 28) (pc' := 7) rfl d19_28 (by decide) (by decide) ?_
  refine wiL X0 hx hby rfl d19_7 rfl ?_
  refine wil X0 hx hby rfl d19_9 rfl ?_
  refine wcy X0 hx hby rfl (pc0 := 10) (pc' := 31) rfl d19_10 rfl (flt (by decide : ¬ ((4 : Int32) < (4 : Int32)))).2.1 (by decide) (by decide) ?_
  show St p e below s₁ (mkF m 31 #[sR a1, sI 123, sI 0, sI 4, sI 123, sI 4] []) _
  refine wic X0 hx hby rfl d19_31 ?_
  exact retOut X0 hx hret rfl (Or.inl ⟨rfl, Or.inl rfl, _, rfl⟩) (hb hby d19_32) hr
def Qrm22 (Z : State) (h0 : Heap) (n0 : Nat) (v : Option Value) (h : Heap) (L : List Loc) : Prop := v = some (vI (-1)) ∧ Fr n0 L ∧ h = h0
theorem rm22 (cx : Cx Z a0 w1 w2 w3 clw3 w4 kw4 w5 kw5) (a1 : Addr) (ck2 : ClassId) (O0 : Old Z n0 h0) (PV1 : Arv Z h0 a1 ck2 .byte (4 : Int32) [(vI 32), (vI 9), (vI 13), (vI 10)] (vI 0)) : Ct l Z ⟨z13, "indexOf", "([BIII)I"⟩ jdk_43_method_22_code 4 (some .int) ⟨1, 0, 0, 17⟩ #[(vR a1), (vI 123), (vI 0), (vI 4)] h0 (Qrm22 Z h0 n0) := by
  obtain ⟨hw, hj, hS⟩ := id cx
  refine own_bd (plainFor_of_name pn272) (fun m => ef378 m a1 123 0 4) fun p e s m below meth c s₁ hret hlk hZ hx hby hml hown hnm X0 e0 => ?_
  have N0 := Fr.nil n0
  obtain ⟨_, T1, L1, ⟨rfl, N1q, e1⟩, X1, st1⟩ := cS X0 hx hZ (W := 0) hown (cw15 cx) (rm18 cx 123 O0 (by decide : ¬ ((123 : Int32) < (0 : Int32))) (by decide : ¬ ((255 : Int32) < (123 : Int32)))) e0 (g := (mkF m 1 #[sR a1, sI 123, sI 0, sI 4] [(vI 123)])) rfl hml rfl (rest := []) rfl rfl rfl rfl (hb hby d15_1) (by decide)
  obtain ⟨_, T2, L2, ⟨rfl, N2q, e2⟩, X2, st2⟩ := cS X1 hx hZ (W := 0) hown (cw16 cx) (rm19 cx 0 O0) e1 (g := (mkF m 11 #[sR a1, sI 123, sI 0, sI 4] [(vI 0), (vI 0)])) rfl hml rfl (rest := []) rfl rfl rfl rfl (hb hby d15_11) (by decide)
  obtain ⟨_, T3, L3, ⟨rfl, N3q, e3⟩, X3, st3⟩ := cS X2 hx hZ (W := 0) hown (cw17 cx) (rm20 cx 4 O0) e2 (g := (mkF m 18 #[sR a1, sI 123, sI 0, sI 4] [(vI 4), (vI 4)])) rfl hml rfl (rest := []) rfl rfl rfl rfl (hb hby d15_18) (by decide)
  obtain ⟨_, T4, L4, ⟨rfl, N4q, e4⟩, X4, st4⟩ := cS X3 hx hZ (W := 0) hown (cw18 cx) (rm21 cx a1 ck2 O0 PV1) e3 (g := (mkF m 33 #[sR a1, sI 123, sI 0, sI 4] [(vI 4), (vI 0), (vI 123), (vR a1)])) rfl hml rfl (rest := []) rfl rfl rfl rfl (hb hby d15_33) (by decide)
  refine own_end X4 hlk (v := some (vI (-1))) (own_hv hret) (by decide) (by rw [e4]; exact ⟨rfl, (Fr.app (Fr.app (Fr.app (Fr.app N0 N1q) N2q) N3q) N4q), rfl⟩) fun fs hr => ?_
  show St p e below s₁ (mkF m 0 #[sR a1, sI 123, sI 0, sI 4] []) _
  refine wil X0 hx hby rfl d15_0 rfl ?_
  refine st1 _ ?_
  refine wfy X1 hx hby rfl (pc0 := 4) (pc' := 9) rfl d15_4 rfl ((if0 _ _).trans (feq (by decide : ¬ ((1 : Int32) = (0 : Int32)))).2) (by decide) (by decide) ?_
  refine wil X1 hx hby rfl d15_9 rfl ?_
  refine wic X1 hx hby rfl d15_10 ?_
  refine st2 _ ?_
  refine wis X2 hx hby rfl d15_14 rfl (l' := #[sR a1, sI 123, sI 0, sI 4]) rfl ?_
  refine wil X2 hx hby rfl d15_15 rfl ?_
  refine wal X2 hx hby rfl d15_16 rfl rfl ?_
  refine own_alen X2 hx hZ e2 PV1 (g := (mkF m 17 #[sR a1, sI 123, sI 0, sI 4] [(vR a1), (vI 4)])) rfl rfl (hb hby d15_17) ?_
  refine st3 _ ?_
  refine wis X3 hx hby rfl d15_21 rfl (l' := #[sR a1, sI 123, sI 0, sI 4]) rfl ?_
  refine wil X3 hx hby rfl d15_22 rfl ?_
  refine wil X3 hx hby rfl d15_23 rfl ?_
  refine wcy X3 hx hby rfl (pc0 := 24) (pc' := 29) rfl d15_24 rfl (tlt (by decide : (0 : Int32) < (4 : Int32))).1 (by decide) (by decide) ?_
  refine wal X3 hx hby rfl d15_29 rfl rfl ?_
  show St p e below T3 (mkF m 30 #[sR a1, sI 123, sI 0, sI 4] [(vR a1)]) _
  refine wil X3 hx hby rfl d15_30 rfl ?_
  refine wil X3 hx hby rfl d15_31 rfl ?_
  refine wil X3 hx hby rfl d15_32 rfl ?_
  refine st4 _ ?_
  exact retOut X4 hx hret rfl (Or.inl ⟨rfl, Or.inl rfl, _, rfl⟩) (hb hby d15_36) hr
def Qrm23 (Z : State) (h0 : Heap) (n0 : Nat) (v : Option Value) (h : Heap) (L : List Loc) : Prop := v = some (vI (-1)) ∧ Fr n0 L ∧ h = h0
theorem rm23 (cx : Cx Z a0 w1 w2 w3 clw3 w4 kw4 w5 kw5) (a1 : Addr) (a2 : Addr) (ck3 : ClassId) (O0 : Old Z n0 h0) (PF1 : Fld Z h0 a1 z3 "coder" "B" (vI 0)) (PE2 : Exa Z h0 a1 z3) (PF3 : Fld Z h0 a1 z3 "value" "[B" (vR a2)) (PV4 : Arv Z h0 a2 ck3 .byte (4 : Int32) [(vI 32), (vI 9), (vI 13), (vI 10)] (vI 0)) : Ct l Z ⟨z3, "indexOf", "(II)I"⟩ jdk_42_method_80_code 3 (some .int) ⟨2, 0, 0, 32⟩ #[(vR a1), (vI 123), (vI 0)] h0 (Qrm23 Z h0 n0) := by
  obtain ⟨hw, hj, hS⟩ := id cx
  refine own_bd (plainFor_of_name pn191) (fun m => ef383 m a1 123 0) fun p e s m below meth c s₁ hret hlk hZ hx hby hml hown hnm X0 e0 => ?_
  have N0 := Fr.nil n0
  obtain ⟨_, T1, L1, ⟨rfl, N1q, e1⟩, X1, st1⟩ := cV X0 hx hZ (W := 0) hown (cw9 cx) (rm12 cx a1 O0 PF1) e0 PE2 (g := (mkF m 1 #[sR a1, sI 123, sI 0] [(vR a1)])) rfl hml rfl (rest := []) rfl rfl rfl rfl (hb hby d14_1) (by decide)
  obtain ⟨T2, X2, e2, st2⟩ := getF X1 hx hZ hown (host := "") (Or.inl (hw _ m41)) Via.refl e1 PF3 (g := (mkF m 8 #[sR a1, sI 123, sI 0] [(vR a1)])) rfl rfl (hb hby d14_8)
  obtain ⟨_, T3, L3, ⟨rfl, N3q, e3⟩, X3, st3⟩ := cV X2 hx hZ (W := 3) hown (cw14 cx) (rm17 cx a1 a2 ck3 O0 PF3 PV4 PF1 PE2) e2 PE2 (g := (mkF m 14 #[sR a1, sI 123, sI 0] [(vR a1), (vI 0), (vI 123), (vR a2)])) rfl hml rfl (rest := [(vI 0), (vI 123), (vR a2)]) rfl rfl rfl rfl (hb hby d14_14) (by decide)
  obtain ⟨_, T4, L4, ⟨rfl, N4q, e4⟩, X4, st4⟩ := cS X3 hx hZ (W := 0) hown (cw19 cx) (rm22 cx a2 ck3 O0 PV4) e3 (g := (mkF m 17 #[sR a1, sI 123, sI 0] [(vI 4), (vI 0), (vI 123), (vR a2)])) rfl hml rfl (rest := []) rfl rfl rfl rfl (hb hby d14_17) (by decide)
  refine own_end X4 hlk (v := some (vI (-1))) (own_hv hret) (by decide) (by rw [e4]; exact ⟨rfl, (Fr.app (Fr.app (Fr.app N0 N1q) N3q) N4q), rfl⟩) fun fs hr => ?_
  show St p e below s₁ (mkF m 0 #[sR a1, sI 123, sI 0] []) _
  refine wal X0 hx hby rfl d14_0 rfl rfl ?_
  refine st1 _ ?_
  refine wfn X1 hx hby rfl d14_4 rfl ((if0 _ _).trans (feq (by decide : ¬ ((1 : Int32) = (0 : Int32)))).1) ?_
  refine wal X1 hx hby rfl d14_7 rfl rfl ?_
  refine st2 _ ?_
  refine wil X2 hx hby rfl d14_11 rfl ?_
  refine wil X2 hx hby rfl d14_12 rfl ?_
  refine wal X2 hx hby rfl d14_13 rfl rfl ?_
  refine st3 _ ?_
  refine st4 _ ?_
  refine wgt X4 hx hby rfl (pc0 := 20) (pc' := 36) rfl d14_20 (by decide) (by decide) ?_
  exact retOut X4 hx hret rfl (Or.inl ⟨rfl, Or.inl rfl, _, rfl⟩) (hb hby d14_36) hr
def Qrm24 (Z : State) (h0 : Heap) (n0 : Nat) (v : Option Value) (h : Heap) (L : List Loc) : Prop := v = some (vI (-1)) ∧ Fr n0 L ∧ h = h0
theorem rm24 (cx : Cx Z a0 w1 w2 w3 clw3 w4 kw4 w5 kw5) (a1 : Addr) (a2 : Addr) (ck3 : ClassId) (O0 : Old Z n0 h0) (PF1 : Fld Z h0 a1 z3 "coder" "B" (vI 0)) (PE2 : Exa Z h0 a1 z3) (PF3 : Fld Z h0 a1 z3 "value" "[B" (vR a2)) (PV4 : Arv Z h0 a2 ck3 .byte (4 : Int32) [(vI 32), (vI 9), (vI 13), (vI 10)] (vI 0)) : Ct l Z ⟨z3, "indexOf", "(I)I"⟩ jdk_42_method_79_code 2 (some .int) ⟨3, 0, 0, 46⟩ #[(vR a1), (vI 123)] h0 (Qrm24 Z h0 n0) := by
  obtain ⟨hw, hj, hS⟩ := id cx
  refine own_bd (plainFor_of_name pn191) (fun m => ef55 m a1 123) fun p e s m below meth c s₁ hret hlk hZ hx hby hml hown hnm X0 e0 => ?_
  have N0 := Fr.nil n0
  obtain ⟨_, T1, L1, ⟨rfl, N1q, e1⟩, X1, st1⟩ := cV X0 hx hZ (W := 0) hown (cw20 cx) (rm23 cx a1 a2 ck3 O0 PF1 PE2 PF3 PV4) e0 PE2 (g := (mkF m 3 #[sR a1, sI 123] [(vI 0), (vI 123), (vR a1)])) rfl hml rfl (rest := []) rfl rfl rfl rfl (hb hby d13_3) (by decide)
  refine own_end X1 hlk (v := some (vI (-1))) (own_hv hret) (by decide) (by rw [e1]; exact ⟨rfl, (Fr.app N0 N1q), rfl⟩) fun fs hr => ?_
  show St p e below s₁ (mkF m 0 #[sR a1, sI 123] []) _
  refine wal X0 hx hby rfl d13_0 rfl rfl ?_
  refine wil X0 hx hby rfl d13_1 rfl ?_
  refine wic X0 hx hby rfl d13_2 ?_
  refine st1 _ ?_
  exact retOut X1 hx hret rfl (Or.inl ⟨rfl, Or.inl rfl, _, rfl⟩) (hb hby d13_6) hr
def Qrm25 (Z : State) (h0 : Heap) (n0 : Nat) (v : Option Value) (h : Heap) (L : List Loc) : Prop := v = none ∧ Fr n0 L ∧ Keep h0 h []
theorem rm25 (cx : Cx Z a0 w1 w2 w3 clw3 w4 kw4 w5 kw5) (a1 : Addr) (a2 : Addr) (a3 : Addr) (ck4 : ClassId) (O0 : Old Z n0 h0) (PF1 : Fld Z h0 a1 z1 "at" "I" (vI 0)) (PF2 : Fld Z h0 a1 z1 "text" z20 (vR a2)) (PF3 : Fld Z h0 a2 z3 "value" "[B" (vR a3)) (PV4 : Arv Z h0 a3 ck4 .byte (2 : Int32) [(vI 123), (vI 125)] (vI 0)) (PF5 : Fld Z h0 a2 z3 "coder" "B" (vI 0)) (PE6 : Exa Z h0 a2 z3) : CtW EL [] l Z ⟨z1, "skipSpace", "()V"⟩ prog_17_method_11_code 1 none ⟨4, 2, 20, 59⟩ #[(vR a1)] h0 (Qrm25 Z h0 n0) := by
  obtain ⟨hw, hj, hS⟩ := id cx
  refine own_bdW (plainFor_of_name pn153) (fun m => ef44 m a1) fun p e s m below meth c s₁ hret hlk hZ hx hby hml hown hnm X0 e0 hh C0 hsx hS0 => ?_
  have N0 := Fr.nil n0
  obtain ⟨T1, X1, e1, st1⟩ := getF X0 hx hZ hown (host := "") (Or.inl (hw _ m34)) Via.refl e0 PF1 (g := (mkF m 1 #[sR a1] [(vR a1)])) rfl rfl (hb hby d5_1)
  obtain ⟨T2, X2, e2, st2⟩ := getF X1 hx hZ hown (host := "") (Or.inl (hw _ m22)) Via.refl e1 PF2 (g := (mkF m 5 #[sR a1] [(vR a1), (vI 0)])) rfl rfl (hb hby d5_5)
  have sf3 := (sf0 : ∀ x ∈ [], Safe Z EL s.vm h0 x)
  obtain ⟨_, T3, L3, ⟨rfl, N3q, e3⟩, X3, st3⟩ := cV X2 hx hZ (W := 1) hown (cw8 cx) (rm11 cx a2 a3 ck4 O0 PF3 PV4 PF5 PE6) e2 PE6 (g := (mkF m 8 #[sR a1] [(vR a2), (vI 0)])) rfl hml rfl (rest := [(vI 0)]) rfl rfl rfl rfl (hb hby d5_8) (by decide)
  obtain ⟨sa4, T4, h4, k14, sb4, k4, X4, e4, E4, hS4, hk4, hZ4, hown4, A4, Fc4, Fv4, V4, la4, lb4, Cq4, -, hn4, st4⟩ := ldcCH X3 hx hZ hown (hw _ m49) (own_str hw hj) e3 hS0 (Nat.le_refl _) (own_EW hw hj) (List.mem_of_getElem? (i := 0) rfl) C0.1 (vs := [(.int (32 : Int32)), (.int (9 : Int32)), (.int (13 : Int32)), (.int (10 : Int32))]) (z := (4 : Int32)) ⟨by decide, by decide⟩ (by decide) (by decide) (g := (mkF m 14 #[sR a1] [])) rfl (hb hby d5_14) (n := 16) (by decide) (by decide) (by decide) (by decide)
  have O4 : Old Z n0 h4 := O0.ext E4
  have K4 : Keep h0 h4 [] := (Keep.refl h0 []).ext E4
  have C4 := C0.trans Cq4
  have f5 : Fld Z h4 a1 z1 "text" z20 (vR a2) := (PF2.ext E4)
  obtain ⟨T6, X6, e6, st6⟩ := getF X4 hx hZ4 hown4 (host := "") (Or.inl (hw _ m22)) Via.refl e4 f5 (g := (mkF m 17 #[sR a1] [(vR a1), (vR sa4)])) rfl rfl (hb hby d5_17)
  have f7 : Fld Z h4 a1 z1 "at" "I" (vI 0) := (PF1.ext E4)
  obtain ⟨T8, X8, e8, st8⟩ := getF X6 hx hZ4 hown4 (host := "") (Or.inl (hw _ m34)) Via.refl e6 f7 (g := (mkF m 21 #[sR a1] [(vR a1), (vR a2), (vR sa4)])) rfl rfl (hb hby d5_21)
  have f10 : Fld Z h4 a2 z3 "coder" "B" (vI 0) := (PF5.ext E4)
  have f11 : Exa Z h4 a2 z3 := (PE6.ext E4)
  have f12 : Fld Z h4 a2 z3 "value" "[B" (vR a3) := (PF3.ext E4)
  have f13 : Arv Z h4 a3 ck4 .byte (2 : Int32) [(vI 123), (vI 125)] (vI 0) := (PV4.ext E4)
  have sf9 := (sf0 : ∀ x ∈ [], Safe Z EL T4.vm h4 x)
  obtain ⟨_, T9, L9, ⟨rfl, N9q, e9⟩, X9, st9⟩ := cV X8 hx hZ4 (W := 1) hown4 (cw13 cx) (rm16 cx a2 a3 ck4 O4 f10 f11 f12 f13) e8 f11 (g := (mkF m 24 #[sR a1] [(vI 0), (vR a2), (vR sa4)])) rfl hml rfl (rest := [(vR sa4)]) rfl rfl rfl rfl (hb hby d5_24) (by decide)
  have sf14 := (sf0 : ∀ x ∈ [], Safe Z EL T4.vm h4 x)
  obtain ⟨_, T14, L14, ⟨rfl, N14q, e14⟩, X14, st14⟩ := cV X9 hx hZ4 (W := 0) hown4 (cw21 cx) (rm24 cx sa4 sb4 k4 O4 Fc4 A4 Fv4 V4) e9 A4 (g := (mkF m 27 #[sR a1] [(vI 123), (vR sa4)])) rfl hml rfl (rest := []) rfl rfl rfl rfl (hb hby d5_27) (by decide)
  refine own_endW X14 hlk (v := none) (fun _ => rfl) hS4 hk4 (by decide) hh e14 C4 hZ4 (own_EW hw hj) (by rw [e14]; exact ⟨rfl, (Fr.app (Fr.app (Fr.app N0 N3q) N9q) N14q), K4⟩) fun fs hr => ?_
  show St p e below s₁ (mkF m 0 #[sR a1] []) _
  refine wal X0 hx hby rfl d5_0 rfl rfl ?_
  refine st1 _ ?_
  refine wal X1 hx hby rfl d5_4 rfl rfl ?_
  refine st2 _ ?_
  refine st3 _ ?_
  refine wcn X3 hx hby rfl d5_11 rfl (tlt (by decide : (0 : Int32) < (2 : Int32))).2.1 ?_
  refine st4 _ ?_
  refine wal X4 hx hby rfl d5_16 rfl rfl ?_
  refine st6 _ ?_
  refine wal X6 hx hby rfl d5_20 rfl rfl ?_
  refine st8 _ ?_
  refine st9 _ ?_
  refine st14 _ ?_
  refine wfy X14 hx hby rfl (pc0 := 30) (pc' := 46) rfl d5_30 rfl ((if0 _ _).trans (tlt (by decide : (-1 : Int32) < (0 : Int32))).1) (by decide) (by decide) ?_
  exact X14.returnOut hx hret (hb hby d5_46) hr
def Qrm26 (Z : State) (h0 : Heap) (n0 : Nat) (v : Option Value) (h : Heap) (L : List Loc) : Prop := v = none ∧ Fr n0 L ∧ h = h0
theorem rm26 (cx : Cx Z a0 w1 w2 w3 clw3 w4 kw4 w5 kw5) (a1 : Addr) (O0 : Old Z n0 h0) : Ct l Z ⟨"java/util/AbstractMap", "<init>", "()V"⟩ jdk_71_method_1_code 1 none ⟨1, 0, 0, 12⟩ #[(vR a1)] h0 (Qrm26 Z h0 n0) := by
  obtain ⟨hw, hj, hS⟩ := id cx
  refine own_bd (plainFor_of_name pn438) (fun m => ef44 m a1) fun p e s m below meth c s₁ hret hlk hZ hx hby hml hown hnm X0 e0 => ?_
  have N0 := Fr.nil n0
  obtain ⟨T1, X1, e1, st1⟩ := initO X0 hx hZ hown (hw _ m121) (hw _ m20) (hw _ m21) e0 (g := (mkF m 1 #[sR a1] [(vR a1)])) rfl (by rw [hml]; rfl) rfl (hb hby d23_1) (by decide) (W := 0) (Nat.le_of_eq rfl) (by decide)
  refine own_end X1 hlk (v := none) (fun _ => rfl) (by decide) (by rw [e1]; exact ⟨rfl, N0, rfl⟩) fun fs hr => ?_
  show St p e below s₁ (mkF m 0 #[sR a1] []) _
  refine wal X0 hx hby rfl d23_0 rfl rfl ?_
  refine st1 _ ?_
  exact X1.returnOut hx hret (hb hby d23_4) hr
def Qrm27 (Z : State) (a1 : Addr) (h0 : Heap) (n0 : Nat) (v : Option Value) (h : Heap) (L : List Loc) : Prop := v = none ∧ Fr n0 L ∧ Keep h0 h [a1] ∧ Fld Z h a1 z17 "loadFactor" "F" (.float (1061158912 : UInt32)) ∧ Fld Z h a1 z5 "putMode" "I" (vI 0) ∧ Fld Z h a1 z5 z25 "Z" (vI 0)
theorem rm27 (cx : Cx Z a0 w1 w2 w3 clw3 w4 kw4 w5 kw5) (a1 : Addr) (O0 : Old Z n0 h0) (PE1 : Exa Z h0 a1 z5) (PF2 : Fld Z h0 a1 z17 "loadFactor" "F" (.float (0 : UInt32))) (PF3 : Fld Z h0 a1 z5 "putMode" "I" (vI 0)) (PF4 : Fld Z h0 a1 z5 z25 "Z" (vI 0)) (gn5 : n0 ≤ a1) : Ct l Z ⟨z17, "<init>", "()V"⟩ jdk_69_method_7_code 1 none ⟨2, 0, 0, 24⟩ #[(vR a1)] h0 (Qrm27 Z a1 h0 n0) := by
  obtain ⟨hw, hj, hS⟩ := id cx
  refine own_bd (plainFor_of_name pn448) (fun m => ef44 m a1) fun p e s m below meth c s₁ hret hlk hZ hx hby hml hown hnm X0 e0 => ?_
  have N0 := Fr.nil n0
  obtain ⟨_, T1, L1, ⟨rfl, N1q, e1⟩, X1, st1⟩ := cI X0 hx hZ (W := 0) hown (cw23 cx) (rm26 cx a1 O0) e0 (g := (mkF m 1 #[sR a1] [(vR a1)])) rfl hml rfl (rest := []) rfl rfl rfl rfl (hb hby d22_1) (by decide)
  obtain ⟨T2, h2, L'2, X2, e2, W2, Fw2, O2, K2, N2, st2⟩ := own_put X1 hx hZ hown (host := "") (Or.inl (hw _ m123)) Via.refl e1 O0 (Keep.refl h0 [a1]) (Fr.app N0 N1q) gn5 (Or.inl (List.mem_of_getElem? (i := 0) rfl)) PF2 PE1 (Or.inr ⟨(hw _ m124), rfl, hnm⟩) (hw _ m104) (ty := .float) (by decide) rfl rfl (g := (mkF m 7 #[sR a1] [(.float (1061158912 : UInt32)), (vR a1)])) rfl rfl (hb hby d22_7)
  have f3 : Fld Z h2 a1 z5 "putMode" "I" (vI 0) := (PF3.other W2 (Or.inr (slot_ne (Or.inl (hw _ m126)) (Or.inr (hw _ m124)) (by decide) (t := .int) (t' := .float) (by decide) (by decide))))
  have f4 : Fld Z h2 a1 z5 z25 "Z" (vI 0) := (PF4.other W2 (Or.inr (slot_ne (Or.inr (hw _ m128)) (Or.inr (hw _ m124)) (by decide) (t := .boolean) (t' := .float) (by decide) (by decide))))
  refine own_end X2 hlk (v := none) (fun _ => rfl) (by decide) (by rw [e2]; exact ⟨rfl, N2, K2, Fw2, f3, f4⟩) fun fs hr => ?_
  show St p e below s₁ (mkF m 0 #[sR a1] []) _
  refine wal X0 hx hby rfl d22_0 rfl rfl ?_
  refine st1 _ ?_
  refine wal X1 hx hby rfl d22_4 rfl rfl ?_
  refine X1.ldcFloatC hx hown (mvT hZ (hw _ m122)) (g := (mkF m 5 #[sR a1] [(vR a1)])) rfl (hb hby d22_5) _ ?_
  refine st2 _ ?_
  exact X2.returnOut hx hret (hb hby d22_10) hr
def Qrm28 (Z : State) (a1 : Addr) (h0 : Heap) (n0 : Nat) (v : Option Value) (h : Heap) (L : List Loc) : Prop := v = none ∧ Fr n0 L ∧ Keep h0 h [a1] ∧ Fld Z h a1 z17 "loadFactor" "F" (.float (1061158912 : UInt32)) ∧ Fld Z h a1 z5 "putMode" "I" (vI 0) ∧ Fld Z h a1 z5 z25 "Z" (vI 0)
theorem rm28 (cx : Cx Z a0 w1 w2 w3 clw3 w4 kw4 w5 kw5) (a1 : Addr) (O0 : Old Z n0 h0) (PE1 : Exa Z h0 a1 z5) (PF2 : Fld Z h0 a1 z17 "loadFactor" "F" (.float (0 : UInt32))) (PF3 : Fld Z h0 a1 z5 "putMode" "I" (vI 0)) (PF4 : Fld Z h0 a1 z5 z25 "Z" (vI 0)) (gn5 : n0 ≤ a1) : Ct l Z ⟨z5, "<init>", "()V"⟩ jdk_94_method_16_code 1 none ⟨3, 0, 0, 36⟩ #[(vR a1)] h0 (Qrm28 Z a1 h0 n0) := by
  obtain ⟨hw, hj, hS⟩ := id cx
  refine own_bd (plainFor_of_name pn461) (fun m => ef44 m a1) fun p e s m below meth c s₁ hret hlk hZ hx hby hml hown hnm X0 e0 => ?_
  have N0 := Fr.nil n0
  obtain ⟨_, T1, L1, ⟨rfl, N1q, Kq1, q1_0, q1_1, q1_2⟩, X1, st1⟩ := cI X0 hx hZ (W := 0) hown (cw24 cx) (rm27 cx a1 O0 PE1 PF2 PF3 PF4 gn5) e0 (g := (mkF m 1 #[sR a1] [(vR a1)])) rfl hml rfl (rest := []) rfl rfl rfl rfl (hb hby d21_1) (by decide)
  have N1 := Fr.app N0 N1q
  have O1 : Old Z n0 T1.heap := O0.keep Kq1 (allS gn5 all0)
  have K1 : Keep h0 T1.heap [a1] := (Keep.refl h0 [a1]).trans Kq1 (allS (Or.inl (List.mem_of_getElem? (i := 0) rfl)) all0)
  have f2 : Exa Z T1.heap a1 z5 := (PE1.keep Kq1)
  obtain ⟨T3, h3, L'3, X3, e3, W3, Fw3, O3, K3, N3, st3⟩ := own_put X1 hx hZ hown (host := "") (Or.inl (hw _ m125)) Via.refl (rfl : T1.heap = T1.heap) O1 K1 N1 gn5 (Or.inl (List.mem_of_getElem? (i := 0) rfl)) q1_1 f2 (Or.inl (hw _ m126)) (hw _ m104) (ty := .int) (by decide) rfl rfl (g := (mkF m 6 #[sR a1] [(vI 0), (vR a1)])) rfl rfl (hb hby d21_6)
  have f4 : Fld Z h3 a1 z5 z25 "Z" (vI 0) := (q1_2.other W3 (Or.inr (slot_ne (Or.inr (hw _ m128)) (Or.inl (hw _ m126)) (by decide) (t := .boolean) (t' := .int) (by decide) (by decide))))
  have f5 : Exa Z h3 a1 z5 := (f2.wr W3)
  obtain ⟨T6, h6, L'6, X6, e6, W6, Fw6, O6, K6, N6, st6⟩ := own_putN X3 hx hZ hown (hw _ m127) Via.refl e3 O3 K3 N3 gn5 (Or.inl (List.mem_of_getElem? (i := 0) rfl)) f4 f5 (Or.inr ⟨(hw _ m128), rfl, hnm⟩) (hw _ m104) (ty := .boolean) (v' := (vI 0)) (by decide) rfl (by decide) (g := (mkF m 11 #[sR a1] [(vI 0), (vR a1)])) rfl rfl (hb hby d21_11)
  have f7 : Fld Z h6 a1 z17 "loadFactor" "F" (.float (1061158912 : UInt32)) := ((q1_0.other W3 (Or.inr (slot_ne (Or.inr (hw _ m124)) (Or.inl (hw _ m126)) (by decide) (t := .float) (t' := .int) (by decide) (by decide)))).other W6 (Or.inr (slot_ne (Or.inr (hw _ m124)) (Or.inr (hw _ m128)) (by decide) (t := .float) (t' := .boolean) (by decide) (by decide))))
  have f8 : Fld Z h6 a1 z5 "putMode" "I" (vI 0) := (Fw3.other W6 (Or.inr (slot_ne (Or.inl (hw _ m126)) (Or.inr (hw _ m128)) (by decide) (t := .int) (t' := .boolean) (by decide) (by decide))))
  refine own_end X6 hlk (v := none) (fun _ => rfl) (by decide) (by rw [e6]; exact ⟨rfl, N6, K6, f7, f8, Fw6⟩) fun fs hr => ?_
  show St p e below s₁ (mkF m 0 #[sR a1] []) _
  refine wal X0 hx hby rfl d21_0 rfl rfl ?_
  refine st1 _ ?_
  refine wal X1 hx hby rfl d21_4 rfl rfl ?_
  refine wic X1 hx hby rfl d21_5 ?_
  refine st3 _ ?_
  refine wal X3 hx hby rfl d21_9 rfl rfl ?_
  refine wic X3 hx hby rfl d21_10 ?_
  refine st6 _ ?_
  exact X6.returnOut hx hret (hb hby d21_14) hr
def Qrm29 (Z : State) (h0 : Heap) (n0 : Nat) (v : Option Value) (h : Heap) (L : List Loc) : Prop := v = some (vI 125) ∧ Fr n0 L ∧ h = h0
theorem rm29 (cx : Cx Z a0 w1 w2 w3 clw3 w4 kw4 w5 kw5) (a1 : Addr) (ck2 : ClassId) (O0 : Old Z n0 h0) (PV1 : Arv Z h0 a1 ck2 .byte (2 : Int32) [(vI 123), (vI 125)] (vI 0)) : Ct l Z ⟨z13, "charAt", "([BI)C"⟩ jdk_43_method_2_code 2 (some .char) ⟨2, 0, 0, 27⟩ #[(vR a1), (vI 1)] h0 (Qrm29 Z h0 n0) := by
  obtain ⟨hw, hj, hS⟩ := id cx
  refine own_bd (plainFor_of_name pn272) (fun m => ef55 m a1 1) fun p e s m below meth c s₁ hret hlk hZ hx hby hml hown hnm X0 e0 => ?_
  have N0 := Fr.nil n0
  obtain ⟨_, T1, L1, ⟨rfl, N1q, e1⟩, X1, st1⟩ := cS X0 hx hZ (W := 0) hown (cw11 cx) (rm14 cx 1 2 O0 (by decide : ¬ ((1 : Int32) < (0 : Int32))) (by decide : (1 : Int32) < (2 : Int32))) e0 (g := (mkF m 3 #[sR a1, sI 1] [(vI 2), (vI 1)])) rfl hml rfl (rest := []) rfl rfl rfl rfl (hb hby d10_3) (by decide)
  refine own_end X1 hlk (v := some (vI 125)) (own_hv hret) (by decide) (by rw [e1]; exact ⟨rfl, (Fr.app N0 N1q), rfl⟩) fun fs hr => ?_
  show St p e below s₁ (mkF m 0 #[sR a1, sI 1] []) _
  refine wil X0 hx hby rfl d10_0 rfl ?_
  refine wal X0 hx hby rfl d10_1 rfl rfl ?_
  refine own_alen X0 hx hZ e0 PV1 (g := (mkF m 2 #[sR a1, sI 1] [(vR a1), (vI 1)])) rfl rfl (hb hby d10_2) ?_
  refine st1 _ ?_
  refine wal X1 hx hby rfl d10_6 rfl rfl ?_
  refine wil X1 hx hby rfl d10_7 rfl ?_
  refine own_baloadB X1 hx hZ e1 PV1 (j := 1) (by decide) (v := (vI 125)) rfl (g := (mkF m 8 #[sR a1, sI 1] [(vI 1), (vR a1)])) rfl rfl (hb hby d10_8) ?_
  refine wsp X1 hx hby rfl d10_9 ?_
  refine Own.iand X1.here hx rfl (hb hby d10_12) rfl (by decide : ((125 : Int32) &&& (255 : Int32)) = (125 : Int32)) ?_
  refine Own.i2c X1.here hx rfl (hb hby d10_13) rfl (by decide : ((125 : Int32).toUInt32.toUInt16.toUInt32.toInt32) = (125 : Int32)) ?_
  exact retN X1 hx (t := .char) hret (by simp) (hb hby d10_14) hr
def Qrm30 (Z : State) (h0 : Heap) (n0 : Nat) (v : Option Value) (h : Heap) (L : List Loc) : Prop := v = some (vI 125) ∧ Fr n0 L ∧ h = h0
theorem rm30 (cx : Cx Z a0 w1 w2 w3 clw3 w4 kw4 w5 kw5) (a1 : Addr) (a2 : Addr) (ck3 : ClassId) (O0 : Old Z n0 h0) (PF1 : Fld Z h0 a1 z3 "coder" "B" (vI 0)) (PE2 : Exa Z h0 a1 z3) (PF3 : Fld Z h0 a1 z3 "value" "[B" (vR a2)) (PV4 : Arv Z h0 a2 ck3 .byte (2 : Int32) [(vI 123), (vI 125)] (vI 0)) : Ct l Z ⟨z3, "charAt", "(I)C"⟩ jdk_42_method_56_code 2 (some .char) ⟨3, 0, 0, 40⟩ #[(vR a1), (vI 1)] h0 (Qrm30 Z h0 n0) := by
  obtain ⟨hw, hj, hS⟩ := id cx
  refine own_bd (plainFor_of_name pn191) (fun m => ef55 m a1 1) fun p e s m below meth c s₁ hret hlk hZ hx hby hml hown hnm X0 e0 => ?_
  have N0 := Fr.nil n0
  obtain ⟨_, T1, L1, ⟨rfl, N1q, e1⟩, X1, st1⟩ := cV X0 hx hZ (W := 0) hown (cw9 cx) (rm12 cx a1 O0 PF1) e0 PE2 (g := (mkF m 1 #[sR a1, sI 1] [(vR a1)])) rfl hml rfl (rest := []) rfl rfl rfl rfl (hb hby d8_1) (by decide)
  obtain ⟨T2, X2, e2, st2⟩ := getF X1 hx hZ hown (host := "") (Or.inl (hw _ m41)) Via.refl e1 PF3 (g := (mkF m 8 #[sR a1, sI 1] [(vR a1)])) rfl rfl (hb hby d8_8)
  obtain ⟨_, T3, L3, ⟨rfl, N3q, e3⟩, X3, st3⟩ := cS X2 hx hZ (W := 0) hown (cw12 cx) (rm29 cx a2 ck3 O0 PV4) e2 (g := (mkF m 12 #[sR a1, sI 1] [(vI 1), (vR a2)])) rfl hml rfl (rest := []) rfl rfl rfl rfl (hb hby d8_12) (by decide)
  refine own_end X3 hlk (v := some (vI 125)) (own_hv hret) (by decide) (by rw [e3]; exact ⟨rfl, (Fr.app (Fr.app N0 N1q) N3q), rfl⟩) fun fs hr => ?_
  show St p e below s₁ (mkF m 0 #[sR a1, sI 1] []) _
  refine wal X0 hx hby rfl d8_0 rfl rfl ?_
  refine st1 _ ?_
  refine wfn X1 hx hby rfl d8_4 rfl ((if0 _ _).trans (feq (by decide : ¬ ((1 : Int32) = (0 : Int32)))).1) ?_
  refine wal X1 hx hby rfl d8_7 rfl rfl ?_
  refine st2 _ ?_
  refine wil X2 hx hby rfl d8_11 rfl ?_
  refine st3 _ ?_
  exact retN X3 hx (t := .char) hret (by simp) (hb hby d8_15) hr
def Qrm31 (Z : State) (h0 : Heap) (n0 : Nat) (v : Option Value) (h : Heap) (L : List Loc) : Prop := v = some (vI (-1)) ∧ Fr n0 L ∧ h = h0
theorem rm31 (cx : Cx Z a0 w1 w2 w3 clw3 w4 kw4 w5 kw5) (a1 : Addr) (ck2 : ClassId) (O0 : Old Z n0 h0) (PV1 : Arv Z h0 a1 ck2 .byte (4 : Int32) [(vI 32), (vI 9), (vI 13), (vI 10)] (vI 0)) : Ct l Z ⟨z13, "indexOfChar", "([BIII)I"⟩ jdk_43_method_23_code 6 (some .int) ⟨0, 0, 0, 0⟩ #[(vR a1), (vI 125), (vI 0), (vI 4)] h0 (Qrm31 Z h0 n0) := by
  obtain ⟨hw, hj, hS⟩ := id cx
  refine own_bd (plainFor_of_name pn272) (fun m => ef373 m a1 125 0 4) fun p e s m below meth c s₁ hret hlk hZ hx hby hml hown hnm X0 e0 => ?_
  have N0 := Fr.nil n0
  refine own_end X0 hlk (v := some (vI (-1))) (own_hv hret) (by decide) (by rw [e0]; exact ⟨rfl, N0, rfl⟩) fun fs hr => ?_
  show St p e below s₁ (mkF m 0 #[sR a1, sI 125, sI 0, sI 4, sU, sU] []) _
  refine wil X0 hx hby rfl d19_0 rfl ?_
  refine Own.i2b X0.here hx rfl (hb hby d19_1) rfl (by decide : ((125 : Int32).toInt8.toInt32) = (125 : Int32)) ?_
  refine wiS X0 hx hby rfl d19_2 rfl (l' := #[sR a1, sI 125, sI 0, sI 4, sI 125, sU]) rfl ?_
  refine wil X0 hx hby rfl d19_4 rfl ?_
  refine wiS X0 hx hby rfl d19_5 rfl (l' := #[sR a1, sI 125, sI 0, sI 4, sI 125, sI 0]) rfl ?_
  refine wiL X0 hx hby rfl d19_7 rfl ?_
  refine wil X0 hx hby rfl d19_9 rfl ?_
  refine wcn X0 hx hby rfl d19_10 rfl (tlt (by decide : (0 : Int32) < (4 : Int32))).2.1 ?_
  refine wal X0 hx hby rfl d19_13 rfl rfl ?_
  refine wiL X0 hx hby rfl d19_14 rfl ?_
  refine own_baloadB X0 hx hZ e0 PV1 (j := 0) (by decide) (v := (vI 32)) rfl (g := (mkF m 16 #[sR a1, sI 125, sI 0, sI 4, sI 125, sI 0] [(vI 0), (vR a1)])) rfl rfl (hb hby d19_16) ?_
  refine wiL X0 hx hby rfl d19_17 rfl ?_
  refine wcy X0 hx hby rfl (pc0 := 19) (pc' := 25) rfl d19_19 rfl (feq (by decide : ¬ ((32 : Int32) = (125 : Int32)))).2 (by decide) (by decide) ?_
  refine Own.iinc X0.here hx rfl (hb hby d19_25) rfl (by decide : ((0 : Int32) + (1 : Int32)) = (1 : Int32)) (l' := #[sR a1, sI 125, sI 0, sI 4, sI 125, sI 1]) rfl ?_
  refine wgt X0 hx hby rfl (pc0 := 28) (pc' := 7) rfl d19_28 (by decide) (by decide) ?_
  refine wiL X0 hx hby rfl d19_7 rfl ?_
  show St p e below s₁ (mkF m 9 #[sR a1, sI 125, sI 0, sI 4, sI 125, sI 1] [(vI 1)]) _
  refine wil X0 hx hby rfl d19_9 rfl ?_
  refine wcn X0 hx hby rfl d19_10 rfl (tlt (by decide : (1 : Int32) < (4 : Int32))).2.1 ?_
  refine wal X0 hx hby rfl d19_13 rfl rfl ?_
  refine wiL X0 hx hby rfl d19_14 rfl ?_
  refine own_baloadB X0 hx hZ e0 PV1 (j := 1) (by decide) (v := (vI 9)) rfl (g := (mkF m 16 #[sR a1, sI 125, sI 0, sI 4, sI 125, sI 1] [(vI 1), (vR a1)])) rfl rfl (hb hby d19_16) ?_
  refine wiL X0 hx hby rfl d19_17 rfl ?_
  refine wcy X0 hx hby rfl (pc0 := 19) (pc' := 25) rfl d19_19 rfl (feq (by decide : ¬ ((9 : Int32) = (125 : Int32)))).2 (by decide) (by decide) ?_
  refine Own.iinc X0.here hx rfl (hb hby d19_25) rfl (by decide : ((1 : Int32) + (1 : Int32)) = (2 : Int32)) (l' := #[sR a1, sI 125, sI 0, sI 4, sI 125, sI 2]) rfl ?_
  refine wgt X0 hx hby rfl (pc0 := 28) (pc' := 7) rfl d19_28 (by decide) (by decide) ?_
  refine wiL X0 hx hby rfl d19_7 rfl ?_
  refine wil X0 hx hby rfl d19_9 rfl ?_
  refine wcn X0 hx hby rfl d19_10 rfl (tlt (by decide : (2 : Int32) < (4 : Int32))).2.1 ?_
  refine wal X0 hx hby rfl d19_13 rfl rfl ?_
  refine wiL X0 hx hby rfl d19_14 rfl ?_
  refine own_baloadB X0 hx hZ e0 PV1 (j := 2) (by decide) (v := (vI 13)) rfl (g := (mkF m 16 #[sR a1, sI 125, sI 0, sI 4, sI 125, sI 2] [(vI 2), (vR a1)])) rfl rfl (hb hby d19_16) ?_
  refine wiL X0 hx hby rfl d19_17 rfl ?_
  show St p e below s₁ (mkF m 19 #[sR a1, sI 125, sI 0, sI 4, sI 125, sI 2] [(vI 125), (vI 13)]) _
  refine wcy X0 hx hby rfl (pc0 := 19) (pc' := 25) rfl d19_19 rfl (feq (by decide : ¬ ((13 : Int32) = (125 : Int32)))).2 (by decide) (by decide) ?_
  refine Own.iinc X0.here hx rfl (hb hby d19_25) rfl (by decide : ((2 : Int32) + (1 : Int32)) = (3 : Int32)) (l' := #[sR a1, sI 125, sI 0, sI 4, sI 125, sI 3]) rfl ?_
  refine wgt X0 hx hby rfl (pc0 := 28) (pc' := 7) rfl d19_28 (by decide) (by decide) ?_
  refine wiL X0 hx hby rfl d19_7 rfl ?_
  refine wil X0 hx hby rfl d19_9 rfl ?_
  refine wcn X0 hx hby rfl d19_10 rfl (tlt (by decide : (3 : Int32) < (4 : Int32))).2.1 ?_
  refine wal X0 hx hby rfl d19_13 rfl rfl ?_
  refine wiL X0 hx hby rfl d19_14 rfl ?_
  refine own_baloadB X0 hx hZ e0 PV1 (j := 3) (by decide) (v := (vI 10)) rfl (g := (mkF m 16 #[sR a1, sI 125, sI 0, sI 4, sI 125, sI 3] [(vI 3), (vR a1)])) rfl rfl (hb hby d19_16) ?_
  refine wiL X0 hx hby rfl d19_17 rfl ?_
  refine wcy X0 hx hby rfl (pc0 := 19) (pc' := 25) rfl d19_19 rfl (feq (by decide : ¬ ((10 : Int32) = (125 : Int32)))).2 (by decide) (by decide) ?_
  refine Own.iinc X0.here hx rfl (hb hby d19_25) rfl (by decide : ((3 : Int32) + (1 : Int32)) = (4 : Int32)) (l' := #[sR a1, sI 125, sI 0, sI 4, sI 125, sI 4]) rfl ?_
  refine wgt X0 hx hby rfl (pc0 := 28) (pc' := 7) rfl d19_28 (by decide) (by decide) ?_
  refine wiL X0 hx hby rfl d19_7 rfl ?_
  refine wil X0 hx hby rfl d19_9 rfl ?_
  refine wcy X0 hx hby rfl (pc0 := 10) (pc' := 31) rfl d19_10 rfl (flt (by decide : ¬ ((4 : Int32) < (4 : Int32)))).2.1 (by decide) (by decide) ?_
  show St p e below s₁ (mkF m 31 #[sR a1, sI 125, sI 0, sI 4, sI 125, sI 4] []) _
  refine wic X0 hx hby rfl d19_31 ?_
  exact retOut X0 hx hret rfl (Or.inl ⟨rfl, Or.inl rfl, _, rfl⟩) (hb hby d19_32) hr
def Qrm32 (Z : State) (h0 : Heap) (n0 : Nat) (v : Option Value) (h : Heap) (L : List Loc) : Prop := v = some (vI (-1)) ∧ Fr n0 L ∧ h = h0
theorem rm32 (cx : Cx Z a0 w1 w2 w3 clw3 w4 kw4 w5 kw5) (a1 : Addr) (ck2 : ClassId) (O0 : Old Z n0 h0) (PV1 : Arv Z h0 a1 ck2 .byte (4 : Int32) [(vI 32), (vI 9), (vI 13), (vI 10)] (vI 0)) : Ct l Z ⟨z13, "indexOf", "([BIII)I"⟩ jdk_43_method_22_code 4 (some .int) ⟨1, 0, 0, 17⟩ #[(vR a1), (vI 125), (vI 0), (vI 4)] h0 (Qrm32 Z h0 n0) := by
  obtain ⟨hw, hj, hS⟩ := id cx
  refine own_bd (plainFor_of_name pn272) (fun m => ef378 m a1 125 0 4) fun p e s m below meth c s₁ hret hlk hZ hx hby hml hown hnm X0 e0 => ?_
  have N0 := Fr.nil n0
  obtain ⟨_, T1, L1, ⟨rfl, N1q, e1⟩, X1, st1⟩ := cS X0 hx hZ (W := 0) hown (cw15 cx) (rm18 cx 125 O0 (by decide : ¬ ((125 : Int32) < (0 : Int32))) (by decide : ¬ ((255 : Int32) < (125 : Int32)))) e0 (g := (mkF m 1 #[sR a1, sI 125, sI 0, sI 4] [(vI 125)])) rfl hml rfl (rest := []) rfl rfl rfl rfl (hb hby d15_1) (by decide)
  obtain ⟨_, T2, L2, ⟨rfl, N2q, e2⟩, X2, st2⟩ := cS X1 hx hZ (W := 0) hown (cw16 cx) (rm19 cx 0 O0) e1 (g := (mkF m 11 #[sR a1, sI 125, sI 0, sI 4] [(vI 0), (vI 0)])) rfl hml rfl (rest := []) rfl rfl rfl rfl (hb hby d15_11) (by decide)
  obtain ⟨_, T3, L3, ⟨rfl, N3q, e3⟩, X3, st3⟩ := cS X2 hx hZ (W := 0) hown (cw17 cx) (rm20 cx 4 O0) e2 (g := (mkF m 18 #[sR a1, sI 125, sI 0, sI 4] [(vI 4), (vI 4)])) rfl hml rfl (rest := []) rfl rfl rfl rfl (hb hby d15_18) (by decide)
  obtain ⟨_, T4, L4, ⟨rfl, N4q, e4⟩, X4, st4⟩ := cS X3 hx hZ (W := 0) hown (cw18 cx) (rm31 cx a1 ck2 O0 PV1) e3 (g := (mkF m 33 #[sR a1, sI 125, sI 0, sI 4] [(vI 4), (vI 0), (vI 125), (vR a1)])) rfl hml rfl (rest := []) rfl rfl rfl rfl (hb hby d15_33) (by decide)
  refine own_end X4 hlk (v := some (vI (-1))) (own_hv hret) (by decide) (by rw [e4]; exact ⟨rfl, (Fr.app (Fr.app (Fr.app (Fr.app N0 N1q) N2q) N3q) N4q), rfl⟩) fun fs hr => ?_
  show St p e below s₁ (mkF m 0 #[sR a1, sI 125, sI 0, sI 4] []) _
  refine wil X0 hx hby rfl d15_0 rfl ?_
  refine st1 _ ?_
  refine wfy X1 hx hby rfl (pc0 := 4) (pc' := 9) rfl d15_4 rfl ((if0 _ _).trans (feq (by decide : ¬ ((1 : Int32) = (0 : Int32)))).2) (by decide) (by decide) ?_
  refine wil X1 hx hby rfl d15_9 rfl ?_
  refine wic X1 hx hby rfl d15_10 ?_
  refine st2 _ ?_
  refine wis X2 hx hby rfl d15_14 rfl (l' := #[sR a1, sI 125, sI 0, sI 4]) rfl ?_
  refine wil X2 hx hby rfl d15_15 rfl ?_
  refine wal X2 hx hby rfl d15_16 rfl rfl ?_
  refine own_alen X2 hx hZ e2 PV1 (g := (mkF m 17 #[sR a1, sI 125, sI 0, sI 4] [(vR a1), (vI 4)])) rfl rfl (hb hby d15_17) ?_
  refine st3 _ ?_
  refine wis X3 hx hby rfl d15_21 rfl (l' := #[sR a1, sI 125, sI 0, sI 4]) rfl ?_
  refine wil X3 hx hby rfl d15_22 rfl ?_
  refine wil X3 hx hby rfl d15_23 rfl ?_
  refine wcy X3 hx hby rfl (pc0 := 24) (pc' := 29) rfl d15_24 rfl (tlt (by decide : (0 : Int32) < (4 : Int32))).1 (by decide) (by decide) ?_
  refine wal X3 hx hby rfl d15_29 rfl rfl ?_
  show St p e below T3 (mkF m 30 #[sR a1, sI 125, sI 0, sI 4] [(vR a1)]) _
  refine wil X3 hx hby rfl d15_30 rfl ?_
  refine wil X3 hx hby rfl d15_31 rfl ?_
  refine wil X3 hx hby rfl d15_32 rfl ?_
  refine st4 _ ?_
  exact retOut X4 hx hret rfl (Or.inl ⟨rfl, Or.inl rfl, _, rfl⟩) (hb hby d15_36) hr
def Qrm33 (Z : State) (h0 : Heap) (n0 : Nat) (v : Option Value) (h : Heap) (L : List Loc) : Prop := v = some (vI (-1)) ∧ Fr n0 L ∧ h = h0
theorem rm33 (cx : Cx Z a0 w1 w2 w3 clw3 w4 kw4 w5 kw5) (a1 : Addr) (a2 : Addr) (ck3 : ClassId) (O0 : Old Z n0 h0) (PF1 : Fld Z h0 a1 z3 "coder" "B" (vI 0)) (PE2 : Exa Z h0 a1 z3) (PF3 : Fld Z h0 a1 z3 "value" "[B" (vR a2)) (PV4 : Arv Z h0 a2 ck3 .byte (4 : Int32) [(vI 32), (vI 9), (vI 13), (vI 10)] (vI 0)) : Ct l Z ⟨z3, "indexOf", "(II)I"⟩ jdk_42_method_80_code 3 (some .int) ⟨2, 0, 0, 32⟩ #[(vR a1), (vI 125), (vI 0)] h0 (Qrm33 Z h0 n0) := by
  obtain ⟨hw, hj, hS⟩ := id cx
  refine own_bd (plainFor_of_name pn191) (fun m => ef383 m a1 125 0) fun p e s m below meth c s₁ hret hlk hZ hx hby hml hown hnm X0 e0 => ?_
  have N0 := Fr.nil n0
  obtain ⟨_, T1, L1, ⟨rfl, N1q, e1⟩, X1, st1⟩ := cV X0 hx hZ (W := 0) hown (cw9 cx) (rm12 cx a1 O0 PF1) e0 PE2 (g := (mkF m 1 #[sR a1, sI 125, sI 0] [(vR a1)])) rfl hml rfl (rest := []) rfl rfl rfl rfl (hb hby d14_1) (by decide)
  obtain ⟨T2, X2, e2, st2⟩ := getF X1 hx hZ hown (host := "") (Or.inl (hw _ m41)) Via.refl e1 PF3 (g := (mkF m 8 #[sR a1, sI 125, sI 0] [(vR a1)])) rfl rfl (hb hby d14_8)
  obtain ⟨_, T3, L3, ⟨rfl, N3q, e3⟩, X3, st3⟩ := cV X2 hx hZ (W := 3) hown (cw14 cx) (rm17 cx a1 a2 ck3 O0 PF3 PV4 PF1 PE2) e2 PE2 (g := (mkF m 14 #[sR a1, sI 125, sI 0] [(vR a1), (vI 0), (vI 125), (vR a2)])) rfl hml rfl (rest := [(vI 0), (vI 125), (vR a2)]) rfl rfl rfl rfl (hb hby d14_14) (by decide)
  obtain ⟨_, T4, L4, ⟨rfl, N4q, e4⟩, X4, st4⟩ := cS X3 hx hZ (W := 0) hown (cw19 cx) (rm32 cx a2 ck3 O0 PV4) e3 (g := (mkF m 17 #[sR a1, sI 125, sI 0] [(vI 4), (vI 0), (vI 125), (vR a2)])) rfl hml rfl (rest := []) rfl rfl rfl rfl (hb hby d14_17) (by decide)
  refine own_end X4 hlk (v := some (vI (-1))) (own_hv hret) (by decide) (by rw [e4]; exact ⟨rfl, (Fr.app (Fr.app (Fr.app N0 N1q) N3q) N4q), rfl⟩) fun fs hr => ?_
  show St p e below s₁ (mkF m 0 #[sR a1, sI 125, sI 0] []) _
  refine wal X0 hx hby rfl d14_0 rfl rfl ?_
  refine st1 _ ?_
  refine wfn X1 hx hby rfl d14_4 rfl ((if0 _ _).trans (feq (by decide : ¬ ((1 : Int32) = (0 : Int32)))).1) ?_
  refine wal X1 hx hby rfl d14_7 rfl rfl ?_
  refine st2 _ ?_
  refine wil X2 hx hby rfl d14_11 rfl ?_
  refine wil X2 hx hby rfl d14_12 rfl ?_
  refine wal X2 hx hby rfl d14_13 rfl rfl ?_
  refine st3 _ ?_
  refine st4 _ ?_
  refine wgt X4 hx hby rfl (pc0 := 20) (pc' := 36) rfl d14_20 (by decide) (by decide) ?_
  exact retOut X4 hx hret rfl (Or.inl ⟨rfl, Or.inl rfl, _, rfl⟩) (hb hby d14_36) hr
def Qrm34 (Z : State) (h0 : Heap) (n0 : Nat) (v : Option Value) (h : Heap) (L : List Loc) : Prop := v = some (vI (-1)) ∧ Fr n0 L ∧ h = h0
theorem rm34 (cx : Cx Z a0 w1 w2 w3 clw3 w4 kw4 w5 kw5) (a1 : Addr) (a2 : Addr) (ck3 : ClassId) (O0 : Old Z n0 h0) (PF1 : Fld Z h0 a1 z3 "coder" "B" (vI 0)) (PE2 : Exa Z h0 a1 z3) (PF3 : Fld Z h0 a1 z3 "value" "[B" (vR a2)) (PV4 : Arv Z h0 a2 ck3 .byte (4 : Int32) [(vI 32), (vI 9), (vI 13), (vI 10)] (vI 0)) : Ct l Z ⟨z3, "indexOf", "(I)I"⟩ jdk_42_method_79_code 2 (some .int) ⟨3, 0, 0, 46⟩ #[(vR a1), (vI 125)] h0 (Qrm34 Z h0 n0) := by
  obtain ⟨hw, hj, hS⟩ := id cx
  refine own_bd (plainFor_of_name pn191) (fun m => ef55 m a1 125) fun p e s m below meth c s₁ hret hlk hZ hx hby hml hown hnm X0 e0 => ?_
  have N0 := Fr.nil n0
  obtain ⟨_, T1, L1, ⟨rfl, N1q, e1⟩, X1, st1⟩ := cV X0 hx hZ (W := 0) hown (cw20 cx) (rm33 cx a1 a2 ck3 O0 PF1 PE2 PF3 PV4) e0 PE2 (g := (mkF m 3 #[sR a1, sI 125] [(vI 0), (vI 125), (vR a1)])) rfl hml rfl (rest := []) rfl rfl rfl rfl (hb hby d13_3) (by decide)
  refine own_end X1 hlk (v := some (vI (-1))) (own_hv hret) (by decide) (by rw [e1]; exact ⟨rfl, (Fr.app N0 N1q), rfl⟩) fun fs hr => ?_
  show St p e below s₁ (mkF m 0 #[sR a1, sI 125] []) _
  refine wal X0 hx hby rfl d13_0 rfl rfl ?_
  refine wil X0 hx hby rfl d13_1 rfl ?_
  refine wic X0 hx hby rfl d13_2 ?_
  refine st1 _ ?_
  exact retOut X1 hx hret rfl (Or.inl ⟨rfl, Or.inl rfl, _, rfl⟩) (hb hby d13_6) hr
def Qrm35 (Z : State) (h0 : Heap) (n0 : Nat) (v : Option Value) (h : Heap) (L : List Loc) : Prop := v = none ∧ Fr n0 L ∧ Keep h0 h []
theorem rm35 (cx : Cx Z a0 w1 w2 w3 clw3 w4 kw4 w5 kw5) (a1 : Addr) (a2 : Addr) (a3 : Addr) (ck4 : ClassId) (O0 : Old Z n0 h0) (PF1 : Fld Z h0 a1 z1 "at" "I" (vI 1)) (PF2 : Fld Z h0 a1 z1 "text" z20 (vR a2)) (PF3 : Fld Z h0 a2 z3 "value" "[B" (vR a3)) (PV4 : Arv Z h0 a3 ck4 .byte (2 : Int32) [(vI 123), (vI 125)] (vI 0)) (PF5 : Fld Z h0 a2 z3 "coder" "B" (vI 0)) (PE6 : Exa Z h0 a2 z3) : CtW EL [] l Z ⟨z1, "skipSpace", "()V"⟩ prog_17_method_11_code 1 none ⟨4, 2, 20, 59⟩ #[(vR a1)] h0 (Qrm35 Z h0 n0) := by
  obtain ⟨hw, hj, hS⟩ := id cx
  refine own_bdW (plainFor_of_name pn153) (fun m => ef44 m a1) fun p e s m below meth c s₁ hret hlk hZ hx hby hml hown hnm X0 e0 hh C0 hsx hS0 => ?_
  have N0 := Fr.nil n0
  obtain ⟨T1, X1, e1, st1⟩ := getF X0 hx hZ hown (host := "") (Or.inl (hw _ m34)) Via.refl e0 PF1 (g := (mkF m 1 #[sR a1] [(vR a1)])) rfl rfl (hb hby d5_1)
  obtain ⟨T2, X2, e2, st2⟩ := getF X1 hx hZ hown (host := "") (Or.inl (hw _ m22)) Via.refl e1 PF2 (g := (mkF m 5 #[sR a1] [(vR a1), (vI 1)])) rfl rfl (hb hby d5_5)
  have sf3 := (sf0 : ∀ x ∈ [], Safe Z EL s.vm h0 x)
  obtain ⟨_, T3, L3, ⟨rfl, N3q, e3⟩, X3, st3⟩ := cV X2 hx hZ (W := 1) hown (cw8 cx) (rm11 cx a2 a3 ck4 O0 PF3 PV4 PF5 PE6) e2 PE6 (g := (mkF m 8 #[sR a1] [(vR a2), (vI 1)])) rfl hml rfl (rest := [(vI 1)]) rfl rfl rfl rfl (hb hby d5_8) (by decide)
  obtain ⟨sa4, T4, h4, k14, sb4, k4, X4, e4, E4, hS4, hk4, hZ4, hown4, A4, Fc4, Fv4, V4, la4, lb4, Cq4, -, hn4, st4⟩ := ldcCH X3 hx hZ hown (hw _ m49) (own_str hw hj) e3 hS0 (Nat.le_refl _) (own_EW hw hj) (List.mem_of_getElem? (i := 0) rfl) C0.1 (vs := [(.int (32 : Int32)), (.int (9 : Int32)), (.int (13 : Int32)), (.int (10 : Int32))]) (z := (4 : Int32)) ⟨by decide, by decide⟩ (by decide) (by decide) (g := (mkF m 14 #[sR a1] [])) rfl (hb hby d5_14) (n := 16) (by decide) (by decide) (by decide) (by decide)
  have O4 : Old Z n0 h4 := O0.ext E4
  have K4 : Keep h0 h4 [] := (Keep.refl h0 []).ext E4
  have C4 := C0.trans Cq4
  have f5 : Fld Z h4 a1 z1 "text" z20 (vR a2) := (PF2.ext E4)
  obtain ⟨T6, X6, e6, st6⟩ := getF X4 hx hZ4 hown4 (host := "") (Or.inl (hw _ m22)) Via.refl e4 f5 (g := (mkF m 17 #[sR a1] [(vR a1), (vR sa4)])) rfl rfl (hb hby d5_17)
  have f7 : Fld Z h4 a1 z1 "at" "I" (vI 1) := (PF1.ext E4)
  obtain ⟨T8, X8, e8, st8⟩ := getF X6 hx hZ4 hown4 (host := "") (Or.inl (hw _ m34)) Via.refl e6 f7 (g := (mkF m 21 #[sR a1] [(vR a1), (vR a2), (vR sa4)])) rfl rfl (hb hby d5_21)
  have f10 : Fld Z h4 a2 z3 "coder" "B" (vI 0) := (PF5.ext E4)
  have f11 : Exa Z h4 a2 z3 := (PE6.ext E4)
  have f12 : Fld Z h4 a2 z3 "value" "[B" (vR a3) := (PF3.ext E4)
  have f13 : Arv Z h4 a3 ck4 .byte (2 : Int32) [(vI 123), (vI 125)] (vI 0) := (PV4.ext E4)
  have sf9 := (sf0 : ∀ x ∈ [], Safe Z EL T4.vm h4 x)
  obtain ⟨_, T9, L9, ⟨rfl, N9q, e9⟩, X9, st9⟩ := cV X8 hx hZ4 (W := 1) hown4 (cw13 cx) (rm30 cx a2 a3 ck4 O4 f10 f11 f12 f13) e8 f11 (g := (mkF m 24 #[sR a1] [(vI 1), (vR a2), (vR sa4)])) rfl hml rfl (rest := [(vR sa4)]) rfl rfl rfl rfl (hb hby d5_24) (by decide)
  have sf14 := (sf0 : ∀ x ∈ [], Safe Z EL T4.vm h4 x)
  obtain ⟨_, T14, L14, ⟨rfl, N14q, e14⟩, X14, st14⟩ := cV X9 hx hZ4 (W := 0) hown4 (cw21 cx) (rm34 cx sa4 sb4 k4 O4 Fc4 A4 Fv4 V4) e9 A4 (g := (mkF m 27 #[sR a1] [(vI 125), (vR sa4)])) rfl hml rfl (rest := []) rfl rfl rfl rfl (hb hby d5_27) (by decide)
  refine own_endW X14 hlk (v := none) (fun _ => rfl) hS4 hk4 (by decide) hh e14 C4 hZ4 (own_EW hw hj) (by rw [e14]; exact ⟨rfl, (Fr.app (Fr.app (Fr.app N0 N3q) N9q) N14q), K4⟩) fun fs hr => ?_
  show St p e below s₁ (mkF m 0 #[sR a1] []) _
  refine wal X0 hx hby rfl d5_0 rfl rfl ?_
  refine st1 _ ?_
  refine wal X1 hx hby rfl d5_4 rfl rfl ?_
  refine st2 _ ?_
  refine st3 _ ?_
  refine wcn X3 hx hby rfl d5_11 rfl (tlt (by decide : (1 : Int32) < (2 : Int32))).2.1 ?_
  refine st4 _ ?_
  refine wal X4 hx hby rfl d5_16 rfl rfl ?_
  refine st6 _ ?_
  refine wal X6 hx hby rfl d5_20 rfl rfl ?_
  refine st8 _ ?_
  refine st9 _ ?_
  refine st14 _ ?_
  refine wfy X14 hx hby rfl (pc0 := 30) (pc' := 46) rfl d5_30 rfl ((if0 _ _).trans (tlt (by decide : (-1 : Int32) < (0 : Int32))).1) (by decide) (by decide) ?_
  exact X14.returnOut hx hret (hb hby d5_46) hr
def Qrm36 (Z : State) (a1 : Addr) (a2 : Addr) (h0 : Heap) (n0 : Nat) (v : Option Value) (h : Heap) (L : List Loc) : Prop := v = some (vI 1) ∧ Fr n0 L ∧ Keep h0 h [a1] ∧ Fld Z h a1 z1 "text" z20 (vR a2) ∧ Fld Z h a1 z1 "at" "I" (vI 2)
theorem rm36 (cx : Cx Z a0 w1 w2 w3 clw3 w4 kw4 w5 kw5) (a1 : Addr) (a2 : Addr) (a3 : Addr) (ck4 : ClassId) (O0 : Old Z n0 h0) (PE1 : Exa Z h0 a1 z1) (PF2 : Fld Z h0 a1 z1 "text" z20 (vR a2)) (PF3 : Fld Z h0 a1 z1 "at" "I" (vI 1)) (PF4 : Fld Z h0 a2 z3 "value" "[B" (vR a3)) (PV5 : Arv Z h0 a3 ck4 .byte (2 : Int32) [(vI 123), (vI 125)] (vI 0)) (PF6 : Fld Z h0 a2 z3 "coder" "B" (vI 0)) (PE7 : Exa Z h0 a2 z3) (gn8 : n0 ≤ a1) : Ct l Z ⟨z1, "take", "(C)Z"⟩ prog_17_method_10_code 3 (some .boolean) ⟨4, 0, 0, 53⟩ #[(vR a1), (vI 125)] h0 (Qrm36 Z a1 a2 h0 n0) := by
  obtain ⟨hw, hj, hS⟩ := id cx
  refine own_bd (plainFor_of_name pn153) (fun m => ef503 m a1 125) fun p e s m below meth c s₁ hret hlk hZ hx hby hml hown hnm X0 e0 => ?_
  have N0 := Fr.nil n0
  obtain ⟨T1, X1, e1, st1⟩ := getF X0 hx hZ hown (host := "") (Or.inl (hw _ m34)) Via.refl e0 PF3 (g := (mkF m 1 #[sR a1, sI 125, sU] [(vR a1)])) rfl rfl (hb hby d24_1)
  obtain ⟨T2, X2, e2, st2⟩ := getF X1 hx hZ hown (host := "") (Or.inl (hw _ m22)) Via.refl e1 PF2 (g := (mkF m 5 #[sR a1, sI 125, sU] [(vR a1), (vI 1)])) rfl rfl (hb hby d24_5)
  obtain ⟨_, T3, L3, ⟨rfl, N3q, e3⟩, X3, st3⟩ := cV X2 hx hZ (W := 1) hown (cw8 cx) (rm11 cx a2 a3 ck4 O0 PF4 PV5 PF6 PE7) e2 PE7 (g := (mkF m 8 #[sR a1, sI 125, sU] [(vR a2), (vI 1)])) rfl hml rfl (rest := [(vI 1)]) rfl rfl rfl rfl (hb hby d24_8) (by decide)
  obtain ⟨T4, X4, e4, st4⟩ := getF X3 hx hZ hown (host := "") (Or.inl (hw _ m22)) Via.refl e3 PF2 (g := (mkF m 15 #[sR a1, sI 125, sU] [(vR a1)])) rfl rfl (hb hby d24_15)
  obtain ⟨T5, X5, e5, st5⟩ := getF X4 hx hZ hown (host := "") (Or.inl (hw _ m34)) Via.refl e4 PF3 (g := (mkF m 19 #[sR a1, sI 125, sU] [(vR a1), (vR a2)])) rfl rfl (hb hby d24_19)
  obtain ⟨_, T6, L6, ⟨rfl, N6q, e6⟩, X6, st6⟩ := cV X5 hx hZ (W := 0) hown (cw13 cx) (rm30 cx a2 a3 ck4 O0 PF6 PE7 PF4 PV5) e5 PE7 (g := (mkF m 22 #[sR a1, sI 125, sU] [(vI 1), (vR a2)])) rfl hml rfl (rest := []) rfl rfl rfl rfl (hb hby d24_22) (by decide)
  obtain ⟨T7, X7, e7, st7⟩ := getF X6 hx hZ hown (host := "") (Or.inl (hw _ m34)) Via.refl e6 PF3 (g := (mkF m 41 #[sR a1, sI 125, sI 1] [(vR a1), (vR a1)])) rfl rfl (hb hby d24_41)
  obtain ⟨T8, h8, L'8, X8, e8, W8, Fw8, O8, K8, N8, st8⟩ := own_put X7 hx hZ hown (host := "") (Or.inl (hw _ m34)) Via.refl e7 O0 (Keep.refl h0 [a1]) (Fr.app (Fr.app N0 N3q) N6q) gn8 (Or.inl (List.mem_of_getElem? (i := 0) rfl)) PF3 PE1 (Or.inl (hw _ m35)) (hw _ m14) (ty := .int) (by decide) rfl rfl (g := (mkF m 46 #[sR a1, sI 125, sI 1] [(vI 2), (vR a1)])) rfl rfl (hb hby d24_46)
  have f9 : Fld Z h8 a1 z1 "text" z20 (vR a2) := (PF2.other W8 (Or.inr (slot_ne (Or.inr (hw _ m23)) (Or.inl (hw _ m35)) (by decide) (t := (.object z3)) (t' := .int) (by decide) (by decide))))
  refine own_end X8 hlk (v := some (vI 1)) (own_hv hret) (by decide) (by rw [e8]; exact ⟨rfl, N8, K8, f9, Fw8⟩) fun fs hr => ?_
  show St p e below s₁ (mkF m 0 #[sR a1, sI 125, sU] []) _
  refine wal X0 hx hby rfl d24_0 rfl rfl ?_
  refine st1 _ ?_
  refine wal X1 hx hby rfl d24_4 rfl rfl ?_
  refine st2 _ ?_
  refine st3 _ ?_
  refine wcn X3 hx hby rfl d24_11 rfl (tlt (by decide : (1 : Int32) < (2 : Int32))).2.1 ?_
  refine wal X3 hx hby rfl d24_14 rfl rfl ?_
  refine st4 _ ?_
  refine wal X4 hx hby rfl d24_18 rfl rfl ?_
  refine st5 _ ?_
  refine st6 _ ?_
  refine wil X6 hx hby rfl d24_25 rfl ?_
  refine wcn X6 hx hby rfl d24_26 rfl (teq (by decide : (125 : Int32) = (125 : Int32))).2 ?_
  refine wic X6 hx hby rfl d24_29 ?_
  refine wgt X6 hx hby rfl (pc0 := 30) (pc' := 34) rfl d24_30 (by decide) (by decide) ?_
  refine wis X6 hx hby rfl d24_34 rfl (l' := #[sR a1, sI 125, sI 1]) rfl ?_
  show St p e below T6 (mkF m 35 #[sR a1, sI 125, sI 1] []) _
  refine wil X6 hx hby rfl d24_35 rfl ?_
  refine wfn X6 hx hby rfl d24_36 rfl ((if0 _ _).trans (feq (by decide : ¬ ((1 : Int32) = (0 : Int32)))).1) ?_
  refine wal X6 hx hby rfl d24_39 rfl rfl ?_
  refine wdu X6 hx hby rfl d24_40 rfl rfl ?_
  refine st7 _ ?_
  refine wic X7 hx hby rfl d24_44 ?_
  refine Own.iadd X7.here hx rfl (hb hby d24_45) rfl (by decide : ((1 : Int32) + (1 : Int32)) = (2 : Int32)) ?_
  refine st8 _ ?_
  refine wil X8 hx hby rfl d24_49 rfl ?_
  exact retN X8 hx (t := .boolean) hret (by simp) (hb hby d24_50) hr
def Qrm37 (Z : State) (a1 : Addr) (a2 : Addr) (h0 : Heap) (n0 : Nat) (v : Option Value) (h : Heap) (L : List Loc) : Prop := ∃ x0 : Addr, v = some (vR x0) ∧ Fr n0 L ∧ Keep h0 h [a1] ∧ h0.size ≤ x0 ∧ Exa Z h x0 z5 ∧ Fld Z h x0 z17 "loadFactor" "F" (.float (1061158912 : UInt32)) ∧ Fld Z h x0 z5 "putMode" "I" (vI 0) ∧ Fld Z h x0 z5 z25 "Z" (vI 0) ∧ Fld Z h a1 z1 "text" z20 (vR a2) ∧ Fld Z h a1 z1 "at" "I" (vI 2)
theorem rm37 (cx : Cx Z a0 w1 w2 w3 clw3 w4 kw4 w5 kw5) (a1 : Addr) (a2 : Addr) (a3 : Addr) (ck4 : ClassId) (O0 : Old Z n0 h0) (PE1 : Exa Z h0 a1 z1) (PF2 : Fld Z h0 a1 z1 "text" z20 (vR a2)) (PF3 : Fld Z h0 a1 z1 "at" "I" (vI 0)) (gn4 : n0 ≤ a1) (PF5 : Fld Z h0 a2 z3 "value" "[B" (vR a3)) (pne6 : a2 ≠ a1) (PV7 : Arv Z h0 a3 ck4 .byte (2 : Int32) [(vI 123), (vI 125)] (vI 0)) (pne8 : a3 ≠ a1) (PF9 : Fld Z h0 a2 z3 "coder" "B" (vI 0)) (PE10 : Exa Z h0 a2 z3) : CtW EL [] l Z ⟨z1, "object", "(I)Ljava/util/Map;"⟩ prog_17_method_3_code 4 (some (.object z16)) ⟨5, 3, 32, 71⟩ #[(vR a1), (vI 0)] h0 (Qrm37 Z a1 a2 h0 n0) := by
  obtain ⟨hw, hj, hS⟩ := id cx
  refine own_bdW (plainFor_of_name pn153) (fun m => ef511 m a1 0) fun p e s m below meth c s₁ hret hlk hZ hx hby hml hown hnm X0 e0 hh C0 hsx hS0 => ?_
  have N0 := Fr.nil n0
  obtain ⟨T1, h1, b1, X1, e1, E1, A1, D1, g1, O1, K1, st1⟩ := own_newO X0 hx hZ hown (hw _ m103) (hw _ m104) (hw _ m105) e0 O0 (Keep.refl h0 [a1]) (g := (mkF m 0 #[sR a1, sI 0, sU, sU] [])) rfl (hb hby d20_0) (by decide) (by decide)
  have C1 := C0.trans (CHr.ext E1 C0.1)
  have F1_1 : Fld Z h1 b1 z17 "loadFactor" "F" (.float (0 : UInt32)) := D1 (Or.inr (hw _ m124)) (ty := .float) (by decide)
  have F1_2 : Fld Z h1 b1 z5 "putMode" "I" (vI 0) := D1 (Or.inl (hw _ m126)) (ty := .int) (by decide)
  have F1_3 : Fld Z h1 b1 z5 z25 "Z" (vI 0) := D1 (Or.inr (hw _ m128)) (ty := .boolean) (by decide)
  have sf2 := ((sfS (Safe.exa (EL := EL) hZ.alike A1 (by decide) (by decide)) sf0) : ∀ x ∈ [b1], Safe Z EL s.vm h1 x)
  obtain ⟨_, T2, L2, ⟨rfl, N2q, Kq2, q2_0, q2_1, q2_2⟩, X2, st2⟩ := cI X1 hx hZ (W := 1) hown (cw25 cx) (rm28 cx b1 O1 A1 F1_1 F1_2 F1_3 (Nat.le_trans (own_old_le O0) g1)) e1 (g := (mkF m 4 #[sR a1, sI 0, sU, sU] [(vR b1), (vR b1)])) rfl hml rfl (rest := [(vR b1)]) rfl rfl rfl rfl (hb hby d20_4) (by decide)
  have N2 := Fr.app N0 N2q
  have C2 := C1.trans (CHr.keep Kq2 sf2 C1.1)
  have O2 : Old Z n0 T2.heap := O1.keep Kq2 (allS (Nat.le_trans (own_old_le O0) g1) all0)
  have K2 : Keep h0 T2.heap [a1] := K1.trans Kq2 (allS (Or.inr (Nat.le_trans (Keep.refl h0 [a1]).1 g1)) all0)
  have f3 : Fld Z T2.heap a1 z1 "at" "I" (vI 0) := ((PF3.ext E1).keep Kq2 (ninS (Nat.ne_of_lt (Nat.lt_of_lt_of_le PE1.lt g1)) nin0))
  obtain ⟨T4, X4, e4, st4⟩ := getF X2 hx hZ hown (host := "") (Or.inl (hw _ m34)) Via.refl (rfl : T2.heap = T2.heap) f3 (g := (mkF m 10 #[sR a1, sI 0, sR b1, sU] [(vR a1), (vR a1)])) rfl rfl (hb hby d20_10)
  have f5 : Exa Z T2.heap a1 z1 := ((PE1.ext E1).keep Kq2)
  obtain ⟨T6, h6, L'6, X6, e6, W6, Fw6, O6, K6, N6, st6⟩ := own_put X4 hx hZ hown (host := "") (Or.inl (hw _ m34)) Via.refl e4 O2 K2 N2 gn4 (Or.inl (List.mem_of_getElem? (i := 0) rfl)) f3 f5 (Or.inl (hw _ m35)) (hw _ m14) (ty := .int) (by decide) rfl rfl (g := (mkF m 15 #[sR a1, sI 0, sR b1, sU] [(vI 1), (vR a1)])) rfl rfl (hb hby d20_15)
  have sf6 := (Safe.exa (EL := EL) hZ.alike f5 (by decide) (by decide))
  have C6 := C2.trans (CHr.wr W6 sf6 C2.1)
  have f8 : Fld Z h6 a1 z1 "text" z20 (vR a2) := (((PF2.ext E1).keep Kq2 (ninS (Nat.ne_of_lt (Nat.lt_of_lt_of_le PE1.lt g1)) nin0)).other W6 (Or.inr (slot_ne (Or.inr (hw _ m23)) (Or.inl (hw _ m35)) (by decide) (t := (.object z3)) (t' := .int) (by decide) (by decide))))
  have f9 : Fld Z h6 a2 z3 "value" "[B" (vR a3) := (((PF5.ext E1).keep Kq2 (ninS (Nat.ne_of_lt (Nat.lt_of_lt_of_le PF5.lt g1)) nin0)).other W6 (Or.inl pne6))
  have f10 : Arv Z h6 a3 ck4 .byte (2 : Int32) [(vI 123), (vI 125)] (vI 0) := (((PV7.ext E1).keep Kq2 (ninS (Nat.ne_of_lt (Nat.lt_of_lt_of_le PV7.lt g1)) nin0)).other W6 pne8)
  have f11 : Fld Z h6 a2 z3 "coder" "B" (vI 0) := (((PF9.ext E1).keep Kq2 (ninS (Nat.ne_of_lt (Nat.lt_of_lt_of_le PF5.lt g1)) nin0)).other W6 (Or.inl pne6))
  have f12 : Exa Z h6 a2 z3 := (((PE10.ext E1).keep Kq2).wr W6)
  have f13 : Exa Z h6 a1 z1 := (f5.wr W6)
  obtain ⟨_, T7, L7, ⟨rfl, N7q, Kq7⟩, hS7, hZ7, hown7, Cq7, X7, st7⟩ := cVW X6 hx hZ (W := 0) hown (cw22 cx) (rm35 cx a1 a2 a3 ck4 O6 Fw6 f8 f9 f10 f11 f12) e6 hS0 (Nat.le_trans (Nat.le_refl _) (Nat.le_trans (Nat.le_trans E1.1 Kq2.1) (Nat.le_of_eq W6.size.symm))) (own_EW hw hj) C6.1 own_sx0 f13 (g := (mkF m 19 #[sR a1, sI 0, sR b1, sU] [(vR a1)])) rfl hml rfl (rest := []) rfl rfl rfl rfl (hb hby d20_19) (by decide)
  have N7 := Fr.app N6 N7q
  have C7 := C6.trans Cq7
  have O7 : Old Z n0 T7.heap := O6.keep Kq7 all0
  have K7 : Keep h0 T7.heap [a1] := K6.trans Kq7 all0
  have f15 : Exa Z T7.heap a1 z1 := (f13.keep Kq7)
  have f16 : Fld Z T7.heap a1 z1 "text" z20 (vR a2) := (f8.keep Kq7 nin0)
  have f17 : Fld Z T7.heap a1 z1 "at" "I" (vI 1) := (Fw6.keep Kq7 nin0)
  have f18 : Fld Z T7.heap a2 z3 "value" "[B" (vR a3) := (f9.keep Kq7 nin0)
  have f19 : Arv Z T7.heap a3 ck4 .byte (2 : Int32) [(vI 123), (vI 125)] (vI 0) := (f10.keep Kq7 nin0)
  have f20 : Fld Z T7.heap a2 z3 "coder" "B" (vI 0) := (f11.keep Kq7 nin0)
  have f21 : Exa Z T7.heap a2 z3 := (f12.keep Kq7)
  have sf14 := ((sfS (Safe.exa (EL := EL) hZ7.alike f15 (by decide) (by decide)) sf0) : ∀ x ∈ [a1], Safe Z EL T7.vm T7.heap x)
  obtain ⟨_, T14, L14, ⟨rfl, N14q, Kq14, q14_0, q14_1⟩, X14, st14⟩ := own_private X7 hx hZ7 (W := 0) hown7 (hw _ m129) (hw _ m130) (mvT hZ7 (own_selP (hw _ m130) (hw _ m131) (hw _ m14) (by decide))) (hw _ m131) (hw _ m15) (hw _ m132) (by decide) (rm36 cx a1 a2 a3 ck4 O7 f15 f16 f17 f18 f19 f20 f21 gn4) (rfl : T7.heap = T7.heap) f15 (g := (mkF m 25 #[sR a1, sI 0, sR b1, sU] [(vI 125), (vR a1)])) rfl hml rfl (rest := []) (lenOf pd505 rfl) rfl rfl rfl (hb hby d20_25) (by decide)
  have N14 := Fr.app N7 N14q
  have C14 := C7.trans (CHr.keep Kq14 sf14 C7.1)
  have O14 : Old Z n0 T14.heap := O7.keep Kq14 (allS gn4 all0)
  have K14 : Keep h0 T14.heap [a1] := K7.trans Kq14 (allS (Or.inl (List.mem_of_getElem? (i := 0) rfl)) all0)
  have f22 : Exa Z T14.heap b1 z5 := ((((A1.keep Kq2).wr W6).keep Kq7).keep Kq14)
  have f23 : Fld Z T14.heap b1 z17 "loadFactor" "F" (.float (1061158912 : UInt32)) := (((q2_0.other W6 (Or.inl (Ne.symm (Nat.ne_of_lt (Nat.lt_of_lt_of_le PE1.lt g1))))).keep Kq7 nin0).keep Kq14 (ninS (Ne.symm (Nat.ne_of_lt (Nat.lt_of_lt_of_le PE1.lt g1))) nin0))
  have f24 : Fld Z T14.heap b1 z5 "putMode" "I" (vI 0) := (((q2_1.other W6 (Or.inl (Ne.symm (Nat.ne_of_lt (Nat.lt_of_lt_of_le PE1.lt g1))))).keep Kq7 nin0).keep Kq14 (ninS (Ne.symm (Nat.ne_of_lt (Nat.lt_of_lt_of_le PE1.lt g1))) nin0))
  have f25 : Fld Z T14.heap b1 z5 z25 "Z" (vI 0) := (((q2_2.other W6 (Or.inl (Ne.symm (Nat.ne_of_lt (Nat.lt_of_lt_of_le PE1.lt g1))))).keep Kq7 nin0).keep Kq14 (ninS (Ne.symm (Nat.ne_of_lt (Nat.lt_of_lt_of_le PE1.lt g1))) nin0))
  refine own_endW X14 hlk (v := some (vR b1)) (own_hv hret) hS7 (Nat.le_trans (Nat.le_refl _) Kq14.1) (by decide) hh (rfl : T14.heap = T14.heap) C14 hZ7 (own_EW hw hj) ⟨b1, rfl, N14, K14, (Nat.le_trans (Keep.refl h0 [a1]).1 g1), f22, f23, f24, f25, q14_0, q14_1⟩ fun fs hr => ?_
  show St p e below s₁ (mkF m 0 #[sR a1, sI 0, sU, sU] []) _
  refine st1 _ ?_
  refine wdu X1 hx hby rfl d20_3 rfl rfl ?_
  refine st2 _ ?_
  refine was X2 hx hby rfl d20_7 rfl rfl (l' := #[sR a1, sI 0, sR b1, sU]) rfl ?_
  refine wal X2 hx hby rfl d20_8 rfl rfl ?_
  refine wdu X2 hx hby rfl d20_9 rfl rfl ?_
  refine st4 _ ?_
  refine wic X4 hx hby rfl d20_13 ?_
  refine Own.iadd X4.here hx rfl (hb hby d20_14) rfl (by decide : ((0 : Int32) + (1 : Int32)) = (1 : Int32)) ?_
  refine st6 _ ?_
  refine wal X6 hx hby rfl d20_18 rfl rfl ?_
  refine st7 _ ?_
  refine wal X7 hx hby rfl d20_22 rfl rfl ?_
  refine wbp X7 hx hby rfl d20_23 ?_
  refine st14 _ ?_
  refine wfn X14 hx hby rfl d20_28 rfl ((if0 _ _).trans (feq (by decide : ¬ ((1 : Int32) = (0 : Int32)))).1) ?_
  show St p e below T14 (mkF m 31 #[sR a1, sI 0, sR b1, sU] []) _
  refine wal X14 hx hby rfl d20_31 rfl rfl ?_
  exact retOut X14 hx hret rfl (Or.inr (Or.inr (Or.inr (Or.inr ⟨rfl, rfl, rfl⟩)))) (hb hby d20_32) hr
def Qrm38 (Z : State) (a1 : Addr) (a2 : Addr) (h0 : Heap) (n0 : Nat) (v : Option Value) (h : Heap) (L : List Loc) : Prop := ∃ x0 : Addr, v = some (vR x0) ∧ Fr n0 L ∧ Keep h0 h [a1] ∧ h0.size ≤ x0 ∧ Exa Z h x0 z5 ∧ Fld Z h x0 z17 "loadFactor" "F" (.float (1061158912 : UInt32)) ∧ Fld Z h x0 z5 "putMode" "I" (vI 0) ∧ Fld Z h x0 z5 z25 "Z" (vI 0) ∧ Fld Z h a1 z1 "text" z20 (vR a2) ∧ Fld Z h a1 z1 "at" "I" (vI 2)
theorem rm38 (cx : Cx Z a0 w1 w2 w3 clw3 w4 kw4 w5 kw5) (a1 : Addr) (a2 : Addr) (a3 : Addr) (ck4 : ClassId) (O0 : Old Z n0 h0) (PE1 : Exa Z h0 a1 z1) (PF2 : Fld Z h0 a1 z1 "text" z20 (vR a2)) (PF3 : Fld Z h0 a1 z1 "at" "I" (vI 0)) (PF4 : Fld Z h0 a2 z3 "value" "[B" (vR a3)) (PV5 : Arv Z h0 a3 ck4 .byte (2 : Int32) [(vI 123), (vI 125)] (vI 0)) (PF6 : Fld Z h0 a2 z3 "coder" "B" (vI 0)) (PE7 : Exa Z h0 a2 z3) (gn8 : n0 ≤ a1) (pne9 : a2 ≠ a1) (pne10 : a3 ≠ a1) : CtW EL [] l Z ⟨z1, "value", z10⟩ prog_17_method_2_code 4 (some (.object z2)) ⟨6, 5, 52, 86⟩ #[(vR a1), (vI 0)] h0 (Qrm38 Z a1 a2 h0 n0) := by
  obtain ⟨hw, hj, hS⟩ := id cx
  refine own_bdW (plainFor_of_name pn153) (fun m => ef511 m a1 0) fun p e s m below meth c s₁ hret hlk hZ hx hby hml hown hnm X0 e0 hh C0 hsx hS0 => ?_
  have N0 := Fr.nil n0
  obtain ⟨_, T1, L1, ⟨rfl, N1q, Kq1⟩, hS1, hZ1, hown1, Cq1, X1, st1⟩ := cVW X0 hx hZ (W := 0) hown (cw22 cx) (rm25 cx a1 a2 a3 ck4 O0 PF3 PF2 PF4 PV5 PF6 PE7) e0 hS0 (Nat.le_refl _) (own_EW hw hj) C0.1 own_sx0 PE1 (g := (mkF m 1 #[sR a1, sI 0, sU, sU] [(vR a1)])) rfl hml rfl (rest := []) rfl rfl rfl rfl (hb hby d4_1) (by decide)
  have N1 := Fr.app N0 N1q
  have C1 := C0.trans Cq1
  have O1 : Old Z n0 T1.heap := O0.keep Kq1 all0
  have K1 : Keep h0 T1.heap [a1] := (Keep.refl h0 [a1]).trans Kq1 all0
  have f2 : Fld Z T1.heap a1 z1 "at" "I" (vI 0) := (PF3.keep Kq1 nin0)
  obtain ⟨T3, X3, e3, st3⟩ := getF X1 hx hZ1 hown1 (host := "") (Or.inl (hw _ m34)) Via.refl (rfl : T1.heap = T1.heap) f2 (g := (mkF m 5 #[sR a1, sI 0, sU, sU] [(vR a1)])) rfl rfl (hb hby d4_5)
  have f4 : Fld Z T1.heap a1 z1 "text" z20 (vR a2) := (PF2.keep Kq1 nin0)
  obtain ⟨T5, X5, e5, st5⟩ := getF X3 hx hZ1 hown1 (host := "") (Or.inl (hw _ m22)) Via.refl e3 f4 (g := (mkF m 9 #[sR a1, sI 0, sU, sU] [(vR a1), (vI 0)])) rfl rfl (hb hby d4_9)
  have f7 : Fld Z T1.heap a2 z3 "value" "[B" (vR a3) := (PF4.keep Kq1 nin0)
  have f8 : Arv Z T1.heap a3 ck4 .byte (2 : Int32) [(vI 123), (vI 125)] (vI 0) := (PV5.keep Kq1 nin0)
  have f9 : Fld Z T1.heap a2 z3 "coder" "B" (vI 0) := (PF6.keep Kq1 nin0)
  have f10 : Exa Z T1.heap a2 z3 := (PE7.keep Kq1)
  have sf6 := (sf0 : ∀ x ∈ [], Safe Z EL T1.vm T1.heap x)
  obtain ⟨_, T6, L6, ⟨rfl, N6q, e6⟩, X6, st6⟩ := cV X5 hx hZ1 (W := 1) hown1 (cw8 cx) (rm11 cx a2 a3 ck4 O1 f7 f8 f9 f10) e5 f10 (g := (mkF m 12 #[sR a1, sI 0, sU, sU] [(vR a2), (vI 0)])) rfl hml rfl (rest := [(vI 0)]) rfl rfl rfl rfl (hb hby d4_12) (by decide)
  obtain ⟨T11, X11, e11, st11⟩ := getF X6 hx hZ1 hown1 (host := "") (Or.inl (hw _ m22)) Via.refl e6 f4 (g := (mkF m 39 #[sR a1, sI 0, sU, sU] [(vR a1)])) rfl rfl (hb hby d4_39)
  obtain ⟨T12, X12, e12, st12⟩ := getF X11 hx hZ1 hown1 (host := "") (Or.inl (hw _ m34)) Via.refl e11 f2 (g := (mkF m 43 #[sR a1, sI 0, sU, sU] [(vR a1), (vR a2)])) rfl rfl (hb hby d4_43)
  have sf13 := (sf0 : ∀ x ∈ [], Safe Z EL T1.vm T1.heap x)
  obtain ⟨_, T13, L13, ⟨rfl, N13q, e13⟩, X13, st13⟩ := cV X12 hx hZ1 (W := 0) hown1 (cw13 cx) (rm16 cx a2 a3 ck4 O1 f9 f10 f7 f8) e12 f10 (g := (mkF m 46 #[sR a1, sI 0, sU, sU] [(vI 0), (vR a2)])) rfl hml rfl (rest := []) rfl rfl rfl rfl (hb hby d4_46) (by decide)
  have f15 : Exa Z T1.heap a1 z1 := (PE1.keep Kq1)
  obtain ⟨_, T14, L14, ⟨c14_0, rfl, N14q, Kq14, lo14_0, q14_0, q14_1, q14_2, q14_3, q14_4, q14_5⟩, hS14, hZ14, hown14, Cq14, X14, st14⟩ := own_privateW X13 hx hZ1 (W := 0) hown1 (hw _ m99) (hw _ m100) (mvT hZ1 (own_selP (hw _ m100) (hw _ m101) (hw _ m14) (by decide))) (hw _ m101) (hw _ m15) (hw _ m102) (by decide) (rm37 cx a1 a2 a3 ck4 O1 f15 f4 f2 gn8 f7 pne9 f8 pne10 f9 f10) e13 hS1 (Nat.le_refl _) (own_EW hw hj) C1.1 own_sx0 f15 (g := (mkF m 110 #[sR a1, sI 0, sI 123, sU] [(vI 0), (vR a1)])) rfl hml rfl (rest := []) (lenOf pd513 rfl) rfl rfl rfl (hb hby d4_110) (by decide)
  have N14 := Fr.app (Fr.app (Fr.app N1 N6q) N13q) N14q
  have C14 := C1.trans Cq14
  have O14 : Old Z n0 T14.heap := O1.keep Kq14 (allS gn8 all0)
  have K14 : Keep h0 T14.heap [a1] := K1.trans Kq14 (allS (Or.inl (List.mem_of_getElem? (i := 0) rfl)) all0)
  refine own_endW X14 hlk (v := some (vR c14_0)) (own_hv hret) hS14 (Nat.le_refl _) (by decide) hh (rfl : T14.heap = T14.heap) C14 hZ14 (own_EW hw hj) ⟨c14_0, rfl, N14, K14, (Nat.le_trans K1.1 lo14_0), q14_0, q14_1, q14_2, q14_3, q14_4, q14_5⟩ fun fs hr => ?_
  show St p e below s₁ (mkF m 0 #[sR a1, sI 0, sU, sU] []) _
  refine wal X0 hx hby rfl d4_0 rfl rfl ?_
  refine st1 _ ?_
  refine wal X1 hx hby rfl d4_4 rfl rfl ?_
  refine st3 _ ?_
  refine wal X3 hx hby rfl d4_8 rfl rfl ?_
  refine st5 _ ?_
  refine st6 _ ?_
  refine wcy X6 hx hby rfl (pc0 := 15) (pc' := 25) rfl d4_15 rfl (feq (by decide : ¬ ((0 : Int32) = (2 : Int32)))).2 (by decide) (by decide) ?_
  refine wil X6 hx hby rfl d4_25 rfl ?_
  refine wbp X6 hx hby rfl d4_26 ?_
  refine wcy X6 hx hby rfl (pc0 := 28) (pc' := 38) rfl d4_28 rfl (feq (by decide : ¬ ((0 : Int32) = (64 : Int32)))).2 (by decide) (by decide) ?_
  refine wal X6 hx hby rfl d4_38 rfl rfl ?_
  refine st11 _ ?_
  refine wal X11 hx hby rfl d4_42 rfl rfl ?_
  refine st12 _ ?_
  refine st13 _ ?_
  show St p e below T13 (mkF m 49 #[sR a1, sI 0, sU, sU] [(vI 123)]) _
  refine wis X13 hx hby rfl d4_49 rfl (l' := #[sR a1, sI 0, sI 123, sU]) rfl ?_
  refine wil X13 hx hby rfl d4_50 rfl ?_
  refine own_lsw X13.here hx rfl (o := 57) (pc0 := 51) (pc' := 108) rfl (hb hby d4_51) rfl (by decide) (by decide) (by decide) (by decide) ?_
  refine wal X13 hx hby rfl d4_108 rfl rfl ?_
  refine wil X13 hx hby rfl d4_109 rfl ?_
  refine st14 _ ?_
  refine was X14 hx hby rfl d4_113 rfl rfl (l' := #[sR a1, sI 0, sI 123, sR c14_0]) rfl ?_
  refine wgt X14 hx hby rfl (pc0 := 114) (pc' := 176) rfl d4_114 (by decide) (by decide) ?_
  refine wal X14 hx hby rfl d4_176 rfl rfl ?_
  exact retOut X14 hx hret rfl (Or.inr (Or.inr (Or.inr (Or.inr ⟨rfl, rfl, rfl⟩)))) (hb hby d4_177) hr
def Qrm39 (Z : State) (h0 : Heap) (n0 : Nat) (v : Option Value) (h : Heap) (L : List Loc) : Prop := v = none ∧ Fr n0 L ∧ h = h0
theorem rm39 (cx : Cx Z a0 w1 w2 w3 clw3 w4 kw4 w5 kw5) (a1 : Addr) (a2 : Addr) (a3 : Addr) (ck4 : ClassId) (O0 : Old Z n0 h0) (PF1 : Fld Z h0 a1 z1 "at" "I" (vI 2)) (PF2 : Fld Z h0 a1 z1 "text" z20 (vR a2)) (PF3 : Fld Z h0 a2 z3 "value" "[B" (vR a3)) (PV4 : Arv Z h0 a3 ck4 .byte (2 : Int32) [(vI 123), (vI 125)] (vI 0)) (PF5 : Fld Z h0 a2 z3 "coder" "B" (vI 0)) (PE6 : Exa Z h0 a2 z3) : Ct l Z ⟨z1, "skipSpace", "()V"⟩ prog_17_method_11_code 1 none ⟨2, 0, 0, 26⟩ #[(vR a1)] h0 (Qrm39 Z h0 n0) := by
  obtain ⟨hw, hj, hS⟩ := id cx
  refine own_bd (plainFor_of_name pn153) (fun m => ef44 m a1) fun p e s m below meth c s₁ hret hlk hZ hx hby hml hown hnm X0 e0 => ?_
  have N0 := Fr.nil n0
  obtain ⟨T1, X1, e1, st1⟩ := getF X0 hx hZ hown (host := "") (Or.inl (hw _ m34)) Via.refl e0 PF1 (g := (mkF m 1 #[sR a1] [(vR a1)])) rfl rfl (hb hby d5_1)
  obtain ⟨T2, X2, e2, st2⟩ := getF X1 hx hZ hown (host := "") (Or.inl (hw _ m22)) Via.refl e1 PF2 (g := (mkF m 5 #[sR a1] [(vR a1), (vI 2)])) rfl rfl (hb hby d5_5)
  obtain ⟨_, T3, L3, ⟨rfl, N3q, e3⟩, X3, st3⟩ := cV X2 hx hZ (W := 1) hown (cw8 cx) (rm11 cx a2 a3 ck4 O0 PF3 PV4 PF5 PE6) e2 PE6 (g := (mkF m 8 #[sR a1] [(vR a2), (vI 2)])) rfl hml rfl (rest := [(vI 2)]) rfl rfl rfl rfl (hb hby d5_8) (by decide)
  refine own_end X3 hlk (v := none) (fun _ => rfl) (by decide) (by rw [e3]; exact ⟨rfl, (Fr.app N0 N3q), rfl⟩) fun fs hr => ?_
  show St p e below s₁ (mkF m 0 #[sR a1] []) _
  refine wal X0 hx hby rfl d5_0 rfl rfl ?_
  refine st1 _ ?_
  refine wal X1 hx hby rfl d5_4 rfl rfl ?_
  refine st2 _ ?_
  refine st3 _ ?_
  refine wcy X3 hx hby rfl (pc0 := 11) (pc' := 46) rfl d5_11 rfl (flt (by decide : ¬ ((2 : Int32) < (2 : Int32)))).2.1 (by decide) (by decide) ?_
  exact X3.returnOut hx hret (hb hby d5_46) hr
def Qrm40 (Z : State) (a1 : Addr) (h0 : Heap) (n0 : Nat) (v : Option Value) (h : Heap) (L : List Loc) : Prop := v = some (vR a1) ∧ Fr n0 L ∧ h = h0
theorem rm40 (cx : Cx Z a0 w1 w2 w3 clw3 w4 kw4 w5 kw5) (a1 : Addr) (O0 : Old Z n0 h0) (PE1 : Exa Z h0 a1 z5) : Ct l Z ⟨z8, "asObject", "(Ljava/lang/Object;)Ljava/util/Map;"⟩ prog_16_method_10_code 1 (some (.object z16)) ⟨0, 0, 0, 0⟩ #[(vR a1)] h0 (Qrm40 Z a1 h0 n0) := by
  obtain ⟨hw, hj, hS⟩ := id cx
  refine own_bd (plainFor_of_name pn546) (fun m => ef44 m a1) fun p e s m below meth c s₁ hret hlk hZ hx hby hml hown hnm X0 e0 => ?_
  have N0 := Fr.nil n0
  obtain ⟨T1, X1, e1, st1⟩ := castY X0 hx hZ hown (hw _ m136) e0 (Ins.of_exa PE1 (hw _ m137)) (g := (mkF m 1 #[sR a1] [(vR a1)])) rfl rfl (hb hby d25_1)
  refine own_end X1 hlk (v := some (vR a1)) (own_hv hret) (by decide) (by rw [e1]; exact ⟨rfl, N0, rfl⟩) fun fs hr => ?_
  show St p e below s₁ (mkF m 0 #[sR a1] []) _
  refine wal X0 hx hby rfl d25_0 rfl rfl ?_
  refine st1 _ ?_
  exact retOut X1 hx hret rfl (Or.inr (Or.inr (Or.inr (Or.inr ⟨rfl, rfl, rfl⟩)))) (hb hby d25_4) hr
def Qrm41 (Z : State) (h0 : Heap) (n0 : Nat) (v : Option Value) (h : Heap) (L : List Loc) : Prop := ∃ x0 : Addr, v = some (vR x0) ∧ Fr n0 L ∧ Keep h0 h [] ∧ h0.size ≤ x0 ∧ Exa Z h x0 z5 ∧ Fld Z h x0 z17 "loadFactor" "F" (.float (1061158912 : UInt32)) ∧ Fld Z h x0 z5 "putMode" "I" (vI 0) ∧ Fld Z h x0 z5 z25 "Z" (vI 0)
theorem rm41 (cx : Cx Z a0 w1 w2 w3 clw3 w4 kw4 w5 kw5) (a1 : Addr) (a2 : Addr) (ck3 : ClassId) (O0 : Old Z n0 h0) (PF1 : Fld Z h0 a1 z3 "value" "[B" (vR a2)) (PV2 : Arv Z h0 a2 ck3 .byte (2 : Int32) [(vI 123), (vI 125)] (vI 0)) (PF3 : Fld Z h0 a1 z3 "coder" "B" (vI 0)) (PE4 : Exa Z h0 a1 z3) : CtW EL [] l Z ⟨z8, "parseObject", "(Ljava/lang/String;)Ljava/util/Map;"⟩ prog_16_method_2_code 3 (some (.object z16)) ⟨7, 6, 54, 101⟩ #[(vR a1)] h0 (Qrm41 Z h0 n0) := by
  obtain ⟨hw, hj, hS⟩ := id cx
  refine own_bdW (plainFor_of_name pn546) (fun m => ef552 m a1) fun p e s m below meth c s₁ hret hlk hZ hx hby hml hown hnm X0 e0 hh C0 hsx hS0 => ?_
  have N0 := Fr.nil n0
  obtain ⟨T1, h1, b1, X1, e1, E1, A1, D1, g1, O1, K1, st1⟩ := own_newO X0 hx hZ hown (hw _ m13) (hw _ m14) (hw _ m15) e0 O0 (Keep.refl h0 []) (g := (mkF m 0 #[sR a1, sU, sU] [])) rfl (hb hby d1_0) (by decide) (by decide)
  have C1 := C0.trans (CHr.ext E1 C0.1)
  have F1_1 : Fld Z h1 b1 z1 "text" z20 .null := D1 (Or.inr (hw _ m23)) (ty := (.object z3)) (by decide)
  have F1_2 : Fld Z h1 b1 z1 "at" "I" (vI 0) := D1 (Or.inl (hw _ m35)) (ty := .int) (by decide)
  have sf2 := ((sfS (Safe.exa (EL := EL) hZ.alike A1 (by decide) (by decide)) sf0) : ∀ x ∈ [b1], Safe Z EL s.vm h1 x)
  obtain ⟨_, T2, L2, ⟨rfl, N2q, Kq2, q2_0, q2_1⟩, X2, st2⟩ := cI X1 hx hZ (W := 1) hown (cw6 cx) (rm9 cx b1 a1 O1 A1 F1_1 F1_2 (Nat.le_trans (own_old_le O0) g1)) e1 (g := (mkF m 5 #[sR a1, sU, sU] [(vR a1), (vR b1), (vR b1)])) rfl hml rfl (rest := [(vR b1)]) rfl rfl rfl rfl (hb hby d1_5) (by decide)
  have N2 := Fr.app N0 N2q
  have C2 := C1.trans (CHr.keep Kq2 sf2 C1.1)
  have O2 : Old Z n0 T2.heap := O1.keep Kq2 (allS (Nat.le_trans (own_old_le O0) g1) all0)
  have K2 : Keep h0 T2.heap [] := K1.trans Kq2 (allS (Or.inr (Nat.le_trans (Keep.refl h0 []).1 g1)) all0)
  have f4 : Exa Z T2.heap b1 z1 := (A1.keep Kq2)
  have f5 : Fld Z T2.heap a1 z3 "value" "[B" (vR a2) := ((PF1.ext E1).keep Kq2 (ninS (Nat.ne_of_lt (Nat.lt_of_lt_of_le PF1.lt g1)) nin0))
  have f6 : Arv Z T2.heap a2 ck3 .byte (2 : Int32) [(vI 123), (vI 125)] (vI 0) := ((PV2.ext E1).keep Kq2 (ninS (Nat.ne_of_lt (Nat.lt_of_lt_of_le PV2.lt g1)) nin0))
  have f7 : Fld Z T2.heap a1 z3 "coder" "B" (vI 0) := ((PF3.ext E1).keep Kq2 (ninS (Nat.ne_of_lt (Nat.lt_of_lt_of_le PF1.lt g1)) nin0))
  have f8 : Exa Z T2.heap a1 z3 := ((PE4.ext E1).keep Kq2)
  obtain ⟨_, T3, L3, ⟨c3_0, rfl, N3q, Kq3, lo3_0, q3_0, q3_1, q3_2, q3_3, q3_4, q3_5⟩, hS3, hZ3, hown3, Cq3, X3, st3⟩ := cVW X2 hx hZ (W := 0) hown (cw26 cx) (rm38 cx b1 a1 a2 ck3 O2 f4 q2_0 q2_1 f5 f6 f7 f8 (Nat.le_trans (own_old_le O0) g1) (Nat.ne_of_lt (Nat.lt_of_lt_of_le PF1.lt g1)) (Nat.ne_of_lt (Nat.lt_of_lt_of_le PV2.lt g1))) (rfl : T2.heap = T2.heap) hS0 (Nat.le_trans (Nat.le_refl _) (Nat.le_trans E1.1 Kq2.1)) (own_EW hw hj) C2.1 own_sx0 f4 (g := (mkF m 11 #[sR a1, sR b1, sU] [(vI 0), (vR b1)])) rfl hml rfl (rest := []) rfl rfl rfl rfl (hb hby d1_11) (by decide)
  have N3 := Fr.app N2 N3q
  have C3 := C2.trans Cq3
  have O3 : Old Z n0 T3.heap := O2.keep Kq3 (allS (Nat.le_trans (own_old_le O0) g1) all0)
  have K3 : Keep h0 T3.heap [] := K2.trans Kq3 (allS (Or.inr (Nat.le_trans (Keep.refl h0 []).1 g1)) all0)
  have f10 : Fld Z T3.heap a1 z3 "value" "[B" (vR a2) := (f5.keep Kq3 (ninS (Nat.ne_of_lt (Nat.lt_of_lt_of_le PF1.lt g1)) nin0))
  have f11 : Arv Z T3.heap a2 ck3 .byte (2 : Int32) [(vI 123), (vI 125)] (vI 0) := (f6.keep Kq3 (ninS (Nat.ne_of_lt (Nat.lt_of_lt_of_le PV2.lt g1)) nin0))
  have f12 : Fld Z T3.heap a1 z3 "coder" "B" (vI 0) := (f7.keep Kq3 (ninS (Nat.ne_of_lt (Nat.lt_of_lt_of_le PF1.lt g1)) nin0))
  have f13 : Exa Z T3.heap a1 z3 := (f8.keep Kq3)
  have sf9 := (sf0 : ∀ x ∈ [], Safe Z EL T3.vm T3.heap x)
  have f14 : Exa Z T3.heap b1 z1 := (f4.keep Kq3)
  obtain ⟨_, T9, L9, ⟨rfl, N9q, e9⟩, X9, st9⟩ := cV X3 hx hZ3 (W := 0) hown3 (cw27 cx) (rm39 cx b1 a1 a2 ck3 O3 q3_5 q3_4 f10 f11 f12 f13) (rfl : T3.heap = T3.heap) f14 (g := (mkF m 16 #[sR a1, sR b1, sR c3_0] [(vR b1)])) rfl hml rfl (rest := []) rfl rfl rfl rfl (hb hby d1_16) (by decide)
  have sf15 := (sf0 : ∀ x ∈ [], Safe Z EL T3.vm T3.heap x)
  obtain ⟨_, T15, L15, ⟨rfl, N15q, e15⟩, X15, st15⟩ := cV X9 hx hZ3 (W := 1) hown3 (cw28 cx) (rm11 cx a1 a2 ck3 O3 f10 f11 f12 f13) e9 f13 (g := (mkF m 24 #[sR a1, sR b1, sR c3_0] [(vR a1), (vI 2)])) rfl hml rfl (rest := [(vI 2)]) rfl rfl rfl rfl (hb hby d1_24) (by decide)
  obtain ⟨T16, X16, e16, st16⟩ := instY X15 hx hZ3 hown3 (hw _ m136) e15 (Ins.of_exa q3_0 (hw _ m137)) (g := (mkF m 38 #[sR a1, sR b1, sR c3_0] [(vR c3_0)])) rfl rfl (hb hby d1_38)
  have sf17 := (sf0 : ∀ x ∈ [], Safe Z EL T3.vm T3.heap x)
  obtain ⟨_, T17, L17, ⟨rfl, N17q, e17⟩, X17, st17⟩ := cS X16 hx hZ3 (W := 0) hown3 (cw29 cx) (rm40 cx c3_0 O3 q3_0) e16 (g := (mkF m 55 #[sR a1, sR b1, sR c3_0] [(vR c3_0)])) rfl hml rfl (rest := []) rfl rfl rfl rfl (hb hby d1_55) (by decide)
  refine own_endW X17 hlk (v := some (vR c3_0)) (own_hv hret) hS3 (Nat.le_refl _) (by decide) hh e17 C3 hZ3 (own_EW hw hj) (by rw [e17]; exact ⟨c3_0, rfl, (Fr.app (Fr.app (Fr.app N3 N9q) N15q) N17q), K3, (Nat.le_trans K2.1 lo3_0), q3_0, q3_1, q3_2, q3_3⟩) fun fs hr => ?_
  show St p e below s₁ (mkF m 0 #[sR a1, sU, sU] []) _
  refine st1 _ ?_
  refine wdu X1 hx hby rfl d1_3 rfl rfl ?_
  refine wal X1 hx hby rfl d1_4 rfl rfl ?_
  refine st2 _ ?_
  refine was X2 hx hby rfl d1_8 rfl rfl (l' := #[sR a1, sR b1, sU]) rfl ?_
  refine wal X2 hx hby rfl d1_9 rfl rfl ?_
  refine wic X2 hx hby rfl d1_10 ?_
  refine st3 _ ?_
  refine was X3 hx hby rfl d1_14 rfl rfl (l' := #[sR a1, sR b1, sR c3_0]) rfl ?_
  refine wal X3 hx hby rfl d1_15 rfl rfl ?_
  refine st9 _ ?_
  refine wal X9 hx hby rfl d1_19 rfl rfl ?_
  refine own_getFR X9 hx hZ3 hown3 (hw _ m134) Via.refl e9 q3_5 (g := (mkF m 20 #[sR a1, sR b1, sR c3_0] [(vR b1)])) rfl rfl (hb hby d1_20) _ ?_
  refine wal X9 hx hby rfl d1_23 rfl rfl ?_
  refine st15 _ ?_
  refine wcy X15 hx hby rfl (pc0 := 27) (pc' := 37) rfl d1_27 rfl (flt (by decide : ¬ ((2 : Int32) < (2 : Int32)))).2.1 (by decide) (by decide) ?_
  show St p e below T15 (mkF m 37 #[sR a1, sR b1, sR c3_0] []) _
  refine wal X15 hx hby rfl d1_37 rfl rfl ?_
  refine st16 _ ?_
  refine wfy X16 hx hby rfl (pc0 := 41) (pc' := 54) rfl d1_41 rfl ((if0 _ _).trans (feq (by decide : ¬ ((1 : Int32) = (0 : Int32)))).2) (by decide) (by decide) ?_
  refine wal X16 hx hby rfl d1_54 rfl rfl ?_
  refine st17 _ ?_
  exact retOut X17 hx hret rfl (Or.inr (Or.inr (Or.inr (Or.inr ⟨rfl, rfl, rfl⟩)))) (hb hby d1_58) hr
def Qrm42 (Z : State) (a3 : Addr) (h0 : Heap) (n0 : Nat) (v : Option Value) (h : Heap) (L : List Loc) : Prop := v = some (vR a3) ∧ Fr n0 L ∧ h = h0
theorem rm42 (cx : Cx Z a0 w1 w2 w3 clw3 w4 kw4 w5 kw5) (p1 : Int32) (p2 : Int32) (a3 : Addr) (O0 : Old Z n0 h0) : Ct l Z ⟨z9, "slot", z19⟩ method_3_code 6 (some (.object z2)) ⟨0, 0, 0, 0⟩ #[(vI 0), (vI 0), (vI p1), (vI p2), (vR a3)] h0 (Qrm42 Z a3 h0 n0) := by
  obtain ⟨hw, hj, hS⟩ := id cx
  refine own_bd (plainFor_of_name pn127) (fun m => ef128 m 0 0 p1 p2 a3) fun p e s m below meth c s₁ hret hlk hZ hx hby hml hown hnm X0 e0 => ?_
  have N0 := Fr.nil n0
  refine own_end X0 hlk (v := some (vR a3)) (own_hv hret) (by decide) (by rw [e0]; exact ⟨rfl, N0, rfl⟩) fun fs hr => ?_
  show St p e below s₁ (mkF m 0 #[sI 0, sI 0, sI p1, sI p2, sR a3, sU] []) _
  refine wil X0 hx hby rfl d29_0 rfl ?_
  refine wic X0 hx hby rfl d29_1 ?_
  refine wil X0 hx hby rfl d29_2 rfl ?_
  refine Own.imul X0.here hx rfl (hb hby d29_3) rfl (by decide : ((2 : Int32) * (0 : Int32)) = (0 : Int32)) ?_
  refine XS.iushr X0.here hx rfl (hb hby d29_4) rfl ?_
  refine wic X0 hx hby rfl d29_5 ?_
  refine XS.iand X0.here hx rfl (hb hby d29_6) rfl ?_
  refine wiS X0 hx hby rfl d29_7 rfl (l' := #[sI 0, sI 0, sI p1, sI p2, sR a3, sI (((p1.toUInt32 >>> ((0 : Int32) &&& 31).toUInt32).toInt32) &&& (3 : Int32))]) rfl ?_
  refine wil X0 hx hby rfl d29_9 rfl ?_
  refine wil X0 hx hby rfl d29_10 rfl ?_
  refine wcy X0 hx hby rfl (pc0 := 11) (pc' := 19) rfl d29_11 rfl (teq (by decide : (0 : Int32) = (0 : Int32))).1 (by decide) (by decide) ?_
  refine waL X0 hx hby rfl d29_19 rfl rfl ?_
  exact retOut X0 hx hret rfl (Or.inr (Or.inr (Or.inr (Or.inr ⟨rfl, rfl, rfl⟩)))) (hb hby d29_21) hr
def Qrm43 (Z : State) (p1 : Int32) (h0 : Heap) (n0 : Nat) (v : Option Value) (h : Heap) (L : List Loc) : Prop := v = some (vI p1) ∧ Fr n0 L ∧ h = h0
theorem rm43 (cx : Cx Z a0 w1 w2 w3 clw3 w4 kw4 w5 kw5) (p1 : Int32) (p2 : Int32) (O0 : Old Z n0 h0) (hc1 : ¬ (p1 < p2)) : Ct l Z ⟨z24, "max", "(II)I"⟩ jdk_29_method_65_code 2 (some .int) ⟨0, 0, 0, 0⟩ #[(vI p1), (vI p2)] h0 (Qrm43 Z p1 h0 n0) := by
  obtain ⟨hw, hj, hS⟩ := id cx
  refine own_bd (Jvm.Free.JP.mathPlain rfl (by decide +kernel)) (fun m => ef261 m p1 p2) fun p e s m below meth c s₁ hret hlk hZ hx hby hml hown hnm X0 e0 => ?_
  have N0 := Fr.nil n0
  refine own_end X0 hlk (v := some (vI p1)) (own_hv hret) (by decide) (by rw [e0]; exact ⟨rfl, N0, rfl⟩) fun fs hr => ?_
  show St p e below s₁ (mkF m 0 #[sI p1, sI p2] []) _
  refine wil X0 hx hby rfl d17_0 rfl ?_
  refine wil X0 hx hby rfl d17_1 rfl ?_
  refine wcn X0 hx hby rfl d17_2 rfl (flt hc1).1 ?_
  refine wil X0 hx hby rfl d17_5 rfl ?_
  refine wgt X0 hx hby rfl (pc0 := 6) (pc' := 10) rfl d17_6 (by decide) (by decide) ?_
  exact retOut X0 hx hret rfl (Or.inl ⟨rfl, Or.inl rfl, _, rfl⟩) (hb hby d17_10) hr
def Qrm44 (Z : State) (a1 : Addr) (h0 : Heap) (n0 : Nat) (v : Option Value) (h : Heap) (L : List Loc) : Prop := ∃ x0 : Addr, ∃ xk0 : ClassId, v = some (vR x0) ∧ Fr n0 L ∧ Keep h0 h [a1] ∧ h0.size ≤ x0 ∧ Arv Z h x0 xk0 (.object z2) (10 : Int32) [.null, .null, .null, .null, .null, .null, .null, .null, .null, .null] .null ∧ Ovr Z xk0 z2 ∧ Fld Z h a1 z6 "modCount" "I" (vI 1) ∧ Fld Z h a1 z0 z7 z4 (vR x0) ∧ Fld Z h a1 z0 "size" "I" (vI 0)
theorem rm44 (cx : Cx Z a0 w1 w2 w3 clw3 w4 kw4 w5 kw5) (a1 : Addr) (O0 : Old Z n0 h0) (PE1 : Exa Z h0 a1 z0) (PF2 : Fld Z h0 a1 z6 "modCount" "I" (vI 1)) (PF3 : Fld Z h0 a1 z0 z7 z4 (vR w4)) (PF4 : Fld Z h0 a1 z0 "size" "I" (vI 0)) (gn5 : n0 ≤ a1) : Ct l Z ⟨z0, "grow", "(I)[Ljava/lang/Object;"⟩ jdk_38_method_6_code 4 (some (.array (.object z2))) ⟨1, 1, 10, 14⟩ #[(vR a1), (vI 1)] h0 (Qrm44 Z a1 h0 n0) := by
  obtain ⟨hw, hj, hS⟩ := id cx
  refine own_bd (plainFor_of_name pn122) (fun m => ef511 m a1 1) fun p e s m below meth c s₁ hret hlk hZ hx hby hml hown hnm X0 e0 => ?_
  have N0 := Fr.nil n0
  obtain ⟨T1, X1, e1, st1⟩ := getF X0 hx hZ hown (host := "") (Or.inl (hw _ m163)) Via.refl e0 PF3 (g := (mkF m 1 #[sR a1, sI 1, sU, sU] [(vR a1)])) rfl rfl (hb hby d33_1)
  obtain ⟨T2, X2, e2, st2⟩ := getF X1 hx hZ hown (host := "") (Or.inl (hw _ m163)) Via.refl e1 PF3 (g := (mkF m 11 #[sR a1, sI 1, sI 0, sU] [(vR a1)])) rfl rfl (hb hby d33_11)
  obtain ⟨T3, X3, e3, st3⟩ := getS2 X2 hx hZ hown (host := "") (Or.inl (hw _ m162)) Via.refl e2 (hS.2.2.2.2.2.2.2.1.ext O0.2) (g := (mkF m 14 #[sR a1, sI 1, sI 0, sU] [(vR w4)])) rfl (hb hby d33_14)
  obtain ⟨_, T4, L4, ⟨rfl, N4q, e4⟩, X4, st4⟩ := cS X3 hx hZ (W := 1) hown (cw32 cx) (rm43 cx 10 1 O0 (by decide : ¬ ((10 : Int32) < (1 : Int32)))) e3 (g := (mkF m 49 #[sR a1, sI 1, sI 0, sU] [(vI 1), (vI 10), (vR a1)])) rfl hml rfl (rest := [(vR a1)]) rfl rfl rfl rfl (hb hby d33_49) (by decide)
  obtain ⟨T5, h5, k5, b5, X5, e5, E5, V5, O'5, g5, O5, K5, st5⟩ := own_newR X4 hx hZ (vs := [.null, .null, .null, .null, .null, .null, .null, .null, .null, .null]) (cap := 10) rfl hown (hw _ m198) (hw _ m199) e4 O0 (Keep.refl h0 [a1]) (g := (mkF m 52 #[sR a1, sI 1, sI 0, sU] [(vI 10), (vR a1)])) rfl (hb hby d33_52) rfl (by decide) (by decide) (by decide) (by decide) (by decide)
  have f6 : Fld Z h5 a1 z0 z7 z4 (vR w4) := (PF3.ext E5)
  have f7 : Exa Z h5 a1 z0 := (PE1.ext E5)
  obtain ⟨T8, h8, L'8, X8, e8, W8, Fw8, O8, K8, N8, st8⟩ := own_put X5 hx hZ hown (host := "") (Or.inl (hw _ m163)) Via.refl e5 O5 K5 (Fr.app N0 N4q) gn5 (Or.inl (List.mem_of_getElem? (i := 0) rfl)) f6 f7 (Or.inl (hw _ m164)) (hw _ m142) (ty := (.array (.object z2))) (by decide) rfl rfl (g := (mkF m 56 #[sR a1, sI 1, sI 0, sU] [(vR b5), (vR a1), (vR b5)])) rfl rfl (hb hby d33_56)
  have f9 : Arv Z h8 b5 k5 (.object z2) (10 : Int32) [.null, .null, .null, .null, .null, .null, .null, .null, .null, .null] .null := (V5.other W8 (Ne.symm (Nat.ne_of_lt (Nat.lt_of_lt_of_le PE1.lt g5))))
  have f10 : Fld Z h8 a1 z6 "modCount" "I" (vI 1) := ((PF2.ext E5).other W8 (Or.inr (slot_ne (Or.inl (hw _ m161)) (Or.inl (hw _ m164)) (by decide) (t := .int) (t' := (.array (.object z2))) (by decide) (by decide))))
  have f11 : Fld Z h8 a1 z0 "size" "I" (vI 0) := ((PF4.ext E5).other W8 (Or.inr (slot_ne (Or.inl (hw _ m181)) (Or.inl (hw _ m164)) (by decide) (t := .int) (t' := (.array (.object z2))) (by decide) (by decide))))
  refine own_end X8 hlk (v := some (vR b5)) (own_hv hret) (by decide) (by rw [e8]; exact ⟨b5, k5, rfl, N8, K8, (Nat.le_trans (Keep.refl h0 [a1]).1 g5), f9, O'5, f10, Fw8, f11⟩) fun fs hr => ?_
  show St p e below s₁ (mkF m 0 #[sR a1, sI 1, sU, sU] []) _
  refine wal X0 hx hby rfl d33_0 rfl rfl ?_
  refine st1 _ ?_
  refine own_alen X1 hx hZ e1 (hS.2.2.2.2.2.2.2.2.1.ext O0.2) (g := (mkF m 4 #[sR a1, sI 1, sU, sU] [(vR w4)])) rfl rfl (hb hby d33_4) ?_
  refine wis X1 hx hby rfl d33_5 rfl (l' := #[sR a1, sI 1, sI 0, sU]) rfl ?_
  refine wil X1 hx hby rfl d33_6 rfl ?_
  refine wfn X1 hx hby rfl d33_7 rfl ((if0 _ _).trans (flt (by decide : ¬ ((0 : Int32) < (0 : Int32)))).2.2.1) ?_
  refine wal X1 hx hby rfl d33_10 rfl rfl ?_
  refine st2 _ ?_
  refine st3 _ ?_
  refine Jvm.RoadKit.acmp (g := (mkF m 17 #[sR a1, sI 1, sI 0, sU] [(vR w4), (vR w4)])) X3 hx rfl rfl rfl (pc0 := 17) (pc' := 45) (same := true) rfl (hb hby d33_17) rfl (decide_eq_true rfl) (by decide) (by decide) ?_
  refine wal X3 hx hby rfl d33_45 rfl rfl ?_
  refine wbp X3 hx hby rfl d33_46 ?_
  refine wil X3 hx hby rfl d33_48 rfl ?_
  refine st4 _ ?_
  refine st5 _ ?_
  refine XS.dupX1 X5.here hx rfl (hb hby d33_55) rfl rfl rfl ?_
  show St p e below T5 (mkF m 56 #[sR a1, sI 1, sI 0, sU] [(vR b5), (vR a1), (vR b5)]) _
  refine st8 _ ?_
  exact retOut X8 hx hret rfl (Or.inr (Or.inr (Or.inr (Or.inr ⟨rfl, rfl, rfl⟩)))) (hb hby d33_59) hr
def Qrm45 (Z : State) (a1 : Addr) (h0 : Heap) (n0 : Nat) (v : Option Value) (h : Heap) (L : List Loc) : Prop := ∃ x0 : Addr, ∃ xk0 : ClassId, v = some (vR x0) ∧ Fr n0 L ∧ Keep h0 h [a1] ∧ h0.size ≤ x0 ∧ Arv Z h x0 xk0 (.object z2) (10 : Int32) [.null, .null, .null, .null, .null, .null, .null, .null, .null, .null] .null ∧ Ovr Z xk0 z2 ∧ Fld Z h a1 z6 "modCount" "I" (vI 1) ∧ Fld Z h a1 z0 z7 z4 (vR x0) ∧ Fld Z h a1 z0 "size" "I" (vI 0)
theorem rm45 (cx : Cx Z a0 w1 w2 w3 clw3 w4 kw4 w5 kw5) (a1 : Addr) (O0 : Old Z n0 h0) (PE1 : Exa Z h0 a1 z0) (PF2 : Fld Z h0 a1 z6 "modCount" "I" (vI 1)) (PF3 : Fld Z h0 a1 z0 z7 z4 (vR w4)) (PF4 : Fld Z h0 a1 z0 "size" "I" (vI 0)) (gn5 : n0 ≤ a1) : Ct l Z ⟨z0, "grow", "()[Ljava/lang/Object;"⟩ jdk_38_method_7_code 1 (some (.array (.object z2))) ⟨2, 1, 10, 29⟩ #[(vR a1)] h0 (Qrm45 Z a1 h0 n0) := by
  obtain ⟨hw, hj, hS⟩ := id cx
  refine own_bd (plainFor_of_name pn122) (fun m => ef44 m a1) fun p e s m below meth c s₁ hret hlk hZ hx hby hml hown hnm X0 e0 => ?_
  have N0 := Fr.nil n0
  obtain ⟨T1, X1, e1, st1⟩ := getF X0 hx hZ hown (host := "") (Or.inl (hw _ m180)) Via.refl e0 PF4 (g := (mkF m 2 #[sR a1] [(vR a1), (vR a1)])) rfl rfl (hb hby d32_2)
  obtain ⟨_, T2, L2, ⟨c2_0, k2_1, rfl, N2q, Kq2, lo2_0, q2_0, q2_1, q2_2, q2_3, q2_4⟩, X2, st2⟩ := own_private X1 hx hZ (W := 0) hown (hw _ m192) (hw _ m193) (mvT hZ (hw _ m195)) (hw _ m194) (hw _ m143) (hw _ m196) (by decide) (rm44 cx a1 O0 PE1 PF2 PF3 PF4 gn5) e1 PE1 (g := (mkF m 7 #[sR a1] [(vI 1), (vR a1)])) rfl hml rfl (rest := []) (lenOf pd619 rfl) rfl rfl rfl (hb hby d32_7) (by decide)
  have N2 := Fr.app N0 N2q
  have O2 : Old Z n0 T2.heap := O0.keep Kq2 (allS gn5 all0)
  have K2 : Keep h0 T2.heap [a1] := (Keep.refl h0 [a1]).trans Kq2 (allS (Or.inl (List.mem_of_getElem? (i := 0) rfl)) all0)
  refine own_end X2 hlk (v := some (vR c2_0)) (own_hv hret) (by decide) ⟨c2_0, k2_1, rfl, N2, K2, (Nat.le_trans (Keep.refl h0 [a1]).1 lo2_0), q2_0, q2_1, q2_2, q2_3, q2_4⟩ fun fs hr => ?_
  show St p e below s₁ (mkF m 0 #[sR a1] []) _
  refine wal X0 hx hby rfl d32_0 rfl rfl ?_
  refine wal X0 hx hby rfl d32_1 rfl rfl ?_
  refine st1 _ ?_
  refine wic X1 hx hby rfl d32_5 ?_
  refine Own.iadd X1.here hx rfl (hb hby d32_6) rfl (by decide : ((0 : Int32) + (1 : Int32)) = (1 : Int32)) ?_
  refine st2 _ ?_
  exact retOut X2 hx hret rfl (Or.inr (Or.inr (Or.inr (Or.inr ⟨rfl, rfl, rfl⟩)))) (hb hby d32_10) hr
def Qrm46 (Z : State) (a1 : Addr) (a2 : Addr) (h0 : Heap) (n0 : Nat) (v : Option Value) (h : Heap) (L : List Loc) : Prop := ∃ x0 : Addr, ∃ xk0 : ClassId, v = none ∧ Fr n0 L ∧ Keep h0 h [a1] ∧ h0.size ≤ x0 ∧ Arv Z h x0 xk0 (.object z2) (10 : Int32) [(vR a2), .null, .null, .null, .null, .null, .null, .null, .null, .null] .null ∧ Ovr Z xk0 z2 ∧ Fld Z h a1 z6 "modCount" "I" (vI 1) ∧ Fld Z h a1 z0 z7 z4 (vR x0) ∧ Fld Z h a1 z0 "size" "I" (vI 1)
theorem rm46 (cx : Cx Z a0 w1 w2 w3 clw3 w4 kw4 w5 kw5) (a1 : Addr) (a2 : Addr) (O0 : Old Z n0 h0) (PE1 : Exa Z h0 a1 z0) (PF2 : Fld Z h0 a1 z6 "modCount" "I" (vI 1)) (PF3 : Fld Z h0 a1 z0 z7 z4 (vR w4)) (PF4 : Fld Z h0 a1 z0 "size" "I" (vI 0)) (gn5 : n0 ≤ a1) (PE6 : Exa Z h0 a2 z5) : Ct l Z ⟨z0, "add", z12⟩ jdk_38_method_24_code 4 none ⟨3, 1, 10, 41⟩ #[(vR a1), (vR a2), (vR w4), (vI 0)] h0 (Qrm46 Z a1 a2 h0 n0) := by
  obtain ⟨hw, hj, hS⟩ := id cx
  refine own_bd (plainFor_of_name pn122) (fun m => ef638 m a1 a2 w4 0) fun p e s m below meth c s₁ hret hlk hZ hx hby hml hown hnm X0 e0 => ?_
  have N0 := Fr.nil n0
  obtain ⟨_, T1, L1, ⟨c1_0, k1_1, rfl, N1q, Kq1, lo1_0, q1_0, q1_1, q1_2, q1_3, q1_4⟩, X1, st1⟩ := own_private X0 hx hZ (W := 0) hown (hw _ m187) (hw _ m188) (mvT hZ (hw _ m190)) (hw _ m189) (hw _ m143) (hw _ m191) (by decide) (rm45 cx a1 O0 PE1 PF2 PF3 PF4 gn5) e0 PE1 (g := (mkF m 7 #[sR a1, sR a2, sR w4, sI 0] [(vR a1)])) rfl hml rfl (rest := []) (lenOf pd624 rfl) rfl rfl rfl (hb hby d31_7) (by decide)
  have N1 := Fr.app N0 N1q
  have O1 : Old Z n0 T1.heap := O0.keep Kq1 (allS gn5 all0)
  have K1 : Keep h0 T1.heap [a1] := (Keep.refl h0 [a1]).trans Kq1 (allS (Or.inl (List.mem_of_getElem? (i := 0) rfl)) all0)
  have f2 : Exa Z T1.heap a2 z5 := (PE6.keep Kq1)
  obtain ⟨T3, h3, L'3, X3, e3, W3, V3, O3, K3, N3, st3⟩ := own_stR X1 hx hZ (rfl : T1.heap = T1.heap) q1_0 O1 K1 N1 (Nat.le_trans (own_old_le O0) lo1_0) (Or.inr (Nat.le_trans (Keep.refl h0 [a1]).1 lo1_0)) (j := (0 : Int32)) 0 (by decide) (Nat.le_of_ble_eq_true rfl) (vs' := [(vR a2), .null, .null, .null, .null, .null, .null, .null, .null, .null]) rfl rfl rfl (Or.inr ⟨_, _, rfl, q1_1, (Ins.of_exa f2 (hw _ m200))⟩) (g := (mkF m 14 #[sR a1, sR a2, sR c1_0, sI 0] [(vR a2), (vI 0), (vR c1_0)])) rfl rfl (hb hby d31_14)
  have f4 : Fld Z h3 a1 z0 "size" "I" (vI 0) := (q1_4.other W3 (Or.inl (Nat.ne_of_lt (Nat.lt_of_lt_of_le PE1.lt lo1_0))))
  have f5 : Exa Z h3 a1 z0 := ((PE1.keep Kq1).wr W3)
  obtain ⟨T6, h6, L'6, X6, e6, W6, Fw6, O6, K6, N6, st6⟩ := own_put X3 hx hZ hown (host := "") (Or.inl (hw _ m180)) Via.refl e3 O3 K3 N3 gn5 (Or.inl (List.mem_of_getElem? (i := 0) rfl)) f4 f5 (Or.inl (hw _ m181)) (hw _ m142) (ty := .int) (by decide) rfl rfl (g := (mkF m 19 #[sR a1, sR a2, sR c1_0, sI 0] [(vI 1), (vR a1)])) rfl rfl (hb hby d31_19)
  have f7 : Arv Z h6 c1_0 k1_1 (.object z2) (10 : Int32) [(vR a2), .null, .null, .null, .null, .null, .null, .null, .null, .null] .null := (V3.other W6 (Ne.symm (Nat.ne_of_lt (Nat.lt_of_lt_of_le PE1.lt lo1_0))))
  have f8 : Fld Z h6 a1 z6 "modCount" "I" (vI 1) := ((q1_2.other W3 (Or.inl (Nat.ne_of_lt (Nat.lt_of_lt_of_le PE1.lt lo1_0)))).other W6 (Or.inr (slot_ne (Or.inl (hw _ m161)) (Or.inl (hw _ m181)) (by decide) (t := .int) (t' := .int) (by decide) (by decide))))
  have f9 : Fld Z h6 a1 z0 z7 z4 (vR c1_0) := ((q1_3.other W3 (Or.inl (Nat.ne_of_lt (Nat.lt_of_lt_of_le PE1.lt lo1_0)))).other W6 (Or.inr (slot_ne (Or.inl (hw _ m164)) (Or.inl (hw _ m181)) (by decide) (t := (.array (.object z2))) (t' := .int) (by decide) (by decide))))
  refine own_end X6 hlk (v := none) (fun _ => rfl) (by decide) (by rw [e6]; exact ⟨c1_0, k1_1, rfl, N6, K6, (Nat.le_trans (Keep.refl h0 [a1]).1 lo1_0), f7, q1_1, f8, f9, Fw6⟩) fun fs hr => ?_
  show St p e below s₁ (mkF m 0 #[sR a1, sR a2, sR w4, sI 0] []) _
  refine wil X0 hx hby rfl d31_0 rfl ?_
  refine wal X0 hx hby rfl d31_1 rfl rfl ?_
  refine own_alen X0 hx hZ e0 (hS.2.2.2.2.2.2.2.2.1.ext O0.2) (g := (mkF m 2 #[sR a1, sR a2, sR w4, sI 0] [(vR w4), (vI 0)])) rfl rfl (hb hby d31_2) ?_
  refine wcn X0 hx hby rfl d31_3 rfl (teq (by decide : (0 : Int32) = (0 : Int32))).2 ?_
  refine wal X0 hx hby rfl d31_6 rfl rfl ?_
  refine st1 _ ?_
  refine was X1 hx hby rfl d31_10 rfl rfl (l' := #[sR a1, sR a2, sR c1_0, sI 0]) rfl ?_
  refine wal X1 hx hby rfl d31_11 rfl rfl ?_
  refine wil X1 hx hby rfl d31_12 rfl ?_
  refine wal X1 hx hby rfl d31_13 rfl rfl ?_
  refine st3 _ ?_
  refine wal X3 hx hby rfl d31_15 rfl rfl ?_
  refine wil X3 hx hby rfl d31_16 rfl ?_
  refine wic X3 hx hby rfl d31_17 ?_
  refine Own.iadd X3.here hx rfl (hb hby d31_18) rfl (by decide : ((0 : Int32) + (1 : Int32)) = (1 : Int32)) ?_
  refine st6 _ ?_
  show St p e below T6 (mkF m 22 #[sR a1, sR a2, sR c1_0, sI 0] []) _
  exact X6.returnOut hx hret (hb hby d31_22) hr
def Qrm47 (Z : State) (a1 : Addr) (a2 : Addr) (h0 : Heap) (n0 : Nat) (v : Option Value) (h : Heap) (L : List Loc) : Prop := ∃ x0 : Addr, ∃ xk0 : ClassId, v = some (vI 1) ∧ Fr n0 L ∧ Keep h0 h [a1] ∧ h0.size ≤ x0 ∧ Arv Z h x0 xk0 (.object z2) (10 : Int32) [(vR a2), .null, .null, .null, .null, .null, .null, .null, .null, .null] .null ∧ Ovr Z xk0 z2 ∧ Fld Z h a1 z6 "modCount" "I" (vI 1) ∧ Fld Z h a1 z0 z7 z4 (vR x0) ∧ Fld Z h a1 z0 "size" "I" (vI 1)
theorem rm47 (cx : Cx Z a0 w1 w2 w3 clw3 w4 kw4 w5 kw5) (a1 : Addr) (a2 : Addr) (O0 : Old Z n0 h0) (PE1 : Exa Z h0 a1 z0) (PF2 : Fld Z h0 a1 z6 "modCount" "I" (vI 0)) (PF3 : Fld Z h0 a1 z0 z7 z4 (vR w4)) (PF4 : Fld Z h0 a1 z0 "size" "I" (vI 0)) (gn5 : n0 ≤ a1) (PE6 : Exa Z h0 a2 z5) : Ct l Z ⟨z0, "add", z15⟩ jdk_38_method_25_code 2 (some .boolean) ⟨4, 1, 10, 56⟩ #[(vR a1), (vR a2)] h0 (Qrm47 Z a1 a2 h0 n0) := by
  obtain ⟨hw, hj, hS⟩ := id cx
  refine own_bd (plainFor_of_name pn122) (fun m => ef152 m a1 a2) fun p e s m below meth c s₁ hret hlk hZ hx hby hml hown hnm X0 e0 => ?_
  have N0 := Fr.nil n0
  obtain ⟨T1, X1, e1, st1⟩ := getF X0 hx hZ hown (host := "") (Or.inl (hw _ m178)) (Via.of (hw _ m179)) e0 PF2 (g := (mkF m 2 #[sR a1, sR a2] [(vR a1), (vR a1)])) rfl rfl (hb hby d30_2)
  obtain ⟨T2, h2, L'2, X2, e2, W2, Fw2, O2, K2, N2, st2⟩ := own_put X1 hx hZ hown (host := "") (Or.inl (hw _ m178)) (Via.of (hw _ m179)) e1 O0 (Keep.refl h0 [a1]) N0 gn5 (Or.inl (List.mem_of_getElem? (i := 0) rfl)) PF2 PE1 (Or.inl (hw _ m161)) (hw _ m142) (ty := .int) (by decide) rfl rfl (g := (mkF m 7 #[sR a1, sR a2] [(vI 1), (vR a1)])) rfl rfl (hb hby d30_7)
  have f3 : Fld Z h2 a1 z0 z7 z4 (vR w4) := (PF3.other W2 (Or.inr (slot_ne (Or.inl (hw _ m164)) (Or.inl (hw _ m161)) (by decide) (t := (.array (.object z2))) (t' := .int) (by decide) (by decide))))
  obtain ⟨T4, X4, e4, st4⟩ := getF X2 hx hZ hown (host := "") (Or.inl (hw _ m163)) Via.refl e2 f3 (g := (mkF m 13 #[sR a1, sR a2] [(vR a1), (vR a2), (vR a1)])) rfl rfl (hb hby d30_13)
  have f5 : Fld Z h2 a1 z0 "size" "I" (vI 0) := (PF4.other W2 (Or.inr (slot_ne (Or.inl (hw _ m181)) (Or.inl (hw _ m161)) (by decide) (t := .int) (t' := .int) (by decide) (by decide))))
  obtain ⟨T6, X6, e6, st6⟩ := getF X4 hx hZ hown (host := "") (Or.inl (hw _ m180)) Via.refl e4 f5 (g := (mkF m 17 #[sR a1, sR a2] [(vR a1), (vR w4), (vR a2), (vR a1)])) rfl rfl (hb hby d30_17)
  have f8 : Exa Z h2 a1 z0 := (PE1.wr W2)
  have f9 : Exa Z h2 a2 z5 := (PE6.wr W2)
  obtain ⟨_, T7, L7, ⟨c7_0, k7_1, rfl, N7q, Kq7, lo7_0, q7_0, q7_1, q7_2, q7_3, q7_4⟩, X7, st7⟩ := own_private X6 hx hZ (W := 0) hown (hw _ m182) (hw _ m183) (mvT hZ (hw _ m185)) (hw _ m184) (hw _ m143) (hw _ m186) (by decide) (rm46 cx a1 a2 O2 f8 Fw2 f3 f5 gn5 f9) e6 f8 (g := (mkF m 20 #[sR a1, sR a2] [(vI 0), (vR w4), (vR a2), (vR a1)])) rfl hml rfl (rest := []) (lenOf pd640 rfl) rfl rfl rfl (hb hby d30_20) (by decide)
  have N7 := Fr.app N2 N7q
  have O7 : Old Z n0 T7.heap := O2.keep Kq7 (allS gn5 all0)
  have K7 : Keep h0 T7.heap [a1] := K2.trans Kq7 (allS (Or.inl (List.mem_of_getElem? (i := 0) rfl)) all0)
  refine own_end X7 hlk (v := some (vI 1)) (own_hv hret) (by decide) ⟨c7_0, k7_1, rfl, N7, K7, (Nat.le_trans K2.1 lo7_0), q7_0, q7_1, q7_2, q7_3, q7_4⟩ fun fs hr => ?_
  show St p e below s₁ (mkF m 0 #[sR a1, sR a2] []) _
  refine wal X0 hx hby rfl d30_0 rfl rfl ?_
  refine wdu X0 hx hby rfl d30_1 rfl rfl ?_
  refine st1 _ ?_
  refine wic X1 hx hby rfl d30_5 ?_
  refine Own.iadd X1.here hx rfl (hb hby d30_6) rfl (by decide : ((0 : Int32) + (1 : Int32)) = (1 : Int32)) ?_
  refine st2 _ ?_
  refine wal X2 hx hby rfl d30_10 rfl rfl ?_
  refine wal X2 hx hby rfl d30_11 rfl rfl ?_
  refine wal X2 hx hby rfl d30_12 rfl rfl ?_
  refine st4 _ ?_
  refine wal X4 hx hby rfl d30_16 rfl rfl ?_
  refine st6 _ ?_
  refine st7 _ ?_
  refine wic X7 hx hby rfl d30_23 ?_
  exact retN X7 hx (t := .boolean) hret (by simp) (hb hby d30_24) hr
def Qrm48 (Z : State) (h0 : Heap) (n0 : Nat) (v : Option Value) (h : Heap) (L : List Loc) : Prop := v = some (vI 1) ∧ Fr n0 L ∧ h = h0
theorem rm48 (cx : Cx Z a0 w1 w2 w3 clw3 w4 kw4 w5 kw5) (a1 : Addr) (O0 : Old Z n0 h0) (PF1 : Fld Z h0 a1 z0 "size" "I" (vI 1)) : Ct l Z ⟨z0, "size", "()I"⟩ jdk_38_method_8_code 1 (some .int) ⟨0, 0, 0, 0⟩ #[(vR a1)] h0 (Qrm48 Z h0 n0) := by
  obtain ⟨hw, hj, hS⟩ := id cx
  refine own_bd (plainFor_of_name pn122) (fun m => ef44 m a1) fun p e s m below meth c s₁ hret hlk hZ hx hby hml hown hnm X0 e0 => ?_
  have N0 := Fr.nil n0
  obtain ⟨T1, X1, e1, st1⟩ := getF X0 hx hZ hown (host := "") (Or.inl (hw _ m180)) Via.refl e0 PF1 (g := (mkF m 1 #[sR a1] [(vR a1)])) rfl rfl (hb hby d35_1)
  refine own_end X1 hlk (v := some (vI 1)) (own_hv hret) (by decide) (by rw [e1]; exact ⟨rfl, N0, rfl⟩) fun fs hr => ?_
  show St p e below s₁ (mkF m 0 #[sR a1] []) _
  refine wal X0 hx hby rfl d35_0 rfl rfl ?_
  refine st1 _ ?_
  exact retOut X1 hx hret rfl (Or.inl ⟨rfl, Or.inl rfl, _, rfl⟩) (hb hby d35_4) hr
def Qrm49 (Z : State) (p1 : Int32) (h0 : Heap) (n0 : Nat) (v : Option Value) (h : Heap) (L : List Loc) : Prop := v = some (vI p1) ∧ Fr n0 L ∧ h = h0
theorem rm49 (cx : Cx Z a0 w1 w2 w3 clw3 w4 kw4 w5 kw5) (p1 : Int32) (p2 : Int32) (O0 : Old Z n0 h0) (hc1 : ¬ (p1 < (0 : Int32))) (hc2 : p1 < p2) : Ct l Z ⟨z18, "checkIndex", z21⟩ jdk_41_method_11_code 3 (some .int) ⟨0, 0, 0, 0⟩ #[(vI p1), (vI p2), .null] h0 (Qrm49 Z p1 h0 n0) := by
  obtain ⟨hw, hj, hS⟩ := id cx
  refine own_bd (plainFor_of_name pn254) (fun m => ef684 m p1 p2) fun p e s m below meth c s₁ hret hlk hZ hx hby hml hown hnm X0 e0 => ?_
  have N0 := Fr.nil n0
  refine own_end X0 hlk (v := some (vI p1)) (own_hv hret) (by decide) (by rw [e0]; exact ⟨rfl, N0, rfl⟩) fun fs hr => ?_
  show St p e below s₁ (mkF m 0 #[sI p1, sI p2, sN] []) _
  refine wil X0 hx hby rfl d12_0 rfl ?_
  refine wfn X0 hx hby rfl d12_1 rfl ((if0 _ _).trans (flt hc1).1) ?_
  refine wil X0 hx hby rfl d12_4 rfl ?_
  refine wil X0 hx hby rfl d12_5 rfl ?_
  refine wcy X0 hx hby rfl (pc0 := 6) (pc' := 16) rfl d12_6 rfl (tlt hc2).1 (by decide) (by decide) ?_
  refine wil X0 hx hby rfl d12_16 rfl ?_
  exact retOut X0 hx hret rfl (Or.inl ⟨rfl, Or.inl rfl, _, rfl⟩) (hb hby d12_17) hr
def Qrm50 (Z : State) (h0 : Heap) (n0 : Nat) (v : Option Value) (h : Heap) (L : List Loc) : Prop := v = some (vI 0) ∧ Fr n0 L ∧ h = h0
theorem rm50 (cx : Cx Z a0 w1 w2 w3 clw3 w4 kw4 w5 kw5) (O0 : Old Z n0 h0) : Ct l Z ⟨z22, "checkIndex", "(II)I"⟩ jdk_31_method_17_code 2 (some .int) ⟨1, 0, 0, 14⟩ #[(vI 0), (vI 1)] h0 (Qrm50 Z h0 n0) := by
  obtain ⟨hw, hj, hS⟩ := id cx
  refine own_bd (plainFor_of_name pn686) (fun m => ef261 m 0 1) fun p e s m below meth c s₁ hret hlk hZ hx hby hml hown hnm X0 e0 => ?_
  have N0 := Fr.nil n0
  obtain ⟨_, T1, L1, ⟨rfl, N1q, e1⟩, X1, st1⟩ := cS X0 hx hZ (W := 0) hown (cw33 cx) (rm49 cx 0 1 O0 (by decide : ¬ ((0 : Int32) < (0 : Int32))) (by decide : (0 : Int32) < (1 : Int32))) e0 (g := (mkF m 3 #[sI 0, sI 1] [.null, (vI 1), (vI 0)])) rfl hml rfl (rest := []) rfl rfl rfl rfl (hb hby d37_3) (by decide)
  refine own_end X1 hlk (v := some (vI 0)) (own_hv hret) (by decide) (by rw [e1]; exact ⟨rfl, (Fr.app N0 N1q), rfl⟩) fun fs hr => ?_
  show St p e below s₁ (mkF m 0 #[sI 0, sI 1] []) _
  refine wil X0 hx hby rfl d37_0 rfl ?_
  refine wil X0 hx hby rfl d37_1 rfl ?_
  refine wan X0 hx hby rfl d37_2 ?_
  refine st1 _ ?_
  exact retOut X1 hx hret rfl (Or.inl ⟨rfl, Or.inl rfl, _, rfl⟩) (hb hby d37_6) hr
def Qrm51 (Z : State) (a4 : Addr) (h0 : Heap) (n0 : Nat) (v : Option Value) (h : Heap) (L : List Loc) : Prop := v = some (vR a4) ∧ Fr n0 L ∧ h = h0
theorem rm51 (cx : Cx Z a0 w1 w2 w3 clw3 w4 kw4 w5 kw5) (a1 : Addr) (a2 : Addr) (ck3 : ClassId) (a4 : Addr) (O0 : Old Z n0 h0) (PF1 : Fld Z h0 a1 z0 z7 z4 (vR a2)) (PV2 : Arv Z h0 a2 ck3 (.object z2) (10 : Int32) [(vR a4), .null, .null, .null, .null, .null, .null, .null, .null, .null] .null) : Ct l Z ⟨z0, z7, z10⟩ jdk_38_method_18_code 2 (some (.object z2)) ⟨0, 0, 0, 0⟩ #[(vR a1), (vI 0)] h0 (Qrm51 Z a4 h0 n0) := by
  obtain ⟨hw, hj, hS⟩ := id cx
  refine own_bd (plainFor_of_name pn122) (fun m => ef55 m a1 0) fun p e s m below meth c s₁ hret hlk hZ hx hby hml hown hnm X0 e0 => ?_
  have N0 := Fr.nil n0
  obtain ⟨T1, X1, e1, st1⟩ := getF X0 hx hZ hown (host := "") (Or.inl (hw _ m163)) Via.refl e0 PF1 (g := (mkF m 1 #[sR a1, sI 0] [(vR a1)])) rfl rfl (hb hby d38_1)
  refine own_end X1 hlk (v := some (vR a4)) (own_hv hret) (by decide) (by rw [e1]; exact ⟨rfl, N0, rfl⟩) fun fs hr => ?_
  show St p e below s₁ (mkF m 0 #[sR a1, sI 0] []) _
  refine wal X0 hx hby rfl d38_0 rfl rfl ?_
  refine st1 _ ?_
  refine wil X1 hx hby rfl d38_4 rfl ?_
  refine own_aaload X1 hx hZ e1 PV2 (j := 0) (by decide) (v := (vR a4)) rfl rfl (g := (mkF m 5 #[sR a1, sI 0] [(vI 0), (vR a2)])) rfl rfl (hb hby d38_5) ?_
  exact retOut X1 hx hret rfl (Or.inr (Or.inr (Or.inr (Or.inr ⟨rfl, rfl, rfl⟩)))) (hb hby d38_6) hr
def Qrm52 (Z : State) (a4 : Addr) (h0 : Heap) (n0 : Nat) (v : Option Value) (h : Heap) (L : List Loc) : Prop := v = some (vR a4) ∧ Fr n0 L ∧ h = h0
theorem rm52 (cx : Cx Z a0 w1 w2 w3 clw3 w4 kw4 w5 kw5) (a1 : Addr) (a2 : Addr) (ck3 : ClassId) (a4 : Addr) (O0 : Old Z n0 h0) (PF1 : Fld Z h0 a1 z0 "size" "I" (vI 1)) (PF2 : Fld Z h0 a1 z0 z7 z4 (vR a2)) (PV3 : Arv Z h0 a2 ck3 (.object z2) (10 : Int32) [(vR a4), .null, .null, .null, .null, .null, .null, .null, .null, .null] .null) (PE4 : Exa Z h0 a1 z0) : Ct l Z ⟨z0, "get", z10⟩ jdk_38_method_20_code 2 (some (.object z2)) ⟨2, 0, 0, 27⟩ #[(vR a1), (vI 0)] h0 (Qrm52 Z a4 h0 n0) := by
  obtain ⟨hw, hj, hS⟩ := id cx
  refine own_bd (plainFor_of_name pn122) (fun m => ef55 m a1 0) fun p e s m below meth c s₁ hret hlk hZ hx hby hml hown hnm X0 e0 => ?_
  have N0 := Fr.nil n0
  obtain ⟨T1, X1, e1, st1⟩ := getF X0 hx hZ hown (host := "") (Or.inl (hw _ m180)) Via.refl e0 PF1 (g := (mkF m 2 #[sR a1, sI 0] [(vR a1), (vI 0)])) rfl rfl (hb hby d36_2)
  obtain ⟨_, T2, L2, ⟨rfl, N2q, e2⟩, X2, st2⟩ := cS X1 hx hZ (W := 0) hown (cw34 cx) (rm50 cx O0) e1 (g := (mkF m 5 #[sR a1, sI 0] [(vI 1), (vI 0)])) rfl hml rfl (rest := []) rfl rfl rfl rfl (hb hby d36_5) (by decide)
  obtain ⟨_, T3, L3, ⟨rfl, N3q, e3⟩, X3, st3⟩ := cV X2 hx hZ (W := 0) hown (cw35 cx) (rm51 cx a1 a2 ck3 a4 O0 PF2 PV3) e2 PE4 (g := (mkF m 11 #[sR a1, sI 0] [(vI 0), (vR a1)])) rfl hml rfl (rest := []) rfl rfl rfl rfl (hb hby d36_11) (by decide)
  refine own_end X3 hlk (v := some (vR a4)) (own_hv hret) (by decide) (by rw [e3]; exact ⟨rfl, (Fr.app (Fr.app N0 N2q) N3q), rfl⟩) fun fs hr => ?_
  show St p e below s₁ (mkF m 0 #[sR a1, sI 0] []) _
  refine wil X0 hx hby rfl d36_0 rfl ?_
  refine wal X0 hx hby rfl d36_1 rfl rfl ?_
  refine st1 _ ?_
  refine st2 _ ?_
  refine XS.pop X2.here hx rfl (hb hby d36_8) rfl rfl ?_
  refine wal X2 hx hby rfl d36_9 rfl rfl ?_
  refine wil X2 hx hby rfl d36_10 rfl ?_
  refine st3 _ ?_
  exact retOut X3 hx hret rfl (Or.inr (Or.inr (Or.inr (Or.inr ⟨rfl, rfl, rfl⟩)))) (hb hby d36_14) hr
def Qrm53 (Z : State) (a4 : Addr) (h0 : Heap) (n0 : Nat) (v : Option Value) (h : Heap) (L : List Loc) : Prop := v = some (vR a4) ∧ Fr n0 L ∧ h = h0
theorem rm53 (cx : Cx Z a0 w1 w2 w3 clw3 w4 kw4 w5 kw5) (a1 : Addr) (a2 : Addr) (ck3 : ClassId) (a4 : Addr) (O0 : Old Z n0 h0) (PF1 : Fld Z h0 a1 z0 "size" "I" (vI 1)) (PE2 : Exa Z h0 a1 z0) (PF3 : Fld Z h0 a1 z0 z7 z4 (vR a2)) (PV4 : Arv Z h0 a2 ck3 (.object z2) (10 : Int32) [(vR a4), .null, .null, .null, .null, .null, .null, .null, .null, .null] .null) (PE5 : Exa Z h0 a4 z5) : Ct l Z ⟨z8, "element", z14⟩ prog_16_method_9_code 3 (some (.object z16)) ⟨3, 0, 0, 40⟩ #[(vR a1), (vI 0)] h0 (Qrm53 Z a4 h0 n0) := by
  obtain ⟨hw, hj, hS⟩ := id cx
  refine own_bd (plainFor_of_name pn546) (fun m => ef503 m a1 0) fun p e s m below meth c s₁ hret hlk hZ hx hby hml hown hnm X0 e0 => ?_
  have N0 := Fr.nil n0
  obtain ⟨_, T1, L1, ⟨rfl, N1q, e1⟩, X1, st1⟩ := own_iface X0 hx hZ (W := 1) hown (hw _ m204) (hw _ m205) (mvT hZ (hw _ m206)) (hw _ m207) (hw _ m208) (mvT hZ (hw _ m209)) (mvT hZ (hw _ m210)) (hw _ m176) (hw _ m143) (hw _ m211) (by decide) (rm48 cx a1 O0 PF1) e0 PE2 (g := (mkF m 2 #[sR a1, sI 0, sU] [(vR a1), (vI 0)])) rfl hml rfl (rest := [(vI 0)]) (lenOf pd200 rfl) rfl rfl rfl (hb hby d34_2) (by decide)
  obtain ⟨_, T2, L2, ⟨rfl, N2q, e2⟩, X2, st2⟩ := own_iface X1 hx hZ (W := 0) hown (hw _ m212) (hw _ m213) (mvT hZ (hw _ m214)) (hw _ m215) (hw _ m216) (mvT hZ (hw _ m217)) (mvT hZ (hw _ m218)) (hw _ m176) (hw _ m143) (hw _ m219) (by decide) (rm52 cx a1 a2 ck3 a4 O0 PF1 PF3 PV4 PE2) e1 PE2 (g := (mkF m 12 #[sR a1, sI 0, sU] [(vI 0), (vR a1)])) rfl hml rfl (rest := []) (lenOf pd521 rfl) rfl rfl rfl (hb hby d34_12) (by decide)
  obtain ⟨T3, X3, e3, st3⟩ := instY X2 hx hZ hown (hw _ m136) e2 (Ins.of_exa PE5 (hw _ m137)) (g := (mkF m 23 #[sR a1, sI 0, sR a4] [(vR a4)])) rfl rfl (hb hby d34_23)
  obtain ⟨_, T4, L4, ⟨rfl, N4q, e4⟩, X4, st4⟩ := cS X3 hx hZ (W := 0) hown (cw29 cx) (rm40 cx a4 O0 PE5) e3 (g := (mkF m 44 #[sR a1, sI 0, sR a4] [(vR a4)])) rfl hml rfl (rest := []) rfl rfl rfl rfl (hb hby d34_44) (by decide)
  refine own_end X4 hlk (v := some (vR a4)) (own_hv hret) (by decide) (by rw [e4]; exact ⟨rfl, (Fr.app (Fr.app (Fr.app N0 N1q) N2q) N4q), rfl⟩) fun fs hr => ?_
  show St p e below s₁ (mkF m 0 #[sR a1, sI 0, sU] []) _
  refine wil X0 hx hby rfl d34_0 rfl ?_
  refine wal X0 hx hby rfl d34_1 rfl rfl ?_
  refine st1 _ ?_
  refine wcn X1 hx hby rfl d34_7 rfl (tlt (by decide : (0 : Int32) < (1 : Int32))).2.1 ?_
  refine wal X1 hx hby rfl d34_10 rfl rfl ?_
  refine wil X1 hx hby rfl d34_11 rfl ?_
  refine st2 _ ?_
  refine wgt X2 hx hby rfl (pc0 := 17) (pc' := 21) rfl d34_17 (by decide) (by decide) ?_
  refine was X2 hx hby rfl d34_21 rfl rfl (l' := #[sR a1, sI 0, sR a4]) rfl ?_
  refine wal X2 hx hby rfl d34_22 rfl rfl ?_
  refine st3 _ ?_
  refine wfy X3 hx hby rfl (pc0 := 26) (pc' := 43) rfl d34_26 rfl ((if0 _ _).trans (feq (by decide : ¬ ((1 : Int32) = (0 : Int32)))).2) (by decide) (by decide) ?_
  refine wal X3 hx hby rfl d34_43 rfl rfl ?_
  refine st4 _ ?_
  exact retOut X4 hx hret rfl (Or.inr (Or.inr (Or.inr (Or.inr ⟨rfl, rfl, rfl⟩)))) (hb hby d34_47) hr
def Qrm54 (Z : State) (a1 : Addr) (ck2 : ClassId) (a3 : Addr) (a4 : Addr) (a5 : Value) (h0 : Heap) (n0 : Nat) (v : Option Value) (h : Heap) (L : List Loc) : Prop := v = none ∧ Fr n0 L ∧ Keep h0 h [a1, a4] ∧ Arv Z h a1 ck2 (.object z2) (10 : Int32) [(vR a3), a5, .null, .null, .null, .null, .null, .null, .null, .null] .null ∧ Fld Z h a4 z6 "modCount" "I" (vI 2) ∧ Fld Z h a4 z0 z7 z4 (vR a1) ∧ Fld Z h a4 z0 "size" "I" (vI 2)
theorem rm54 (cx : Cx Z a0 w1 w2 w3 clw3 w4 kw4 w5 kw5) (a1 : Addr) (ck2 : ClassId) (a3 : Addr) (a4 : Addr) (a5 : Value) (O0 : Old Z n0 h0) (PV1 : Arv Z h0 a1 ck2 (.object z2) (10 : Int32) [(vR a3), .null, .null, .null, .null, .null, .null, .null, .null, .null] .null) (PE2 : Exa Z h0 a4 z0) (PF3 : Fld Z h0 a4 z6 "modCount" "I" (vI 2)) (PF4 : Fld Z h0 a4 z0 z7 z4 (vR a1)) (PF5 : Fld Z h0 a4 z0 "size" "I" (vI 1)) (PE6 : ObV Z h0 a5) (Ov7 : Ovr Z ck2 z2) (gn8 : n0 ≤ a1) (pne9 : a4 ≠ a1) (gn10 : n0 ≤ a4) : Ct l Z ⟨z0, "add", z12⟩ jdk_38_method_24_code 4 none ⟨0, 0, 0, 0⟩ #[(vR a4), a5, (vR a1), (vI 1)] h0 (Qrm54 Z a1 ck2 a3 a4 a5 h0 n0) := by
  obtain ⟨hw, hj, hS⟩ := id cx
  refine own_bd (plainFor_of_name pn122) (fun m => ef725 m a4 a5 a1 1 (own_obR PE6)) fun p e s m below meth c s₁ hret hlk hZ hx hby hml hown hnm X0 e0 => ?_
  have N0 := Fr.nil n0
  obtain ⟨T1, h1, L'1, X1, e1, W1, V1, O1, K1, N1, st1⟩ := own_stR X0 hx hZ e0 PV1 O0 (Keep.refl h0 [a1, a4]) N0 gn8 (Or.inl (List.mem_of_getElem? (i := 0) rfl)) (j := (1 : Int32)) 1 (by decide) (Nat.le_of_ble_eq_true rfl) (vs' := [(vR a3), a5, .null, .null, .null, .null, .null, .null, .null, .null]) rfl rfl (own_obF PE6) (own_obS Ov7 PE6) (g := (mkF m 14 #[sR a4, .val a5, sR a1, sI 1] [a5, (vI 1), (vR a1)])) rfl rfl (hb hby d31_14)
  have f2 : Fld Z h1 a4 z0 "size" "I" (vI 1) := (PF5.other W1 (Or.inl pne9))
  have f3 : Exa Z h1 a4 z0 := (PE2.wr W1)
  obtain ⟨T4, h4, L'4, X4, e4, W4, Fw4, O4, K4, N4, st4⟩ := own_put X1 hx hZ hown (host := "") (Or.inl (hw _ m180)) Via.refl e1 O1 K1 N1 gn10 (Or.inl (List.mem_of_getElem? (i := 1) rfl)) f2 f3 (Or.inl (hw _ m181)) (hw _ m142) (ty := .int) (by decide) rfl rfl (g := (mkF m 19 #[sR a4, .val a5, sR a1, sI 1] [(vI 2), (vR a4)])) rfl rfl (hb hby d31_19)
  have f5 : Arv Z h4 a1 ck2 (.object z2) (10 : Int32) [(vR a3), a5, .null, .null, .null, .null, .null, .null, .null, .null] .null := (V1.other W4 (Ne.symm pne9))
  have f6 : Fld Z h4 a4 z6 "modCount" "I" (vI 2) := ((PF3.other W1 (Or.inl pne9)).other W4 (Or.inr (slot_ne (Or.inl (hw _ m161)) (Or.inl (hw _ m181)) (by decide) (t := .int) (t' := .int) (by decide) (by decide))))
  have f7 : Fld Z h4 a4 z0 z7 z4 (vR a1) := ((PF4.other W1 (Or.inl pne9)).other W4 (Or.inr (slot_ne (Or.inl (hw _ m164)) (Or.inl (hw _ m181)) (by decide) (t := (.array (.object z2))) (t' := .int) (by decide) (by decide))))
  refine own_end X4 hlk (v := none) (fun _ => rfl) (by decide) (by rw [e4]; exact ⟨rfl, N4, K4, f5, f6, f7, Fw4⟩) fun fs hr => ?_
  show St p e below s₁ (mkF m 0 #[sR a4, .val a5, sR a1, sI 1] []) _
  refine wil X0 hx hby rfl d31_0 rfl ?_
  refine wal X0 hx hby rfl d31_1 rfl rfl ?_
  refine own_alen X0 hx hZ e0 PV1 (g := (mkF m 2 #[sR a4, .val a5, sR a1, sI 1] [(vR a1), (vI 1)])) rfl rfl (hb hby d31_2) ?_
  refine wcy X0 hx hby rfl (pc0 := 3) (pc' := 11) rfl d31_3 rfl (feq (by decide : ¬ ((1 : Int32) = (10 : Int32)))).2 (by decide) (by decide) ?_
  refine wal X0 hx hby rfl d31_11 rfl rfl ?_
  refine wil X0 hx hby rfl d31_12 rfl ?_
  refine wal X0 hx hby rfl d31_13 rfl (own_obR PE6) ?_
  refine st1 _ ?_
  refine wal X1 hx hby rfl d31_15 rfl rfl ?_
  refine wil X1 hx hby rfl d31_16 rfl ?_
  refine wic X1 hx hby rfl d31_17 ?_
  refine Own.iadd X1.here hx rfl (hb hby d31_18) rfl (by decide : ((1 : Int32) + (1 : Int32)) = (2 : Int32)) ?_
  refine st4 _ ?_
  exact X4.returnOut hx hret (hb hby d31_22) hr
def Qrm55 (Z : State) (a1 : Addr) (a2 : Addr) (ck3 : ClassId) (a4 : Addr) (a5 : Value) (h0 : Heap) (n0 : Nat) (v : Option Value) (h : Heap) (L : List Loc) : Prop := v = some (vI 1) ∧ Fr n0 L ∧ Keep h0 h [a1, a2] ∧ Fld Z h a1 z6 "modCount" "I" (vI 2) ∧ Fld Z h a1 z0 z7 z4 (vR a2) ∧ Fld Z h a1 z0 "size" "I" (vI 2) ∧ Arv Z h a2 ck3 (.object z2) (10 : Int32) [(vR a4), a5, .null, .null, .null, .null, .null, .null, .null, .null] .null
theorem rm55 (cx : Cx Z a0 w1 w2 w3 clw3 w4 kw4 w5 kw5) (a1 : Addr) (a2 : Addr) (ck3 : ClassId) (a4 : Addr) (a5 : Value) (O0 : Old Z n0 h0) (PE1 : Exa Z h0 a1 z0) (PF2 : Fld Z h0 a1 z6 "modCount" "I" (vI 1)) (PF3 : Fld Z h0 a1 z0 z7 z4 (vR a2)) (PF4 : Fld Z h0 a1 z0 "size" "I" (vI 1)) (PV5 : Arv Z h0 a2 ck3 (.object z2) (10 : Int32) [(vR a4), .null, .null, .null, .null, .null, .null, .null, .null, .null] .null) (gn6 : n0 ≤ a1) (PE7 : ObV Z h0 a5) (pne8 : a2 ≠ a1) (Ov9 : Ovr Z ck3 z2) (gn10 : n0 ≤ a2) : Ct l Z ⟨z0, "add", z15⟩ jdk_38_method_25_code 2 (some .boolean) ⟨1, 0, 0, 15⟩ #[(vR a1), a5] h0 (Qrm55 Z a1 a2 ck3 a4 a5 h0 n0) := by
  obtain ⟨hw, hj, hS⟩ := id cx
  refine own_bd (plainFor_of_name pn122) (fun m => ef726 m a1 a5 (own_obR PE7)) fun p e s m below meth c s₁ hret hlk hZ hx hby hml hown hnm X0 e0 => ?_
  have N0 := Fr.nil n0
  obtain ⟨T1, X1, e1, st1⟩ := getF X0 hx hZ hown (host := "") (Or.inl (hw _ m178)) (Via.of (hw _ m179)) e0 PF2 (g := (mkF m 2 #[sR a1, .val a5] [(vR a1), (vR a1)])) rfl rfl (hb hby d30_2)
  obtain ⟨T2, h2, L'2, X2, e2, W2, Fw2, O2, K2, N2, st2⟩ := own_put X1 hx hZ hown (host := "") (Or.inl (hw _ m178)) (Via.of (hw _ m179)) e1 O0 (Keep.refl h0 [a1, a2]) N0 gn6 (Or.inl (List.mem_of_getElem? (i := 0) rfl)) PF2 PE1 (Or.inl (hw _ m161)) (hw _ m142) (ty := .int) (by decide) rfl rfl (g := (mkF m 7 #[sR a1, .val a5] [(vI 2), (vR a1)])) rfl rfl (hb hby d30_7)
  have f3 : ObV Z h2 a5 := (own_obW PE7 W2)
  have f4 : Fld Z h2 a1 z0 z7 z4 (vR a2) := (PF3.other W2 (Or.inr (slot_ne (Or.inl (hw _ m164)) (Or.inl (hw _ m161)) (by decide) (t := (.array (.object z2))) (t' := .int) (by decide) (by decide))))
  obtain ⟨T5, X5, e5, st5⟩ := getF X2 hx hZ hown (host := "") (Or.inl (hw _ m163)) Via.refl e2 f4 (g := (mkF m 13 #[sR a1, .val a5] [(vR a1), a5, (vR a1)])) rfl rfl (hb hby d30_13)
  have f6 : Fld Z h2 a1 z0 "size" "I" (vI 1) := (PF4.other W2 (Or.inr (slot_ne (Or.inl (hw _ m181)) (Or.inl (hw _ m161)) (by decide) (t := .int) (t' := .int) (by decide) (by decide))))
  obtain ⟨T7, X7, e7, st7⟩ := getF X5 hx hZ hown (host := "") (Or.inl (hw _ m180)) Via.refl e5 f6 (g := (mkF m 17 #[sR a1, .val a5] [(vR a1), (vR a2), a5, (vR a1)])) rfl rfl (hb hby d30_17)
  have f9 : Arv Z h2 a2 ck3 (.object z2) (10 : Int32) [(vR a4), .null, .null, .null, .null, .null, .null, .null, .null, .null] .null := (PV5.other W2 pne8)
  have f10 : Exa Z h2 a1 z0 := (PE1.wr W2)
  obtain ⟨_, T8, L8, ⟨rfl, N8q, Kq8, q8_0, q8_1, q8_2, q8_3⟩, X8, st8⟩ := own_private X7 hx hZ (W := 0) hown (hw _ m182) (hw _ m183) (mvT hZ (hw _ m185)) (hw _ m184) (hw _ m143) (hw _ m186) (by decide) (rm54 cx a2 ck3 a4 a1 a5 O2 f9 f10 Fw2 f4 f6 f3 Ov9 gn10 (Ne.symm pne8) gn6) e7 f10 (g := (mkF m 20 #[sR a1, .val a5] [(vI 1), (vR a2), a5, (vR a1)])) rfl hml rfl (rest := []) (lenOf pd640 rfl) rfl rfl rfl (hb hby d30_20) (by decide)
  have N8 := Fr.app N2 N8q
  have O8 : Old Z n0 T8.heap := O2.keep Kq8 (allS gn10 (allS gn6 all0))
  have K8 : Keep h0 T8.heap [a1, a2] := K2.trans Kq8 (allS (Or.inl (List.mem_of_getElem? (i := 1) rfl)) (allS (Or.inl (List.mem_of_getElem? (i := 0) rfl)) all0))
  refine own_end X8 hlk (v := some (vI 1)) (own_hv hret) (by decide) ⟨rfl, N8, K8, q8_1, q8_2, q8_3, q8_0⟩ fun fs hr => ?_
  show St p e below s₁ (mkF m 0 #[sR a1, .val a5] []) _
  refine wal X0 hx hby rfl d30_0 rfl rfl ?_
  refine wdu X0 hx hby rfl d30_1 rfl rfl ?_
  refine st1 _ ?_
  refine wic X1 hx hby rfl d30_5 ?_
  refine Own.iadd X1.here hx rfl (hb hby d30_6) rfl (by decide : ((1 : Int32) + (1 : Int32)) = (2 : Int32)) ?_
  refine st2 _ ?_
  refine wal X2 hx hby rfl d30_10 rfl rfl ?_
  refine wal X2 hx hby rfl d30_11 rfl (own_obR f3) ?_
  refine wal X2 hx hby rfl d30_12 rfl rfl ?_
  refine st5 _ ?_
  refine wal X5 hx hby rfl d30_16 rfl rfl ?_
  refine st7 _ ?_
  refine st8 _ ?_
  refine wic X8 hx hby rfl d30_23 ?_
  exact retN X8 hx (t := .boolean) hret (by simp) (hb hby d30_24) hr
def Qrm56 (Z : State) (h0 : Heap) (n0 : Nat) (v : Option Value) (h : Heap) (L : List Loc) : Prop := v = some (vI 2) ∧ Fr n0 L ∧ h = h0
theorem rm56 (cx : Cx Z a0 w1 w2 w3 clw3 w4 kw4 w5 kw5) (a1 : Addr) (O0 : Old Z n0 h0) (PF1 : Fld Z h0 a1 z0 "size" "I" (vI 2)) : Ct l Z ⟨z0, "size", "()I"⟩ jdk_38_method_8_code 1 (some .int) ⟨0, 0, 0, 0⟩ #[(vR a1)] h0 (Qrm56 Z h0 n0) := by
  obtain ⟨hw, hj, hS⟩ := id cx
  refine own_bd (plainFor_of_name pn122) (fun m => ef44 m a1) fun p e s m below meth c s₁ hret hlk hZ hx hby hml hown hnm X0 e0 => ?_
  have N0 := Fr.nil n0
  obtain ⟨T1, X1, e1, st1⟩ := getF X0 hx hZ hown (host := "") (Or.inl (hw _ m180)) Via.refl e0 PF1 (g := (mkF m 1 #[sR a1] [(vR a1)])) rfl rfl (hb hby d35_1)
  refine own_end X1 hlk (v := some (vI 2)) (own_hv hret) (by decide) (by rw [e1]; exact ⟨rfl, N0, rfl⟩) fun fs hr => ?_
  show St p e below s₁ (mkF m 0 #[sR a1] []) _
  refine wal X0 hx hby rfl d35_0 rfl rfl ?_
  refine st1 _ ?_
  exact retOut X1 hx hret rfl (Or.inl ⟨rfl, Or.inl rfl, _, rfl⟩) (hb hby d35_4) hr
def Qrm57 (Z : State) (h0 : Heap) (n0 : Nat) (v : Option Value) (h : Heap) (L : List Loc) : Prop := v = some (vI 0) ∧ Fr n0 L ∧ h = h0
theorem rm57 (cx : Cx Z a0 w1 w2 w3 clw3 w4 kw4 w5 kw5) (O0 : Old Z n0 h0) : Ct l Z ⟨z22, "checkIndex", "(II)I"⟩ jdk_31_method_17_code 2 (some .int) ⟨1, 0, 0, 14⟩ #[(vI 0), (vI 2)] h0 (Qrm57 Z h0 n0) := by
  obtain ⟨hw, hj, hS⟩ := id cx
  refine own_bd (plainFor_of_name pn686) (fun m => ef261 m 0 2) fun p e s m below meth c s₁ hret hlk hZ hx hby hml hown hnm X0 e0 => ?_
  have N0 := Fr.nil n0
  obtain ⟨_, T1, L1, ⟨rfl, N1q, e1⟩, X1, st1⟩ := cS X0 hx hZ (W := 0) hown (cw33 cx) (rm49 cx 0 2 O0 (by decide : ¬ ((0 : Int32) < (0 : Int32))) (by decide : (0 : Int32) < (2 : Int32))) e0 (g := (mkF m 3 #[sI 0, sI 2] [.null, (vI 2), (vI 0)])) rfl hml rfl (rest := []) rfl rfl rfl rfl (hb hby d37_3) (by decide)
  refine own_end X1 hlk (v := some (vI 0)) (own_hv hret) (by decide) (by rw [e1]; exact ⟨rfl, (Fr.app N0 N1q), rfl⟩) fun fs hr => ?_
  show St p e below s₁ (mkF m 0 #[sI 0, sI 2] []) _
  refine wil X0 hx hby rfl d37_0 rfl ?_
  refine wil X0 hx hby rfl d37_1 rfl ?_
  refine wan X0 hx hby rfl d37_2 ?_
  refine st1 _ ?_
  exact retOut X1 hx hret rfl (Or.inl ⟨rfl, Or.inl rfl, _, rfl⟩) (hb hby d37_6) hr
def Qrm58 (Z : State) (a4 : Addr) (h0 : Heap) (n0 : Nat) (v : Option Value) (h : Heap) (L : List Loc) : Prop := v = some (vR a4) ∧ Fr n0 L ∧ h = h0
theorem rm58 (cx : Cx Z a0 w1 w2 w3 clw3 w4 kw4 w5 kw5) (a1 : Addr) (a2 : Addr) (ck3 : ClassId) (a4 : Addr) (a5 : Value) (O0 : Old Z n0 h0) (PF1 : Fld Z h0 a1 z0 z7 z4 (vR a2)) (PV2 : Arv Z h0 a2 ck3 (.object z2) (10 : Int32) [(vR a4), a5, .null, .null, .null, .null, .null, .null, .null, .null] .null) : Ct l Z ⟨z0, z7, z10⟩ jdk_38_method_18_code 2 (some (.object z2)) ⟨0, 0, 0, 0⟩ #[(vR a1), (vI 0)] h0 (Qrm58 Z a4 h0 n0) := by
  obtain ⟨hw, hj, hS⟩ := id cx
  refine own_bd (plainFor_of_name pn122) (fun m => ef55 m a1 0) fun p e s m below meth c s₁ hret hlk hZ hx hby hml hown hnm X0 e0 => ?_
  have N0 := Fr.nil n0
  obtain ⟨T1, X1, e1, st1⟩ := getF X0 hx hZ hown (host := "") (Or.inl (hw _ m163)) Via.refl e0 PF1 (g := (mkF m 1 #[sR a1, sI 0] [(vR a1)])) rfl rfl (hb hby d38_1)
  refine own_end X1 hlk (v := some (vR a4)) (own_hv hret) (by decide) (by rw [e1]; exact ⟨rfl, N0, rfl⟩) fun fs hr => ?_
  show St p e below s₁ (mkF m 0 #[sR a1, sI 0] []) _
  refine wal X0 hx hby rfl d38_0 rfl rfl ?_
  refine st1 _ ?_
  refine wil X1 hx hby rfl d38_4 rfl ?_
  refine own_aaload X1 hx hZ e1 PV2 (j := 0) (by decide) (v := (vR a4)) rfl rfl (g := (mkF m 5 #[sR a1, sI 0] [(vI 0), (vR a2)])) rfl rfl (hb hby d38_5) ?_
  exact retOut X1 hx hret rfl (Or.inr (Or.inr (Or.inr (Or.inr ⟨rfl, rfl, rfl⟩)))) (hb hby d38_6) hr
def Qrm59 (Z : State) (a4 : Addr) (h0 : Heap) (n0 : Nat) (v : Option Value) (h : Heap) (L : List Loc) : Prop := v = some (vR a4) ∧ Fr n0 L ∧ h = h0
theorem rm59 (cx : Cx Z a0 w1 w2 w3 clw3 w4 kw4 w5 kw5) (a1 : Addr) (a2 : Addr) (ck3 : ClassId) (a4 : Addr) (a5 : Value) (O0 : Old Z n0 h0) (PF1 : Fld Z h0 a1 z0 "size" "I" (vI 2)) (PF2 : Fld Z h0 a1 z0 z7 z4 (vR a2)) (PV3 : Arv Z h0 a2 ck3 (.object z2) (10 : Int32) [(vR a4), a5, .null, .null, .null, .null, .null, .null, .null, .null] .null) (PE4 : Exa Z h0 a1 z0) : Ct l Z ⟨z0, "get", z10⟩ jdk_38_method_20_code 2 (some (.object z2)) ⟨2, 0, 0, 27⟩ #[(vR a1), (vI 0)] h0 (Qrm59 Z a4 h0 n0) := by
  obtain ⟨hw, hj, hS⟩ := id cx
  refine own_bd (plainFor_of_name pn122) (fun m => ef55 m a1 0) fun p e s m below meth c s₁ hret hlk hZ hx hby hml hown hnm X0 e0 => ?_
  have N0 := Fr.nil n0
  obtain ⟨T1, X1, e1, st1⟩ := getF X0 hx hZ hown (host := "") (Or.inl (hw _ m180)) Via.refl e0 PF1 (g := (mkF m 2 #[sR a1, sI 0] [(vR a1), (vI 0)])) rfl rfl (hb hby d36_2)
  obtain ⟨_, T2, L2, ⟨rfl, N2q, e2⟩, X2, st2⟩ := cS X1 hx hZ (W := 0) hown (cw34 cx) (rm57 cx O0) e1 (g := (mkF m 5 #[sR a1, sI 0] [(vI 2), (vI 0)])) rfl hml rfl (rest := []) rfl rfl rfl rfl (hb hby d36_5) (by decide)
  obtain ⟨_, T3, L3, ⟨rfl, N3q, e3⟩, X3, st3⟩ := cV X2 hx hZ (W := 0) hown (cw35 cx) (rm58 cx a1 a2 ck3 a4 a5 O0 PF2 PV3) e2 PE4 (g := (mkF m 11 #[sR a1, sI 0] [(vI 0), (vR a1)])) rfl hml rfl (rest := []) rfl rfl rfl rfl (hb hby d36_11) (by decide)
  refine own_end X3 hlk (v := some (vR a4)) (own_hv hret) (by decide) (by rw [e3]; exact ⟨rfl, (Fr.app (Fr.app N0 N2q) N3q), rfl⟩) fun fs hr => ?_
  show St p e below s₁ (mkF m 0 #[sR a1, sI 0] []) _
  refine wil X0 hx hby rfl d36_0 rfl ?_
  refine wal X0 hx hby rfl d36_1 rfl rfl ?_
  refine st1 _ ?_
  refine st2 _ ?_
  refine XS.pop X2.here hx rfl (hb hby d36_8) rfl rfl ?_
  refine wal X2 hx hby rfl d36_9 rfl rfl ?_
  refine wil X2 hx hby rfl d36_10 rfl ?_
  refine st3 _ ?_
  exact retOut X3 hx hret rfl (Or.inr (Or.inr (Or.inr (Or.inr ⟨rfl, rfl, rfl⟩)))) (hb hby d36_14) hr
def Qrm60 (Z : State) (a4 : Addr) (h0 : Heap) (n0 : Nat) (v : Option Value) (h : Heap) (L : List Loc) : Prop := v = some (vR a4) ∧ Fr n0 L ∧ h = h0
theorem rm60 (cx : Cx Z a0 w1 w2 w3 clw3 w4 kw4 w5 kw5) (a1 : Addr) (a2 : Addr) (ck3 : ClassId) (a4 : Addr) (a5 : Value) (O0 : Old Z n0 h0) (PF1 : Fld Z h0 a1 z0 "size" "I" (vI 2)) (PE2 : Exa Z h0 a1 z0) (PF3 : Fld Z h0 a1 z0 z7 z4 (vR a2)) (PV4 : Arv Z h0 a2 ck3 (.object z2) (10 : Int32) [(vR a4), a5, .null, .null, .null, .null, .null, .null, .null, .null] .null) (PE5 : Exa Z h0 a4 z5) : Ct l Z ⟨z8, "element", z14⟩ prog_16_method_9_code 3 (some (.object z16)) ⟨3, 0, 0, 40⟩ #[(vR a1), (vI 0)] h0 (Qrm60 Z a4 h0 n0) := by
  obtain ⟨hw, hj, hS⟩ := id cx
  refine own_bd (plainFor_of_name pn546) (fun m => ef503 m a1 0) fun p e s m below meth c s₁ hret hlk hZ hx hby hml hown hnm X0 e0 => ?_
  have N0 := Fr.nil n0
  obtain ⟨_, T1, L1, ⟨rfl, N1q, e1⟩, X1, st1⟩ := own_iface X0 hx hZ (W := 1) hown (hw _ m204) (hw _ m205) (mvT hZ (hw _ m206)) (hw _ m207) (hw _ m208) (mvT hZ (hw _ m209)) (mvT hZ (hw _ m210)) (hw _ m176) (hw _ m143) (hw _ m211) (by decide) (rm56 cx a1 O0 PF1) e0 PE2 (g := (mkF m 2 #[sR a1, sI 0, sU] [(vR a1), (vI 0)])) rfl hml rfl (rest := [(vI 0)]) (lenOf pd200 rfl) rfl rfl rfl (hb hby d34_2) (by decide)
  obtain ⟨_, T2, L2, ⟨rfl, N2q, e2⟩, X2, st2⟩ := own_iface X1 hx hZ (W := 0) hown (hw _ m212) (hw _ m213) (mvT hZ (hw _ m214)) (hw _ m215) (hw _ m216) (mvT hZ (hw _ m217)) (mvT hZ (hw _ m218)) (hw _ m176) (hw _ m143) (hw _ m219) (by decide) (rm59 cx a1 a2 ck3 a4 a5 O0 PF1 PF3 PV4 PE2) e1 PE2 (g := (mkF m 12 #[sR a1, sI 0, sU] [(vI 0), (vR a1)])) rfl hml rfl (rest := []) (lenOf pd521 rfl) rfl rfl rfl (hb hby d34_12) (by decide)
  obtain ⟨T3, X3, e3, st3⟩ := instY X2 hx hZ hown (hw _ m136) e2 (Ins.of_exa PE5 (hw _ m137)) (g := (mkF m 23 #[sR a1, sI 0, sR a4] [(vR a4)])) rfl rfl (hb hby d34_23)
  obtain ⟨_, T4, L4, ⟨rfl, N4q, e4⟩, X4, st4⟩ := cS X3 hx hZ (W := 0) hown (cw29 cx) (rm40 cx a4 O0 PE5) e3 (g := (mkF m 44 #[sR a1, sI 0, sR a4] [(vR a4)])) rfl hml rfl (rest := []) rfl rfl rfl rfl (hb hby d34_44) (by decide)
  refine own_end X4 hlk (v := some (vR a4)) (own_hv hret) (by decide) (by rw [e4]; exact ⟨rfl, (Fr.app (Fr.app (Fr.app N0 N1q) N2q) N4q), rfl⟩) fun fs hr => ?_
  show St p e below s₁ (mkF m 0 #[sR a1, sI 0, sU] []) _
  refine wil X0 hx hby rfl d34_0 rfl ?_
  refine wal X0 hx hby rfl d34_1 rfl rfl ?_
  refine st1 _ ?_
  refine wcn X1 hx hby rfl d34_7 rfl (tlt (by decide : (0 : Int32) < (2 : Int32))).2.1 ?_
  refine wal X1 hx hby rfl d34_10 rfl rfl ?_
  refine wil X1 hx hby rfl d34_11 rfl ?_
  refine st2 _ ?_
  refine wgt X2 hx hby rfl (pc0 := 17) (pc' := 21) rfl d34_17 (by decide) (by decide) ?_
  refine was X2 hx hby rfl d34_21 rfl rfl (l' := #[sR a1, sI 0, sR a4]) rfl ?_
  refine wal X2 hx hby rfl d34_22 rfl rfl ?_
  refine st3 _ ?_
  refine wfy X3 hx hby rfl (pc0 := 26) (pc' := 43) rfl d34_26 rfl ((if0 _ _).trans (feq (by decide : ¬ ((1 : Int32) = (0 : Int32)))).2) (by decide) (by decide) ?_
  refine wal X3 hx hby rfl d34_43 rfl rfl ?_
  refine st4 _ ?_
  exact retOut X4 hx hret rfl (Or.inr (Or.inr (Or.inr (Or.inr ⟨rfl, rfl, rfl⟩)))) (hb hby d34_47) hr
def Qrm61 (Z : State) (a1 : Addr) (a2 : Value) (h0 : Heap) (n0 : Nat) (v : Option Value) (h : Heap) (L : List Loc) : Prop := ∃ x0 : Addr, ∃ xk0 : ClassId, v = none ∧ Fr n0 L ∧ Keep h0 h [a1] ∧ h0.size ≤ x0 ∧ Arv Z h x0 xk0 (.object z2) (10 : Int32) [a2, .null, .null, .null, .null, .null, .null, .null, .null, .null] .null ∧ Ovr Z xk0 z2 ∧ Fld Z h a1 z6 "modCount" "I" (vI 1) ∧ Fld Z h a1 z0 z7 z4 (vR x0) ∧ Fld Z h a1 z0 "size" "I" (vI 1)
theorem rm61 (cx : Cx Z a0 w1 w2 w3 clw3 w4 kw4 w5 kw5) (a1 : Addr) (a2 : Value) (O0 : Old Z n0 h0) (PE1 : Exa Z h0 a1 z0) (PF2 : Fld Z h0 a1 z6 "modCount" "I" (vI 1)) (PF3 : Fld Z h0 a1 z0 z7 z4 (vR w4)) (PF4 : Fld Z h0 a1 z0 "size" "I" (vI 0)) (gn5 : n0 ≤ a1) (PE6 : ObV Z h0 a2) : Ct l Z ⟨z0, "add", z12⟩ jdk_38_method_24_code 4 none ⟨3, 1, 10, 41⟩ #[(vR a1), a2, (vR w4), (vI 0)] h0 (Qrm61 Z a1 a2 h0 n0) := by
  obtain ⟨hw, hj, hS⟩ := id cx
  refine own_bd (plainFor_of_name pn122) (fun m => ef725 m a1 a2 w4 0 (own_obR PE6)) fun p e s m below meth c s₁ hret hlk hZ hx hby hml hown hnm X0 e0 => ?_
  have N0 := Fr.nil n0
  obtain ⟨_, T1, L1, ⟨c1_0, k1_1, rfl, N1q, Kq1, lo1_0, q1_0, q1_1, q1_2, q1_3, q1_4⟩, X1, st1⟩ := own_private X0 hx hZ (W := 0) hown (hw _ m187) (hw _ m188) (mvT hZ (hw _ m190)) (hw _ m189) (hw _ m143) (hw _ m191) (by decide) (rm45 cx a1 O0 PE1 PF2 PF3 PF4 gn5) e0 PE1 (g := (mkF m 7 #[sR a1, .val a2, sR w4, sI 0] [(vR a1)])) rfl hml rfl (rest := []) (lenOf pd624 rfl) rfl rfl rfl (hb hby d31_7) (by decide)
  have N1 := Fr.app N0 N1q
  have O1 : Old Z n0 T1.heap := O0.keep Kq1 (allS gn5 all0)
  have K1 : Keep h0 T1.heap [a1] := (Keep.refl h0 [a1]).trans Kq1 (allS (Or.inl (List.mem_of_getElem? (i := 0) rfl)) all0)
  have f2 : ObV Z T1.heap a2 := (own_obK PE6 Kq1)
  obtain ⟨T3, h3, L'3, X3, e3, W3, V3, O3, K3, N3, st3⟩ := own_stR X1 hx hZ (rfl : T1.heap = T1.heap) q1_0 O1 K1 N1 (Nat.le_trans (own_old_le O0) lo1_0) (Or.inr (Nat.le_trans (Keep.refl h0 [a1]).1 lo1_0)) (j := (0 : Int32)) 0 (by decide) (Nat.le_of_ble_eq_true rfl) (vs' := [a2, .null, .null, .null, .null, .null, .null, .null, .null, .null]) rfl rfl (own_obF f2) (own_obS q1_1 f2) (g := (mkF m 14 #[sR a1, .val a2, sR c1_0, sI 0] [a2, (vI 0), (vR c1_0)])) rfl rfl (hb hby d31_14)
  have f4 : Fld Z h3 a1 z0 "size" "I" (vI 0) := (q1_4.other W3 (Or.inl (Nat.ne_of_lt (Nat.lt_of_lt_of_le PE1.lt lo1_0))))
  have f5 : Exa Z h3 a1 z0 := ((PE1.keep Kq1).wr W3)
  obtain ⟨T6, h6, L'6, X6, e6, W6, Fw6, O6, K6, N6, st6⟩ := own_put X3 hx hZ hown (host := "") (Or.inl (hw _ m180)) Via.refl e3 O3 K3 N3 gn5 (Or.inl (List.mem_of_getElem? (i := 0) rfl)) f4 f5 (Or.inl (hw _ m181)) (hw _ m142) (ty := .int) (by decide) rfl rfl (g := (mkF m 19 #[sR a1, .val a2, sR c1_0, sI 0] [(vI 1), (vR a1)])) rfl rfl (hb hby d31_19)
  have f7 : Arv Z h6 c1_0 k1_1 (.object z2) (10 : Int32) [a2, .null, .null, .null, .null, .null, .null, .null, .null, .null] .null := (V3.other W6 (Ne.symm (Nat.ne_of_lt (Nat.lt_of_lt_of_le PE1.lt lo1_0))))
  have f8 : Fld Z h6 a1 z6 "modCount" "I" (vI 1) := ((q1_2.other W3 (Or.inl (Nat.ne_of_lt (Nat.lt_of_lt_of_le PE1.lt lo1_0)))).other W6 (Or.inr (slot_ne (Or.inl (hw _ m161)) (Or.inl (hw _ m181)) (by decide) (t := .int) (t' := .int) (by decide) (by decide))))
  have f9 : Fld Z h6 a1 z0 z7 z4 (vR c1_0) := ((q1_3.other W3 (Or.inl (Nat.ne_of_lt (Nat.lt_of_lt_of_le PE1.lt lo1_0)))).other W6 (Or.inr (slot_ne (Or.inl (hw _ m164)) (Or.inl (hw _ m181)) (by decide) (t := (.array (.object z2))) (t' := .int) (by decide) (by decide))))
  refine own_end X6 hlk (v := none) (fun _ => rfl) (by decide) (by rw [e6]; exact ⟨c1_0, k1_1, rfl, N6, K6, (Nat.le_trans (Keep.refl h0 [a1]).1 lo1_0), f7, q1_1, f8, f9, Fw6⟩) fun fs hr => ?_
  show St p e below s₁ (mkF m 0 #[sR a1, .val a2, sR w4, sI 0] []) _
  refine wil X0 hx hby rfl d31_0 rfl ?_
  refine wal X0 hx hby rfl d31_1 rfl rfl ?_
  refine own_alen X0 hx hZ e0 (hS.2.2.2.2.2.2.2.2.1.ext O0.2) (g := (mkF m 2 #[sR a1, .val a2, sR w4, sI 0] [(vR w4), (vI 0)])) rfl rfl (hb hby d31_2) ?_
  refine wcn X0 hx hby rfl d31_3 rfl (teq (by decide : (0 : Int32) = (0 : Int32))).2 ?_
  refine wal X0 hx hby rfl d31_6 rfl rfl ?_
  refine st1 _ ?_
  refine was X1 hx hby rfl d31_10 rfl rfl (l' := #[sR a1, .val a2, sR c1_0, sI 0]) rfl ?_
  refine wal X1 hx hby rfl d31_11 rfl rfl ?_
  refine wil X1 hx hby rfl d31_12 rfl ?_
  refine wal X1 hx hby rfl d31_13 rfl (own_obR f2) ?_
  refine st3 _ ?_
  refine wal X3 hx hby rfl d31_15 rfl rfl ?_
  refine wil X3 hx hby rfl d31_16 rfl ?_
  refine wic X3 hx hby rfl d31_17 ?_
  refine Own.iadd X3.here hx rfl (hb hby d31_18) rfl (by decide : ((0 : Int32) + (1 : Int32)) = (1 : Int32)) ?_
  refine st6 _ ?_
  show St p e below T6 (mkF m 22 #[sR a1, .val a2, sR c1_0, sI 0] []) _
  exact X6.returnOut hx hret (hb hby d31_22) hr
def Qrm62 (Z : State) (a1 : Addr) (a2 : Value) (h0 : Heap) (n0 : Nat) (v : Option Value) (h : Heap) (L : List Loc) : Prop := ∃ x0 : Addr, ∃ xk0 : ClassId, v = some (vI 1) ∧ Fr n0 L ∧ Keep h0 h [a1] ∧ h0.size ≤ x0 ∧ Arv Z h x0 xk0 (.object z2) (10 : Int32) [a2, .null, .null, .null, .null, .null, .null, .null, .null, .null] .null ∧ Ovr Z xk0 z2 ∧ Fld Z h a1 z6 "modCount" "I" (vI 1) ∧ Fld Z h a1 z0 z7 z4 (vR x0) ∧ Fld Z h a1 z0 "size" "I" (vI 1)
theorem rm62 (cx : Cx Z a0 w1 w2 w3 clw3 w4 kw4 w5 kw5) (a1 : Addr) (a2 : Value) (O0 : Old Z n0 h0) (PE1 : Exa Z h0 a1 z0) (PF2 : Fld Z h0 a1 z6 "modCount" "I" (vI 0)) (PF3 : Fld Z h0 a1 z0 z7 z4 (vR w4)) (PF4 : Fld Z h0 a1 z0 "size" "I" (vI 0)) (gn5 : n0 ≤ a1) (PE6 : ObV Z h0 a2) : Ct l Z ⟨z0, "add", z15⟩ jdk_38_method_25_code 2 (some .boolean) ⟨4, 1, 10, 56⟩ #[(vR a1), a2] h0 (Qrm62 Z a1 a2 h0 n0) := by
  obtain ⟨hw, hj, hS⟩ := id cx
  refine own_bd (plainFor_of_name pn122) (fun m => ef726 m a1 a2 (own_obR PE6)) fun p e s m below meth c s₁ hret hlk hZ hx hby hml hown hnm X0 e0 => ?_
  have N0 := Fr.nil n0
  obtain ⟨T1, X1, e1, st1⟩ := getF X0 hx hZ hown (host := "") (Or.inl (hw _ m178)) (Via.of (hw _ m179)) e0 PF2 (g := (mkF m 2 #[sR a1, .val a2] [(vR a1), (vR a1)])) rfl rfl (hb hby d30_2)
  obtain ⟨T2, h2, L'2, X2, e2, W2, Fw2, O2, K2, N2, st2⟩ := own_put X1 hx hZ hown (host := "") (Or.inl (hw _ m178)) (Via.of (hw _ m179)) e1 O0 (Keep.refl h0 [a1]) N0 gn5 (Or.inl (List.mem_of_getElem? (i := 0) rfl)) PF2 PE1 (Or.inl (hw _ m161)) (hw _ m142) (ty := .int) (by decide) rfl rfl (g := (mkF m 7 #[sR a1, .val a2] [(vI 1), (vR a1)])) rfl rfl (hb hby d30_7)
  have f3 : ObV Z h2 a2 := (own_obW PE6 W2)
  have f4 : Fld Z h2 a1 z0 z7 z4 (vR w4) := (PF3.other W2 (Or.inr (slot_ne (Or.inl (hw _ m164)) (Or.inl (hw _ m161)) (by decide) (t := (.array (.object z2))) (t' := .int) (by decide) (by decide))))
  obtain ⟨T5, X5, e5, st5⟩ := getF X2 hx hZ hown (host := "") (Or.inl (hw _ m163)) Via.refl e2 f4 (g := (mkF m 13 #[sR a1, .val a2] [(vR a1), a2, (vR a1)])) rfl rfl (hb hby d30_13)
  have f6 : Fld Z h2 a1 z0 "size" "I" (vI 0) := (PF4.other W2 (Or.inr (slot_ne (Or.inl (hw _ m181)) (Or.inl (hw _ m161)) (by decide) (t := .int) (t' := .int) (by decide) (by decide))))
  obtain ⟨T7, X7, e7, st7⟩ := getF X5 hx hZ hown (host := "") (Or.inl (hw _ m180)) Via.refl e5 f6 (g := (mkF m 17 #[sR a1, .val a2] [(vR a1), (vR w4), a2, (vR a1)])) rfl rfl (hb hby d30_17)
  have f9 : Exa Z h2 a1 z0 := (PE1.wr W2)
  obtain ⟨_, T8, L8, ⟨c8_0, k8_1, rfl, N8q, Kq8, lo8_0, q8_0, q8_1, q8_2, q8_3, q8_4⟩, X8, st8⟩ := own_private X7 hx hZ (W := 0) hown (hw _ m182) (hw _ m183) (mvT hZ (hw _ m185)) (hw _ m184) (hw _ m143) (hw _ m186) (by decide) (rm61 cx a1 a2 O2 f9 Fw2 f4 f6 gn5 f3) e7 f9 (g := (mkF m 20 #[sR a1, .val a2] [(vI 0), (vR w4), a2, (vR a1)])) rfl hml rfl (rest := []) (lenOf pd640 rfl) rfl rfl rfl (hb hby d30_20) (by decide)
  have N8 := Fr.app N2 N8q
  have O8 : Old Z n0 T8.heap := O2.keep Kq8 (allS gn5 all0)
  have K8 : Keep h0 T8.heap [a1] := K2.trans Kq8 (allS (Or.inl (List.mem_of_getElem? (i := 0) rfl)) all0)
  refine own_end X8 hlk (v := some (vI 1)) (own_hv hret) (by decide) ⟨c8_0, k8_1, rfl, N8, K8, (Nat.le_trans K2.1 lo8_0), q8_0, q8_1, q8_2, q8_3, q8_4⟩ fun fs hr => ?_
  show St p e below s₁ (mkF m 0 #[sR a1, .val a2] []) _
  refine wal X0 hx hby rfl d30_0 rfl rfl ?_
  refine wdu X0 hx hby rfl d30_1 rfl rfl ?_
  refine st1 _ ?_
  refine wic X1 hx hby rfl d30_5 ?_
  refine Own.iadd X1.here hx rfl (hb hby d30_6) rfl (by decide : ((0 : Int32) + (1 : Int32)) = (1 : Int32)) ?_
  refine st2 _ ?_
  refine wal X2 hx hby rfl d30_10 rfl rfl ?_
  refine wal X2 hx hby rfl d30_11 rfl (own_obR f3) ?_
  refine wal X2 hx hby rfl d30_12 rfl rfl ?_
  refine st5 _ ?_
  refine wal X5 hx hby rfl d30_16 rfl rfl ?_
  refine st7 _ ?_
  refine st8 _ ?_
  refine wic X8 hx hby rfl d30_23 ?_
  exact retN X8 hx (t := .boolean) hret (by simp) (hb hby d30_24) hr
def Qrm63 (Z : State) (a3 : Addr) (h0 : Heap) (n0 : Nat) (v : Option Value) (h : Heap) (L : List Loc) : Prop := v = some (vR a3) ∧ Fr n0 L ∧ h = h0
theorem rm63 (cx : Cx Z a0 w1 w2 w3 clw3 w4 kw4 w5 kw5) (p1 : Int32) (p2 : Int32) (a3 : Addr) (O0 : Old Z n0 h0) : Ct l Z ⟨z9, "slot", z19⟩ method_3_code 6 (some (.object z2)) ⟨0, 0, 0, 0⟩ #[(vI 1), (vI 1), (vI p1), (vI p2), (vR a3)] h0 (Qrm63 Z a3 h0 n0) := by
  obtain ⟨hw, hj, hS⟩ := id cx
  refine own_bd (plainFor_of_name pn127) (fun m => ef128 m 1 1 p1 p2 a3) fun p e s m below meth c s₁ hret hlk hZ hx hby hml hown hnm X0 e0 => ?_
  have N0 := Fr.nil n0
  refine own_end X0 hlk (v := some (vR a3)) (own_hv hret) (by decide) (by rw [e0]; exact ⟨rfl, N0, rfl⟩) fun fs hr => ?_
  show St p e below s₁ (mkF m 0 #[sI 1, sI 1, sI p1, sI p2, sR a3, sU] []) _
  refine wil X0 hx hby rfl d29_0 rfl ?_
  refine wic X0 hx hby rfl d29_1 ?_
  refine wil X0 hx hby rfl d29_2 rfl ?_
  refine Own.imul X0.here hx rfl (hb hby d29_3) rfl (by decide : ((2 : Int32) * (1 : Int32)) = (2 : Int32)) ?_
  refine XS.iushr X0.here hx rfl (hb hby d29_4) rfl ?_
  refine wic X0 hx hby rfl d29_5 ?_
  refine XS.iand X0.here hx rfl (hb hby d29_6) rfl ?_
  refine wiS X0 hx hby rfl d29_7 rfl (l' := #[sI 1, sI 1, sI p1, sI p2, sR a3, sI (((p1.toUInt32 >>> ((2 : Int32) &&& 31).toUInt32).toInt32) &&& (3 : Int32))]) rfl ?_
  refine wil X0 hx hby rfl d29_9 rfl ?_
  refine wil X0 hx hby rfl d29_10 rfl ?_
  refine wcy X0 hx hby rfl (pc0 := 11) (pc' := 19) rfl d29_11 rfl (teq (by decide : (1 : Int32) = (1 : Int32))).1 (by decide) (by decide) ?_
  refine waL X0 hx hby rfl d29_19 rfl rfl ?_
  exact retOut X0 hx hret rfl (Or.inr (Or.inr (Or.inr (Or.inr ⟨rfl, rfl, rfl⟩)))) (hb hby d29_21) hr
def Qrm64 (Z : State) (a1 : Addr) (ck2 : ClassId) (a3 : Value) (a4 : Addr) (a5 : Addr) (h0 : Heap) (n0 : Nat) (v : Option Value) (h : Heap) (L : List Loc) : Prop := v = none ∧ Fr n0 L ∧ Keep h0 h [a1, a4] ∧ Arv Z h a1 ck2 (.object z2) (10 : Int32) [a3, (vR a5), .null, .null, .null, .null, .null, .null, .null, .null] .null ∧ Fld Z h a4 z6 "modCount" "I" (vI 2) ∧ Fld Z h a4 z0 z7 z4 (vR a1) ∧ Fld Z h a4 z0 "size" "I" (vI 2)
theorem rm64 (cx : Cx Z a0 w1 w2 w3 clw3 w4 kw4 w5 kw5) (a1 : Addr) (ck2 : ClassId) (a3 : Value) (a4 : Addr) (a5 : Addr) (O0 : Old Z n0 h0) (PV1 : Arv Z h0 a1 ck2 (.object z2) (10 : Int32) [a3, .null, .null, .null, .null, .null, .null, .null, .null, .null] .null) (PE2 : Exa Z h0 a4 z0) (PF3 : Fld Z h0 a4 z6 "modCount" "I" (vI 2)) (PF4 : Fld Z h0 a4 z0 z7 z4 (vR a1)) (PF5 : Fld Z h0 a4 z0 "size" "I" (vI 1)) (Ov6 : Ovr Z ck2 z2) (PE7 : Exa Z h0 a5 z5) (gn8 : n0 ≤ a1) (pne9 : a4 ≠ a1) (gn10 : n0 ≤ a4) : Ct l Z ⟨z0, "add", z12⟩ jdk_38_method_24_code 4 none ⟨0, 0, 0, 0⟩ #[(vR a4), (vR a5), (vR a1), (vI 1)] h0 (Qrm64 Z a1 ck2 a3 a4 a5 h0 n0) := by
  obtain ⟨hw, hj, hS⟩ := id cx
  refine own_bd (plainFor_of_name pn122) (fun m => ef638 m a4 a5 a1 1) fun p e s m below meth c s₁ hret hlk hZ hx hby hml hown hnm X0 e0 => ?_
  have N0 := Fr.nil n0
  obtain ⟨T1, h1, L'1, X1, e1, W1, V1, O1, K1, N1, st1⟩ := own_stR X0 hx hZ e0 PV1 O0 (Keep.refl h0 [a1, a4]) N0 gn8 (Or.inl (List.mem_of_getElem? (i := 0) rfl)) (j := (1 : Int32)) 1 (by decide) (Nat.le_of_ble_eq_true rfl) (vs' := [a3, (vR a5), .null, .null, .null, .null, .null, .null, .null, .null]) rfl rfl rfl (Or.inr ⟨_, _, rfl, Ov6, (Ins.of_exa PE7 (hw _ m200))⟩) (g := (mkF m 14 #[sR a4, sR a5, sR a1, sI 1] [(vR a5), (vI 1), (vR a1)])) rfl rfl (hb hby d31_14)
  have f2 : Fld Z h1 a4 z0 "size" "I" (vI 1) := (PF5.other W1 (Or.inl pne9))
  have f3 : Exa Z h1 a4 z0 := (PE2.wr W1)
  obtain ⟨T4, h4, L'4, X4, e4, W4, Fw4, O4, K4, N4, st4⟩ := own_put X1 hx hZ hown (host := "") (Or.inl (hw _ m180)) Via.refl e1 O1 K1 N1 gn10 (Or.inl (List.mem_of_getElem? (i := 1) rfl)) f2 f3 (Or.inl (hw _ m181)) (hw _ m142) (ty := .int) (by decide) rfl rfl (g := (mkF m 19 #[sR a4, sR a5, sR a1, sI 1] [(vI 2), (vR a4)])) rfl rfl (hb hby d31_19)
  have f5 : Arv Z h4 a1 ck2 (.object z2) (10 : Int32) [a3, (vR a5), .null, .null, .null, .null, .null, .null, .null, .null] .null := (V1.other W4 (Ne.symm pne9))
  have f6 : Fld Z h4 a4 z6 "modCount" "I" (vI 2) := ((PF3.other W1 (Or.inl pne9)).other W4 (Or.inr (slot_ne (Or.inl (hw _ m161)) (Or.inl (hw _ m181)) (by decide) (t := .int) (t' := .int) (by decide) (by decide))))
  have f7 : Fld Z h4 a4 z0 z7 z4 (vR a1) := ((PF4.other W1 (Or.inl pne9)).other W4 (Or.inr (slot_ne (Or.inl (hw _ m164)) (Or.inl (hw _ m181)) (by decide) (t := (.array (.object z2))) (t' := .int) (by decide) (by decide))))
  refine own_end X4 hlk (v := none) (fun _ => rfl) (by decide) (by rw [e4]; exact ⟨rfl, N4, K4, f5, f6, f7, Fw4⟩) fun fs hr => ?_
  show St p e below s₁ (mkF m 0 #[sR a4, sR a5, sR a1, sI 1] []) _
  refine wil X0 hx hby rfl d31_0 rfl ?_
  refine wal X0 hx hby rfl d31_1 rfl rfl ?_
  refine own_alen X0 hx hZ e0 PV1 (g := (mkF m 2 #[sR a4, sR a5, sR a1, sI 1] [(vR a1), (vI 1)])) rfl rfl (hb hby d31_2) ?_
  refine wcy X0 hx hby rfl (pc0 := 3) (pc' := 11) rfl d31_3 rfl (feq (by decide : ¬ ((1 : Int32) = (10 : Int32)))).2 (by decide) (by decide) ?_
  refine wal X0 hx hby rfl d31_11 rfl rfl ?_
  refine wil X0 hx hby rfl d31_12 rfl ?_
  refine wal X0 hx hby rfl d31_13 rfl rfl ?_
  refine st1 _ ?_
  refine wal X1 hx hby rfl d31_15 rfl rfl ?_
  refine wil X1 hx hby rfl d31_16 rfl ?_
  refine wic X1 hx hby rfl d31_17 ?_
  refine Own.iadd X1.here hx rfl (hb hby d31_18) rfl (by decide : ((1 : Int32) + (1 : Int32)) = (2 : Int32)) ?_
  refine st4 _ ?_
  exact X4.returnOut hx hret (hb hby d31_22) hr
def Qrm65 (Z : State) (a1 : Addr) (a2 : Addr) (ck3 : ClassId) (a4 : Value) (a5 : Addr) (h0 : Heap) (n0 : Nat) (v : Option Value) (h : Heap) (L : List Loc) : Prop := v = some (vI 1) ∧ Fr n0 L ∧ Keep h0 h [a1, a2] ∧ Fld Z h a1 z6 "modCount" "I" (vI 2) ∧ Fld Z h a1 z0 z7 z4 (vR a2) ∧ Fld Z h a1 z0 "size" "I" (vI 2) ∧ Arv Z h a2 ck3 (.object z2) (10 : Int32) [a4, (vR a5), .null, .null, .null, .null, .null, .null, .null, .null] .null
theorem rm65 (cx : Cx Z a0 w1 w2 w3 clw3 w4 kw4 w5 kw5) (a1 : Addr) (a2 : Addr) (ck3 : ClassId) (a4 : Value) (a5 : Addr) (O0 : Old Z n0 h0) (PE1 : Exa Z h0 a1 z0) (PF2 : Fld Z h0 a1 z6 "modCount" "I" (vI 1)) (PF3 : Fld Z h0 a1 z0 z7 z4 (vR a2)) (PF4 : Fld Z h0 a1 z0 "size" "I" (vI 1)) (PV5 : Arv Z h0 a2 ck3 (.object z2) (10 : Int32) [a4, .null, .null, .null, .null, .null, .null, .null, .null, .null] .null) (gn6 : n0 ≤ a1) (pne7 : a2 ≠ a1) (Ov8 : Ovr Z ck3 z2) (PE9 : Exa Z h0 a5 z5) (gn10 : n0 ≤ a2) : Ct l Z ⟨z0, "add", z15⟩ jdk_38_method_25_code 2 (some .boolean) ⟨1, 0, 0, 15⟩ #[(vR a1), (vR a5)] h0 (Qrm65 Z a1 a2 ck3 a4 a5 h0 n0) := by
  obtain ⟨hw, hj, hS⟩ := id cx
  refine own_bd (plainFor_of_name pn122) (fun m => ef152 m a1 a5) fun p e s m below meth c s₁ hret hlk hZ hx hby hml hown hnm X0 e0 => ?_
  have N0 := Fr.nil n0
  obtain ⟨T1, X1, e1, st1⟩ := getF X0 hx hZ hown (host := "") (Or.inl (hw _ m178)) (Via.of (hw _ m179)) e0 PF2 (g := (mkF m 2 #[sR a1, sR a5] [(vR a1), (vR a1)])) rfl rfl (hb hby d30_2)
  obtain ⟨T2, h2, L'2, X2, e2, W2, Fw2, O2, K2, N2, st2⟩ := own_put X1 hx hZ hown (host := "") (Or.inl (hw _ m178)) (Via.of (hw _ m179)) e1 O0 (Keep.refl h0 [a1, a2]) N0 gn6 (Or.inl (List.mem_of_getElem? (i := 0) rfl)) PF2 PE1 (Or.inl (hw _ m161)) (hw _ m142) (ty := .int) (by decide) rfl rfl (g := (mkF m 7 #[sR a1, sR a5] [(vI 2), (vR a1)])) rfl rfl (hb hby d30_7)
  have f3 : Fld Z h2 a1 z0 z7 z4 (vR a2) := (PF3.other W2 (Or.inr (slot_ne (Or.inl (hw _ m164)) (Or.inl (hw _ m161)) (by decide) (t := (.array (.object z2))) (t' := .int) (by decide) (by decide))))
  obtain ⟨T4, X4, e4, st4⟩ := getF X2 hx hZ hown (host := "") (Or.inl (hw _ m163)) Via.refl e2 f3 (g := (mkF m 13 #[sR a1, sR a5] [(vR a1), (vR a5), (vR a1)])) rfl rfl (hb hby d30_13)
  have f5 : Fld Z h2 a1 z0 "size" "I" (vI 1) := (PF4.other W2 (Or.inr (slot_ne (Or.inl (hw _ m181)) (Or.inl (hw _ m161)) (by decide) (t := .int) (t' := .int) (by decide) (by decide))))
  obtain ⟨T6, X6, e6, st6⟩ := getF X4 hx hZ hown (host := "") (Or.inl (hw _ m180)) Via.refl e4 f5 (g := (mkF m 17 #[sR a1, sR a5] [(vR a1), (vR a2), (vR a5), (vR a1)])) rfl rfl (hb hby d30_17)
  have f8 : Arv Z h2 a2 ck3 (.object z2) (10 : Int32) [a4, .null, .null, .null, .null, .null, .null, .null, .null, .null] .null := (PV5.other W2 pne7)
  have f9 : Exa Z h2 a1 z0 := (PE1.wr W2)
  have f10 : Exa Z h2 a5 z5 := (PE9.wr W2)
  obtain ⟨_, T7, L7, ⟨rfl, N7q, Kq7, q7_0, q7_1, q7_2, q7_3⟩, X7, st7⟩ := own_private X6 hx hZ (W := 0) hown (hw _ m182) (hw _ m183) (mvT hZ (hw _ m185)) (hw _ m184) (hw _ m143) (hw _ m186) (by decide) (rm64 cx a2 ck3 a4 a1 a5 O2 f8 f9 Fw2 f3 f5 Ov8 f10 gn10 (Ne.symm pne7) gn6) e6 f9 (g := (mkF m 20 #[sR a1, sR a5] [(vI 1), (vR a2), (vR a5), (vR a1)])) rfl hml rfl (rest := []) (lenOf pd640 rfl) rfl rfl rfl (hb hby d30_20) (by decide)
  have N7 := Fr.app N2 N7q
  have O7 : Old Z n0 T7.heap := O2.keep Kq7 (allS gn10 (allS gn6 all0))
  have K7 : Keep h0 T7.heap [a1, a2] := K2.trans Kq7 (allS (Or.inl (List.mem_of_getElem? (i := 1) rfl)) (allS (Or.inl (List.mem_of_getElem? (i := 0) rfl)) all0))
  refine own_end X7 hlk (v := some (vI 1)) (own_hv hret) (by decide) ⟨rfl, N7, K7, q7_1, q7_2, q7_3, q7_0⟩ fun fs hr => ?_
  show St p e below s₁ (mkF m 0 #[sR a1, sR a5] []) _
  refine wal X0 hx hby rfl d30_0 rfl rfl ?_
  refine wdu X0 hx hby rfl d30_1 rfl rfl ?_
  refine st1 _ ?_
  refine wic X1 hx hby rfl d30_5 ?_
  refine Own.iadd X1.here hx rfl (hb hby d30_6) rfl (by decide : ((1 : Int32) + (1 : Int32)) = (2 : Int32)) ?_
  refine st2 _ ?_
  refine wal X2 hx hby rfl d30_10 rfl rfl ?_
  refine wal X2 hx hby rfl d30_11 rfl rfl ?_
  refine wal X2 hx hby rfl d30_12 rfl rfl ?_
  refine st4 _ ?_
  refine wal X4 hx hby rfl d30_16 rfl rfl ?_
  refine st6 _ ?_
  refine st7 _ ?_
  refine wic X7 hx hby rfl d30_23 ?_
  exact retN X7 hx (t := .boolean) hret (by simp) (hb hby d30_24) hr
def Qrm66 (Z : State) (h0 : Heap) (n0 : Nat) (v : Option Value) (h : Heap) (L : List Loc) : Prop := v = some (vI 1) ∧ Fr n0 L ∧ h = h0
theorem rm66 (cx : Cx Z a0 w1 w2 w3 clw3 w4 kw4 w5 kw5) (O0 : Old Z n0 h0) : Ct l Z ⟨z22, "checkIndex", "(II)I"⟩ jdk_31_method_17_code 2 (some .int) ⟨1, 0, 0, 14⟩ #[(vI 1), (vI 2)] h0 (Qrm66 Z h0 n0) := by
  obtain ⟨hw, hj, hS⟩ := id cx
  refine own_bd (plainFor_of_name pn686) (fun m => ef261 m 1 2) fun p e s m below meth c s₁ hret hlk hZ hx hby hml hown hnm X0 e0 => ?_
  have N0 := Fr.nil n0
  obtain ⟨_, T1, L1, ⟨rfl, N1q, e1⟩, X1, st1⟩ := cS X0 hx hZ (W := 0) hown (cw33 cx) (rm49 cx 1 2 O0 (by decide : ¬ ((1 : Int32) < (0 : Int32))) (by decide : (1 : Int32) < (2 : Int32))) e0 (g := (mkF m 3 #[sI 1, sI 2] [.null, (vI 2), (vI 1)])) rfl hml rfl (rest := []) rfl rfl rfl rfl (hb hby d37_3) (by decide)
  refine own_end X1 hlk (v := some (vI 1)) (own_hv hret) (by decide) (by rw [e1]; exact ⟨rfl, (Fr.app N0 N1q), rfl⟩) fun fs hr => ?_
  show St p e below s₁ (mkF m 0 #[sI 1, sI 2] []) _
  refine wil X0 hx hby rfl d37_0 rfl ?_
  refine wil X0 hx hby rfl d37_1 rfl ?_
  refine wan X0 hx hby rfl d37_2 ?_
  refine st1 _ ?_
  exact retOut X1 hx hret rfl (Or.inl ⟨rfl, Or.inl rfl, _, rfl⟩) (hb hby d37_6) hr
def Qrm67 (Z : State) (a5 : Addr) (h0 : Heap) (n0 : Nat) (v : Option Value) (h : Heap) (L : List Loc) : Prop := v = some (vR a5) ∧ Fr n0 L ∧ h = h0
theorem rm67 (cx : Cx Z a0 w1 w2 w3 clw3 w4 kw4 w5 kw5) (a1 : Addr) (a2 : Addr) (ck3 : ClassId) (a4 : Value) (a5 : Addr) (O0 : Old Z n0 h0) (PF1 : Fld Z h0 a1 z0 z7 z4 (vR a2)) (PV2 : Arv Z h0 a2 ck3 (.object z2) (10 : Int32) [a4, (vR a5), .null, .null, .null, .null, .null, .null, .null, .null] .null) : Ct l Z ⟨z0, z7, z10⟩ jdk_38_method_18_code 2 (some (.object z2)) ⟨0, 0, 0, 0⟩ #[(vR a1), (vI 1)] h0 (Qrm67 Z a5 h0 n0) := by
  obtain ⟨hw, hj, hS⟩ := id cx
  refine own_bd (plainFor_of_name pn122) (fun m => ef55 m a1 1) fun p e s m below meth c s₁ hret hlk hZ hx hby hml hown hnm X0 e0 => ?_
  have N0 := Fr.nil n0
  obtain ⟨T1, X1, e1, st1⟩ := getF X0 hx hZ hown (host := "") (Or.inl (hw _ m163)) Via.refl e0 PF1 (g := (mkF m 1 #[sR a1, sI 1] [(vR a1)])) rfl rfl (hb hby d38_1)
  refine own_end X1 hlk (v := some (vR a5)) (own_hv hret) (by decide) (by rw [e1]; exact ⟨rfl, N0, rfl⟩) fun fs hr => ?_
  show St p e below s₁ (mkF m 0 #[sR a1, sI 1] []) _
  refine wal X0 hx hby rfl d38_0 rfl rfl ?_
  refine st1 _ ?_
  refine wil X1 hx hby rfl d38_4 rfl ?_
  refine own_aaload X1 hx hZ e1 PV2 (j := 1) (by decide) (v := (vR a5)) rfl rfl (g := (mkF m 5 #[sR a1, sI 1] [(vI 1), (vR a2)])) rfl rfl (hb hby d38_5) ?_
  exact retOut X1 hx hret rfl (Or.inr (Or.inr (Or.inr (Or.inr ⟨rfl, rfl, rfl⟩)))) (hb hby d38_6) hr
def Qrm68 (Z : State) (a5 : Addr) (h0 : Heap) (n0 : Nat) (v : Option Value) (h : Heap) (L : List Loc) : Prop := v = some (vR a5) ∧ Fr n0 L ∧ h = h0
theorem rm68 (cx : Cx Z a0 w1 w2 w3 clw3 w4 kw4 w5 kw5) (a1 : Addr) (a2 : Addr) (ck3 : ClassId) (a4 : Value) (a5 : Addr) (O0 : Old Z n0 h0) (PF1 : Fld Z h0 a1 z0 "size" "I" (vI 2)) (PF2 : Fld Z h0 a1 z0 z7 z4 (vR a2)) (PV3 : Arv Z h0 a2 ck3 (.object z2) (10 : Int32) [a4, (vR a5), .null, .null, .null, .null, .null, .null, .null, .null] .null) (PE4 : Exa Z h0 a1 z0) : Ct l Z ⟨z0, "get", z10⟩ jdk_38_method_20_code 2 (some (.object z2)) ⟨2, 0, 0, 27⟩ #[(vR a1), (vI 1)] h0 (Qrm68 Z a5 h0 n0) := by
  obtain ⟨hw, hj, hS⟩ := id cx
  refine own_bd (plainFor_of_name pn122) (fun m => ef55 m a1 1) fun p e s m below meth c s₁ hret hlk hZ hx hby hml hown hnm X0 e0 => ?_
  have N0 := Fr.nil n0
  obtain ⟨T1, X1, e1, st1⟩ := getF X0 hx hZ hown (host := "") (Or.inl (hw _ m180)) Via.refl e0 PF1 (g := (mkF m 2 #[sR a1, sI 1] [(vR a1), (vI 1)])) rfl rfl (hb hby d36_2)
  obtain ⟨_, T2, L2, ⟨rfl, N2q, e2⟩, X2, st2⟩ := cS X1 hx hZ (W := 0) hown (cw34 cx) (rm66 cx O0) e1 (g := (mkF m 5 #[sR a1, sI 1] [(vI 2), (vI 1)])) rfl hml rfl (rest := []) rfl rfl rfl rfl (hb hby d36_5) (by decide)
  obtain ⟨_, T3, L3, ⟨rfl, N3q, e3⟩, X3, st3⟩ := cV X2 hx hZ (W := 0) hown (cw35 cx) (rm67 cx a1 a2 ck3 a4 a5 O0 PF2 PV3) e2 PE4 (g := (mkF m 11 #[sR a1, sI 1] [(vI 1), (vR a1)])) rfl hml rfl (rest := []) rfl rfl rfl rfl (hb hby d36_11) (by decide)
  refine own_end X3 hlk (v := some (vR a5)) (own_hv hret) (by decide) (by rw [e3]; exact ⟨rfl, (Fr.app (Fr.app N0 N2q) N3q), rfl⟩) fun fs hr => ?_
  show St p e below s₁ (mkF m 0 #[sR a1, sI 1] []) _
  refine wil X0 hx hby rfl d36_0 rfl ?_
  refine wal X0 hx hby rfl d36_1 rfl rfl ?_
  refine st1 _ ?_
  refine st2 _ ?_
  refine XS.pop X2.here hx rfl (hb hby d36_8) rfl rfl ?_
  refine wal X2 hx hby rfl d36_9 rfl rfl ?_
  refine wil X2 hx hby rfl d36_10 rfl ?_
  refine st3 _ ?_
  exact retOut X3 hx hret rfl (Or.inr (Or.inr (Or.inr (Or.inr ⟨rfl, rfl, rfl⟩)))) (hb hby d36_14) hr
def Qrm69 (Z : State) (a5 : Addr) (h0 : Heap) (n0 : Nat) (v : Option Value) (h : Heap) (L : List Loc) : Prop := v = some (vR a5) ∧ Fr n0 L ∧ h = h0
theorem rm69 (cx : Cx Z a0 w1 w2 w3 clw3 w4 kw4 w5 kw5) (a1 : Addr) (a2 : Addr) (ck3 : ClassId) (a4 : Value) (a5 : Addr) (O0 : Old Z n0 h0) (PF1 : Fld Z h0 a1 z0 "size" "I" (vI 2)) (PE2 : Exa Z h0 a1 z0) (PF3 : Fld Z h0 a1 z0 z7 z4 (vR a2)) (PV4 : Arv Z h0 a2 ck3 (.object z2) (10 : Int32) [a4, (vR a5), .null, .null, .null, .null, .null, .null, .null, .null] .null) (PE5 : Exa Z h0 a5 z5) : Ct l Z ⟨z8, "element", z14⟩ prog_16_method_9_code 3 (some (.object z16)) ⟨3, 0, 0, 40⟩ #[(vR a1), (vI 1)] h0 (Qrm69 Z a5 h0 n0) := by
  obtain ⟨hw, hj, hS⟩ := id cx
  refine own_bd (plainFor_of_name pn546) (fun m => ef503 m a1 1) fun p e s m below meth c s₁ hret hlk hZ hx hby hml hown hnm X0 e0 => ?_
  have N0 := Fr.nil n0
  obtain ⟨_, T1, L1, ⟨rfl, N1q, e1⟩, X1, st1⟩ := own_iface X0 hx hZ (W := 1) hown (hw _ m204) (hw _ m205) (mvT hZ (hw _ m206)) (hw _ m207) (hw _ m208) (mvT hZ (hw _ m209)) (mvT hZ (hw _ m210)) (hw _ m176) (hw _ m143) (hw _ m211) (by decide) (rm56 cx a1 O0 PF1) e0 PE2 (g := (mkF m 2 #[sR a1, sI 1, sU] [(vR a1), (vI 1)])) rfl hml rfl (rest := [(vI 1)]) (lenOf pd200 rfl) rfl rfl rfl (hb hby d34_2) (by decide)
  obtain ⟨_, T2, L2, ⟨rfl, N2q, e2⟩, X2, st2⟩ := own_iface X1 hx hZ (W := 0) hown (hw _ m212) (hw _ m213) (mvT hZ (hw _ m214)) (hw _ m215) (hw _ m216) (mvT hZ (hw _ m217)) (mvT hZ (hw _ m218)) (hw _ m176) (hw _ m143) (hw _ m219) (by decide) (rm68 cx a1 a2 ck3 a4 a5 O0 PF1 PF3 PV4 PE2) e1 PE2 (g := (mkF m 12 #[sR a1, sI 1, sU] [(vI 1), (vR a1)])) rfl hml rfl (rest := []) (lenOf pd521 rfl) rfl rfl rfl (hb hby d34_12) (by decide)
  obtain ⟨T3, X3, e3, st3⟩ := instY X2 hx hZ hown (hw _ m136) e2 (Ins.of_exa PE5 (hw _ m137)) (g := (mkF m 23 #[sR a1, sI 1, sR a5] [(vR a5)])) rfl rfl (hb hby d34_23)
  obtain ⟨_, T4, L4, ⟨rfl, N4q, e4⟩, X4, st4⟩ := cS X3 hx hZ (W := 0) hown (cw29 cx) (rm40 cx a5 O0 PE5) e3 (g := (mkF m 44 #[sR a1, sI 1, sR a5] [(vR a5)])) rfl hml rfl (rest := []) rfl rfl rfl rfl (hb hby d34_44) (by decide)
  refine own_end X4 hlk (v := some (vR a5)) (own_hv hret) (by decide) (by rw [e4]; exact ⟨rfl, (Fr.app (Fr.app (Fr.app N0 N1q) N2q) N4q), rfl⟩) fun fs hr => ?_
  show St p e below s₁ (mkF m 0 #[sR a1, sI 1, sU] []) _
  refine wil X0 hx hby rfl d34_0 rfl ?_
  refine wal X0 hx hby rfl d34_1 rfl rfl ?_
  refine st1 _ ?_
  refine wcn X1 hx hby rfl d34_7 rfl (tlt (by decide : (1 : Int32) < (2 : Int32))).2.1 ?_
  refine wal X1 hx hby rfl d34_10 rfl rfl ?_
  refine wil X1 hx hby rfl d34_11 rfl ?_
  refine st2 _ ?_
  refine wgt X2 hx hby rfl (pc0 := 17) (pc' := 21) rfl d34_17 (by decide) (by decide) ?_
  refine was X2 hx hby rfl d34_21 rfl rfl (l' := #[sR a1, sI 1, sR a5]) rfl ?_
  refine wal X2 hx hby rfl d34_22 rfl rfl ?_
  refine st3 _ ?_
  refine wfy X3 hx hby rfl (pc0 := 26) (pc' := 43) rfl d34_26 rfl ((if0 _ _).trans (feq (by decide : ¬ ((1 : Int32) = (0 : Int32)))).2) (by decide) (by decide) ?_
  refine wal X3 hx hby rfl d34_43 rfl rfl ?_
  refine st4 _ ?_
  exact retOut X4 hx hret rfl (Or.inr (Or.inr (Or.inr (Or.inr ⟨rfl, rfl, rfl⟩)))) (hb hby d34_47) hr
def Qrm70 (Z : State) (a1 : Addr) (ck2 : ClassId) (a3 : Addr) (a4 : Value) (a5 : Addr) (a6 : Value) (h0 : Heap) (n0 : Nat) (v : Option Value) (h : Heap) (L : List Loc) : Prop := v = none ∧ Fr n0 L ∧ Keep h0 h [a1, a5] ∧ Arv Z h a1 ck2 (.object z2) (10 : Int32) [(vR a3), a4, a6, .null, .null, .null, .null, .null, .null, .null] .null ∧ Fld Z h a5 z6 "modCount" "I" (vI 3) ∧ Fld Z h a5 z0 z7 z4 (vR a1) ∧ Fld Z h a5 z0 "size" "I" (vI 3)
theorem rm70 (cx : Cx Z a0 w1 w2 w3 clw3 w4 kw4 w5 kw5) (a1 : Addr) (ck2 : ClassId) (a3 : Addr) (a4 : Value) (a5 : Addr) (a6 : Value) (O0 : Old Z n0 h0) (PV1 : Arv Z h0 a1 ck2 (.object z2) (10 : Int32) [(vR a3), a4, .null, .null, .null, .null, .null, .null, .null, .null] .null) (PE2 : Exa Z h0 a5 z0) (PF3 : Fld Z h0 a5 z6 "modCount" "I" (vI 3)) (PF4 : Fld Z h0 a5 z0 z7 z4 (vR a1)) (PF5 : Fld Z h0 a5 z0 "size" "I" (vI 2)) (PE6 : ObV Z h0 a6) (Ov7 : Ovr Z ck2 z2) (gn8 : n0 ≤ a1) (pne9 : a5 ≠ a1) (gn10 : n0 ≤ a5) : Ct l Z ⟨z0, "add", z12⟩ jdk_38_method_24_code 4 none ⟨0, 0, 0, 0⟩ #[(vR a5), a6, (vR a1), (vI 2)] h0 (Qrm70 Z a1 ck2 a3 a4 a5 a6 h0 n0) := by
  obtain ⟨hw, hj, hS⟩ := id cx
  refine own_bd (plainFor_of_name pn122) (fun m => ef725 m a5 a6 a1 2 (own_obR PE6)) fun p e s m below meth c s₁ hret hlk hZ hx hby hml hown hnm X0 e0 => ?_
  have N0 := Fr.nil n0
  obtain ⟨T1, h1, L'1, X1, e1, W1, V1, O1, K1, N1, st1⟩ := own_stR X0 hx hZ e0 PV1 O0 (Keep.refl h0 [a1, a5]) N0 gn8 (Or.inl (List.mem_of_getElem? (i := 0) rfl)) (j := (2 : Int32)) 2 (by decide) (Nat.le_of_ble_eq_true rfl) (vs' := [(vR a3), a4, a6, .null, .null, .null, .null, .null, .null, .null]) rfl rfl (own_obF PE6) (own_obS Ov7 PE6) (g := (mkF m 14 #[sR a5, .val a6, sR a1, sI 2] [a6, (vI 2), (vR a1)])) rfl rfl (hb hby d31_14)
  have f2 : Fld Z h1 a5 z0 "size" "I" (vI 2) := (PF5.other W1 (Or.inl pne9))
  have f3 : Exa Z h1 a5 z0 := (PE2.wr W1)
  obtain ⟨T4, h4, L'4, X4, e4, W4, Fw4, O4, K4, N4, st4⟩ := own_put X1 hx hZ hown (host := "") (Or.inl (hw _ m180)) Via.refl e1 O1 K1 N1 gn10 (Or.inl (List.mem_of_getElem? (i := 1) rfl)) f2 f3 (Or.inl (hw _ m181)) (hw _ m142) (ty := .int) (by decide) rfl rfl (g := (mkF m 19 #[sR a5, .val a6, sR a1, sI 2] [(vI 3), (vR a5)])) rfl rfl (hb hby d31_19)
  have f5 : Arv Z h4 a1 ck2 (.object z2) (10 : Int32) [(vR a3), a4, a6, .null, .null, .null, .null, .null, .null, .null] .null := (V1.other W4 (Ne.symm pne9))
  have f6 : Fld Z h4 a5 z6 "modCount" "I" (vI 3) := ((PF3.other W1 (Or.inl pne9)).other W4 (Or.inr (slot_ne (Or.inl (hw _ m161)) (Or.inl (hw _ m181)) (by decide) (t := .int) (t' := .int) (by decide) (by decide))))
  have f7 : Fld Z h4 a5 z0 z7 z4 (vR a1) := ((PF4.other W1 (Or.inl pne9)).other W4 (Or.inr (slot_ne (Or.inl (hw _ m164)) (Or.inl (hw _ m181)) (by decide) (t := (.array (.object z2))) (t' := .int) (by decide) (by decide))))
  refine own_end X4 hlk (v := none) (fun _ => rfl) (by decide) (by rw [e4]; exact ⟨rfl, N4, K4, f5, f6, f7, Fw4⟩) fun fs hr => ?_
  show St p e below s₁ (mkF m 0 #[sR a5, .val a6, sR a1, sI 2] []) _
  refine wil X0 hx hby rfl d31_0 rfl ?_
  refine wal X0 hx hby rfl d31_1 rfl rfl ?_
  refine own_alen X0 hx hZ e0 PV1 (g := (mkF m 2 #[sR a5, .val a6, sR a1, sI 2] [(vR a1), (vI 2)])) rfl rfl (hb hby d31_2) ?_
  refine wcy X0 hx hby rfl (pc0 := 3) (pc' := 11) rfl d31_3 rfl (feq (by decide : ¬ ((2 : Int32) = (10 : Int32)))).2 (by decide) (by decide) ?_
  refine wal X0 hx hby rfl d31_11 rfl rfl ?_
  refine wil X0 hx hby rfl d31_12 rfl ?_
  refine wal X0 hx hby rfl d31_13 rfl (own_obR PE6) ?_
  refine st1 _ ?_
  refine wal X1 hx hby rfl d31_15 rfl rfl ?_
  refine wil X1 hx hby rfl d31_16 rfl ?_
  refine wic X1 hx hby rfl d31_17 ?_
  refine Own.iadd X1.here hx rfl (hb hby d31_18) rfl (by decide : ((2 : Int32) + (1 : Int32)) = (3 : Int32)) ?_
  refine st4 _ ?_
  exact X4.returnOut hx hret (hb hby d31_22) hr
def Qrm71 (Z : State) (a1 : Addr) (a2 : Addr) (ck3 : ClassId) (a4 : Addr) (a5 : Value) (a6 : Value) (h0 : Heap) (n0 : Nat) (v : Option Value) (h : Heap) (L : List Loc) : Prop := v = some (vI 1) ∧ Fr n0 L ∧ Keep h0 h [a1, a2] ∧ Fld Z h a1 z6 "modCount" "I" (vI 3) ∧ Fld Z h a1 z0 z7 z4 (vR a2) ∧ Fld Z h a1 z0 "size" "I" (vI 3) ∧ Arv Z h a2 ck3 (.object z2) (10 : Int32) [(vR a4), a5, a6, .null, .null, .null, .null, .null, .null, .null] .null
theorem rm71 (cx : Cx Z a0 w1 w2 w3 clw3 w4 kw4 w5 kw5) (a1 : Addr) (a2 : Addr) (ck3 : ClassId) (a4 : Addr) (a5 : Value) (a6 : Value) (O0 : Old Z n0 h0) (PE1 : Exa Z h0 a1 z0) (PF2 : Fld Z h0 a1 z6 "modCount" "I" (vI 2)) (PF3 : Fld Z h0 a1 z0 z7 z4 (vR a2)) (PF4 : Fld Z h0 a1 z0 "size" "I" (vI 2)) (PV5 : Arv Z h0 a2 ck3 (.object z2) (10 : Int32) [(vR a4), a5, .null, .null, .null, .null, .null, .null, .null, .null] .null) (gn6 : n0 ≤ a1) (PE7 : ObV Z h0 a6) (pne8 : a2 ≠ a1) (Ov9 : Ovr Z ck3 z2) (gn10 : n0 ≤ a2) : Ct l Z ⟨z0, "add", z15⟩ jdk_38_method_25_code 2 (some .boolean) ⟨1, 0, 0, 15⟩ #[(vR a1), a6] h0 (Qrm71 Z a1 a2 ck3 a4 a5 a6 h0 n0) := by
  obtain ⟨hw, hj, hS⟩ := id cx
  refine own_bd (plainFor_of_name pn122) (fun m => ef726 m a1 a6 (own_obR PE7)) fun p e s m below meth c s₁ hret hlk hZ hx hby hml hown hnm X0 e0 => ?_
  have N0 := Fr.nil n0
  obtain ⟨T1, X1, e1, st1⟩ := getF X0 hx hZ hown (host := "") (Or.inl (hw _ m178)) (Via.of (hw _ m179)) e0 PF2 (g := (mkF m 2 #[sR a1, .val a6] [(vR a1), (vR a1)])) rfl rfl (hb hby d30_2)
  obtain ⟨T2, h2, L'2, X2, e2, W2, Fw2, O2, K2, N2, st2⟩ := own_put X1 hx hZ hown (host := "") (Or.inl (hw _ m178)) (Via.of (hw _ m179)) e1 O0 (Keep.refl h0 [a1, a2]) N0 gn6 (Or.inl (List.mem_of_getElem? (i := 0) rfl)) PF2 PE1 (Or.inl (hw _ m161)) (hw _ m142) (ty := .int) (by decide) rfl rfl (g := (mkF m 7 #[sR a1, .val a6] [(vI 3), (vR a1)])) rfl rfl (hb hby d30_7)
  have f3 : ObV Z h2 a6 := (own_obW PE7 W2)
  have f4 : Fld Z h2 a1 z0 z7 z4 (vR a2) := (PF3.other W2 (Or.inr (slot_ne (Or.inl (hw _ m164)) (Or.inl (hw _ m161)) (by decide) (t := (.array (.object z2))) (t' := .int) (by decide) (by decide))))
  obtain ⟨T5, X5, e5, st5⟩ := getF X2 hx hZ hown (host := "") (Or.inl (hw _ m163)) Via.refl e2 f4 (g := (mkF m 13 #[sR a1, .val a6] [(vR a1), a6, (vR a1)])) rfl rfl (hb hby d30_13)
  have f6 : Fld Z h2 a1 z0 "size" "I" (vI 2) := (PF4.other W2 (Or.inr (slot_ne (Or.inl (hw _ m181)) (Or.inl (hw _ m161)) (by decide) (t := .int) (t' := .int) (by decide) (by decide))))
  obtain ⟨T7, X7, e7, st7⟩ := getF X5 hx hZ hown (host := "") (Or.inl (hw _ m180)) Via.refl e5 f6 (g := (mkF m 17 #[sR a1, .val a6] [(vR a1), (vR a2), a6, (vR a1)])) rfl rfl (hb hby d30_17)
  have f9 : Arv Z h2 a2 ck3 (.object z2) (10 : Int32) [(vR a4), a5, .null, .null, .null, .null, .null, .null, .null, .null] .null := (PV5.other W2 pne8)
  have f10 : Exa Z h2 a1 z0 := (PE1.wr W2)
  obtain ⟨_, T8, L8, ⟨rfl, N8q, Kq8, q8_0, q8_1, q8_2, q8_3⟩, X8, st8⟩ := own_private X7 hx hZ (W := 0) hown (hw _ m182) (hw _ m183) (mvT hZ (hw _ m185)) (hw _ m184) (hw _ m143) (hw _ m186) (by decide) (rm70 cx a2 ck3 a4 a5 a1 a6 O2 f9 f10 Fw2 f4 f6 f3 Ov9 gn10 (Ne.symm pne8) gn6) e7 f10 (g := (mkF m 20 #[sR a1, .val a6] [(vI 2), (vR a2), a6, (vR a1)])) rfl hml rfl (rest := []) (lenOf pd640 rfl) rfl rfl rfl (hb hby d30_20) (by decide)
  have N8 := Fr.app N2 N8q
  have O8 : Old Z n0 T8.heap := O2.keep Kq8 (allS gn10 (allS gn6 all0))
  have K8 : Keep h0 T8.heap [a1, a2] := K2.trans Kq8 (allS (Or.inl (List.mem_of_getElem? (i := 1) rfl)) (allS (Or.inl (List.mem_of_getElem? (i := 0) rfl)) all0))
  refine own_end X8 hlk (v := some (vI 1)) (own_hv hret) (by decide) ⟨rfl, N8, K8, q8_1, q8_2, q8_3, q8_0⟩ fun fs hr => ?_
  show St p e below s₁ (mkF m 0 #[sR a1, .val a6] []) _
  refine wal X0 hx hby rfl d30_0 rfl rfl ?_
  refine wdu X0 hx hby rfl d30_1 rfl rfl ?_
  refine st1 _ ?_
  refine wic X1 hx hby rfl d30_5 ?_
  refine Own.iadd X1.here hx rfl (hb hby d30_6) rfl (by decide : ((2 : Int32) + (1 : Int32)) = (3 : Int32)) ?_
  refine st2 _ ?_
  refine wal X2 hx hby rfl d30_10 rfl rfl ?_
  refine wal X2 hx hby rfl d30_11 rfl (own_obR f3) ?_
  refine wal X2 hx hby rfl d30_12 rfl rfl ?_
  refine st5 _ ?_
  refine wal X5 hx hby rfl d30_16 rfl rfl ?_
  refine st7 _ ?_
  refine st8 _ ?_
  refine wic X8 hx hby rfl d30_23 ?_
  exact retN X8 hx (t := .boolean) hret (by simp) (hb hby d30_24) hr
def Qrm72 (Z : State) (h0 : Heap) (n0 : Nat) (v : Option Value) (h : Heap) (L : List Loc) : Prop := v = some (vI 3) ∧ Fr n0 L ∧ h = h0
theorem rm72 (cx : Cx Z a0 w1 w2 w3 clw3 w4 kw4 w5 kw5) (a1 : Addr) (O0 : Old Z n0 h0) (PF1 : Fld Z h0 a1 z0 "size" "I" (vI 3)) : Ct l Z ⟨z0, "size", "()I"⟩ jdk_38_method_8_code 1 (some .int) ⟨0, 0, 0, 0⟩ #[(vR a1)] h0 (Qrm72 Z h0 n0) := by
  obtain ⟨hw, hj, hS⟩ := id cx
  refine own_bd (plainFor_of_name pn122) (fun m => ef44 m a1) fun p e s m below meth c s₁ hret hlk hZ hx hby hml hown hnm X0 e0 => ?_
  have N0 := Fr.nil n0
  obtain ⟨T1, X1, e1, st1⟩ := getF X0 hx hZ hown (host := "") (Or.inl (hw _ m180)) Via.refl e0 PF1 (g := (mkF m 1 #[sR a1] [(vR a1)])) rfl rfl (hb hby d35_1)
  refine own_end X1 hlk (v := some (vI 3)) (own_hv hret) (by decide) (by rw [e1]; exact ⟨rfl, N0, rfl⟩) fun fs hr => ?_
  show St p e below s₁ (mkF m 0 #[sR a1] []) _
  refine wal X0 hx hby rfl d35_0 rfl rfl ?_
  refine st1 _ ?_
  exact retOut X1 hx hret rfl (Or.inl ⟨rfl, Or.inl rfl, _, rfl⟩) (hb hby d35_4) hr
def Qrm73 (Z : State) (h0 : Heap) (n0 : Nat) (v : Option Value) (h : Heap) (L : List Loc) : Prop := v = some (vI 0) ∧ Fr n0 L ∧ h = h0
theorem rm73 (cx : Cx Z a0 w1 w2 w3 clw3 w4 kw4 w5 kw5) (O0 : Old Z n0 h0) : Ct l Z ⟨z22, "checkIndex", "(II)I"⟩ jdk_31_method_17_code 2 (some .int) ⟨1, 0, 0, 14⟩ #[(vI 0), (vI 3)] h0 (Qrm73 Z h0 n0) := by
  obtain ⟨hw, hj, hS⟩ := id cx
  refine own_bd (plainFor_of_name pn686) (fun m => ef261 m 0 3) fun p e s m below meth c s₁ hret hlk hZ hx hby hml hown hnm X0 e0 => ?_
  have N0 := Fr.nil n0
  obtain ⟨_, T1, L1, ⟨rfl, N1q, e1⟩, X1, st1⟩ := cS X0 hx hZ (W := 0) hown (cw33 cx) (rm49 cx 0 3 O0 (by decide : ¬ ((0 : Int32) < (0 : Int32))) (by decide : (0 : Int32) < (3 : Int32))) e0 (g := (mkF m 3 #[sI 0, sI 3] [.null, (vI 3), (vI 0)])) rfl hml rfl (rest := []) rfl rfl rfl rfl (hb hby d37_3) (by decide)
  refine own_end X1 hlk (v := some (vI 0)) (own_hv hret) (by decide) (by rw [e1]; exact ⟨rfl, (Fr.app N0 N1q), rfl⟩) fun fs hr => ?_
  show St p e below s₁ (mkF m 0 #[sI 0, sI 3] []) _
  refine wil X0 hx hby rfl d37_0 rfl ?_
  refine wil X0 hx hby rfl d37_1 rfl ?_
  refine wan X0 hx hby rfl d37_2 ?_
  refine st1 _ ?_
  exact retOut X1 hx hret rfl (Or.inl ⟨rfl, Or.inl rfl, _, rfl⟩) (hb hby d37_6) hr
def Qrm74 (Z : State) (a4 : Addr) (h0 : Heap) (n0 : Nat) (v : Option Value) (h : Heap) (L : List Loc) : Prop := v = some (vR a4) ∧ Fr n0 L ∧ h = h0
theorem rm74 (cx : Cx Z a0 w1 w2 w3 clw3 w4 kw4 w5 kw5) (a1 : Addr) (a2 : Addr) (ck3 : ClassId) (a4 : Addr) (a5 : Value) (a6 : Value) (O0 : Old Z n0 h0) (PF1 : Fld Z h0 a1 z0 z7 z4 (vR a2)) (PV2 : Arv Z h0 a2 ck3 (.object z2) (10 : Int32) [(vR a4), a5, a6, .null, .null, .null, .null, .null, .null, .null] .null) : Ct l Z ⟨z0, z7, z10⟩ jdk_38_method_18_code 2 (some (.object z2)) ⟨0, 0, 0, 0⟩ #[(vR a1), (vI 0)] h0 (Qrm74 Z a4 h0 n0) := by
  obtain ⟨hw, hj, hS⟩ := id cx
  refine own_bd (plainFor_of_name pn122) (fun m => ef55 m a1 0) fun p e s m below meth c s₁ hret hlk hZ hx hby hml hown hnm X0 e0 => ?_
  have N0 := Fr.nil n0
  obtain ⟨T1, X1, e1, st1⟩ := getF X0 hx hZ hown (host := "") (Or.inl (hw _ m163)) Via.refl e0 PF1 (g := (mkF m 1 #[sR a1, sI 0] [(vR a1)])) rfl rfl (hb hby d38_1)
  refine own_end X1 hlk (v := some (vR a4)) (own_hv hret) (by decide) (by rw [e1]; exact ⟨rfl, N0, rfl⟩) fun fs hr => ?_
  show St p e below s₁ (mkF m 0 #[sR a1, sI 0] []) _
  refine wal X0 hx hby rfl d38_0 rfl rfl ?_
  refine st1 _ ?_
  refine wil X1 hx hby rfl d38_4 rfl ?_
  refine own_aaload X1 hx hZ e1 PV2 (j := 0) (by decide) (v := (vR a4)) rfl rfl (g := (mkF m 5 #[sR a1, sI 0] [(vI 0), (vR a2)])) rfl rfl (hb hby d38_5) ?_
  exact retOut X1 hx hret rfl (Or.inr (Or.inr (Or.inr (Or.inr ⟨rfl, rfl, rfl⟩)))) (hb hby d38_6) hr
def Qrm75 (Z : State) (a4 : Addr) (h0 : Heap) (n0 : Nat) (v : Option Value) (h : Heap) (L : List Loc) : Prop := v = some (vR a4) ∧ Fr n0 L ∧ h = h0
theorem rm75 (cx : Cx Z a0 w1 w2 w3 clw3 w4 kw4 w5 kw5) (a1 : Addr) (a2 : Addr) (ck3 : ClassId) (a4 : Addr) (a5 : Value) (a6 : Value) (O0 : Old Z n0 h0) (PF1 : Fld Z h0 a1 z0 "size" "I" (vI 3)) (PF2 : Fld Z h0 a1 z0 z7 z4 (vR a2)) (PV3 : Arv Z h0 a2 ck3 (.object z2) (10 : Int32) [(vR a4), a5, a6, .null, .null, .null, .null, .null, .null, .null] .null) (PE4 : Exa Z h0 a1 z0) : Ct l Z ⟨z0, "get", z10⟩ jdk_38_method_20_code 2 (some (.object z2)) ⟨2, 0, 0, 27⟩ #[(vR a1), (vI 0)] h0 (Qrm75 Z a4 h0 n0) := by
  obtain ⟨hw, hj, hS⟩ := id cx
  refine own_bd (plainFor_of_name pn122) (fun m => ef55 m a1 0) fun p e s m below meth c s₁ hret hlk hZ hx hby hml hown hnm X0 e0 => ?_
  have N0 := Fr.nil n0
  obtain ⟨T1, X1, e1, st1⟩ := getF X0 hx hZ hown (host := "") (Or.inl (hw _ m180)) Via.refl e0 PF1 (g := (mkF m 2 #[sR a1, sI 0] [(vR a1), (vI 0)])) rfl rfl (hb hby d36_2)
  obtain ⟨_, T2, L2, ⟨rfl, N2q, e2⟩, X2, st2⟩ := cS X1 hx hZ (W := 0) hown (cw34 cx) (rm73 cx O0) e1 (g := (mkF m 5 #[sR a1, sI 0] [(vI 3), (vI 0)])) rfl hml rfl (rest := []) rfl rfl rfl rfl (hb hby d36_5) (by decide)
  obtain ⟨_, T3, L3, ⟨rfl, N3q, e3⟩, X3, st3⟩ := cV X2 hx hZ (W := 0) hown (cw35 cx) (rm74 cx a1 a2 ck3 a4 a5 a6 O0 PF2 PV3) e2 PE4 (g := (mkF m 11 #[sR a1, sI 0] [(vI 0), (vR a1)])) rfl hml rfl (rest := []) rfl rfl rfl rfl (hb hby d36_11) (by decide)
  refine own_end X3 hlk (v := some (vR a4)) (own_hv hret) (by decide) (by rw [e3]; exact ⟨rfl, (Fr.app (Fr.app N0 N2q) N3q), rfl⟩) fun fs hr => ?_
  show St p e below s₁ (mkF m 0 #[sR a1, sI 0] []) _
  refine wil X0 hx hby rfl d36_0 rfl ?_
  refine wal X0 hx hby rfl d36_1 rfl rfl ?_
  refine st1 _ ?_
  refine st2 _ ?_
  refine XS.pop X2.here hx rfl (hb hby d36_8) rfl rfl ?_
  refine wal X2 hx hby rfl d36_9 rfl rfl ?_
  refine wil X2 hx hby rfl d36_10 rfl ?_
  refine st3 _ ?_
  exact retOut X3 hx hret rfl (Or.inr (Or.inr (Or.inr (Or.inr ⟨rfl, rfl, rfl⟩)))) (hb hby d36_14) hr
def Qrm76 (Z : State) (a4 : Addr) (h0 : Heap) (n0 : Nat) (v : Option Value) (h : Heap) (L : List Loc) : Prop := v = some (vR a4) ∧ Fr n0 L ∧ h = h0
theorem rm76 (cx : Cx Z a0 w1 w2 w3 clw3 w4 kw4 w5 kw5) (a1 : Addr) (a2 : Addr) (ck3 : ClassId) (a4 : Addr) (a5 : Value) (a6 : Value) (O0 : Old Z n0 h0) (PF1 : Fld Z h0 a1 z0 "size" "I" (vI 3)) (PE2 : Exa Z h0 a1 z0) (PF3 : Fld Z h0 a1 z0 z7 z4 (vR a2)) (PV4 : Arv Z h0 a2 ck3 (.object z2) (10 : Int32) [(vR a4), a5, a6, .null, .null, .null, .null, .null, .null, .null] .null) (PE5 : Exa Z h0 a4 z5) : Ct l Z ⟨z8, "element", z14⟩ prog_16_method_9_code 3 (some (.object z16)) ⟨3, 0, 0, 40⟩ #[(vR a1), (vI 0)] h0 (Qrm76 Z a4 h0 n0) := by
  obtain ⟨hw, hj, hS⟩ := id cx
  refine own_bd (plainFor_of_name pn546) (fun m => ef503 m a1 0) fun p e s m below meth c s₁ hret hlk hZ hx hby hml hown hnm X0 e0 => ?_
  have N0 := Fr.nil n0
  obtain ⟨_, T1, L1, ⟨rfl, N1q, e1⟩, X1, st1⟩ := own_iface X0 hx hZ (W := 1) hown (hw _ m204) (hw _ m205) (mvT hZ (hw _ m206)) (hw _ m207) (hw _ m208) (mvT hZ (hw _ m209)) (mvT hZ (hw _ m210)) (hw _ m176) (hw _ m143) (hw _ m211) (by decide) (rm72 cx a1 O0 PF1) e0 PE2 (g := (mkF m 2 #[sR a1, sI 0, sU] [(vR a1), (vI 0)])) rfl hml rfl (rest := [(vI 0)]) (lenOf pd200 rfl) rfl rfl rfl (hb hby d34_2) (by decide)
  obtain ⟨_, T2, L2, ⟨rfl, N2q, e2⟩, X2, st2⟩ := own_iface X1 hx hZ (W := 0) hown (hw _ m212) (hw _ m213) (mvT hZ (hw _ m214)) (hw _ m215) (hw _ m216) (mvT hZ (hw _ m217)) (mvT hZ (hw _ m218)) (hw _ m176) (hw _ m143) (hw _ m219) (by decide) (rm75 cx a1 a2 ck3 a4 a5 a6 O0 PF1 PF3 PV4 PE2) e1 PE2 (g := (mkF m 12 #[sR a1, sI 0, sU] [(vI 0), (vR a1)])) rfl hml rfl (rest := []) (lenOf pd521 rfl) rfl rfl rfl (hb hby d34_12) (by decide)
  obtain ⟨T3, X3, e3, st3⟩ := instY X2 hx hZ hown (hw _ m136) e2 (Ins.of_exa PE5 (hw _ m137)) (g := (mkF m 23 #[sR a1, sI 0, sR a4] [(vR a4)])) rfl rfl (hb hby d34_23)
  obtain ⟨_, T4, L4, ⟨rfl, N4q, e4⟩, X4, st4⟩ := cS X3 hx hZ (W := 0) hown (cw29 cx) (rm40 cx a4 O0 PE5) e3 (g := (mkF m 44 #[sR a1, sI 0, sR a4] [(vR a4)])) rfl hml rfl (rest := []) rfl rfl rfl rfl (hb hby d34_44) (by decide)
  refine own_end X4 hlk (v := some (vR a4)) (own_hv hret) (by decide) (by rw [e4]; exact ⟨rfl, (Fr.app (Fr.app (Fr.app N0 N1q) N2q) N4q), rfl⟩) fun fs hr => ?_
  show St p e below s₁ (mkF m 0 #[sR a1, sI 0, sU] []) _
  refine wil X0 hx hby rfl d34_0 rfl ?_
  refine wal X0 hx hby rfl d34_1 rfl rfl ?_
  refine st1 _ ?_
  refine wcn X1 hx hby rfl d34_7 rfl (tlt (by decide : (0 : Int32) < (3 : Int32))).2.1 ?_
  refine wal X1 hx hby rfl d34_10 rfl rfl ?_
  refine wil X1 hx hby rfl d34_11 rfl ?_
  refine st2 _ ?_
  refine wgt X2 hx hby rfl (pc0 := 17) (pc' := 21) rfl d34_17 (by decide) (by decide) ?_
  refine was X2 hx hby rfl d34_21 rfl rfl (l' := #[sR a1, sI 0, sR a4]) rfl ?_
  refine wal X2 hx hby rfl d34_22 rfl rfl ?_
  refine st3 _ ?_
  refine wfy X3 hx hby rfl (pc0 := 26) (pc' := 43) rfl d34_26 rfl ((if0 _ _).trans (feq (by decide : ¬ ((1 : Int32) = (0 : Int32)))).2) (by decide) (by decide) ?_
  refine wal X3 hx hby rfl d34_43 rfl rfl ?_
  refine st4 _ ?_
  exact retOut X4 hx hret rfl (Or.inr (Or.inr (Or.inr (Or.inr ⟨rfl, rfl, rfl⟩)))) (hb hby d34_47) hr
def Qrm77 (Z : State) (a1 : Addr) (ck2 : ClassId) (a3 : Value) (a4 : Addr) (a5 : Addr) (a6 : Value) (h0 : Heap) (n0 : Nat) (v : Option Value) (h : Heap) (L : List Loc) : Prop := v = none ∧ Fr n0 L ∧ Keep h0 h [a1, a5] ∧ Arv Z h a1 ck2 (.object z2) (10 : Int32) [a3, (vR a4), a6, .null, .null, .null, .null, .null, .null, .null] .null ∧ Fld Z h a5 z6 "modCount" "I" (vI 3) ∧ Fld Z h a5 z0 z7 z4 (vR a1) ∧ Fld Z h a5 z0 "size" "I" (vI 3)
theorem rm77 (cx : Cx Z a0 w1 w2 w3 clw3 w4 kw4 w5 kw5) (a1 : Addr) (ck2 : ClassId) (a3 : Value) (a4 : Addr) (a5 : Addr) (a6 : Value) (O0 : Old Z n0 h0) (PV1 : Arv Z h0 a1 ck2 (.object z2) (10 : Int32) [a3, (vR a4), .null, .null, .null, .null, .null, .null, .null, .null] .null) (PE2 : Exa Z h0 a5 z0) (PF3 : Fld Z h0 a5 z6 "modCount" "I" (vI 3)) (PF4 : Fld Z h0 a5 z0 z7 z4 (vR a1)) (PF5 : Fld Z h0 a5 z0 "size" "I" (vI 2)) (PE6 : ObV Z h0 a6) (Ov7 : Ovr Z ck2 z2) (gn8 : n0 ≤ a1) (pne9 : a5 ≠ a1) (gn10 : n0 ≤ a5) : Ct l Z ⟨z0, "add", z12⟩ jdk_38_method_24_code 4 none ⟨0, 0, 0, 0⟩ #[(vR a5), a6, (vR a1), (vI 2)] h0 (Qrm77 Z a1 ck2 a3 a4 a5 a6 h0 n0) := by
  obtain ⟨hw, hj, hS⟩ := id cx
  refine own_bd (plainFor_of_name pn122) (fun m => ef725 m a5 a6 a1 2 (own_obR PE6)) fun p e s m below meth c s₁ hret hlk hZ hx hby hml hown hnm X0 e0 => ?_
  have N0 := Fr.nil n0
  obtain ⟨T1, h1, L'1, X1, e1, W1, V1, O1, K1, N1, st1⟩ := own_stR X0 hx hZ e0 PV1 O0 (Keep.refl h0 [a1, a5]) N0 gn8 (Or.inl (List.mem_of_getElem? (i := 0) rfl)) (j := (2 : Int32)) 2 (by decide) (Nat.le_of_ble_eq_true rfl) (vs' := [a3, (vR a4), a6, .null, .null, .null, .null, .null, .null, .null]) rfl rfl (own_obF PE6) (own_obS Ov7 PE6) (g := (mkF m 14 #[sR a5, .val a6, sR a1, sI 2] [a6, (vI 2), (vR a1)])) rfl rfl (hb hby d31_14)
  have f2 : Fld Z h1 a5 z0 "size" "I" (vI 2) := (PF5.other W1 (Or.inl pne9))
  have f3 : Exa Z h1 a5 z0 := (PE2.wr W1)
  obtain ⟨T4, h4, L'4, X4, e4, W4, Fw4, O4, K4, N4, st4⟩ := own_put X1 hx hZ hown (host := "") (Or.inl (hw _ m180)) Via.refl e1 O1 K1 N1 gn10 (Or.inl (List.mem_of_getElem? (i := 1) rfl)) f2 f3 (Or.inl (hw _ m181)) (hw _ m142) (ty := .int) (by decide) rfl rfl (g := (mkF m 19 #[sR a5, .val a6, sR a1, sI 2] [(vI 3), (vR a5)])) rfl rfl (hb hby d31_19)
  have f5 : Arv Z h4 a1 ck2 (.object z2) (10 : Int32) [a3, (vR a4), a6, .null, .null, .null, .null, .null, .null, .null] .null := (V1.other W4 (Ne.symm pne9))
  have f6 : Fld Z h4 a5 z6 "modCount" "I" (vI 3) := ((PF3.other W1 (Or.inl pne9)).other W4 (Or.inr (slot_ne (Or.inl (hw _ m161)) (Or.inl (hw _ m181)) (by decide) (t := .int) (t' := .int) (by decide) (by decide))))
  have f7 : Fld Z h4 a5 z0 z7 z4 (vR a1) := ((PF4.other W1 (Or.inl pne9)).other W4 (Or.inr (slot_ne (Or.inl (hw _ m164)) (Or.inl (hw _ m181)) (by decide) (t := (.array (.object z2))) (t' := .int) (by decide) (by decide))))
  refine own_end X4 hlk (v := none) (fun _ => rfl) (by decide) (by rw [e4]; exact ⟨rfl, N4, K4, f5, f6, f7, Fw4⟩) fun fs hr => ?_
  show St p e below s₁ (mkF m 0 #[sR a5, .val a6, sR a1, sI 2] []) _
  refine wil X0 hx hby rfl d31_0 rfl ?_
  refine wal X0 hx hby rfl d31_1 rfl rfl ?_
  refine own_alen X0 hx hZ e0 PV1 (g := (mkF m 2 #[sR a5, .val a6, sR a1, sI 2] [(vR a1), (vI 2)])) rfl rfl (hb hby d31_2) ?_
  refine wcy X0 hx hby rfl (pc0 := 3) (pc' := 11) rfl d31_3 rfl (feq (by decide : ¬ ((2 : Int32) = (10 : Int32)))).2 (by decide) (by decide) ?_
  refine wal X0 hx hby rfl d31_11 rfl rfl ?_
  refine wil X0 hx hby rfl d31_12 rfl ?_
  refine wal X0 hx hby rfl d31_13 rfl (own_obR PE6) ?_
  refine st1 _ ?_
  refine wal X1 hx hby rfl d31_15 rfl rfl ?_
  refine wil X1 hx hby rfl d31_16 rfl ?_
  refine wic X1 hx hby rfl d31_17 ?_
  refine Own.iadd X1.here hx rfl (hb hby d31_18) rfl (by decide : ((2 : Int32) + (1 : Int32)) = (3 : Int32)) ?_
  refine st4 _ ?_
  exact X4.returnOut hx hret (hb hby d31_22) hr
def Qrm78 (Z : State) (a1 : Addr) (a2 : Addr) (ck3 : ClassId) (a4 : Value) (a5 : Addr) (a6 : Value) (h0 : Heap) (n0 : Nat) (v : Option Value) (h : Heap) (L : List Loc) : Prop := v = some (vI 1) ∧ Fr n0 L ∧ Keep h0 h [a1, a2] ∧ Fld Z h a1 z6 "modCount" "I" (vI 3) ∧ Fld Z h a1 z0 z7 z4 (vR a2) ∧ Fld Z h a1 z0 "size" "I" (vI 3) ∧ Arv Z h a2 ck3 (.object z2) (10 : Int32) [a4, (vR a5), a6, .null, .null, .null, .null, .null, .null, .null] .null
theorem rm78 (cx : Cx Z a0 w1 w2 w3 clw3 w4 kw4 w5 kw5) (a1 : Addr) (a2 : Addr) (ck3 : ClassId) (a4 : Value) (a5 : Addr) (a6 : Value) (O0 : Old Z n0 h0) (PE1 : Exa Z h0 a1 z0) (PF2 : Fld Z h0 a1 z6 "modCount" "I" (vI 2)) (PF3 : Fld Z h0 a1 z0 z7 z4 (vR a2)) (PF4 : Fld Z h0 a1 z0 "size" "I" (vI 2)) (PV5 : Arv Z h0 a2 ck3 (.object z2) (10 : Int32) [a4, (vR a5), .null, .null, .null, .null, .null, .null, .null, .null] .null) (gn6 : n0 ≤ a1) (PE7 : ObV Z h0 a6) (pne8 : a2 ≠ a1) (Ov9 : Ovr Z ck3 z2) (gn10 : n0 ≤ a2) : Ct l Z ⟨z0, "add", z15⟩ jdk_38_method_25_code 2 (some .boolean) ⟨1, 0, 0, 15⟩ #[(vR a1), a6] h0 (Qrm78 Z a1 a2 ck3 a4 a5 a6 h0 n0) := by
  obtain ⟨hw, hj, hS⟩ := id cx
  refine own_bd (plainFor_of_name pn122) (fun m => ef726 m a1 a6 (own_obR PE7)) fun p e s m below meth c s₁ hret hlk hZ hx hby hml hown hnm X0 e0 => ?_
  have N0 := Fr.nil n0
  obtain ⟨T1, X1, e1, st1⟩ := getF X0 hx hZ hown (host := "") (Or.inl (hw _ m178)) (Via.of (hw _ m179)) e0 PF2 (g := (mkF m 2 #[sR a1, .val a6] [(vR a1), (vR a1)])) rfl rfl (hb hby d30_2)
  obtain ⟨T2, h2, L'2, X2, e2, W2, Fw2, O2, K2, N2, st2⟩ := own_put X1 hx hZ hown (host := "") (Or.inl (hw _ m178)) (Via.of (hw _ m179)) e1 O0 (Keep.refl h0 [a1, a2]) N0 gn6 (Or.inl (List.mem_of_getElem? (i := 0) rfl)) PF2 PE1 (Or.inl (hw _ m161)) (hw _ m142) (ty := .int) (by decide) rfl rfl (g := (mkF m 7 #[sR a1, .val a6] [(vI 3), (vR a1)])) rfl rfl (hb hby d30_7)
  have f3 : ObV Z h2 a6 := (own_obW PE7 W2)
  have f4 : Fld Z h2 a1 z0 z7 z4 (vR a2) := (PF3.other W2 (Or.inr (slot_ne (Or.inl (hw _ m164)) (Or.inl (hw _ m161)) (by decide) (t := (.array (.object z2))) (t' := .int) (by decide) (by decide))))
  obtain ⟨T5, X5, e5, st5⟩ := getF X2 hx hZ hown (host := "") (Or.inl (hw _ m163)) Via.refl e2 f4 (g := (mkF m 13 #[sR a1, .val a6] [(vR a1), a6, (vR a1)])) rfl rfl (hb hby d30_13)
  have f6 : Fld Z h2 a1 z0 "size" "I" (vI 2) := (PF4.other W2 (Or.inr (slot_ne (Or.inl (hw _ m181)) (Or.inl (hw _ m161)) (by decide) (t := .int) (t' := .int) (by decide) (by decide))))
  obtain ⟨T7, X7, e7, st7⟩ := getF X5 hx hZ hown (host := "") (Or.inl (hw _ m180)) Via.refl e5 f6 (g := (mkF m 17 #[sR a1, .val a6] [(vR a1), (vR a2), a6, (vR a1)])) rfl rfl (hb hby d30_17)
  have f9 : Arv Z h2 a2 ck3 (.object z2) (10 : Int32) [a4, (vR a5), .null, .null, .null, .null, .null, .null, .null, .null] .null := (PV5.other W2 pne8)
  have f10 : Exa Z h2 a1 z0 := (PE1.wr W2)
  obtain ⟨_, T8, L8, ⟨rfl, N8q, Kq8, q8_0, q8_1, q8_2, q8_3⟩, X8, st8⟩ := own_private X7 hx hZ (W := 0) hown (hw _ m182) (hw _ m183) (mvT hZ (hw _ m185)) (hw _ m184) (hw _ m143) (hw _ m186) (by decide) (rm77 cx a2 ck3 a4 a5 a1 a6 O2 f9 f10 Fw2 f4 f6 f3 Ov9 gn10 (Ne.symm pne8) gn6) e7 f10 (g := (mkF m 20 #[sR a1, .val a6] [(vI 2), (vR a2), a6, (vR a1)])) rfl hml rfl (rest := []) (lenOf pd640 rfl) rfl rfl rfl (hb hby d30_20) (by decide)
  have N8 := Fr.app N2 N8q
  have O8 : Old Z n0 T8.heap := O2.keep Kq8 (allS gn10 (allS gn6 all0))
  have K8 : Keep h0 T8.heap [a1, a2] := K2.trans Kq8 (allS (Or.inl (List.mem_of_getElem? (i := 1) rfl)) (allS (Or.inl (List.mem_of_getElem? (i := 0) rfl)) all0))
  refine own_end X8 hlk (v := some (vI 1)) (own_hv hret) (by decide) ⟨rfl, N8, K8, q8_1, q8_2, q8_3, q8_0⟩ fun fs hr => ?_
  show St p e below s₁ (mkF m 0 #[sR a1, .val a6] []) _
  refine wal X0 hx hby rfl d30_0 rfl rfl ?_
  refine wdu X0 hx hby rfl d30_1 rfl rfl ?_
  refine st1 _ ?_
  refine wic X1 hx hby rfl d30_5 ?_
  refine Own.iadd X1.here hx rfl (hb hby d30_6) rfl (by decide : ((2 : Int32) + (1 : Int32)) = (3 : Int32)) ?_
  refine st2 _ ?_
  refine wal X2 hx hby rfl d30_10 rfl rfl ?_
  refine wal X2 hx hby rfl d30_11 rfl (own_obR f3) ?_
  refine wal X2 hx hby rfl d30_12 rfl rfl ?_
  refine st5 _ ?_
  refine wal X5 hx hby rfl d30_16 rfl rfl ?_
  refine st7 _ ?_
  refine st8 _ ?_
  refine wic X8 hx hby rfl d30_23 ?_
  exact retN X8 hx (t := .boolean) hret (by simp) (hb hby d30_24) hr
def Qrm79 (Z : State) (h0 : Heap) (n0 : Nat) (v : Option Value) (h : Heap) (L : List Loc) : Prop := v = some (vI 1) ∧ Fr n0 L ∧ h = h0
theorem rm79 (cx : Cx Z a0 w1 w2 w3 clw3 w4 kw4 w5 kw5) (O0 : Old Z n0 h0) : Ct l Z ⟨z22, "checkIndex", "(II)I"⟩ jdk_31_method_17_code 2 (some .int) ⟨1, 0, 0, 14⟩ #[(vI 1), (vI 3)] h0 (Qrm79 Z h0 n0) := by
  obtain ⟨hw, hj, hS⟩ := id cx
  refine own_bd (plainFor_of_name pn686) (fun m => ef261 m 1 3) fun p e s m below meth c s₁ hret hlk hZ hx hby hml hown hnm X0 e0 => ?_
  have N0 := Fr.nil n0
  obtain ⟨_, T1, L1, ⟨rfl, N1q, e1⟩, X1, st1⟩ := cS X0 hx hZ (W := 0) hown (cw33 cx) (rm49 cx 1 3 O0 (by decide : ¬ ((1 : Int32) < (0 : Int32))) (by decide : (1 : Int32) < (3 : Int32))) e0 (g := (mkF m 3 #[sI 1, sI 3] [.null, (vI 3), (vI 1)])) rfl hml rfl (rest := []) rfl rfl rfl rfl (hb hby d37_3) (by decide)
  refine own_end X1 hlk (v := some (vI 1)) (own_hv hret) (by decide) (by rw [e1]; exact ⟨rfl, (Fr.app N0 N1q), rfl⟩) fun fs hr => ?_
  show St p e below s₁ (mkF m 0 #[sI 1, sI 3] []) _
  refine wil X0 hx hby rfl d37_0 rfl ?_
  refine wil X0 hx hby rfl d37_1 rfl ?_
  refine wan X0 hx hby rfl d37_2 ?_
  refine st1 _ ?_
  exact retOut X1 hx hret rfl (Or.inl ⟨rfl, Or.inl rfl, _, rfl⟩) (hb hby d37_6) hr
def Qrm80 (Z : State) (a5 : Addr) (h0 : Heap) (n0 : Nat) (v : Option Value) (h : Heap) (L : List Loc) : Prop := v = some (vR a5) ∧ Fr n0 L ∧ h = h0
theorem rm80 (cx : Cx Z a0 w1 w2 w3 clw3 w4 kw4 w5 kw5) (a1 : Addr) (a2 : Addr) (ck3 : ClassId) (a4 : Value) (a5 : Addr) (a6 : Value) (O0 : Old Z n0 h0) (PF1 : Fld Z h0 a1 z0 z7 z4 (vR a2)) (PV2 : Arv Z h0 a2 ck3 (.object z2) (10 : Int32) [a4, (vR a5), a6, .null, .null, .null, .null, .null, .null, .null] .null) : Ct l Z ⟨z0, z7, z10⟩ jdk_38_method_18_code 2 (some (.object z2)) ⟨0, 0, 0, 0⟩ #[(vR a1), (vI 1)] h0 (Qrm80 Z a5 h0 n0) := by
  obtain ⟨hw, hj, hS⟩ := id cx
  refine own_bd (plainFor_of_name pn122) (fun m => ef55 m a1 1) fun p e s m below meth c s₁ hret hlk hZ hx hby hml hown hnm X0 e0 => ?_
  have N0 := Fr.nil n0
  obtain ⟨T1, X1, e1, st1⟩ := getF X0 hx hZ hown (host := "") (Or.inl (hw _ m163)) Via.refl e0 PF1 (g := (mkF m 1 #[sR a1, sI 1] [(vR a1)])) rfl rfl (hb hby d38_1)
  refine own_end X1 hlk (v := some (vR a5)) (own_hv hret) (by decide) (by rw [e1]; exact ⟨rfl, N0, rfl⟩) fun fs hr => ?_
  show St p e below s₁ (mkF m 0 #[sR a1, sI 1] []) _
  refine wal X0 hx hby rfl d38_0 rfl rfl ?_
  refine st1 _ ?_
  refine wil X1 hx hby rfl d38_4 rfl ?_
  refine own_aaload X1 hx hZ e1 PV2 (j := 1) (by decide) (v := (vR a5)) rfl rfl (g := (mkF m 5 #[sR a1, sI 1] [(vI 1), (vR a2)])) rfl rfl (hb hby d38_5) ?_
  exact retOut X1 hx hret rfl (Or.inr (Or.inr (Or.inr (Or.inr ⟨rfl, rfl, rfl⟩)))) (hb hby d38_6) hr
def Qrm81 (Z : State) (a5 : Addr) (h0 : Heap) (n0 : Nat) (v : Option Value) (h : Heap) (L : List Loc) : Prop := v = some (vR a5) ∧ Fr n0 L ∧ h = h0
theorem rm81 (cx : Cx Z a0 w1 w2 w3 clw3 w4 kw4 w5 kw5) (a1 : Addr) (a2 : Addr) (ck3 : ClassId) (a4 : Value) (a5 : Addr) (a6 : Value) (O0 : Old Z n0 h0) (PF1 : Fld Z h0 a1 z0 "size" "I" (vI 3)) (PF2 : Fld Z h0 a1 z0 z7 z4 (vR a2)) (PV3 : Arv Z h0 a2 ck3 (.object z2) (10 : Int32) [a4, (vR a5), a6, .null, .null, .null, .null, .null, .null, .null] .null) (PE4 : Exa Z h0 a1 z0) : Ct l Z ⟨z0, "get", z10⟩ jdk_38_method_20_code 2 (some (.object z2)) ⟨2, 0, 0, 27⟩ #[(vR a1), (vI 1)] h0 (Qrm81 Z a5 h0 n0) := by
  obtain ⟨hw, hj, hS⟩ := id cx
  refine own_bd (plainFor_of_name pn122) (fun m => ef55 m a1 1) fun p e s m below meth c s₁ hret hlk hZ hx hby hml hown hnm X0 e0 => ?_
  have N0 := Fr.nil n0
  obtain ⟨T1, X1, e1, st1⟩ := getF X0 hx hZ hown (host := "") (Or.inl (hw _ m180)) Via.refl e0 PF1 (g := (mkF m 2 #[sR a1, sI 1] [(vR a1), (vI 1)])) rfl rfl (hb hby d36_2)
  obtain ⟨_, T2, L2, ⟨rfl, N2q, e2⟩, X2, st2⟩ := cS X1 hx hZ (W := 0) hown (cw34 cx) (rm79 cx O0) e1 (g := (mkF m 5 #[sR a1, sI 1] [(vI 3), (vI 1)])) rfl hml rfl (rest := []) rfl rfl rfl rfl (hb hby d36_5) (by decide)
  obtain ⟨_, T3, L3, ⟨rfl, N3q, e3⟩, X3, st3⟩ := cV X2 hx hZ (W := 0) hown (cw35 cx) (rm80 cx a1 a2 ck3 a4 a5 a6 O0 PF2 PV3) e2 PE4 (g := (mkF m 11 #[sR a1, sI 1] [(vI 1), (vR a1)])) rfl hml rfl (rest := []) rfl rfl rfl rfl (hb hby d36_11) (by decide)
  refine own_end X3 hlk (v := some (vR a5)) (own_hv hret) (by decide) (by rw [e3]; exact ⟨rfl, (Fr.app (Fr.app N0 N2q) N3q), rfl⟩) fun fs hr => ?_
  show St p e below s₁ (mkF m 0 #[sR a1, sI 1] []) _
  refine wil X0 hx hby rfl d36_0 rfl ?_
  refine wal X0 hx hby rfl d36_1 rfl rfl ?_
  refine st1 _ ?_
  refine st2 _ ?_
  refine XS.pop X2.here hx rfl (hb hby d36_8) rfl rfl ?_
  refine wal X2 hx hby rfl d36_9 rfl rfl ?_
  refine wil X2 hx hby rfl d36_10 rfl ?_
  refine st3 _ ?_
  exact retOut X3 hx hret rfl (Or.inr (Or.inr (Or.inr (Or.inr ⟨rfl, rfl, rfl⟩)))) (hb hby d36_14) hr
def Qrm82 (Z : State) (a5 : Addr) (h0 : Heap) (n0 : Nat) (v : Option Value) (h : Heap) (L : List Loc) : Prop := v = some (vR a5) ∧ Fr n0 L ∧ h = h0
theorem rm82 (cx : Cx Z a0 w1 w2 w3 clw3 w4 kw4 w5 kw5) (a1 : Addr) (a2 : Addr) (ck3 : ClassId) (a4 : Value) (a5 : Addr) (a6 : Value) (O0 : Old Z n0 h0) (PF1 : Fld Z h0 a1 z0 "size" "I" (vI 3)) (PE2 : Exa Z h0 a1 z0) (PF3 : Fld Z h0 a1 z0 z7 z4 (vR a2)) (PV4 : Arv Z h0 a2 ck3 (.object z2) (10 : Int32) [a4, (vR a5), a6, .null, .null, .null, .null, .null, .null, .null] .null) (PE5 : Exa Z h0 a5 z5) : Ct l Z ⟨z8, "element", z14⟩ prog_16_method_9_code 3 (some (.object z16)) ⟨3, 0, 0, 40⟩ #[(vR a1), (vI 1)] h0 (Qrm82 Z a5 h0 n0) := by
  obtain ⟨hw, hj, hS⟩ := id cx
  refine own_bd (plainFor_of_name pn546) (fun m => ef503 m a1 1) fun p e s m below meth c s₁ hret hlk hZ hx hby hml hown hnm X0 e0 => ?_
  have N0 := Fr.nil n0
  obtain ⟨_, T1, L1, ⟨rfl, N1q, e1⟩, X1, st1⟩ := own_iface X0 hx hZ (W := 1) hown (hw _ m204) (hw _ m205) (mvT hZ (hw _ m206)) (hw _ m207) (hw _ m208) (mvT hZ (hw _ m209)) (mvT hZ (hw _ m210)) (hw _ m176) (hw _ m143) (hw _ m211) (by decide) (rm72 cx a1 O0 PF1) e0 PE2 (g := (mkF m 2 #[sR a1, sI 1, sU] [(vR a1), (vI 1)])) rfl hml rfl (rest := [(vI 1)]) (lenOf pd200 rfl) rfl rfl rfl (hb hby d34_2) (by decide)
  obtain ⟨_, T2, L2, ⟨rfl, N2q, e2⟩, X2, st2⟩ := own_iface X1 hx hZ (W := 0) hown (hw _ m212) (hw _ m213) (mvT hZ (hw _ m214)) (hw _ m215) (hw _ m216) (mvT hZ (hw _ m217)) (mvT hZ (hw _ m218)) (hw _ m176) (hw _ m143) (hw _ m219) (by decide) (rm81 cx a1 a2 ck3 a4 a5 a6 O0 PF1 PF3 PV4 PE2) e1 PE2 (g := (mkF m 12 #[sR a1, sI 1, sU] [(vI 1), (vR a1)])) rfl hml rfl (rest := []) (lenOf pd521 rfl) rfl rfl rfl (hb hby d34_12) (by decide)
  obtain ⟨T3, X3, e3, st3⟩ := instY X2 hx hZ hown (hw _ m136) e2 (Ins.of_exa PE5 (hw _ m137)) (g := (mkF m 23 #[sR a1, sI 1, sR a5] [(vR a5)])) rfl rfl (hb hby d34_23)
  obtain ⟨_, T4, L4, ⟨rfl, N4q, e4⟩, X4, st4⟩ := cS X3 hx hZ (W := 0) hown (cw29 cx) (rm40 cx a5 O0 PE5) e3 (g := (mkF m 44 #[sR a1, sI 1, sR a5] [(vR a5)])) rfl hml rfl (rest := []) rfl rfl rfl rfl (hb hby d34_44) (by decide)
  refine own_end X4 hlk (v := some (vR a5)) (own_hv hret) (by decide) (by rw [e4]; exact ⟨rfl, (Fr.app (Fr.app (Fr.app N0 N1q) N2q) N4q), rfl⟩) fun fs hr => ?_
  show St p e below s₁ (mkF m 0 #[sR a1, sI 1, sU] []) _
  refine wil X0 hx hby rfl d34_0 rfl ?_
  refine wal X0 hx hby rfl d34_1 rfl rfl ?_
  refine st1 _ ?_
  refine wcn X1 hx hby rfl d34_7 rfl (tlt (by decide : (1 : Int32) < (3 : Int32))).2.1 ?_
  refine wal X1 hx hby rfl d34_10 rfl rfl ?_
  refine wil X1 hx hby rfl d34_11 rfl ?_
  refine st2 _ ?_
  refine wgt X2 hx hby rfl (pc0 := 17) (pc' := 21) rfl d34_17 (by decide) (by decide) ?_
  refine was X2 hx hby rfl d34_21 rfl rfl (l' := #[sR a1, sI 1, sR a5]) rfl ?_
  refine wal X2 hx hby rfl d34_22 rfl rfl ?_
  refine st3 _ ?_
  refine wfy X3 hx hby rfl (pc0 := 26) (pc' := 43) rfl d34_26 rfl ((if0 _ _).trans (feq (by decide : ¬ ((1 : Int32) = (0 : Int32)))).2) (by decide) (by decide) ?_
  refine wal X3 hx hby rfl d34_43 rfl rfl ?_
  refine st4 _ ?_
  exact retOut X4 hx hret rfl (Or.inr (Or.inr (Or.inr (Or.inr ⟨rfl, rfl, rfl⟩)))) (hb hby d34_47) hr
def Qrm83 (Z : State) (a1 : Addr) (ck2 : ClassId) (a3 : Value) (a4 : Addr) (a5 : Value) (h0 : Heap) (n0 : Nat) (v : Option Value) (h : Heap) (L : List Loc) : Prop := v = none ∧ Fr n0 L ∧ Keep h0 h [a1, a4] ∧ Arv Z h a1 ck2 (.object z2) (10 : Int32) [a3, a5, .null, .null, .null, .null, .null, .null, .null, .null] .null ∧ Fld Z h a4 z6 "modCount" "I" (vI 2) ∧ Fld Z h a4 z0 z7 z4 (vR a1) ∧ Fld Z h a4 z0 "size" "I" (vI 2)
theorem rm83 (cx : Cx Z a0 w1 w2 w3 clw3 w4 kw4 w5 kw5) (a1 : Addr) (ck2 : ClassId) (a3 : Value) (a4 : Addr) (a5 : Value) (O0 : Old Z n0 h0) (PV1 : Arv Z h0 a1 ck2 (.object z2) (10 : Int32) [a3, .null, .null, .null, .null, .null, .null, .null, .null, .null] .null) (PE2 : Exa Z h0 a4 z0) (PF3 : Fld Z h0 a4 z6 "modCount" "I" (vI 2)) (PF4 : Fld Z h0 a4 z0 z7 z4 (vR a1)) (PF5 : Fld Z h0 a4 z0 "size" "I" (vI 1)) (PE6 : ObV Z h0 a5) (Ov7 : Ovr Z ck2 z2) (gn8 : n0 ≤ a1) (pne9 : a4 ≠ a1) (gn10 : n0 ≤ a4) : Ct l Z ⟨z0, "add", z12⟩ jdk_38_method_24_code 4 none ⟨0, 0, 0, 0⟩ #[(vR a4), a5, (vR a1), (vI 1)] h0 (Qrm83 Z a1 ck2 a3 a4 a5 h0 n0) := by
  obtain ⟨hw, hj, hS⟩ := id cx
  refine own_bd (plainFor_of_name pn122) (fun m => ef725 m a4 a5 a1 1 (own_obR PE6)) fun p e s m below meth c s₁ hret hlk hZ hx hby hml hown hnm X0 e0 => ?_
  have N0 := Fr.nil n0
  obtain ⟨T1, h1, L'1, X1, e1, W1, V1, O1, K1, N1, st1⟩ := own_stR X0 hx hZ e0 PV1 O0 (Keep.refl h0 [a1, a4]) N0 gn8 (Or.inl (List.mem_of_getElem? (i := 0) rfl)) (j := (1 : Int32)) 1 (by decide) (Nat.le_of_ble_eq_true rfl) (vs' := [a3, a5, .null, .null, .null, .null, .null, .null, .null, .null]) rfl rfl (own_obF PE6) (own_obS Ov7 PE6) (g := (mkF m 14 #[sR a4, .val a5, sR a1, sI 1] [a5, (vI 1), (vR a1)])) rfl rfl (hb hby d31_14)
  have f2 : Fld Z h1 a4 z0 "size" "I" (vI 1) := (PF5.other W1 (Or.inl pne9))
  have f3 : Exa Z h1 a4 z0 := (PE2.wr W1)
  obtain ⟨T4, h4, L'4, X4, e4, W4, Fw4, O4, K4, N4, st4⟩ := own_put X1 hx hZ hown (host := "") (Or.inl (hw _ m180)) Via.refl e1 O1 K1 N1 gn10 (Or.inl (List.mem_of_getElem? (i := 1) rfl)) f2 f3 (Or.inl (hw _ m181)) (hw _ m142) (ty := .int) (by decide) rfl rfl (g := (mkF m 19 #[sR a4, .val a5, sR a1, sI 1] [(vI 2), (vR a4)])) rfl rfl (hb hby d31_19)
  have f5 : Arv Z h4 a1 ck2 (.object z2) (10 : Int32) [a3, a5, .null, .null, .null, .null, .null, .null, .null, .null] .null := (V1.other W4 (Ne.symm pne9))
  have f6 : Fld Z h4 a4 z6 "modCount" "I" (vI 2) := ((PF3.other W1 (Or.inl pne9)).other W4 (Or.inr (slot_ne (Or.inl (hw _ m161)) (Or.inl (hw _ m181)) (by decide) (t := .int) (t' := .int) (by decide) (by decide))))
  have f7 : Fld Z h4 a4 z0 z7 z4 (vR a1) := ((PF4.other W1 (Or.inl pne9)).other W4 (Or.inr (slot_ne (Or.inl (hw _ m164)) (Or.inl (hw _ m181)) (by decide) (t := (.array (.object z2))) (t' := .int) (by decide) (by decide))))
  refine own_end X4 hlk (v := none) (fun _ => rfl) (by decide) (by rw [e4]; exact ⟨rfl, N4, K4, f5, f6, f7, Fw4⟩) fun fs hr => ?_
  show St p e below s₁ (mkF m 0 #[sR a4, .val a5, sR a1, sI 1] []) _
  refine wil X0 hx hby rfl d31_0 rfl ?_
  refine wal X0 hx hby rfl d31_1 rfl rfl ?_
  refine own_alen X0 hx hZ e0 PV1 (g := (mkF m 2 #[sR a4, .val a5, sR a1, sI 1] [(vR a1), (vI 1)])) rfl rfl (hb hby d31_2) ?_
  refine wcy X0 hx hby rfl (pc0 := 3) (pc' := 11) rfl d31_3 rfl (feq (by decide : ¬ ((1 : Int32) = (10 : Int32)))).2 (by decide) (by decide) ?_
  refine wal X0 hx hby rfl d31_11 rfl rfl ?_
  refine wil X0 hx hby rfl d31_12 rfl ?_
  refine wal X0 hx hby rfl d31_13 rfl (own_obR PE6) ?_
  refine st1 _ ?_
  refine wal X1 hx hby rfl d31_15 rfl rfl ?_
  refine wil X1 hx hby rfl d31_16 rfl ?_
  refine wic X1 hx hby rfl d31_17 ?_
  refine Own.iadd X1.here hx rfl (hb hby d31_18) rfl (by decide : ((1 : Int32) + (1 : Int32)) = (2 : Int32)) ?_
  refine st4 _ ?_
  exact X4.returnOut hx hret (hb hby d31_22) hr
def Qrm84 (Z : State) (a1 : Addr) (a2 : Addr) (ck3 : ClassId) (a4 : Value) (a5 : Value) (h0 : Heap) (n0 : Nat) (v : Option Value) (h : Heap) (L : List Loc) : Prop := v = some (vI 1) ∧ Fr n0 L ∧ Keep h0 h [a1, a2] ∧ Fld Z h a1 z6 "modCount" "I" (vI 2) ∧ Fld Z h a1 z0 z7 z4 (vR a2) ∧ Fld Z h a1 z0 "size" "I" (vI 2) ∧ Arv Z h a2 ck3 (.object z2) (10 : Int32) [a4, a5, .null, .null, .null, .null, .null, .null, .null, .null] .null
theorem rm84 (cx : Cx Z a0 w1 w2 w3 clw3 w4 kw4 w5 kw5) (a1 : Addr) (a2 : Addr) (ck3 : ClassId) (a4 : Value) (a5 : Value) (O0 : Old Z n0 h0) (PE1 : Exa Z h0 a1 z0) (PF2 : Fld Z h0 a1 z6 "modCount" "I" (vI 1)) (PF3 : Fld Z h0 a1 z0 z7 z4 (vR a2)) (PF4 : Fld Z h0 a1 z0 "size" "I" (vI 1)) (PV5 : Arv Z h0 a2 ck3 (.object z2) (10 : Int32) [a4, .null, .null, .null, .null, .null, .null, .null, .null, .null] .null) (gn6 : n0 ≤ a1) (PE7 : ObV Z h0 a5) (pne8 : a2 ≠ a1) (Ov9 : Ovr Z ck3 z2) (gn10 : n0 ≤ a2) : Ct l Z ⟨z0, "add", z15⟩ jdk_38_method_25_code 2 (some .boolean) ⟨1, 0, 0, 15⟩ #[(vR a1), a5] h0 (Qrm84 Z a1 a2 ck3 a4 a5 h0 n0) := by
  obtain ⟨hw, hj, hS⟩ := id cx
  refine own_bd (plainFor_of_name pn122) (fun m => ef726 m a1 a5 (own_obR PE7)) fun p e s m below meth c s₁ hret hlk hZ hx hby hml hown hnm X0 e0 => ?_
  have N0 := Fr.nil n0
  obtain ⟨T1, X1, e1, st1⟩ := getF X0 hx hZ hown (host := "") (Or.inl (hw _ m178)) (Via.of (hw _ m179)) e0 PF2 (g := (mkF m 2 #[sR a1, .val a5] [(vR a1), (vR a1)])) rfl rfl (hb hby d30_2)
  obtain ⟨T2, h2, L'2, X2, e2, W2, Fw2, O2, K2, N2, st2⟩ := own_put X1 hx hZ hown (host := "") (Or.inl (hw _ m178)) (Via.of (hw _ m179)) e1 O0 (Keep.refl h0 [a1, a2]) N0 gn6 (Or.inl (List.mem_of_getElem? (i := 0) rfl)) PF2 PE1 (Or.inl (hw _ m161)) (hw _ m142) (ty := .int) (by decide) rfl rfl (g := (mkF m 7 #[sR a1, .val a5] [(vI 2), (vR a1)])) rfl rfl (hb hby d30_7)
  have f3 : ObV Z h2 a5 := (own_obW PE7 W2)
  have f4 : Fld Z h2 a1 z0 z7 z4 (vR a2) := (PF3.other W2 (Or.inr (slot_ne (Or.inl (hw _ m164)) (Or.inl (hw _ m161)) (by decide) (t := (.array (.object z2))) (t' := .int) (by decide) (by decide))))
  obtain ⟨T5, X5, e5, st5⟩ := getF X2 hx hZ hown (host := "") (Or.inl (hw _ m163)) Via.refl e2 f4 (g := (mkF m 13 #[sR a1, .val a5] [(vR a1), a5, (vR a1)])) rfl rfl (hb hby d30_13)
  have f6 : Fld Z h2 a1 z0 "size" "I" (vI 1) := (PF4.other W2 (Or.inr (slot_ne (Or.inl (hw _ m181)) (Or.inl (hw _ m161)) (by decide) (t := .int) (t' := .int) (by decide) (by decide))))
  obtain ⟨T7, X7, e7, st7⟩ := getF X5 hx hZ hown (host := "") (Or.inl (hw _ m180)) Via.refl e5 f6 (g := (mkF m 17 #[sR a1, .val a5] [(vR a1), (vR a2), a5, (vR a1)])) rfl rfl (hb hby d30_17)
  have f9 : Arv Z h2 a2 ck3 (.object z2) (10 : Int32) [a4, .null, .null, .null, .null, .null, .null, .null, .null, .null] .null := (PV5.other W2 pne8)
  have f10 : Exa Z h2 a1 z0 := (PE1.wr W2)
  obtain ⟨_, T8, L8, ⟨rfl, N8q, Kq8, q8_0, q8_1, q8_2, q8_3⟩, X8, st8⟩ := own_private X7 hx hZ (W := 0) hown (hw _ m182) (hw _ m183) (mvT hZ (hw _ m185)) (hw _ m184) (hw _ m143) (hw _ m186) (by decide) (rm83 cx a2 ck3 a4 a1 a5 O2 f9 f10 Fw2 f4 f6 f3 Ov9 gn10 (Ne.symm pne8) gn6) e7 f10 (g := (mkF m 20 #[sR a1, .val a5] [(vI 1), (vR a2), a5, (vR a1)])) rfl hml rfl (rest := []) (lenOf pd640 rfl) rfl rfl rfl (hb hby d30_20) (by decide)
  have N8 := Fr.app N2 N8q
  have O8 : Old Z n0 T8.heap := O2.keep Kq8 (allS gn10 (allS gn6 all0))
  have K8 : Keep h0 T8.heap [a1, a2] := K2.trans Kq8 (allS (Or.inl (List.mem_of_getElem? (i := 1) rfl)) (allS (Or.inl (List.mem_of_getElem? (i := 0) rfl)) all0))
  refine own_end X8 hlk (v := some (vI 1)) (own_hv hret) (by decide) ⟨rfl, N8, K8, q8_1, q8_2, q8_3, q8_0⟩ fun fs hr => ?_
  show St p e below s₁ (mkF m 0 #[sR a1, .val a5] []) _
  refine wal X0 hx hby rfl d30_0 rfl rfl ?_
  refine wdu X0 hx hby rfl d30_1 rfl rfl ?_
  refine st1 _ ?_
  refine wic X1 hx hby rfl d30_5 ?_
  refine Own.iadd X1.here hx rfl (hb hby d30_6) rfl (by decide : ((1 : Int32) + (1 : Int32)) = (2 : Int32)) ?_
  refine st2 _ ?_
  refine wal X2 hx hby rfl d30_10 rfl rfl ?_
  refine wal X2 hx hby rfl d30_11 rfl (own_obR f3) ?_
  refine wal X2 hx hby rfl d30_12 rfl rfl ?_
  refine st5 _ ?_
  refine wal X5 hx hby rfl d30_16 rfl rfl ?_
  refine st7 _ ?_
  refine st8 _ ?_
  refine wic X8 hx hby rfl d30_23 ?_
  exact retN X8 hx (t := .boolean) hret (by simp) (hb hby d30_24) hr
def Qrm85 (Z : State) (a3 : Addr) (h0 : Heap) (n0 : Nat) (v : Option Value) (h : Heap) (L : List Loc) : Prop := v = some (vR a3) ∧ Fr n0 L ∧ h = h0
theorem rm85 (cx : Cx Z a0 w1 w2 w3 clw3 w4 kw4 w5 kw5) (p1 : Int32) (p2 : Int32) (a3 : Addr) (O0 : Old Z n0 h0) : Ct l Z ⟨z9, "slot", z19⟩ method_3_code 6 (some (.object z2)) ⟨0, 0, 0, 0⟩ #[(vI 2), (vI 2), (vI p1), (vI p2), (vR a3)] h0 (Qrm85 Z a3 h0 n0) := by
  obtain ⟨hw, hj, hS⟩ := id cx
  refine own_bd (plainFor_of_name pn127) (fun m => ef128 m 2 2 p1 p2 a3) fun p e s m below meth c s₁ hret hlk hZ hx hby hml hown hnm X0 e0 => ?_
  have N0 := Fr.nil n0
  refine own_end X0 hlk (v := some (vR a3)) (own_hv hret) (by decide) (by rw [e0]; exact ⟨rfl, N0, rfl⟩) fun fs hr => ?_
  show St p e below s₁ (mkF m 0 #[sI 2, sI 2, sI p1, sI p2, sR a3, sU] []) _
  refine wil X0 hx hby rfl d29_0 rfl ?_
  refine wic X0 hx hby rfl d29_1 ?_
  refine wil X0 hx hby rfl d29_2 rfl ?_
  refine Own.imul X0.here hx rfl (hb hby d29_3) rfl (by decide : ((2 : Int32) * (2 : Int32)) = (4 : Int32)) ?_
  refine XS.iushr X0.here hx rfl (hb hby d29_4) rfl ?_
  refine wic X0 hx hby rfl d29_5 ?_
  refine XS.iand X0.here hx rfl (hb hby d29_6) rfl ?_
  refine wiS X0 hx hby rfl d29_7 rfl (l' := #[sI 2, sI 2, sI p1, sI p2, sR a3, sI (((p1.toUInt32 >>> ((4 : Int32) &&& 31).toUInt32).toInt32) &&& (3 : Int32))]) rfl ?_
  refine wil X0 hx hby rfl d29_9 rfl ?_
  refine wil X0 hx hby rfl d29_10 rfl ?_
  refine wcy X0 hx hby rfl (pc0 := 11) (pc' := 19) rfl d29_11 rfl (teq (by decide : (2 : Int32) = (2 : Int32))).1 (by decide) (by decide) ?_
  refine waL X0 hx hby rfl d29_19 rfl rfl ?_
  exact retOut X0 hx hret rfl (Or.inr (Or.inr (Or.inr (Or.inr ⟨rfl, rfl, rfl⟩)))) (hb hby d29_21) hr
def Qrm86 (Z : State) (a1 : Addr) (ck2 : ClassId) (a3 : Value) (a4 : Value) (a5 : Addr) (a6 : Addr) (h0 : Heap) (n0 : Nat) (v : Option Value) (h : Heap) (L : List Loc) : Prop := v = none ∧ Fr n0 L ∧ Keep h0 h [a1, a5] ∧ Arv Z h a1 ck2 (.object z2) (10 : Int32) [a3, a4, (vR a6), .null, .null, .null, .null, .null, .null, .null] .null ∧ Fld Z h a5 z6 "modCount" "I" (vI 3) ∧ Fld Z h a5 z0 z7 z4 (vR a1) ∧ Fld Z h a5 z0 "size" "I" (vI 3)
theorem rm86 (cx : Cx Z a0 w1 w2 w3 clw3 w4 kw4 w5 kw5) (a1 : Addr) (ck2 : ClassId) (a3 : Value) (a4 : Value) (a5 : Addr) (a6 : Addr) (O0 : Old Z n0 h0) (PV1 : Arv Z h0 a1 ck2 (.object z2) (10 : Int32) [a3, a4, .null, .null, .null, .null, .null, .null, .null, .null] .null) (PE2 : Exa Z h0 a5 z0) (PF3 : Fld Z h0 a5 z6 "modCount" "I" (vI 3)) (PF4 : Fld Z h0 a5 z0 z7 z4 (vR a1)) (PF5 : Fld Z h0 a5 z0 "size" "I" (vI 2)) (Ov6 : Ovr Z ck2 z2) (PE7 : Exa Z h0 a6 z5) (gn8 : n0 ≤ a1) (pne9 : a5 ≠ a1) (gn10 : n0 ≤ a5) : Ct l Z ⟨z0, "add", z12⟩ jdk_38_method_24_code 4 none ⟨0, 0, 0, 0⟩ #[(vR a5), (vR a6), (vR a1), (vI 2)] h0 (Qrm86 Z a1 ck2 a3 a4 a5 a6 h0 n0) := by
  obtain ⟨hw, hj, hS⟩ := id cx
  refine own_bd (plainFor_of_name pn122) (fun m => ef638 m a5 a6 a1 2) fun p e s m below meth c s₁ hret hlk hZ hx hby hml hown hnm X0 e0 => ?_
  have N0 := Fr.nil n0
  obtain ⟨T1, h1, L'1, X1, e1, W1, V1, O1, K1, N1, st1⟩ := own_stR X0 hx hZ e0 PV1 O0 (Keep.refl h0 [a1, a5]) N0 gn8 (Or.inl (List.mem_of_getElem? (i := 0) rfl)) (j := (2 : Int32)) 2 (by decide) (Nat.le_of_ble_eq_true rfl) (vs' := [a3, a4, (vR a6), .null, .null, .null, .null, .null, .null, .null]) rfl rfl rfl (Or.inr ⟨_, _, rfl, Ov6, (Ins.of_exa PE7 (hw _ m200))⟩) (g := (mkF m 14 #[sR a5, sR a6, sR a1, sI 2] [(vR a6), (vI 2), (vR a1)])) rfl rfl (hb hby d31_14)
  have f2 : Fld Z h1 a5 z0 "size" "I" (vI 2) := (PF5.other W1 (Or.inl pne9))
  have f3 : Exa Z h1 a5 z0 := (PE2.wr W1)
  obtain ⟨T4, h4, L'4, X4, e4, W4, Fw4, O4, K4, N4, st4⟩ := own_put X1 hx hZ hown (host := "") (Or.inl (hw _ m180)) Via.refl e1 O1 K1 N1 gn10 (Or.inl (List.mem_of_getElem? (i := 1) rfl)) f2 f3 (Or.inl (hw _ m181)) (hw _ m142) (ty := .int) (by decide) rfl rfl (g := (mkF m 19 #[sR a5, sR a6, sR a1, sI 2] [(vI 3), (vR a5)])) rfl rfl (hb hby d31_19)
  have f5 : Arv Z h4 a1 ck2 (.object z2) (10 : Int32) [a3, a4, (vR a6), .null, .null, .null, .null, .null, .null, .null] .null := (V1.other W4 (Ne.symm pne9))
  have f6 : Fld Z h4 a5 z6 "modCount" "I" (vI 3) := ((PF3.other W1 (Or.inl pne9)).other W4 (Or.inr (slot_ne (Or.inl (hw _ m161)) (Or.inl (hw _ m181)) (by decide) (t := .int) (t' := .int) (by decide) (by decide))))
  have f7 : Fld Z h4 a5 z0 z7 z4 (vR a1) := ((PF4.other W1 (Or.inl pne9)).other W4 (Or.inr (slot_ne (Or.inl (hw _ m164)) (Or.inl (hw _ m181)) (by decide) (t := (.array (.object z2))) (t' := .int) (by decide) (by decide))))
  refine own_end X4 hlk (v := none) (fun _ => rfl) (by decide) (by rw [e4]; exact ⟨rfl, N4, K4, f5, f6, f7, Fw4⟩) fun fs hr => ?_
  show St p e below s₁ (mkF m 0 #[sR a5, sR a6, sR a1, sI 2] []) _
  refine wil X0 hx hby rfl d31_0 rfl ?_
  refine wal X0 hx hby rfl d31_1 rfl rfl ?_
  refine own_alen X0 hx hZ e0 PV1 (g := (mkF m 2 #[sR a5, sR a6, sR a1, sI 2] [(vR a1), (vI 2)])) rfl rfl (hb hby d31_2) ?_
  refine wcy X0 hx hby rfl (pc0 := 3) (pc' := 11) rfl d31_3 rfl (feq (by decide : ¬ ((2 : Int32) = (10 : Int32)))).2 (by decide) (by decide) ?_
  refine wal X0 hx hby rfl d31_11 rfl rfl ?_
  refine wil X0 hx hby rfl d31_12 rfl ?_
  refine wal X0 hx hby rfl d31_13 rfl rfl ?_
  refine st1 _ ?_
  refine wal X1 hx hby rfl d31_15 rfl rfl ?_
  refine wil X1 hx hby rfl d31_16 rfl ?_
  refine wic X1 hx hby rfl d31_17 ?_
  refine Own.iadd X1.here hx rfl (hb hby d31_18) rfl (by decide : ((2 : Int32) + (1 : Int32)) = (3 : Int32)) ?_
  refine st4 _ ?_
  exact X4.returnOut hx hret (hb hby d31_22) hr
def Qrm87 (Z : State) (a1 : Addr) (a2 : Addr) (ck3 : ClassId) (a4 : Value) (a5 : Value) (a6 : Addr) (h0 : Heap) (n0 : Nat) (v : Option Value) (h : Heap) (L : List Loc) : Prop := v = some (vI 1) ∧ Fr n0 L ∧ Keep h0 h [a1, a2] ∧ Fld Z h a1 z6 "modCount" "I" (vI 3) ∧ Fld Z h a1 z0 z7 z4 (vR a2) ∧ Fld Z h a1 z0 "size" "I" (vI 3) ∧ Arv Z h a2 ck3 (.object z2) (10 : Int32) [a4, a5, (vR a6), .null, .null, .null, .null, .null, .null, .null] .null
theorem rm87 (cx : Cx Z a0 w1 w2 w3 clw3 w4 kw4 w5 kw5) (a1 : Addr) (a2 : Addr) (ck3 : ClassId) (a4 : Value) (a5 : Value) (a6 : Addr) (O0 : Old Z n0 h0) (PE1 : Exa Z h0 a1 z0) (PF2 : Fld Z h0 a1 z6 "modCount" "I" (vI 2)) (PF3 : Fld Z h0 a1 z0 z7 z4 (vR a2)) (PF4 : Fld Z h0 a1 z0 "size" "I" (vI 2)) (PV5 : Arv Z h0 a2 ck3 (.object z2) (10 : Int32) [a4, a5, .null, .null, .null, .null, .null, .null, .null, .null] .null) (gn6 : n0 ≤ a1) (pne7 : a2 ≠ a1) (Ov8 : Ovr Z ck3 z2) (PE9 : Exa Z h0 a6 z5) (gn10 : n0 ≤ a2) : Ct l Z ⟨z0, "add", z15⟩ jdk_38_method_25_code 2 (some .boolean) ⟨1, 0, 0, 15⟩ #[(vR a1), (vR a6)] h0 (Qrm87 Z a1 a2 ck3 a4 a5 a6 h0 n0) := by
  obtain ⟨hw, hj, hS⟩ := id cx
  refine own_bd (plainFor_of_name pn122) (fun m => ef152 m a1 a6) fun p e s m below meth c s₁ hret hlk hZ hx hby hml hown hnm X0 e0 => ?_
  have N0 := Fr.nil n0
  obtain ⟨T1, X1, e1, st1⟩ := getF X0 hx hZ hown (host := "") (Or.inl (hw _ m178)) (Via.of (hw _ m179)) e0 PF2 (g := (mkF m 2 #[sR a1, sR a6] [(vR a1), (vR a1)])) rfl rfl (hb hby d30_2)
  obtain ⟨T2, h2, L'2, X2, e2, W2, Fw2, O2, K2, N2, st2⟩ := own_put X1 hx hZ hown (host := "") (Or.inl (hw _ m178)) (Via.of (hw _ m179)) e1 O0 (Keep.refl h0 [a1, a2]) N0 gn6 (Or.inl (List.mem_of_getElem? (i := 0) rfl)) PF2 PE1 (Or.inl (hw _ m161)) (hw _ m142) (ty := .int) (by decide) rfl rfl (g := (mkF m 7 #[sR a1, sR a6] [(vI 3), (vR a1)])) rfl rfl (hb hby d30_7)
  have f3 : Fld Z h2 a1 z0 z7 z4 (vR a2) := (PF3.other W2 (Or.inr (slot_ne (Or.inl (hw _ m164)) (Or.inl (hw _ m161)) (by decide) (t := (.array (.object z2))) (t' := .int) (by decide) (by decide))))
  obtain ⟨T4, X4, e4, st4⟩ := getF X2 hx hZ hown (host := "") (Or.inl (hw _ m163)) Via.refl e2 f3 (g := (mkF m 13 #[sR a1, sR a6] [(vR a1), (vR a6), (vR a1)])) rfl rfl (hb hby d30_13)
  have f5 : Fld Z h2 a1 z0 "size" "I" (vI 2) := (PF4.other W2 (Or.inr (slot_ne (Or.inl (hw _ m181)) (Or.inl (hw _ m161)) (by decide) (t := .int) (t' := .int) (by decide) (by decide))))
  obtain ⟨T6, X6, e6, st6⟩ := getF X4 hx hZ hown (host := "") (Or.inl (hw _ m180)) Via.refl e4 f5 (g := (mkF m 17 #[sR a1, sR a6] [(vR a1), (vR a2), (vR a6), (vR a1)])) rfl rfl (hb hby d30_17)
  have f8 : Arv Z h2 a2 ck3 (.object z2) (10 : Int32) [a4, a5, .null, .null, .null, .null, .null, .null, .null, .null] .null := (PV5.other W2 pne7)
  have f9 : Exa Z h2 a1 z0 := (PE1.wr W2)
  have f10 : Exa Z h2 a6 z5 := (PE9.wr W2)
  obtain ⟨_, T7, L7, ⟨rfl, N7q, Kq7, q7_0, q7_1, q7_2, q7_3⟩, X7, st7⟩ := own_private X6 hx hZ (W := 0) hown (hw _ m182) (hw _ m183) (mvT hZ (hw _ m185)) (hw _ m184) (hw _ m143) (hw _ m186) (by decide) (rm86 cx a2 ck3 a4 a5 a1 a6 O2 f8 f9 Fw2 f3 f5 Ov8 f10 gn10 (Ne.symm pne7) gn6) e6 f9 (g := (mkF m 20 #[sR a1, sR a6] [(vI 2), (vR a2), (vR a6), (vR a1)])) rfl hml rfl (rest := []) (lenOf pd640 rfl) rfl rfl rfl (hb hby d30_20) (by decide)
  have N7 := Fr.app N2 N7q
  have O7 : Old Z n0 T7.heap := O2.keep Kq7 (allS gn10 (allS gn6 all0))
  have K7 : Keep h0 T7.heap [a1, a2] := K2.trans Kq7 (allS (Or.inl (List.mem_of_getElem? (i := 1) rfl)) (allS (Or.inl (List.mem_of_getElem? (i := 0) rfl)) all0))
  refine own_end X7 hlk (v := some (vI 1)) (own_hv hret) (by decide) ⟨rfl, N7, K7, q7_1, q7_2, q7_3, q7_0⟩ fun fs hr => ?_
  show St p e below s₁ (mkF m 0 #[sR a1, sR a6] []) _
  refine wal X0 hx hby rfl d30_0 rfl rfl ?_
  refine wdu X0 hx hby rfl d30_1 rfl rfl ?_
  refine st1 _ ?_
  refine wic X1 hx hby rfl d30_5 ?_
  refine Own.iadd X1.here hx rfl (hb hby d30_6) rfl (by decide : ((2 : Int32) + (1 : Int32)) = (3 : Int32)) ?_
  refine st2 _ ?_
  refine wal X2 hx hby rfl d30_10 rfl rfl ?_
  refine wal X2 hx hby rfl d30_11 rfl rfl ?_
  refine wal X2 hx hby rfl d30_12 rfl rfl ?_
  refine st4 _ ?_
  refine wal X4 hx hby rfl d30_16 rfl rfl ?_
  refine st6 _ ?_
  refine st7 _ ?_
  refine wic X7 hx hby rfl d30_23 ?_
  exact retN X7 hx (t := .boolean) hret (by simp) (hb hby d30_24) hr
def Qrm88 (Z : State) (h0 : Heap) (n0 : Nat) (v : Option Value) (h : Heap) (L : List Loc) : Prop := v = some (vI 2) ∧ Fr n0 L ∧ h = h0
theorem rm88 (cx : Cx Z a0 w1 w2 w3 clw3 w4 kw4 w5 kw5) (O0 : Old Z n0 h0) : Ct l Z ⟨z22, "checkIndex", "(II)I"⟩ jdk_31_method_17_code 2 (some .int) ⟨1, 0, 0, 14⟩ #[(vI 2), (vI 3)] h0 (Qrm88 Z h0 n0) := by
  obtain ⟨hw, hj, hS⟩ := id cx
  refine own_bd (plainFor_of_name pn686) (fun m => ef261 m 2 3) fun p e s m below meth c s₁ hret hlk hZ hx hby hml hown hnm X0 e0 => ?_
  have N0 := Fr.nil n0
  obtain ⟨_, T1, L1, ⟨rfl, N1q, e1⟩, X1, st1⟩ := cS X0 hx hZ (W := 0) hown (cw33 cx) (rm49 cx 2 3 O0 (by decide : ¬ ((2 : Int32) < (0 : Int32))) (by decide : (2 : Int32) < (3 : Int32))) e0 (g := (mkF m 3 #[sI 2, sI 3] [.null, (vI 3), (vI 2)])) rfl hml rfl (rest := []) rfl rfl rfl rfl (hb hby d37_3) (by decide)
  refine own_end X1 hlk (v := some (vI 2)) (own_hv hret) (by decide) (by rw [e1]; exact ⟨rfl, (Fr.app N0 N1q), rfl⟩) fun fs hr => ?_
  show St p e below s₁ (mkF m 0 #[sI 2, sI 3] []) _
  refine wil X0 hx hby rfl d37_0 rfl ?_
  refine wil X0 hx hby rfl d37_1 rfl ?_
  refine wan X0 hx hby rfl d37_2 ?_
  refine st1 _ ?_
  exact retOut X1 hx hret rfl (Or.inl ⟨rfl, Or.inl rfl, _, rfl⟩) (hb hby d37_6) hr
def Qrm89 (Z : State) (a6 : Addr) (h0 : Heap) (n0 : Nat) (v : Option Value) (h : Heap) (L : List Loc) : Prop := v = some (vR a6) ∧ Fr n0 L ∧ h = h0
theorem rm89 (cx : Cx Z a0 w1 w2 w3 clw3 w4 kw4 w5 kw5) (a1 : Addr) (a2 : Addr) (ck3 : ClassId) (a4 : Value) (a5 : Value) (a6 : Addr) (O0 : Old Z n0 h0) (PF1 : Fld Z h0 a1 z0 z7 z4 (vR a2)) (PV2 : Arv Z h0 a2 ck3 (.object z2) (10 : Int32) [a4, a5, (vR a6), .null, .null, .null, .null, .null, .null, .null] .null) : Ct l Z ⟨z0, z7, z10⟩ jdk_38_method_18_code 2 (some (.object z2)) ⟨0, 0, 0, 0⟩ #[(vR a1), (vI 2)] h0 (Qrm89 Z a6 h0 n0) := by
  obtain ⟨hw, hj, hS⟩ := id cx
  refine own_bd (plainFor_of_name pn122) (fun m => ef55 m a1 2) fun p e s m below meth c s₁ hret hlk hZ hx hby hml hown hnm X0 e0 => ?_
  have N0 := Fr.nil n0
  obtain ⟨T1, X1, e1, st1⟩ := getF X0 hx hZ hown (host := "") (Or.inl (hw _ m163)) Via.refl e0 PF1 (g := (mkF m 1 #[sR a1, sI 2] [(vR a1)])) rfl rfl (hb hby d38_1)
  refine own_end X1 hlk (v := some (vR a6)) (own_hv hret) (by decide) (by rw [e1]; exact ⟨rfl, N0, rfl⟩) fun fs hr => ?_
  show St p e below s₁ (mkF m 0 #[sR a1, sI 2] []) _
  refine wal X0 hx hby rfl d38_0 rfl rfl ?_
  refine st1 _ ?_
  refine wil X1 hx hby rfl d38_4 rfl ?_
  refine own_aaload X1 hx hZ e1 PV2 (j := 2) (by decide) (v := (vR a6)) rfl rfl (g := (mkF m 5 #[sR a1, sI 2] [(vI 2), (vR a2)])) rfl rfl (hb hby d38_5) ?_
  exact retOut X1 hx hret rfl (Or.inr (Or.inr (Or.inr (Or.inr ⟨rfl, rfl, rfl⟩)))) (hb hby d38_6) hr
def Qrm90 (Z : State) (a6 : Addr) (h0 : Heap) (n0 : Nat) (v : Option Value) (h : Heap) (L : List Loc) : Prop := v = some (vR a6) ∧ Fr n0 L ∧ h = h0
theorem rm90 (cx : Cx Z a0 w1 w2 w3 clw3 w4 kw4 w5 kw5) (a1 : Addr) (a2 : Addr) (ck3 : ClassId) (a4 : Value) (a5 : Value) (a6 : Addr) (O0 : Old Z n0 h0) (PF1 : Fld Z h0 a1 z0 "size" "I" (vI 3)) (PF2 : Fld Z h0 a1 z0 z7 z4 (vR a2)) (PV3 : Arv Z h0 a2 ck3 (.object z2) (10 : Int32) [a4, a5, (vR a6), .null, .null, .null, .null, .null, .null, .null] .null) (PE4 : Exa Z h0 a1 z0) : Ct l Z ⟨z0, "get", z10⟩ jdk_38_method_20_code 2 (some (.object z2)) ⟨2, 0, 0, 27⟩ #[(vR a1), (vI 2)] h0 (Qrm90 Z a6 h0 n0) := by
  obtain ⟨hw, hj, hS⟩ := id cx
  refine own_bd (plainFor_of_name pn122) (fun m => ef55 m a1 2) fun p e s m below meth c s₁ hret hlk hZ hx hby hml hown hnm X0 e0 => ?_
  have N0 := Fr.nil n0
  obtain ⟨T1, X1, e1, st1⟩ := getF X0 hx hZ hown (host := "") (Or.inl (hw _ m180)) Via.refl e0 PF1 (g := (mkF m 2 #[sR a1, sI 2] [(vR a1), (vI 2)])) rfl rfl (hb hby d36_2)
  obtain ⟨_, T2, L2, ⟨rfl, N2q, e2⟩, X2, st2⟩ := cS X1 hx hZ (W := 0) hown (cw34 cx) (rm88 cx O0) e1 (g := (mkF m 5 #[sR a1, sI 2] [(vI 3), (vI 2)])) rfl hml rfl (rest := []) rfl rfl rfl rfl (hb hby d36_5) (by decide)
  obtain ⟨_, T3, L3, ⟨rfl, N3q, e3⟩, X3, st3⟩ := cV X2 hx hZ (W := 0) hown (cw35 cx) (rm89 cx a1 a2 ck3 a4 a5 a6 O0 PF2 PV3) e2 PE4 (g := (mkF m 11 #[sR a1, sI 2] [(vI 2), (vR a1)])) rfl hml rfl (rest := []) rfl rfl rfl rfl (hb hby d36_11) (by decide)
  refine own_end X3 hlk (v := some (vR a6)) (own_hv hret) (by decide) (by rw [e3]; exact ⟨rfl, (Fr.app (Fr.app N0 N2q) N3q), rfl⟩) fun fs hr => ?_
  show St p e below s₁ (mkF m 0 #[sR a1, sI 2] []) _
  refine wil X0 hx hby rfl d36_0 rfl ?_
  refine wal X0 hx hby rfl d36_1 rfl rfl ?_
  refine st1 _ ?_
  refine st2 _ ?_
  refine XS.pop X2.here hx rfl (hb hby d36_8) rfl rfl ?_
  refine wal X2 hx hby rfl d36_9 rfl rfl ?_
  refine wil X2 hx hby rfl d36_10 rfl ?_
  refine st3 _ ?_
  exact retOut X3 hx hret rfl (Or.inr (Or.inr (Or.inr (Or.inr ⟨rfl, rfl, rfl⟩)))) (hb hby d36_14) hr
def Qrm91 (Z : State) (a6 : Addr) (h0 : Heap) (n0 : Nat) (v : Option Value) (h : Heap) (L : List Loc) : Prop := v = some (vR a6) ∧ Fr n0 L ∧ h = h0
theorem rm91 (cx : Cx Z a0 w1 w2 w3 clw3 w4 kw4 w5 kw5) (a1 : Addr) (a2 : Addr) (ck3 : ClassId) (a4 : Value) (a5 : Value) (a6 : Addr) (O0 : Old Z n0 h0) (PF1 : Fld Z h0 a1 z0 "size" "I" (vI 3)) (PE2 : Exa Z h0 a1 z0) (PF3 : Fld Z h0 a1 z0 z7 z4 (vR a2)) (PV4 : Arv Z h0 a2 ck3 (.object z2) (10 : Int32) [a4, a5, (vR a6), .null, .null, .null, .null, .null, .null, .null] .null) (PE5 : Exa Z h0 a6 z5) : Ct l Z ⟨z8, "element", z14⟩ prog_16_method_9_code 3 (some (.object z16)) ⟨3, 0, 0, 40⟩ #[(vR a1), (vI 2)] h0 (Qrm91 Z a6 h0 n0) := by
  obtain ⟨hw, hj, hS⟩ := id cx
  refine own_bd (plainFor_of_name pn546) (fun m => ef503 m a1 2) fun p e s m below meth c s₁ hret hlk hZ hx hby hml hown hnm X0 e0 => ?_
  have N0 := Fr.nil n0
  obtain ⟨_, T1, L1, ⟨rfl, N1q, e1⟩, X1, st1⟩ := own_iface X0 hx hZ (W := 1) hown (hw _ m204) (hw _ m205) (mvT hZ (hw _ m206)) (hw _ m207) (hw _ m208) (mvT hZ (hw _ m209)) (mvT hZ (hw _ m210)) (hw _ m176) (hw _ m143) (hw _ m211) (by decide) (rm72 cx a1 O0 PF1) e0 PE2 (g := (mkF m 2 #[sR a1, sI 2, sU] [(vR a1), (vI 2)])) rfl hml rfl (rest := [(vI 2)]) (lenOf pd200 rfl) rfl rfl rfl (hb hby d34_2) (by decide)
  obtain ⟨_, T2, L2, ⟨rfl, N2q, e2⟩, X2, st2⟩ := own_iface X1 hx hZ (W := 0) hown (hw _ m212) (hw _ m213) (mvT hZ (hw _ m214)) (hw _ m215) (hw _ m216) (mvT hZ (hw _ m217)) (mvT hZ (hw _ m218)) (hw _ m176) (hw _ m143) (hw _ m219) (by decide) (rm90 cx a1 a2 ck3 a4 a5 a6 O0 PF1 PF3 PV4 PE2) e1 PE2 (g := (mkF m 12 #[sR a1, sI 2, sU] [(vI 2), (vR a1)])) rfl hml rfl (rest := []) (lenOf pd521 rfl) rfl rfl rfl (hb hby d34_12) (by decide)
  obtain ⟨T3, X3, e3, st3⟩ := instY X2 hx hZ hown (hw _ m136) e2 (Ins.of_exa PE5 (hw _ m137)) (g := (mkF m 23 #[sR a1, sI 2, sR a6] [(vR a6)])) rfl rfl (hb hby d34_23)
  obtain ⟨_, T4, L4, ⟨rfl, N4q, e4⟩, X4, st4⟩ := cS X3 hx hZ (W := 0) hown (cw29 cx) (rm40 cx a6 O0 PE5) e3 (g := (mkF m 44 #[sR a1, sI 2, sR a6] [(vR a6)])) rfl hml rfl (rest := []) rfl rfl rfl rfl (hb hby d34_44) (by decide)
  refine own_end X4 hlk (v := some (vR a6)) (own_hv hret) (by decide) (by rw [e4]; exact ⟨rfl, (Fr.app (Fr.app (Fr.app N0 N1q) N2q) N4q), rfl⟩) fun fs hr => ?_
  show St p e below s₁ (mkF m 0 #[sR a1, sI 2, sU] []) _
  refine wil X0 hx hby rfl d34_0 rfl ?_
  refine wal X0 hx hby rfl d34_1 rfl rfl ?_
  refine st1 _ ?_
  refine wcn X1 hx hby rfl d34_7 rfl (tlt (by decide : (2 : Int32) < (3 : Int32))).2.1 ?_
  refine wal X1 hx hby rfl d34_10 rfl rfl ?_
  refine wil X1 hx hby rfl d34_11 rfl ?_
  refine st2 _ ?_
  refine wgt X2 hx hby rfl (pc0 := 17) (pc' := 21) rfl d34_17 (by decide) (by decide) ?_
  refine was X2 hx hby rfl d34_21 rfl rfl (l' := #[sR a1, sI 2, sR a6]) rfl ?_
  refine wal X2 hx hby rfl d34_22 rfl rfl ?_
  refine st3 _ ?_
  refine wfy X3 hx hby rfl (pc0 := 26) (pc' := 43) rfl d34_26 rfl ((if0 _ _).trans (feq (by decide : ¬ ((1 : Int32) = (0 : Int32)))).2) (by decide) (by decide) ?_
  refine wal X3 hx hby rfl d34_43 rfl rfl ?_
  refine st4 _ ?_
  exact retOut X4 hx hret rfl (Or.inr (Or.inr (Or.inr (Or.inr ⟨rfl, rfl, rfl⟩)))) (hb hby d34_47) hr
def Qrm92 (Z : State) (a1 : Addr) (ck2 : ClassId) (a3 : Addr) (a4 : Value) (a5 : Value) (a6 : Addr) (a7 : Value) (h0 : Heap) (n0 : Nat) (v : Option Value) (h : Heap) (L : List Loc) : Prop := v = none ∧ Fr n0 L ∧ Keep h0 h [a1, a6] ∧ Arv Z h a1 ck2 (.object z2) (10 : Int32) [(vR a3), a4, a5, a7, .null, .null, .null, .null, .null, .null] .null ∧ Fld Z h a6 z6 "modCount" "I" (vI 4) ∧ Fld Z h a6 z0 z7 z4 (vR a1) ∧ Fld Z h a6 z0 "size" "I" (vI 4)
theorem rm92 (cx : Cx Z a0 w1 w2 w3 clw3 w4 kw4 w5 kw5) (a1 : Addr) (ck2 : ClassId) (a3 : Addr) (a4 : Value) (a5 : Value) (a6 : Addr) (a7 : Value) (O0 : Old Z n0 h0) (PV1 : Arv Z h0 a1 ck2 (.object z2) (10 : Int32) [(vR a3), a4, a5, .null, .null, .null, .null, .null, .null, .null] .null) (PE2 : Exa Z h0 a6 z0) (PF3 : Fld Z h0 a6 z6 "modCount" "I" (vI 4)) (PF4 : Fld Z h0 a6 z0 z7 z4 (vR a1)) (PF5 : Fld Z h0 a6 z0 "size" "I" (vI 3)) (PE6 : ObV Z h0 a7) (Ov7 : Ovr Z ck2 z2) (gn8 : n0 ≤ a1) (pne9 : a6 ≠ a1) (gn10 : n0 ≤ a6) : Ct l Z ⟨z0, "add", z12⟩ jdk_38_method_24_code 4 none ⟨0, 0, 0, 0⟩ #[(vR a6), a7, (vR a1), (vI 3)] h0 (Qrm92 Z a1 ck2 a3 a4 a5 a6 a7 h0 n0) := by
  obtain ⟨hw, hj, hS⟩ := id cx
  refine own_bd (plainFor_of_name pn122) (fun m => ef725 m a6 a7 a1 3 (own_obR PE6)) fun p e s m below meth c s₁ hret hlk hZ hx hby hml hown hnm X0 e0 => ?_
  have N0 := Fr.nil n0
  obtain ⟨T1, h1, L'1, X1, e1, W1, V1, O1, K1, N1, st1⟩ := own_stR X0 hx hZ e0 PV1 O0 (Keep.refl h0 [a1, a6]) N0 gn8 (Or.inl (List.mem_of_getElem? (i := 0) rfl)) (j := (3 : Int32)) 3 (by decide) (Nat.le_of_ble_eq_true rfl) (vs' := [(vR a3), a4, a5, a7, .null, .null, .null, .null, .null, .null]) rfl rfl (own_obF PE6) (own_obS Ov7 PE6) (g := (mkF m 14 #[sR a6, .val a7, sR a1, sI 3] [a7, (vI 3), (vR a1)])) rfl rfl (hb hby d31_14)
  have f2 : Fld Z h1 a6 z0 "size" "I" (vI 3) := (PF5.other W1 (Or.inl pne9))
  have f3 : Exa Z h1 a6 z0 := (PE2.wr W1)
  obtain ⟨T4, h4, L'4, X4, e4, W4, Fw4, O4, K4, N4, st4⟩ := own_put X1 hx hZ hown (host := "") (Or.inl (hw _ m180)) Via.refl e1 O1 K1 N1 gn10 (Or.inl (List.mem_of_getElem? (i := 1) rfl)) f2 f3 (Or.inl (hw _ m181)) (hw _ m142) (ty := .int) (by decide) rfl rfl (g := (mkF m 19 #[sR a6, .val a7, sR a1, sI 3] [(vI 4), (vR a6)])) rfl rfl (hb hby d31_19)
  have f5 : Arv Z h4 a1 ck2 (.object z2) (10 : Int32) [(vR a3), a4, a5, a7, .null, .null, .null, .null, .null, .null] .null := (V1.other W4 (Ne.symm pne9))
  have f6 : Fld Z h4 a6 z6 "modCount" "I" (vI 4) := ((PF3.other W1 (Or.inl pne9)).other W4 (Or.inr (slot_ne (Or.inl (hw _ m161)) (Or.inl (hw _ m181)) (by decide) (t := .int) (t' := .int) (by decide) (by decide))))
  have f7 : Fld Z h4 a6 z0 z7 z4 (vR a1) := ((PF4.other W1 (Or.inl pne9)).other W4 (Or.inr (slot_ne (Or.inl (hw _ m164)) (Or.inl (hw _ m181)) (by decide) (t := (.array (.object z2))) (t' := .int) (by decide) (by decide))))
  refine own_end X4 hlk (v := none) (fun _ => rfl) (by decide) (by rw [e4]; exact ⟨rfl, N4, K4, f5, f6, f7, Fw4⟩) fun fs hr => ?_
  show St p e below s₁ (mkF m 0 #[sR a6, .val a7, sR a1, sI 3] []) _
  refine wil X0 hx hby rfl d31_0 rfl ?_
  refine wal X0 hx hby rfl d31_1 rfl rfl ?_
  refine own_alen X0 hx hZ e0 PV1 (g := (mkF m 2 #[sR a6, .val a7, sR a1, sI 3] [(vR a1), (vI 3)])) rfl rfl (hb hby d31_2) ?_
  refine wcy X0 hx hby rfl (pc0 := 3) (pc' := 11) rfl d31_3 rfl (feq (by decide : ¬ ((3 : Int32) = (10 : Int32)))).2 (by decide) (by decide) ?_
  refine wal X0 hx hby rfl d31_11 rfl rfl ?_
  refine wil X0 hx hby rfl d31_12 rfl ?_
  refine wal X0 hx hby rfl d31_13 rfl (own_obR PE6) ?_
  refine st1 _ ?_
  refine wal X1 hx hby rfl d31_15 rfl rfl ?_
  refine wil X1 hx hby rfl d31_16 rfl ?_
  refine wic X1 hx hby rfl d31_17 ?_
  refine Own.iadd X1.here hx rfl (hb hby d31_18) rfl (by decide : ((3 : Int32) + (1 : Int32)) = (4 : Int32)) ?_
  refine st4 _ ?_
  exact X4.returnOut hx hret (hb hby d31_22) hr
def Qrm93 (Z : State) (a1 : Addr) (a2 : Addr) (ck3 : ClassId) (a4 : Addr) (a5 : Value) (a6 : Value) (a7 : Value) (h0 : Heap) (n0 : Nat) (v : Option Value) (h : Heap) (L : List Loc) : Prop := v = some (vI 1) ∧ Fr n0 L ∧ Keep h0 h [a1, a2] ∧ Fld Z h a1 z6 "modCount" "I" (vI 4) ∧ Fld Z h a1 z0 z7 z4 (vR a2) ∧ Fld Z h a1 z0 "size" "I" (vI 4) ∧ Arv Z h a2 ck3 (.object z2) (10 : Int32) [(vR a4), a5, a6, a7, .null, .null, .null, .null, .null, .null] .null
theorem rm93 (cx : Cx Z a0 w1 w2 w3 clw3 w4 kw4 w5 kw5) (a1 : Addr) (a2 : Addr) (ck3 : ClassId) (a4 : Addr) (a5 : Value) (a6 : Value) (a7 : Value) (O0 : Old Z n0 h0) (PE1 : Exa Z h0 a1 z0) (PF2 : Fld Z h0 a1 z6 "modCount" "I" (vI 3)) (PF3 : Fld Z h0 a1 z0 z7 z4 (vR a2)) (PF4 : Fld Z h0 a1 z0 "size" "I" (vI 3)) (PV5 : Arv Z h0 a2 ck3 (.object z2) (10 : Int32) [(vR a4), a5, a6, .null, .null, .null, .null, .null, .null, .null] .null) (gn6 : n0 ≤ a1) (PE7 : ObV Z h0 a7) (pne8 : a2 ≠ a1) (Ov9 : Ovr Z ck3 z2) (gn10 : n0 ≤ a2) : Ct l Z ⟨z0, "add", z15⟩ jdk_38_method_25_code 2 (some .boolean) ⟨1, 0, 0, 15⟩ #[(vR a1), a7] h0 (Qrm93 Z a1 a2 ck3 a4 a5 a6 a7 h0 n0) := by
  obtain ⟨hw, hj, hS⟩ := id cx
  refine own_bd (plainFor_of_name pn122) (fun m => ef726 m a1 a7 (own_obR PE7)) fun p e s m below meth c s₁ hret hlk hZ hx hby hml hown hnm X0 e0 => ?_
  have N0 := Fr.nil n0
  obtain ⟨T1, X1, e1, st1⟩ := getF X0 hx hZ hown (host := "") (Or.inl (hw _ m178)) (Via.of (hw _ m179)) e0 PF2 (g := (mkF m 2 #[sR a1, .val a7] [(vR a1), (vR a1)])) rfl rfl (hb hby d30_2)
  obtain ⟨T2, h2, L'2, X2, e2, W2, Fw2, O2, K2, N2, st2⟩ := own_put X1 hx hZ hown (host := "") (Or.inl (hw _ m178)) (Via.of (hw _ m179)) e1 O0 (Keep.refl h0 [a1, a2]) N0 gn6 (Or.inl (List.mem_of_getElem? (i := 0) rfl)) PF2 PE1 (Or.inl (hw _ m161)) (hw _ m142) (ty := .int) (by decide) rfl rfl (g := (mkF m 7 #[sR a1, .val a7] [(vI 4), (vR a1)])) rfl rfl (hb hby d30_7)
  have f3 : ObV Z h2 a7 := (own_obW PE7 W2)
  have f4 : Fld Z h2 a1 z0 z7 z4 (vR a2) := (PF3.other W2 (Or.inr (slot_ne (Or.inl (hw _ m164)) (Or.inl (hw _ m161)) (by decide) (t := (.array (.object z2))) (t' := .int) (by decide) (by decide))))
  obtain ⟨T5, X5, e5, st5⟩ := getF X2 hx hZ hown (host := "") (Or.inl (hw _ m163)) Via.refl e2 f4 (g := (mkF m 13 #[sR a1, .val a7] [(vR a1), a7, (vR a1)])) rfl rfl (hb hby d30_13)
  have f6 : Fld Z h2 a1 z0 "size" "I" (vI 3) := (PF4.other W2 (Or.inr (slot_ne (Or.inl (hw _ m181)) (Or.inl (hw _ m161)) (by decide) (t := .int) (t' := .int) (by decide) (by decide))))
  obtain ⟨T7, X7, e7, st7⟩ := getF X5 hx hZ hown (host := "") (Or.inl (hw _ m180)) Via.refl e5 f6 (g := (mkF m 17 #[sR a1, .val a7] [(vR a1), (vR a2), a7, (vR a1)])) rfl rfl (hb hby d30_17)
  have f9 : Arv Z h2 a2 ck3 (.object z2) (10 : Int32) [(vR a4), a5, a6, .null, .null, .null, .null, .null, .null, .null] .null := (PV5.other W2 pne8)
  have f10 : Exa Z h2 a1 z0 := (PE1.wr W2)
  obtain ⟨_, T8, L8, ⟨rfl, N8q, Kq8, q8_0, q8_1, q8_2, q8_3⟩, X8, st8⟩ := own_private X7 hx hZ (W := 0) hown (hw _ m182) (hw _ m183) (mvT hZ (hw _ m185)) (hw _ m184) (hw _ m143) (hw _ m186) (by decide) (rm92 cx a2 ck3 a4 a5 a6 a1 a7 O2 f9 f10 Fw2 f4 f6 f3 Ov9 gn10 (Ne.symm pne8) gn6) e7 f10 (g := (mkF m 20 #[sR a1, .val a7] [(vI 3), (vR a2), a7, (vR a1)])) rfl hml rfl (rest := []) (lenOf pd640 rfl) rfl rfl rfl (hb hby d30_20) (by decide)
  have N8 := Fr.app N2 N8q
  have O8 : Old Z n0 T8.heap := O2.keep Kq8 (allS gn10 (allS gn6 all0))
  have K8 : Keep h0 T8.heap [a1, a2] := K2.trans Kq8 (allS (Or.inl (List.mem_of_getElem? (i := 1) rfl)) (allS (Or.inl (List.mem_of_getElem? (i := 0) rfl)) all0))
  refine own_end X8 hlk (v := some (vI 1)) (own_hv hret) (by decide) ⟨rfl, N8, K8, q8_1, q8_2, q8_3, q8_0⟩ fun fs hr => ?_
  show St p e below s₁ (mkF m 0 #[sR a1, .val a7] []) _
  refine wal X0 hx hby rfl d30_0 rfl rfl ?_
  refine wdu X0 hx hby rfl d30_1 rfl rfl ?_
  refine st1 _ ?_
  refine wic X1 hx hby rfl d30_5 ?_
  refine Own.iadd X1.here hx rfl (hb hby d30_6) rfl (by decide : ((3 : Int32) + (1 : Int32)) = (4 : Int32)) ?_
  refine st2 _ ?_
  refine wal X2 hx hby rfl d30_10 rfl rfl ?_
  refine wal X2 hx hby rfl d30_11 rfl (own_obR f3) ?_
  refine wal X2 hx hby rfl d30_12 rfl rfl ?_
  refine st5 _ ?_
  refine wal X5 hx hby rfl d30_16 rfl rfl ?_
  refine st7 _ ?_
  refine st8 _ ?_
  refine wic X8 hx hby rfl d30_23 ?_
  exact retN X8 hx (t := .boolean) hret (by simp) (hb hby d30_24) hr
def Qrm94 (Z : State) (h0 : Heap) (n0 : Nat) (v : Option Value) (h : Heap) (L : List Loc) : Prop := v = some (vI 4) ∧ Fr n0 L ∧ h = h0
theorem rm94 (cx : Cx Z a0 w1 w2 w3 clw3 w4 kw4 w5 kw5) (a1 : Addr) (O0 : Old Z n0 h0) (PF1 : Fld Z h0 a1 z0 "size" "I" (vI 4)) : Ct l Z ⟨z0, "size", "()I"⟩ jdk_38_method_8_code 1 (some .int) ⟨0, 0, 0, 0⟩ #[(vR a1)] h0 (Qrm94 Z h0 n0) := by
  obtain ⟨hw, hj, hS⟩ := id cx
  refine own_bd (plainFor_of_name pn122) (fun m => ef44 m a1) fun p e s m below meth c s₁ hret hlk hZ hx hby hml hown hnm X0 e0 => ?_
  have N0 := Fr.nil n0
  obtain ⟨T1, X1, e1, st1⟩ := getF X0 hx hZ hown (host := "") (Or.inl (hw _ m180)) Via.refl e0 PF1 (g := (mkF m 1 #[sR a1] [(vR a1)])) rfl rfl (hb hby d35_1)
  refine own_end X1 hlk (v := some (vI 4)) (own_hv hret) (by decide) (by rw [e1]; exact ⟨rfl, N0, rfl⟩) fun fs hr => ?_
  show St p e below s₁ (mkF m 0 #[sR a1] []) _
  refine wal X0 hx hby rfl d35_0 rfl rfl ?_
  refine st1 _ ?_
  exact retOut X1 hx hret rfl (Or.inl ⟨rfl, Or.inl rfl, _, rfl⟩) (hb hby d35_4) hr
def Qrm95 (Z : State) (h0 : Heap) (n0 : Nat) (v : Option Value) (h : Heap) (L : List Loc) : Prop := v = some (vI 0) ∧ Fr n0 L ∧ h = h0
theorem rm95 (cx : Cx Z a0 w1 w2 w3 clw3 w4 kw4 w5 kw5) (O0 : Old Z n0 h0) : Ct l Z ⟨z22, "checkIndex", "(II)I"⟩ jdk_31_method_17_code 2 (some .int) ⟨1, 0, 0, 14⟩ #[(vI 0), (vI 4)] h0 (Qrm95 Z h0 n0) := by
  obtain ⟨hw, hj, hS⟩ := id cx
  refine own_bd (plainFor_of_name pn686) (fun m => ef261 m 0 4) fun p e s m below meth c s₁ hret hlk hZ hx hby hml hown hnm X0 e0 => ?_
  have N0 := Fr.nil n0
  obtain ⟨_, T1, L1, ⟨rfl, N1q, e1⟩, X1, st1⟩ := cS X0 hx hZ (W := 0) hown (cw33 cx) (rm49 cx 0 4 O0 (by decide : ¬ ((0 : Int32) < (0 : Int32))) (by decide : (0 : Int32) < (4 : Int32))) e0 (g := (mkF m 3 #[sI 0, sI 4] [.null, (vI 4), (vI 0)])) rfl hml rfl (rest := []) rfl rfl rfl rfl (hb hby d37_3) (by decide)
  refine own_end X1 hlk (v := some (vI 0)) (own_hv hret) (by decide) (by rw [e1]; exact ⟨rfl, (Fr.app N0 N1q), rfl⟩) fun fs hr => ?_
  show St p e below s₁ (mkF m 0 #[sI 0, sI 4] []) _
  refine wil X0 hx hby rfl d37_0 rfl ?_
  refine wil X0 hx hby rfl d37_1 rfl ?_
  refine wan X0 hx hby rfl d37_2 ?_
  refine st1 _ ?_
  exact retOut X1 hx hret rfl (Or.inl ⟨rfl, Or.inl rfl, _, rfl⟩) (hb hby d37_6) hr
def Qrm96 (Z : State) (a4 : Addr) (h0 : Heap) (n0 : Nat) (v : Option Value) (h : Heap) (L : List Loc) : Prop := v = some (vR a4) ∧ Fr n0 L ∧ h = h0
theorem rm96 (cx : Cx Z a0 w1 w2 w3 clw3 w4 kw4 w5 kw5) (a1 : Addr) (a2 : Addr) (ck3 : ClassId) (a4 : Addr) (a5 : Value) (a6 : Value) (a7 : Value) (O0 : Old Z n0 h0) (PF1 : Fld Z h0 a1 z0 z7 z4 (vR a2)) (PV2 : Arv Z h0 a2 ck3 (.object z2) (10 : Int32) [(vR a4), a5, a6, a7, .null, .null, .null, .null, .null, .null] .null) : Ct l Z ⟨z0, z7, z10⟩ jdk_38_method_18_code 2 (some (.object z2)) ⟨0, 0, 0, 0⟩ #[(vR a1), (vI 0)] h0 (Qrm96 Z a4 h0 n0) := by
  obtain ⟨hw, hj, hS⟩ := id cx
  refine own_bd (plainFor_of_name pn122) (fun m => ef55 m a1 0) fun p e s m below meth c s₁ hret hlk hZ hx hby hml hown hnm X0 e0 => ?_
  have N0 := Fr.nil n0
  obtain ⟨T1, X1, e1, st1⟩ := getF X0 hx hZ hown (host := "") (Or.inl (hw _ m163)) Via.refl e0 PF1 (g := (mkF m 1 #[sR a1, sI 0] [(vR a1)])) rfl rfl (hb hby d38_1)
  refine own_end X1 hlk (v := some (vR a4)) (own_hv hret) (by decide) (by rw [e1]; exact ⟨rfl, N0, rfl⟩) fun fs hr => ?_
  show St p e below s₁ (mkF m 0 #[sR a1, sI 0] []) _
  refine wal X0 hx hby rfl d38_0 rfl rfl ?_
  refine st1 _ ?_
  refine wil X1 hx hby rfl d38_4 rfl ?_
  refine own_aaload X1 hx hZ e1 PV2 (j := 0) (by decide) (v := (vR a4)) rfl rfl (g := (mkF m 5 #[sR a1, sI 0] [(vI 0), (vR a2)])) rfl rfl (hb hby d38_5) ?_
  exact retOut X1 hx hret rfl (Or.inr (Or.inr (Or.inr (Or.inr ⟨rfl, rfl, rfl⟩)))) (hb hby d38_6) hr
def Qrm97 (Z : State) (a4 : Addr) (h0 : Heap) (n0 : Nat) (v : Option Value) (h : Heap) (L : List Loc) : Prop := v = some (vR a4) ∧ Fr n0 L ∧ h = h0
theorem rm97 (cx : Cx Z a0 w1 w2 w3 clw3 w4 kw4 w5 kw5) (a1 : Addr) (a2 : Addr) (ck3 : ClassId) (a4 : Addr) (a5 : Value) (a6 : Value) (a7 : Value) (O0 : Old Z n0 h0) (PF1 : Fld Z h0 a1 z0 "size" "I" (vI 4)) (PF2 : Fld Z h0 a1 z0 z7 z4 (vR a2)) (PV3 : Arv Z h0 a2 ck3 (.object z2) (10 : Int32) [(vR a4), a5, a6, a7, .null, .null, .null, .null, .null, .null] .null) (PE4 : Exa Z h0 a1 z0) : Ct l Z ⟨z0, "get", z10⟩ jdk_38_method_20_code 2 (some (.object z2)) ⟨2, 0, 0, 27⟩ #[(vR a1), (vI 0)] h0 (Qrm97 Z a4 h0 n0) := by
  obtain ⟨hw, hj, hS⟩ := id cx
  refine own_bd (plainFor_of_name pn122) (fun m => ef55 m a1 0) fun p e s m below meth c s₁ hret hlk hZ hx hby hml hown hnm X0 e0 => ?_
  have N0 := Fr.nil n0
  obtain ⟨T1, X1, e1, st1⟩ := getF X0 hx hZ hown (host := "") (Or.inl (hw _ m180)) Via.refl e0 PF1 (g := (mkF m 2 #[sR a1, sI 0] [(vR a1), (vI 0)])) rfl rfl (hb hby d36_2)
  obtain ⟨_, T2, L2, ⟨rfl, N2q, e2⟩, X2, st2⟩ := cS X1 hx hZ (W := 0) hown (cw34 cx) (rm95 cx O0) e1 (g := (mkF m 5 #[sR a1, sI 0] [(vI 4), (vI 0)])) rfl hml rfl (rest := []) rfl rfl rfl rfl (hb hby d36_5) (by decide)
  obtain ⟨_, T3, L3, ⟨rfl, N3q, e3⟩, X3, st3⟩ := cV X2 hx hZ (W := 0) hown (cw35 cx) (rm96 cx a1 a2 ck3 a4 a5 a6 a7 O0 PF2 PV3) e2 PE4 (g := (mkF m 11 #[sR a1, sI 0] [(vI 0), (vR a1)])) rfl hml rfl (rest := []) rfl rfl rfl rfl (hb hby d36_11) (by decide)
  refine own_end X3 hlk (v := some (vR a4)) (own_hv hret) (by decide) (by rw [e3]; exact ⟨rfl, (Fr.app (Fr.app N0 N2q) N3q), rfl⟩) fun fs hr => ?_
  show St p e below s₁ (mkF m 0 #[sR a1, sI 0] []) _
  refine wil X0 hx hby rfl d36_0 rfl ?_
  refine wal X0 hx hby rfl d36_1 rfl rfl ?_
  refine st1 _ ?_
  refine st2 _ ?_
  refine XS.pop X2.here hx rfl (hb hby d36_8) rfl rfl ?_
  refine wal X2 hx hby rfl d36_9 rfl rfl ?_
  refine wil X2 hx hby rfl d36_10 rfl ?_
  refine st3 _ ?_
  exact retOut X3 hx hret rfl (Or.inr (Or.inr (Or.inr (Or.inr ⟨rfl, rfl, rfl⟩)))) (hb hby d36_14) hr
def Qrm98 (Z : State) (a4 : Addr) (h0 : Heap) (n0 : Nat) (v : Option Value) (h : Heap) (L : List Loc) : Prop := v = some (vR a4) ∧ Fr n0 L ∧ h = h0
theorem rm98 (cx : Cx Z a0 w1 w2 w3 clw3 w4 kw4 w5 kw5) (a1 : Addr) (a2 : Addr) (ck3 : ClassId) (a4 : Addr) (a5 : Value) (a6 : Value) (a7 : Value) (O0 : Old Z n0 h0) (PF1 : Fld Z h0 a1 z0 "size" "I" (vI 4)) (PE2 : Exa Z h0 a1 z0) (PF3 : Fld Z h0 a1 z0 z7 z4 (vR a2)) (PV4 : Arv Z h0 a2 ck3 (.object z2) (10 : Int32) [(vR a4), a5, a6, a7, .null, .null, .null, .null, .null, .null] .null) (PE5 : Exa Z h0 a4 z5) : Ct l Z ⟨z8, "element", z14⟩ prog_16_method_9_code 3 (some (.object z16)) ⟨3, 0, 0, 40⟩ #[(vR a1), (vI 0)] h0 (Qrm98 Z a4 h0 n0) := by
  obtain ⟨hw, hj, hS⟩ := id cx
  refine own_bd (plainFor_of_name pn546) (fun m => ef503 m a1 0) fun p e s m below meth c s₁ hret hlk hZ hx hby hml hown hnm X0 e0 => ?_
  have N0 := Fr.nil n0
  obtain ⟨_, T1, L1, ⟨rfl, N1q, e1⟩, X1, st1⟩ := own_iface X0 hx hZ (W := 1) hown (hw _ m204) (hw _ m205) (mvT hZ (hw _ m206)) (hw _ m207) (hw _ m208) (mvT hZ (hw _ m209)) (mvT hZ (hw _ m210)) (hw _ m176) (hw _ m143) (hw _ m211) (by decide) (rm94 cx a1 O0 PF1) e0 PE2 (g := (mkF m 2 #[sR a1, sI 0, sU] [(vR a1), (vI 0)])) rfl hml rfl (rest := [(vI 0)]) (lenOf pd200 rfl) rfl rfl rfl (hb hby d34_2) (by decide)
  obtain ⟨_, T2, L2, ⟨rfl, N2q, e2⟩, X2, st2⟩ := own_iface X1 hx hZ (W := 0) hown (hw _ m212) (hw _ m213) (mvT hZ (hw _ m214)) (hw _ m215) (hw _ m216) (mvT hZ (hw _ m217)) (mvT hZ (hw _ m218)) (hw _ m176) (hw _ m143) (hw _ m219) (by decide) (rm97 cx a1 a2 ck3 a4 a5 a6 a7 O0 PF1 PF3 PV4 PE2) e1 PE2 (g := (mkF m 12 #[sR a1, sI 0, sU] [(vI 0), (vR a1)])) rfl hml rfl (rest := []) (lenOf pd521 rfl) rfl rfl rfl (hb hby d34_12) (by decide)
  obtain ⟨T3, X3, e3, st3⟩ := instY X2 hx hZ hown (hw _ m136) e2 (Ins.of_exa PE5 (hw _ m137)) (g := (mkF m 23 #[sR a1, sI 0, sR a4] [(vR a4)])) rfl rfl (hb hby d34_23)
  obtain ⟨_, T4, L4, ⟨rfl, N4q, e4⟩, X4, st4⟩ := cS X3 hx hZ (W := 0) hown (cw29 cx) (rm40 cx a4 O0 PE5) e3 (g := (mkF m 44 #[sR a1, sI 0, sR a4] [(vR a4)])) rfl hml rfl (rest := []) rfl rfl rfl rfl (hb hby d34_44) (by decide)
  refine own_end X4 hlk (v := some (vR a4)) (own_hv hret) (by decide) (by rw [e4]; exact ⟨rfl, (Fr.app (Fr.app (Fr.app N0 N1q) N2q) N4q), rfl⟩) fun fs hr => ?_
  show St p e below s₁ (mkF m 0 #[sR a1, sI 0, sU] []) _
  refine wil X0 hx hby rfl d34_0 rfl ?_
  refine wal X0 hx hby rfl d34_1 rfl rfl ?_
  refine st1 _ ?_
  refine wcn X1 hx hby rfl d34_7 rfl (tlt (by decide : (0 : Int32) < (4 : Int32))).2.1 ?_
  refine wal X1 hx hby rfl d34_10 rfl rfl ?_
  refine wil X1 hx hby rfl d34_11 rfl ?_
  refine st2 _ ?_
  refine wgt X2 hx hby rfl (pc0 := 17) (pc' := 21) rfl d34_17 (by decide) (by decide) ?_
  refine was X2 hx hby rfl d34_21 rfl rfl (l' := #[sR a1, sI 0, sR a4]) rfl ?_
  refine wal X2 hx hby rfl d34_22 rfl rfl ?_
  refine st3 _ ?_
  refine wfy X3 hx hby rfl (pc0 := 26) (pc' := 43) rfl d34_26 rfl ((if0 _ _).trans (feq (by decide : ¬ ((1 : Int32) = (0 : Int32)))).2) (by decide) (by decide) ?_
  refine wal X3 hx hby rfl d34_43 rfl rfl ?_
  refine st4 _ ?_
  exact retOut X4 hx hret rfl (Or.inr (Or.inr (Or.inr (Or.inr ⟨rfl, rfl, rfl⟩)))) (hb hby d34_47) hr
def Qrm99 (Z : State) (a1 : Addr) (ck2 : ClassId) (a3 : Value) (a4 : Addr) (a5 : Value) (a6 : Addr) (a7 : Value) (h0 : Heap) (n0 : Nat) (v : Option Value) (h : Heap) (L : List Loc) : Prop := v = none ∧ Fr n0 L ∧ Keep h0 h [a1, a6] ∧ Arv Z h a1 ck2 (.object z2) (10 : Int32) [a3, (vR a4), a5, a7, .null, .null, .null, .null, .null, .null] .null ∧ Fld Z h a6 z6 "modCount" "I" (vI 4) ∧ Fld Z h a6 z0 z7 z4 (vR a1) ∧ Fld Z h a6 z0 "size" "I" (vI 4)
theorem rm99 (cx : Cx Z a0 w1 w2 w3 clw3 w4 kw4 w5 kw5) (a1 : Addr) (ck2 : ClassId) (a3 : Value) (a4 : Addr) (a5 : Value) (a6 : Addr) (a7 : Value) (O0 : Old Z n0 h0) (PV1 : Arv Z h0 a1 ck2 (.object z2) (10 : Int32) [a3, (vR a4), a5, .null, .null, .null, .null, .null, .null, .null] .null) (PE2 : Exa Z h0 a6 z0) (PF3 : Fld Z h0 a6 z6 "modCount" "I" (vI 4)) (PF4 : Fld Z h0 a6 z0 z7 z4 (vR a1)) (PF5 : Fld Z h0 a6 z0 "size" "I" (vI 3)) (PE6 : ObV Z h0 a7) (Ov7 : Ovr Z ck2 z2) (gn8 : n0 ≤ a1) (pne9 : a6 ≠ a1) (gn10 : n0 ≤ a6) : Ct l Z ⟨z0, "add", z12⟩ jdk_38_method_24_code 4 none ⟨0, 0, 0, 0⟩ #[(vR a6), a7, (vR a1), (vI 3)] h0 (Qrm99 Z a1 ck2 a3 a4 a5 a6 a7 h0 n0) := by
  obtain ⟨hw, hj, hS⟩ := id cx
  refine own_bd (plainFor_of_name pn122) (fun m => ef725 m a6 a7 a1 3 (own_obR PE6)) fun p e s m below meth c s₁ hret hlk hZ hx hby hml hown hnm X0 e0 => ?_
  have N0 := Fr.nil n0
  obtain ⟨T1, h1, L'1, X1, e1, W1, V1, O1, K1, N1, st1⟩ := own_stR X0 hx hZ e0 PV1 O0 (Keep.refl h0 [a1, a6]) N0 gn8 (Or.inl (List.mem_of_getElem? (i := 0) rfl)) (j := (3 : Int32)) 3 (by decide) (Nat.le_of_ble_eq_true rfl) (vs' := [a3, (vR a4), a5, a7, .null, .null, .null, .null, .null, .null]) rfl rfl (own_obF PE6) (own_obS Ov7 PE6) (g := (mkF m 14 #[sR a6, .val a7, sR a1, sI 3] [a7, (vI 3), (vR a1)])) rfl rfl (hb hby d31_14)
  have f2 : Fld Z h1 a6 z0 "size" "I" (vI 3) := (PF5.other W1 (Or.inl pne9))
  have f3 : Exa Z h1 a6 z0 := (PE2.wr W1)
  obtain ⟨T4, h4, L'4, X4, e4, W4, Fw4, O4, K4, N4, st4⟩ := own_put X1 hx hZ hown (host := "") (Or.inl (hw _ m180)) Via.refl e1 O1 K1 N1 gn10 (Or.inl (List.mem_of_getElem? (i := 1) rfl)) f2 f3 (Or.inl (hw _ m181)) (hw _ m142) (ty := .int) (by decide) rfl rfl (g := (mkF m 19 #[sR a6, .val a7, sR a1, sI 3] [(vI 4), (vR a6)])) rfl rfl (hb hby d31_19)
  have f5 : Arv Z h4 a1 ck2 (.object z2) (10 : Int32) [a3, (vR a4), a5, a7, .null, .null, .null, .null, .null, .null] .null := (V1.other W4 (Ne.symm pne9))
  have f6 : Fld Z h4 a6 z6 "modCount" "I" (vI 4) := ((PF3.other W1 (Or.inl pne9)).other W4 (Or.inr (slot_ne (Or.inl (hw _ m161)) (Or.inl (hw _ m181)) (by decide) (t := .int) (t' := .int) (by decide) (by decide))))
  have f7 : Fld Z h4 a6 z0 z7 z4 (vR a1) := ((PF4.other W1 (Or.inl pne9)).other W4 (Or.inr (slot_ne (Or.inl (hw _ m164)) (Or.inl (hw _ m181)) (by decide) (t := (.array (.object z2))) (t' := .int) (by decide) (by decide))))
  refine own_end X4 hlk (v := none) (fun _ => rfl) (by decide) (by rw [e4]; exact ⟨rfl, N4, K4, f5, f6, f7, Fw4⟩) fun fs hr => ?_
  show St p e below s₁ (mkF m 0 #[sR a6, .val a7, sR a1, sI 3] []) _
  refine wil X0 hx hby rfl d31_0 rfl ?_
  refine wal X0 hx hby rfl d31_1 rfl rfl ?_
  refine own_alen X0 hx hZ e0 PV1 (g := (mkF m 2 #[sR a6, .val a7, sR a1, sI 3] [(vR a1), (vI 3)])) rfl rfl (hb hby d31_2) ?_
  refine wcy X0 hx hby rfl (pc0 := 3) (pc' := 11) rfl d31_3 rfl (feq (by decide : ¬ ((3 : Int32) = (10 : Int32)))).2 (by decide) (by decide) ?_
  refine wal X0 hx hby rfl d31_11 rfl rfl ?_
  refine wil X0 hx hby rfl d31_12 rfl ?_
  refine wal X0 hx hby rfl d31_13 rfl (own_obR PE6) ?_
  refine st1 _ ?_
  refine wal X1 hx hby rfl d31_15 rfl rfl ?_
  refine wil X1 hx hby rfl d31_16 rfl ?_
  refine wic X1 hx hby rfl d31_17 ?_
  refine Own.iadd X1.here hx rfl (hb hby d31_18) rfl (by decide : ((3 : Int32) + (1 : Int32)) = (4 : Int32)) ?_
  refine st4 _ ?_
  exact X4.returnOut hx hret (hb hby d31_22) hr
def Qrm100 (Z : State) (a1 : Addr) (a2 : Addr) (ck3 : ClassId) (a4 : Value) (a5 : Addr) (a6 : Value) (a7 : Value) (h0 : Heap) (n0 : Nat) (v : Option Value) (h : Heap) (L : List Loc) : Prop := v = some (vI 1) ∧ Fr n0 L ∧ Keep h0 h [a1, a2] ∧ Fld Z h a1 z6 "modCount" "I" (vI 4) ∧ Fld Z h a1 z0 z7 z4 (vR a2) ∧ Fld Z h a1 z0 "size" "I" (vI 4) ∧ Arv Z h a2 ck3 (.object z2) (10 : Int32) [a4, (vR a5), a6, a7, .null, .null, .null, .null, .null, .null] .null
theorem rm100 (cx : Cx Z a0 w1 w2 w3 clw3 w4 kw4 w5 kw5) (a1 : Addr) (a2 : Addr) (ck3 : ClassId) (a4 : Value) (a5 : Addr) (a6 : Value) (a7 : Value) (O0 : Old Z n0 h0) (PE1 : Exa Z h0 a1 z0) (PF2 : Fld Z h0 a1 z6 "modCount" "I" (vI 3)) (PF3 : Fld Z h0 a1 z0 z7 z4 (vR a2)) (PF4 : Fld Z h0 a1 z0 "size" "I" (vI 3)) (PV5 : Arv Z h0 a2 ck3 (.object z2) (10 : Int32) [a4, (vR a5), a6, .null, .null, .null, .null, .null, .null, .null] .null) (gn6 : n0 ≤ a1) (PE7 : ObV Z h0 a7) (pne8 : a2 ≠ a1) (Ov9 : Ovr Z ck3 z2) (gn10 : n0 ≤ a2) : Ct l Z ⟨z0, "add", z15⟩ jdk_38_method_25_code 2 (some .boolean) ⟨1, 0, 0, 15⟩ #[(vR a1), a7] h0 (Qrm100 Z a1 a2 ck3 a4 a5 a6 a7 h0 n0) := by
  obtain ⟨hw, hj, hS⟩ := id cx
  refine own_bd (plainFor_of_name pn122) (fun m => ef726 m a1 a7 (own_obR PE7)) fun p e s m below meth c s₁ hret hlk hZ hx hby hml hown hnm X0 e0 => ?_
  have N0 := Fr.nil n0
  obtain ⟨T1, X1, e1, st1⟩ := getF X0 hx hZ hown (host := "") (Or.inl (hw _ m178)) (Via.of (hw _ m179)) e0 PF2 (g := (mkF m 2 #[sR a1, .val a7] [(vR a1), (vR a1)])) rfl rfl (hb hby d30_2)
  obtain ⟨T2, h2, L'2, X2, e2, W2, Fw2, O2, K2, N2, st2⟩ := own_put X1 hx hZ hown (host := "") (Or.inl (hw _ m178)) (Via.of (hw _ m179)) e1 O0 (Keep.refl h0 [a1, a2]) N0 gn6 (Or.inl (List.mem_of_getElem? (i := 0) rfl)) PF2 PE1 (Or.inl (hw _ m161)) (hw _ m142) (ty := .int) (by decide) rfl rfl (g := (mkF m 7 #[sR a1, .val a7] [(vI 4), (vR a1)])) rfl rfl (hb hby d30_7)
  have f3 : ObV Z h2 a7 := (own_obW PE7 W2)
  have f4 : Fld Z h2 a1 z0 z7 z4 (vR a2) := (PF3.other W2 (Or.inr (slot_ne (Or.inl (hw _ m164)) (Or.inl (hw _ m161)) (by decide) (t := (.array (.object z2))) (t' := .int) (by decide) (by decide))))
  obtain ⟨T5, X5, e5, st5⟩ := getF X2 hx hZ hown (host := "") (Or.inl (hw _ m163)) Via.refl e2 f4 (g := (mkF m 13 #[sR a1, .val a7] [(vR a1), a7, (vR a1)])) rfl rfl (hb hby d30_13)
  have f6 : Fld Z h2 a1 z0 "size" "I" (vI 3) := (PF4.other W2 (Or.inr (slot_ne (Or.inl (hw _ m181)) (Or.inl (hw _ m161)) (by decide) (t := .int) (t' := .int) (by decide) (by decide))))
  obtain ⟨T7, X7, e7, st7⟩ := getF X5 hx hZ hown (host := "") (Or.inl (hw _ m180)) Via.refl e5 f6 (g := (mkF m 17 #[sR a1, .val a7] [(vR a1), (vR a2), a7, (vR a1)])) rfl rfl (hb hby d30_17)
  have f9 : Arv Z h2 a2 ck3 (.object z2) (10 : Int32) [a4, (vR a5), a6, .null, .null, .null, .null, .null, .null, .null] .null := (PV5.other W2 pne8)
  have f10 : Exa Z h2 a1 z0 := (PE1.wr W2)
  obtain ⟨_, T8, L8, ⟨rfl, N8q, Kq8, q8_0, q8_1, q8_2, q8_3⟩, X8, st8⟩ := own_private X7 hx hZ (W := 0) hown (hw _ m182) (hw _ m183) (mvT hZ (hw _ m185)) (hw _ m184) (hw _ m143) (hw _ m186) (by decide) (rm99 cx a2 ck3 a4 a5 a6 a1 a7 O2 f9 f10 Fw2 f4 f6 f3 Ov9 gn10 (Ne.symm pne8) gn6) e7 f10 (g := (mkF m 20 #[sR a1, .val a7] [(vI 3), (vR a2), a7, (vR a1)])) rfl hml rfl (rest := []) (lenOf pd640 rfl) rfl rfl rfl (hb hby d30_20) (by decide)
  have N8 := Fr.app N2 N8q
  have O8 : Old Z n0 T8.heap := O2.keep Kq8 (allS gn10 (allS gn6 all0))
  have K8 : Keep h0 T8.heap [a1, a2] := K2.trans Kq8 (allS (Or.inl (List.mem_of_getElem? (i := 1) rfl)) (allS (Or.inl (List.mem_of_getElem? (i := 0) rfl)) all0))
  refine own_end X8 hlk (v := some (vI 1)) (own_hv hret) (by decide) ⟨rfl, N8, K8, q8_1, q8_2, q8_3, q8_0⟩ fun fs hr => ?_
  show St p e below s₁ (mkF m 0 #[sR a1, .val a7] []) _
  refine wal X0 hx hby rfl d30_0 rfl rfl ?_
  refine wdu X0 hx hby rfl d30_1 rfl rfl ?_
  refine st1 _ ?_
  refine wic X1 hx hby rfl d30_5 ?_
  refine Own.iadd X1.here hx rfl (hb hby d30_6) rfl (by decide : ((3 : Int32) + (1 : Int32)) = (4 : Int32)) ?_
  refine st2 _ ?_
  refine wal X2 hx hby rfl d30_10 rfl rfl ?_
  refine wal X2 hx hby rfl d30_11 rfl (own_obR f3) ?_
  refine wal X2 hx hby rfl d30_12 rfl rfl ?_
  refine st5 _ ?_
  refine wal X5 hx hby rfl d30_16 rfl rfl ?_
  refine st7 _ ?_
  refine st8 _ ?_
  refine wic X8 hx hby rfl d30_23 ?_
  exact retN X8 hx (t := .boolean) hret (by simp) (hb hby d30_24) hr
def Qrm101 (Z : State) (h0 : Heap) (n0 : Nat) (v : Option Value) (h : Heap) (L : List Loc) : Prop := v = some (vI 1) ∧ Fr n0 L ∧ h = h0
theorem rm101 (cx : Cx Z a0 w1 w2 w3 clw3 w4 kw4 w5 kw5) (O0 : Old Z n0 h0) : Ct l Z ⟨z22, "checkIndex", "(II)I"⟩ jdk_31_method_17_code 2 (some .int) ⟨1, 0, 0, 14⟩ #[(vI 1), (vI 4)] h0 (Qrm101 Z h0 n0) := by
  obtain ⟨hw, hj, hS⟩ := id cx
  refine own_bd (plainFor_of_name pn686) (fun m => ef261 m 1 4) fun p e s m below meth c s₁ hret hlk hZ hx hby hml hown hnm X0 e0 => ?_
  have N0 := Fr.nil n0
  obtain ⟨_, T1, L1, ⟨rfl, N1q, e1⟩, X1, st1⟩ := cS X0 hx hZ (W := 0) hown (cw33 cx) (rm49 cx 1 4 O0 (by decide : ¬ ((1 : Int32) < (0 : Int32))) (by decide : (1 : Int32) < (4 : Int32))) e0 (g := (mkF m 3 #[sI 1, sI 4] [.null, (vI 4), (vI 1)])) rfl hml rfl (rest := []) rfl rfl rfl rfl (hb hby d37_3) (by decide)
  refine own_end X1 hlk (v := some (vI 1)) (own_hv hret) (by decide) (by rw [e1]; exact ⟨rfl, (Fr.app N0 N1q), rfl⟩) fun fs hr => ?_
  show St p e below s₁ (mkF m 0 #[sI 1, sI 4] []) _
  refine wil X0 hx hby rfl d37_0 rfl ?_
  refine wil X0 hx hby rfl d37_1 rfl ?_
  refine wan X0 hx hby rfl d37_2 ?_
  refine st1 _ ?_
  exact retOut X1 hx hret rfl (Or.inl ⟨rfl, Or.inl rfl, _, rfl⟩) (hb hby d37_6) hr
def Qrm102 (Z : State) (a5 : Addr) (h0 : Heap) (n0 : Nat) (v : Option Value) (h : Heap) (L : List Loc) : Prop := v = some (vR a5) ∧ Fr n0 L ∧ h = h0
theorem rm102 (cx : Cx Z a0 w1 w2 w3 clw3 w4 kw4 w5 kw5) (a1 : Addr) (a2 : Addr) (ck3 : ClassId) (a4 : Value) (a5 : Addr) (a6 : Value) (a7 : Value) (O0 : Old Z n0 h0) (PF1 : Fld Z h0 a1 z0 z7 z4 (vR a2)) (PV2 : Arv Z h0 a2 ck3 (.object z2) (10 : Int32) [a4, (vR a5), a6, a7, .null, .null, .null, .null, .null, .null] .null) : Ct l Z ⟨z0, z7, z10⟩ jdk_38_method_18_code 2 (some (.object z2)) ⟨0, 0, 0, 0⟩ #[(vR a1), (vI 1)] h0 (Qrm102 Z a5 h0 n0) := by
  obtain ⟨hw, hj, hS⟩ := id cx
  refine own_bd (plainFor_of_name pn122) (fun m => ef55 m a1 1) fun p e s m below meth c s₁ hret hlk hZ hx hby hml hown hnm X0 e0 => ?_
  have N0 := Fr.nil n0
  obtain ⟨T1, X1, e1, st1⟩ := getF X0 hx hZ hown (host := "") (Or.inl (hw _ m163)) Via.refl e0 PF1 (g := (mkF m 1 #[sR a1, sI 1] [(vR a1)])) rfl rfl (hb hby d38_1)
  refine own_end X1 hlk (v := some (vR a5)) (own_hv hret) (by decide) (by rw [e1]; exact ⟨rfl, N0, rfl⟩) fun fs hr => ?_
  show St p e below s₁ (mkF m 0 #[sR a1, sI 1] []) _
  refine wal X0 hx hby rfl d38_0 rfl rfl ?_
  refine st1 _ ?_
  refine wil X1 hx hby rfl d38_4 rfl ?_
  refine own_aaload X1 hx hZ e1 PV2 (j := 1) (by decide) (v := (vR a5)) rfl rfl (g := (mkF m 5 #[sR a1, sI 1] [(vI 1), (vR a2)])) rfl rfl (hb hby d38_5) ?_
  exact retOut X1 hx hret rfl (Or.inr (Or.inr (Or.inr (Or.inr ⟨rfl, rfl, rfl⟩)))) (hb hby d38_6) hr
def Qrm103 (Z : State) (a5 : Addr) (h0 : Heap) (n0 : Nat) (v : Option Value) (h : Heap) (L : List Loc) : Prop := v = some (vR a5) ∧ Fr n0 L ∧ h = h0
theorem rm103 (cx : Cx Z a0 w1 w2 w3 clw3 w4 kw4 w5 kw5) (a1 : Addr) (a2 : Addr) (ck3 : ClassId) (a4 : Value) (a5 : Addr) (a6 : Value) (a7 : Value) (O0 : Old Z n0 h0) (PF1 : Fld Z h0 a1 z0 "size" "I" (vI 4)) (PF2 : Fld Z h0 a1 z0 z7 z4 (vR a2)) (PV3 : Arv Z h0 a2 ck3 (.object z2) (10 : Int32) [a4, (vR a5), a6, a7, .null, .null, .null, .null, .null, .null] .null) (PE4 : Exa Z h0 a1 z0) : Ct l Z ⟨z0, "get", z10⟩ jdk_38_method_20_code 2 (some (.object z2)) ⟨2, 0, 0, 27⟩ #[(vR a1), (vI 1)] h0 (Qrm103 Z a5 h0 n0) := by
  obtain ⟨hw, hj, hS⟩ := id cx
  refine own_bd (plainFor_of_name pn122) (fun m => ef55 m a1 1) fun p e s m below meth c s₁ hret hlk hZ hx hby hml hown hnm X0 e0 => ?_
  have N0 := Fr.nil n0
  obtain ⟨T1, X1, e1, st1⟩ := getF X0 hx hZ hown (host := "") (Or.inl (hw _ m180)) Via.refl e0 PF1 (g := (mkF m 2 #[sR a1, sI 1] [(vR a1), (vI 1)])) rfl rfl (hb hby d36_2)
  obtain ⟨_, T2, L2, ⟨rfl, N2q, e2⟩, X2, st2⟩ := cS X1 hx hZ (W := 0) hown (cw34 cx) (rm101 cx O0) e1 (g := (mkF m 5 #[sR a1, sI 1] [(vI 4), (vI 1)])) rfl hml rfl (rest := []) rfl rfl rfl rfl (hb hby d36_5) (by decide)
  obtain ⟨_, T3, L3, ⟨rfl, N3q, e3⟩, X3, st3⟩ := cV X2 hx hZ (W := 0) hown (cw35 cx) (rm102 cx a1 a2 ck3 a4 a5 a6 a7 O0 PF2 PV3) e2 PE4 (g := (mkF m 11 #[sR a1, sI 1] [(vI 1), (vR a1)])) rfl hml rfl (rest := []) rfl rfl rfl rfl (hb hby d36_11) (by decide)
  refine own_end X3 hlk (v := some (vR a5)) (own_hv hret) (by decide) (by rw [e3]; exact ⟨rfl, (Fr.app (Fr.app N0 N2q) N3q), rfl⟩) fun fs hr => ?_
  show St p e below s₁ (mkF m 0 #[sR a1, sI 1] []) _
  refine wil X0 hx hby rfl d36_0 rfl ?_
  refine wal X0 hx hby rfl d36_1 rfl rfl ?_
  refine st1 _ ?_
  refine st2 _ ?_
  refine XS.pop X2.here hx rfl (hb hby d36_8) rfl rfl ?_
  refine wal X2 hx hby rfl d36_9 rfl rfl ?_
  refine wil X2 hx hby rfl d36_10 rfl ?_
  refine st3 _ ?_
  exact retOut X3 hx hret rfl (Or.inr (Or.inr (Or.inr (Or.inr ⟨rfl, rfl, rfl⟩)))) (hb hby d36_14) hr
def Qrm104 (Z : State) (a5 : Addr) (h0 : Heap) (n0 : Nat) (v : Option Value) (h : Heap) (L : List Loc) : Prop := v = some (vR a5) ∧ Fr n0 L ∧ h = h0
theorem rm104 (cx : Cx Z a0 w1 w2 w3 clw3 w4 kw4 w5 kw5) (a1 : Addr) (a2 : Addr) (ck3 : ClassId) (a4 : Value) (a5 : Addr) (a6 : Value) (a7 : Value) (O0 : Old Z n0 h0) (PF1 : Fld Z h0 a1 z0 "size" "I" (vI 4)) (PE2 : Exa Z h0 a1 z0) (PF3 : Fld Z h0 a1 z0 z7 z4 (vR a2)) (PV4 : Arv Z h0 a2 ck3 (.object z2) (10 : Int32) [a4, (vR a5), a6, a7, .null, .null, .null, .null, .null, .null] .null) (PE5 : Exa Z h0 a5 z5) : Ct l Z ⟨z8, "element", z14⟩ prog_16_method_9_code 3 (some (.object z16)) ⟨3, 0, 0, 40⟩ #[(vR a1), (vI 1)] h0 (Qrm104 Z a5 h0 n0) := by
  obtain ⟨hw, hj, hS⟩ := id cx
  refine own_bd (plainFor_of_name pn546) (fun m => ef503 m a1 1) fun p e s m below meth c s₁ hret hlk hZ hx hby hml hown hnm X0 e0 => ?_
  have N0 := Fr.nil n0
  obtain ⟨_, T1, L1, ⟨rfl, N1q, e1⟩, X1, st1⟩ := own_iface X0 hx hZ (W := 1) hown (hw _ m204) (hw _ m205) (mvT hZ (hw _ m206)) (hw _ m207) (hw _ m208) (mvT hZ (hw _ m209)) (mvT hZ (hw _ m210)) (hw _ m176) (hw _ m143) (hw _ m211) (by decide) (rm94 cx a1 O0 PF1) e0 PE2 (g := (mkF m 2 #[sR a1, sI 1, sU] [(vR a1), (vI 1)])) rfl hml rfl (rest := [(vI 1)]) (lenOf pd200 rfl) rfl rfl rfl (hb hby d34_2) (by decide)
  obtain ⟨_, T2, L2, ⟨rfl, N2q, e2⟩, X2, st2⟩ := own_iface X1 hx hZ (W := 0) hown (hw _ m212) (hw _ m213) (mvT hZ (hw _ m214)) (hw _ m215) (hw _ m216) (mvT hZ (hw _ m217)) (mvT hZ (hw _ m218)) (hw _ m176) (hw _ m143) (hw _ m219) (by decide) (rm103 cx a1 a2 ck3 a4 a5 a6 a7 O0 PF1 PF3 PV4 PE2) e1 PE2 (g := (mkF m 12 #[sR a1, sI 1, sU] [(vI 1), (vR a1)])) rfl hml rfl (rest := []) (lenOf pd521 rfl) rfl rfl rfl (hb hby d34_12) (by decide)
  obtain ⟨T3, X3, e3, st3⟩ := instY X2 hx hZ hown (hw _ m136) e2 (Ins.of_exa PE5 (hw _ m137)) (g := (mkF m 23 #[sR a1, sI 1, sR a5] [(vR a5)])) rfl rfl (hb hby d34_23)
  obtain ⟨_, T4, L4, ⟨rfl, N4q, e4⟩, X4, st4⟩ := cS X3 hx hZ (W := 0) hown (cw29 cx) (rm40 cx a5 O0 PE5) e3 (g := (mkF m 44 #[sR a1, sI 1, sR a5] [(vR a5)])) rfl hml rfl (rest := []) rfl rfl rfl rfl (hb hby d34_44) (by decide)
  refine own_end X4 hlk (v := some (vR a5)) (own_hv hret) (by decide) (by rw [e4]; exact ⟨rfl, (Fr.app (Fr.app (Fr.app N0 N1q) N2q) N4q), rfl⟩) fun fs hr => ?_
  show St p e below s₁ (mkF m 0 #[sR a1, sI 1, sU] []) _
  refine wil X0 hx hby rfl d34_0 rfl ?_
  refine wal X0 hx hby rfl d34_1 rfl rfl ?_
  refine st1 _ ?_
  refine wcn X1 hx hby rfl d34_7 rfl (tlt (by decide : (1 : Int32) < (4 : Int32))).2.1 ?_
  refine wal X1 hx hby rfl d34_10 rfl rfl ?_
  refine wil X1 hx hby rfl d34_11 rfl ?_
  refine st2 _ ?_
  refine wgt X2 hx hby rfl (pc0 := 17) (pc' := 21) rfl d34_17 (by decide) (by decide) ?_
  refine was X2 hx hby rfl d34_21 rfl rfl (l' := #[sR a1, sI 1, sR a5]) rfl ?_
  refine wal X2 hx hby rfl d34_22 rfl rfl ?_
  refine st3 _ ?_
  refine wfy X3 hx hby rfl (pc0 := 26) (pc' := 43) rfl d34_26 rfl ((if0 _ _).trans (feq (by decide : ¬ ((1 : Int32) = (0 : Int32)))).2) (by decide) (by decide) ?_
  refine wal X3 hx hby rfl d34_43 rfl rfl ?_
  refine st4 _ ?_
  exact retOut X4 hx hret rfl (Or.inr (Or.inr (Or.inr (Or.inr ⟨rfl, rfl, rfl⟩)))) (hb hby d34_47) hr
def Qrm105 (Z : State) (a1 : Addr) (ck2 : ClassId) (a3 : Value) (a4 : Value) (a5 : Addr) (a6 : Addr) (a7 : Value) (h0 : Heap) (n0 : Nat) (v : Option Value) (h : Heap) (L : List Loc) : Prop := v = none ∧ Fr n0 L ∧ Keep h0 h [a1, a6] ∧ Arv Z h a1 ck2 (.object z2) (10 : Int32) [a3, a4, (vR a5), a7, .null, .null, .null, .null, .null, .null] .null ∧ Fld Z h a6 z6 "modCount" "I" (vI 4) ∧ Fld Z h a6 z0 z7 z4 (vR a1) ∧ Fld Z h a6 z0 "size" "I" (vI 4)
theorem rm105 (cx : Cx Z a0 w1 w2 w3 clw3 w4 kw4 w5 kw5) (a1 : Addr) (ck2 : ClassId) (a3 : Value) (a4 : Value) (a5 : Addr) (a6 : Addr) (a7 : Value) (O0 : Old Z n0 h0) (PV1 : Arv Z h0 a1 ck2 (.object z2) (10 : Int32) [a3, a4, (vR a5), .null, .null, .null, .null, .null, .null, .null] .null) (PE2 : Exa Z h0 a6 z0) (PF3 : Fld Z h0 a6 z6 "modCount" "I" (vI 4)) (PF4 : Fld Z h0 a6 z0 z7 z4 (vR a1)) (PF5 : Fld Z h0 a6 z0 "size" "I" (vI 3)) (PE6 : ObV Z h0 a7) (Ov7 : Ovr Z ck2 z2) (gn8 : n0 ≤ a1) (pne9 : a6 ≠ a1) (gn10 : n0 ≤ a6) : Ct l Z ⟨z0, "add", z12⟩ jdk_38_method_24_code 4 none ⟨0, 0, 0, 0⟩ #[(vR a6), a7, (vR a1), (vI 3)] h0 (Qrm105 Z a1 ck2 a3 a4 a5 a6 a7 h0 n0) := by
  obtain ⟨hw, hj, hS⟩ := id cx
  refine own_bd (plainFor_of_name pn122) (fun m => ef725 m a6 a7 a1 3 (own_obR PE6)) fun p e s m below meth c s₁ hret hlk hZ hx hby hml hown hnm X0 e0 => ?_
  have N0 := Fr.nil n0
  obtain ⟨T1, h1, L'1, X1, e1, W1, V1, O1, K1, N1, st1⟩ := own_stR X0 hx hZ e0 PV1 O0 (Keep.refl h0 [a1, a6]) N0 gn8 (Or.inl (List.mem_of_getElem? (i := 0) rfl)) (j := (3 : Int32)) 3 (by decide) (Nat.le_of_ble_eq_true rfl) (vs' := [a3, a4, (vR a5), a7, .null, .null, .null, .null, .null, .null]) rfl rfl (own_obF PE6) (own_obS Ov7 PE6) (g := (mkF m 14 #[sR a6, .val a7, sR a1, sI 3] [a7, (vI 3), (vR a1)])) rfl rfl (hb hby d31_14)
  have f2 : Fld Z h1 a6 z0 "size" "I" (vI 3) := (PF5.other W1 (Or.inl pne9))
  have f3 : Exa Z h1 a6 z0 := (PE2.wr W1)
  obtain ⟨T4, h4, L'4, X4, e4, W4, Fw4, O4, K4, N4, st4⟩ := own_put X1 hx hZ hown (host := "") (Or.inl (hw _ m180)) Via.refl e1 O1 K1 N1 gn10 (Or.inl (List.mem_of_getElem? (i := 1) rfl)) f2 f3 (Or.inl (hw _ m181)) (hw _ m142) (ty := .int) (by decide) rfl rfl (g := (mkF m 19 #[sR a6, .val a7, sR a1, sI 3] [(vI 4), (vR a6)])) rfl rfl (hb hby d31_19)
  have f5 : Arv Z h4 a1 ck2 (.object z2) (10 : Int32) [a3, a4, (vR a5), a7, .null, .null, .null, .null, .null, .null] .null := (V1.other W4 (Ne.symm pne9))
  have f6 : Fld Z h4 a6 z6 "modCount" "I" (vI 4) := ((PF3.other W1 (Or.inl pne9)).other W4 (Or.inr (slot_ne (Or.inl (hw _ m161)) (Or.inl (hw _ m181)) (by decide) (t := .int) (t' := .int) (by decide) (by decide))))
  have f7 : Fld Z h4 a6 z0 z7 z4 (vR a1) := ((PF4.other W1 (Or.inl pne9)).other W4 (Or.inr (slot_ne (Or.inl (hw _ m164)) (Or.inl (hw _ m181)) (by decide) (t := (.array (.object z2))) (t' := .int) (by decide) (by decide))))
  refine own_end X4 hlk (v := none) (fun _ => rfl) (by decide) (by rw [e4]; exact ⟨rfl, N4, K4, f5, f6, f7, Fw4⟩) fun fs hr => ?_
  show St p e below s₁ (mkF m 0 #[sR a6, .val a7, sR a1, sI 3] []) _
  refine wil X0 hx hby rfl d31_0 rfl ?_
  refine wal X0 hx hby rfl d31_1 rfl rfl ?_
  refine own_alen X0 hx hZ e0 PV1 (g := (mkF m 2 #[sR a6, .val a7, sR a1, sI 3] [(vR a1), (vI 3)])) rfl rfl (hb hby d31_2) ?_
  refine wcy X0 hx hby rfl (pc0 := 3) (pc' := 11) rfl d31_3 rfl (feq (by decide : ¬ ((3 : Int32) = (10 : Int32)))).2 (by decide) (by decide) ?_
  refine wal X0 hx hby rfl d31_11 rfl rfl ?_
  refine wil X0 hx hby rfl d31_12 rfl ?_
  refine wal X0 hx hby rfl d31_13 rfl (own_obR PE6) ?_
  refine st1 _ ?_
  refine wal X1 hx hby rfl d31_15 rfl rfl ?_
  refine wil X1 hx hby rfl d31_16 rfl ?_
  refine wic X1 hx hby rfl d31_17 ?_
  refine Own.iadd X1.here hx rfl (hb hby d31_18) rfl (by decide : ((3 : Int32) + (1 : Int32)) = (4 : Int32)) ?_
  refine st4 _ ?_
  exact X4.returnOut hx hret (hb hby d31_22) hr
def Qrm106 (Z : State) (a1 : Addr) (a2 : Addr) (ck3 : ClassId) (a4 : Value) (a5 : Value) (a6 : Addr) (a7 : Value) (h0 : Heap) (n0 : Nat) (v : Option Value) (h : Heap) (L : List Loc) : Prop := v = some (vI 1) ∧ Fr n0 L ∧ Keep h0 h [a1, a2] ∧ Fld Z h a1 z6 "modCount" "I" (vI 4) ∧ Fld Z h a1 z0 z7 z4 (vR a2) ∧ Fld Z h a1 z0 "size" "I" (vI 4) ∧ Arv Z h a2 ck3 (.object z2) (10 : Int32) [a4, a5, (vR a6), a7, .null, .null, .null, .null, .null, .null] .null
theorem rm106 (cx : Cx Z a0 w1 w2 w3 clw3 w4 kw4 w5 kw5) (a1 : Addr) (a2 : Addr) (ck3 : ClassId) (a4 : Value) (a5 : Value) (a6 : Addr) (a7 : Value) (O0 : Old Z n0 h0) (PE1 : Exa Z h0 a1 z0) (PF2 : Fld Z h0 a1 z6 "modCount" "I" (vI 3)) (PF3 : Fld Z h0 a1 z0 z7 z4 (vR a2)) (PF4 : Fld Z h0 a1 z0 "size" "I" (vI 3)) (PV5 : Arv Z h0 a2 ck3 (.object z2) (10 : Int32) [a4, a5, (vR a6), .null, .null, .null, .null, .null, .null, .null] .null) (gn6 : n0 ≤ a1) (PE7 : ObV Z h0 a7) (pne8 : a2 ≠ a1) (Ov9 : Ovr Z ck3 z2) (gn10 : n0 ≤ a2) : Ct l Z ⟨z0, "add", z15⟩ jdk_38_method_25_code 2 (some .boolean) ⟨1, 0, 0, 15⟩ #[(vR a1), a7] h0 (Qrm106 Z a1 a2 ck3 a4 a5 a6 a7 h0 n0) := by
  obtain ⟨hw, hj, hS⟩ := id cx
  refine own_bd (plainFor_of_name pn122) (fun m => ef726 m a1 a7 (own_obR PE7)) fun p e s m below meth c s₁ hret hlk hZ hx hby hml hown hnm X0 e0 => ?_
  have N0 := Fr.nil n0
  obtain ⟨T1, X1, e1, st1⟩ := getF X0 hx hZ hown (host := "") (Or.inl (hw _ m178)) (Via.of (hw _ m179)) e0 PF2 (g := (mkF m 2 #[sR a1, .val a7] [(vR a1), (vR a1)])) rfl rfl (hb hby d30_2)
  obtain ⟨T2, h2, L'2, X2, e2, W2, Fw2, O2, K2, N2, st2⟩ := own_put X1 hx hZ hown (host := "") (Or.inl (hw _ m178)) (Via.of (hw _ m179)) e1 O0 (Keep.refl h0 [a1, a2]) N0 gn6 (Or.inl (List.mem_of_getElem? (i := 0) rfl)) PF2 PE1 (Or.inl (hw _ m161)) (hw _ m142) (ty := .int) (by decide) rfl rfl (g := (mkF m 7 #[sR a1, .val a7] [(vI 4), (vR a1)])) rfl rfl (hb hby d30_7)
  have f3 : ObV Z h2 a7 := (own_obW PE7 W2)
  have f4 : Fld Z h2 a1 z0 z7 z4 (vR a2) := (PF3.other W2 (Or.inr (slot_ne (Or.inl (hw _ m164)) (Or.inl (hw _ m161)) (by decide) (t := (.array (.object z2))) (t' := .int) (by decide) (by decide))))
  obtain ⟨T5, X5, e5, st5⟩ := getF X2 hx hZ hown (host := "") (Or.inl (hw _ m163)) Via.refl e2 f4 (g := (mkF m 13 #[sR a1, .val a7] [(vR a1), a7, (vR a1)])) rfl rfl (hb hby d30_13)
  have f6 : Fld Z h2 a1 z0 "size" "I" (vI 3) := (PF4.other W2 (Or.inr (slot_ne (Or.inl (hw _ m181)) (Or.inl (hw _ m161)) (by decide) (t := .int) (t' := .int) (by decide) (by decide))))
  obtain ⟨T7, X7, e7, st7⟩ := getF X5 hx hZ hown (host := "") (Or.inl (hw _ m180)) Via.refl e5 f6 (g := (mkF m 17 #[sR a1, .val a7] [(vR a1), (vR a2), a7, (vR a1)])) rfl rfl (hb hby d30_17)
  have f9 : Arv Z h2 a2 ck3 (.object z2) (10 : Int32) [a4, a5, (vR a6), .null, .null, .null, .null, .null, .null, .null] .null := (PV5.other W2 pne8)
  have f10 : Exa Z h2 a1 z0 := (PE1.wr W2)
  obtain ⟨_, T8, L8, ⟨rfl, N8q, Kq8, q8_0, q8_1, q8_2, q8_3⟩, X8, st8⟩ := own_private X7 hx hZ (W := 0) hown (hw _ m182) (hw _ m183) (mvT hZ (hw _ m185)) (hw _ m184) (hw _ m143) (hw _ m186) (by decide) (rm105 cx a2 ck3 a4 a5 a6 a1 a7 O2 f9 f10 Fw2 f4 f6 f3 Ov9 gn10 (Ne.symm pne8) gn6) e7 f10 (g := (mkF m 20 #[sR a1, .val a7] [(vI 3), (vR a2), a7, (vR a1)])) rfl hml rfl (rest := []) (lenOf pd640 rfl) rfl rfl rfl (hb hby d30_20) (by decide)
  have N8 := Fr.app N2 N8q
  have O8 : Old Z n0 T8.heap := O2.keep Kq8 (allS gn10 (allS gn6 all0))
  have K8 : Keep h0 T8.heap [a1, a2] := K2.trans Kq8 (allS (Or.inl (List.mem_of_getElem? (i := 1) rfl)) (allS (Or.inl (List.mem_of_getElem? (i := 0) rfl)) all0))
  refine own_end X8 hlk (v := some (vI 1)) (own_hv hret) (by decide) ⟨rfl, N8, K8, q8_1, q8_2, q8_3, q8_0⟩ fun fs hr => ?_
  show St p e below s₁ (mkF m 0 #[sR a1, .val a7] []) _
  refine wal X0 hx hby rfl d30_0 rfl rfl ?_
  refine wdu X0 hx hby rfl d30_1 rfl rfl ?_
  refine st1 _ ?_
  refine wic X1 hx hby rfl d30_5 ?_
  refine Own.iadd X1.here hx rfl (hb hby d30_6) rfl (by decide : ((3 : Int32) + (1 : Int32)) = (4 : Int32)) ?_
  refine st2 _ ?_
  refine wal X2 hx hby rfl d30_10 rfl rfl ?_
  refine wal X2 hx hby rfl d30_11 rfl (own_obR f3) ?_
  refine wal X2 hx hby rfl d30_12 rfl rfl ?_
  refine st5 _ ?_
  refine wal X5 hx hby rfl d30_16 rfl rfl ?_
  refine st7 _ ?_
  refine st8 _ ?_
  refine wic X8 hx hby rfl d30_23 ?_
  exact retN X8 hx (t := .boolean) hret (by simp) (hb hby d30_24) hr
def Qrm107 (Z : State) (h0 : Heap) (n0 : Nat) (v : Option Value) (h : Heap) (L : List Loc) : Prop := v = some (vI 2) ∧ Fr n0 L ∧ h = h0
theorem rm107 (cx : Cx Z a0 w1 w2 w3 clw3 w4 kw4 w5 kw5) (O0 : Old Z n0 h0) : Ct l Z ⟨z22, "checkIndex", "(II)I"⟩ jdk_31_method_17_code 2 (some .int) ⟨1, 0, 0, 14⟩ #[(vI 2), (vI 4)] h0 (Qrm107 Z h0 n0) := by
  obtain ⟨hw, hj, hS⟩ := id cx
  refine own_bd (plainFor_of_name pn686) (fun m => ef261 m 2 4) fun p e s m below meth c s₁ hret hlk hZ hx hby hml hown hnm X0 e0 => ?_
  have N0 := Fr.nil n0
  obtain ⟨_, T1, L1, ⟨rfl, N1q, e1⟩, X1, st1⟩ := cS X0 hx hZ (W := 0) hown (cw33 cx) (rm49 cx 2 4 O0 (by decide : ¬ ((2 : Int32) < (0 : Int32))) (by decide : (2 : Int32) < (4 : Int32))) e0 (g := (mkF m 3 #[sI 2, sI 4] [.null, (vI 4), (vI 2)])) rfl hml rfl (rest := []) rfl rfl rfl rfl (hb hby d37_3) (by decide)
  refine own_end X1 hlk (v := some (vI 2)) (own_hv hret) (by decide) (by rw [e1]; exact ⟨rfl, (Fr.app N0 N1q), rfl⟩) fun fs hr => ?_
  show St p e below s₁ (mkF m 0 #[sI 2, sI 4] []) _
  refine wil X0 hx hby rfl d37_0 rfl ?_
  refine wil X0 hx hby rfl d37_1 rfl ?_
  refine wan X0 hx hby rfl d37_2 ?_
  refine st1 _ ?_
  exact retOut X1 hx hret rfl (Or.inl ⟨rfl, Or.inl rfl, _, rfl⟩) (hb hby d37_6) hr
def Qrm108 (Z : State) (a6 : Addr) (h0 : Heap) (n0 : Nat) (v : Option Value) (h : Heap) (L : List Loc) : Prop := v = some (vR a6) ∧ Fr n0 L ∧ h = h0
theorem rm108 (cx : Cx Z a0 w1 w2 w3 clw3 w4 kw4 w5 kw5) (a1 : Addr) (a2 : Addr) (ck3 : ClassId) (a4 : Value) (a5 : Value) (a6 : Addr) (a7 : Value) (O0 : Old Z n0 h0) (PF1 : Fld Z h0 a1 z0 z7 z4 (vR a2)) (PV2 : Arv Z h0 a2 ck3 (.object z2) (10 : Int32) [a4, a5, (vR a6), a7, .null, .null, .null, .null, .null, .null] .null) : Ct l Z ⟨z0, z7, z10⟩ jdk_38_method_18_code 2 (some (.object z2)) ⟨0, 0, 0, 0⟩ #[(vR a1), (vI 2)] h0 (Qrm108 Z a6 h0 n0) := by
  obtain ⟨hw, hj, hS⟩ := id cx
  refine own_bd (plainFor_of_name pn122) (fun m => ef55 m a1 2) fun p e s m below meth c s₁ hret hlk hZ hx hby hml hown hnm X0 e0 => ?_
  have N0 := Fr.nil n0
  obtain ⟨T1, X1, e1, st1⟩ := getF X0 hx hZ hown (host := "") (Or.inl (hw _ m163)) Via.refl e0 PF1 (g := (mkF m 1 #[sR a1, sI 2] [(vR a1)])) rfl rfl (hb hby d38_1)
  refine own_end X1 hlk (v := some (vR a6)) (own_hv hret) (by decide) (by rw [e1]; exact ⟨rfl, N0, rfl⟩) fun fs hr => ?_
  show St p e below s₁ (mkF m 0 #[sR a1, sI 2] []) _
  refine wal X0 hx hby rfl d38_0 rfl rfl ?_
  refine st1 _ ?_
  refine wil X1 hx hby rfl d38_4 rfl ?_
  refine own_aaload X1 hx hZ e1 PV2 (j := 2) (by decide) (v := (vR a6)) rfl rfl (g := (mkF m 5 #[sR a1, sI 2] [(vI 2), (vR a2)])) rfl rfl (hb hby d38_5) ?_
  exact retOut X1 hx hret rfl (Or.inr (Or.inr (Or.inr (Or.inr ⟨rfl, rfl, rfl⟩)))) (hb hby d38_6) hr
def Qrm109 (Z : State) (a6 : Addr) (h0 : Heap) (n0 : Nat) (v : Option Value) (h : Heap) (L : List Loc) : Prop := v = some (vR a6) ∧ Fr n0 L ∧ h = h0
theorem rm109 (cx : Cx Z a0 w1 w2 w3 clw3 w4 kw4 w5 kw5) (a1 : Addr) (a2 : Addr) (ck3 : ClassId) (a4 : Value) (a5 : Value) (a6 : Addr) (a7 : Value) (O0 : Old Z n0 h0) (PF1 : Fld Z h0 a1 z0 "size" "I" (vI 4)) (PF2 : Fld Z h0 a1 z0 z7 z4 (vR a2)) (PV3 : Arv Z h0 a2 ck3 (.object z2) (10 : Int32) [a4, a5, (vR a6), a7, .null, .null, .null, .null, .null, .null] .null) (PE4 : Exa Z h0 a1 z0) : Ct l Z ⟨z0, "get", z10⟩ jdk_38_method_20_code 2 (some (.object z2)) ⟨2, 0, 0, 27⟩ #[(vR a1), (vI 2)] h0 (Qrm109 Z a6 h0 n0) := by
  obtain ⟨hw, hj, hS⟩ := id cx
  refine own_bd (plainFor_of_name pn122) (fun m => ef55 m a1 2) fun p e s m below meth c s₁ hret hlk hZ hx hby hml hown hnm X0 e0 => ?_
  have N0 := Fr.nil n0
  obtain ⟨T1, X1, e1, st1⟩ := getF X0 hx hZ hown (host := "") (Or.inl (hw _ m180)) Via.refl e0 PF1 (g := (mkF m 2 #[sR a1, sI 2] [(vR a1), (vI 2)])) rfl rfl (hb hby d36_2)
  obtain ⟨_, T2, L2, ⟨rfl, N2q, e2⟩, X2, st2⟩ := cS X1 hx hZ (W := 0) hown (cw34 cx) (rm107 cx O0) e1 (g := (mkF m 5 #[sR a1, sI 2] [(vI 4), (vI 2)])) rfl hml rfl (rest := []) rfl rfl rfl rfl (hb hby d36_5) (by decide)
  obtain ⟨_, T3, L3, ⟨rfl, N3q, e3⟩, X3, st3⟩ := cV X2 hx hZ (W := 0) hown (cw35 cx) (rm108 cx a1 a2 ck3 a4 a5 a6 a7 O0 PF2 PV3) e2 PE4 (g := (mkF m 11 #[sR a1, sI 2] [(vI 2), (vR a1)])) rfl hml rfl (rest := []) rfl rfl rfl rfl (hb hby d36_11) (by decide)
  refine own_end X3 hlk (v := some (vR a6)) (own_hv hret) (by decide) (by rw [e3]; exact ⟨rfl, (Fr.app (Fr.app N0 N2q) N3q), rfl⟩) fun fs hr => ?_
  show St p e below s₁ (mkF m 0 #[sR a1, sI 2] []) _
  refine wil X0 hx hby rfl d36_0 rfl ?_
  refine wal X0 hx hby rfl d36_1 rfl rfl ?_
  refine st1 _ ?_
  refine st2 _ ?_
  refine XS.pop X2.here hx rfl (hb hby d36_8) rfl rfl ?_
  refine wal X2 hx hby rfl d36_9 rfl rfl ?_
  refine wil X2 hx hby rfl d36_10 rfl ?_
  refine st3 _ ?_
  exact retOut X3 hx hret rfl (Or.inr (Or.inr (Or.inr (Or.inr ⟨rfl, rfl, rfl⟩)))) (hb hby d36_14) hr
def Qrm110 (Z : State) (a6 : Addr) (h0 : Heap) (n0 : Nat) (v : Option Value) (h : Heap) (L : List Loc) : Prop := v = some (vR a6) ∧ Fr n0 L ∧ h = h0
theorem rm110 (cx : Cx Z a0 w1 w2 w3 clw3 w4 kw4 w5 kw5) (a1 : Addr) (a2 : Addr) (ck3 : ClassId) (a4 : Value) (a5 : Value) (a6 : Addr) (a7 : Value) (O0 : Old Z n0 h0) (PF1 : Fld Z h0 a1 z0 "size" "I" (vI 4)) (PE2 : Exa Z h0 a1 z0) (PF3 : Fld Z h0 a1 z0 z7 z4 (vR a2)) (PV4 : Arv Z h0 a2 ck3 (.object z2) (10 : Int32) [a4, a5, (vR a6), a7, .null, .null, .null, .null, .null, .null] .null) (PE5 : Exa Z h0 a6 z5) : Ct l Z ⟨z8, "element", z14⟩ prog_16_method_9_code 3 (some (.object z16)) ⟨3, 0, 0, 40⟩ #[(vR a1), (vI 2)] h0 (Qrm110 Z a6 h0 n0) := by
  obtain ⟨hw, hj, hS⟩ := id cx
  refine own_bd (plainFor_of_name pn546) (fun m => ef503 m a1 2) fun p e s m below meth c s₁ hret hlk hZ hx hby hml hown hnm X0 e0 => ?_
  have N0 := Fr.nil n0
  obtain ⟨_, T1, L1, ⟨rfl, N1q, e1⟩, X1, st1⟩ := own_iface X0 hx hZ (W := 1) hown (hw _ m204) (hw _ m205) (mvT hZ (hw _ m206)) (hw _ m207) (hw _ m208) (mvT hZ (hw _ m209)) (mvT hZ (hw _ m210)) (hw _ m176) (hw _ m143) (hw _ m211) (by decide) (rm94 cx a1 O0 PF1) e0 PE2 (g := (mkF m 2 #[sR a1, sI 2, sU] [(vR a1), (vI 2)])) rfl hml rfl (rest := [(vI 2)]) (lenOf pd200 rfl) rfl rfl rfl (hb hby d34_2) (by decide)
  obtain ⟨_, T2, L2, ⟨rfl, N2q, e2⟩, X2, st2⟩ := own_iface X1 hx hZ (W := 0) hown (hw _ m212) (hw _ m213) (mvT hZ (hw _ m214)) (hw _ m215) (hw _ m216) (mvT hZ (hw _ m217)) (mvT hZ (hw _ m218)) (hw _ m176) (hw _ m143) (hw _ m219) (by decide) (rm109 cx a1 a2 ck3 a4 a5 a6 a7 O0 PF1 PF3 PV4 PE2) e1 PE2 (g := (mkF m 12 #[sR a1, sI 2, sU] [(vI 2), (vR a1)])) rfl hml rfl (rest := []) (lenOf pd521 rfl) rfl rfl rfl (hb hby d34_12) (by decide)
  obtain ⟨T3, X3, e3, st3⟩ := instY X2 hx hZ hown (hw _ m136) e2 (Ins.of_exa PE5 (hw _ m137)) (g := (mkF m 23 #[sR a1, sI 2, sR a6] [(vR a6)])) rfl rfl (hb hby d34_23)
  obtain ⟨_, T4, L4, ⟨rfl, N4q, e4⟩, X4, st4⟩ := cS X3 hx hZ (W := 0) hown (cw29 cx) (rm40 cx a6 O0 PE5) e3 (g := (mkF m 44 #[sR a1, sI 2, sR a6] [(vR a6)])) rfl hml rfl (rest := []) rfl rfl rfl rfl (hb hby d34_44) (by decide)
  refine own_end X4 hlk (v := some (vR a6)) (own_hv hret) (by decide) (by rw [e4]; exact ⟨rfl, (Fr.app (Fr.app (Fr.app N0 N1q) N2q) N4q), rfl⟩) fun fs hr => ?_
  show St p e below s₁ (mkF m 0 #[sR a1, sI 2, sU] []) _
  refine wil X0 hx hby rfl d34_0 rfl ?_
  refine wal X0 hx hby rfl d34_1 rfl rfl ?_
  refine st1 _ ?_
  refine wcn X1 hx hby rfl d34_7 rfl (tlt (by decide : (2 : Int32) < (4 : Int32))).2.1 ?_
  refine wal X1 hx hby rfl d34_10 rfl rfl ?_
  refine wil X1 hx hby rfl d34_11 rfl ?_
  refine st2 _ ?_
  refine wgt X2 hx hby rfl (pc0 := 17) (pc' := 21) rfl d34_17 (by decide) (by decide) ?_
  refine was X2 hx hby rfl d34_21 rfl rfl (l' := #[sR a1, sI 2, sR a6]) rfl ?_
  refine wal X2 hx hby rfl d34_22 rfl rfl ?_
  refine st3 _ ?_
  refine wfy X3 hx hby rfl (pc0 := 26) (pc' := 43) rfl d34_26 rfl ((if0 _ _).trans (feq (by decide : ¬ ((1 : Int32) = (0 : Int32)))).2) (by decide) (by decide) ?_
  refine wal X3 hx hby rfl d34_43 rfl rfl ?_
  refine st4 _ ?_
  exact retOut X4 hx hret rfl (Or.inr (Or.inr (Or.inr (Or.inr ⟨rfl, rfl, rfl⟩)))) (hb hby d34_47) hr
def Qrm111 (Z : State) (a1 : Addr) (ck2 : ClassId) (a3 : Value) (a4 : Value) (a5 : Addr) (a6 : Value) (h0 : Heap) (n0 : Nat) (v : Option Value) (h : Heap) (L : List Loc) : Prop := v = none ∧ Fr n0 L ∧ Keep h0 h [a1, a5] ∧ Arv Z h a1 ck2 (.object z2) (10 : Int32) [a3, a4, a6, .null, .null, .null, .null, .null, .null, .null] .null ∧ Fld Z h a5 z6 "modCount" "I" (vI 3) ∧ Fld Z h a5 z0 z7 z4 (vR a1) ∧ Fld Z h a5 z0 "size" "I" (vI 3)
theorem rm111 (cx : Cx Z a0 w1 w2 w3 clw3 w4 kw4 w5 kw5) (a1 : Addr) (ck2 : ClassId) (a3 : Value) (a4 : Value) (a5 : Addr) (a6 : Value) (O0 : Old Z n0 h0) (PV1 : Arv Z h0 a1 ck2 (.object z2) (10 : Int32) [a3, a4, .null, .null, .null, .null, .null, .null, .null, .null] .null) (PE2 : Exa Z h0 a5 z0) (PF3 : Fld Z h0 a5 z6 "modCount" "I" (vI 3)) (PF4 : Fld Z h0 a5 z0 z7 z4 (vR a1)) (PF5 : Fld Z h0 a5 z0 "size" "I" (vI 2)) (PE6 : ObV Z h0 a6) (Ov7 : Ovr Z ck2 z2) (gn8 : n0 ≤ a1) (pne9 : a5 ≠ a1) (gn10 : n0 ≤ a5) : Ct l Z ⟨z0, "add", z12⟩ jdk_38_method_24_code 4 none ⟨0, 0, 0, 0⟩ #[(vR a5), a6, (vR a1), (vI 2)] h0 (Qrm111 Z a1 ck2 a3 a4 a5 a6 h0 n0) := by
  obtain ⟨hw, hj, hS⟩ := id cx
  refine own_bd (plainFor_of_name pn122) (fun m => ef725 m a5 a6 a1 2 (own_obR PE6)) fun p e s m below meth c s₁ hret hlk hZ hx hby hml hown hnm X0 e0 => ?_
  have N0 := Fr.nil n0
  obtain ⟨T1, h1, L'1, X1, e1, W1, V1, O1, K1, N1, st1⟩ := own_stR X0 hx hZ e0 PV1 O0 (Keep.refl h0 [a1, a5]) N0 gn8 (Or.inl (List.mem_of_getElem? (i := 0) rfl)) (j := (2 : Int32)) 2 (by decide) (Nat.le_of_ble_eq_true rfl) (vs' := [a3, a4, a6, .null, .null, .null, .null, .null, .null, .null]) rfl rfl (own_obF PE6) (own_obS Ov7 PE6) (g := (mkF m 14 #[sR a5, .val a6, sR a1, sI 2] [a6, (vI 2), (vR a1)])) rfl rfl (hb hby d31_14)
  have f2 : Fld Z h1 a5 z0 "size" "I" (vI 2) := (PF5.other W1 (Or.inl pne9))
  have f3 : Exa Z h1 a5 z0 := (PE2.wr W1)
  obtain ⟨T4, h4, L'4, X4, e4, W4, Fw4, O4, K4, N4, st4⟩ := own_put X1 hx hZ hown (host := "") (Or.inl (hw _ m180)) Via.refl e1 O1 K1 N1 gn10 (Or.inl (List.mem_of_getElem? (i := 1) rfl)) f2 f3 (Or.inl (hw _ m181)) (hw _ m142) (ty := .int) (by decide) rfl rfl (g := (mkF m 19 #[sR a5, .val a6, sR a1, sI 2] [(vI 3), (vR a5)])) rfl rfl (hb hby d31_19)
  have f5 : Arv Z h4 a1 ck2 (.object z2) (10 : Int32) [a3, a4, a6, .null, .null, .null, .null, .null, .null, .null] .null := (V1.other W4 (Ne.symm pne9))
  have f6 : Fld Z h4 a5 z6 "modCount" "I" (vI 3) := ((PF3.other W1 (Or.inl pne9)).other W4 (Or.inr (slot_ne (Or.inl (hw _ m161)) (Or.inl (hw _ m181)) (by decide) (t := .int) (t' := .int) (by decide) (by decide))))
  have f7 : Fld Z h4 a5 z0 z7 z4 (vR a1) := ((PF4.other W1 (Or.inl pne9)).other W4 (Or.inr (slot_ne (Or.inl (hw _ m164)) (Or.inl (hw _ m181)) (by decide) (t := (.array (.object z2))) (t' := .int) (by decide) (by decide))))
  refine own_end X4 hlk (v := none) (fun _ => rfl) (by decide) (by rw [e4]; exact ⟨rfl, N4, K4, f5, f6, f7, Fw4⟩) fun fs hr => ?_
  show St p e below s₁ (mkF m 0 #[sR a5, .val a6, sR a1, sI 2] []) _
  refine wil X0 hx hby rfl d31_0 rfl ?_
  refine wal X0 hx hby rfl d31_1 rfl rfl ?_
  refine own_alen X0 hx hZ e0 PV1 (g := (mkF m 2 #[sR a5, .val a6, sR a1, sI 2] [(vR a1), (vI 2)])) rfl rfl (hb hby d31_2) ?_
  refine wcy X0 hx hby rfl (pc0 := 3) (pc' := 11) rfl d31_3 rfl (feq (by decide : ¬ ((2 : Int32) = (10 : Int32)))).2 (by decide) (by decide) ?_
  refine wal X0 hx hby rfl d31_11 rfl rfl ?_
  refine wil X0 hx hby rfl d31_12 rfl ?_
  refine wal X0 hx hby rfl d31_13 rfl (own_obR PE6) ?_
  refine st1 _ ?_
  refine wal X1 hx hby rfl d31_15 rfl rfl ?_
  refine wil X1 hx hby rfl d31_16 rfl ?_
  refine wic X1 hx hby rfl d31_17 ?_
  refine Own.iadd X1.here hx rfl (hb hby d31_18) rfl (by decide : ((2 : Int32) + (1 : Int32)) = (3 : Int32)) ?_
  refine st4 _ ?_
  exact X4.returnOut hx hret (hb hby d31_22) hr
def Qrm112 (Z : State) (a1 : Addr) (a2 : Addr) (ck3 : ClassId) (a4 : Value) (a5 : Value) (a6 : Value) (h0 : Heap) (n0 : Nat) (v : Option Value) (h : Heap) (L : List Loc) : Prop := v = some (vI 1) ∧ Fr n0 L ∧ Keep h0 h [a1, a2] ∧ Fld Z h a1 z6 "modCount" "I" (vI 3) ∧ Fld Z h a1 z0 z7 z4 (vR a2) ∧ Fld Z h a1 z0 "size" "I" (vI 3) ∧ Arv Z h a2 ck3 (.object z2) (10 : Int32) [a4, a5, a6, .null, .null, .null, .null, .null, .null, .null] .null
theorem rm112 (cx : Cx Z a0 w1 w2 w3 clw3 w4 kw4 w5 kw5) (a1 : Addr) (a2 : Addr) (ck3 : ClassId) (a4 : Value) (a5 : Value) (a6 : Value) (O0 : Old Z n0 h0) (PE1 : Exa Z h0 a1 z0) (PF2 : Fld Z h0 a1 z6 "modCount" "I" (vI 2)) (PF3 : Fld Z h0 a1 z0 z7 z4 (vR a2)) (PF4 : Fld Z h0 a1 z0 "size" "I" (vI 2)) (PV5 : Arv Z h0 a2 ck3 (.object z2) (10 : Int32) [a4, a5, .null, .null, .null, .null, .null, .null, .null, .null] .null) (gn6 : n0 ≤ a1) (PE7 : ObV Z h0 a6) (pne8 : a2 ≠ a1) (Ov9 : Ovr Z ck3 z2) (gn10 : n0 ≤ a2) : Ct l Z ⟨z0, "add", z15⟩ jdk_38_method_25_code 2 (some .boolean) ⟨1, 0, 0, 15⟩ #[(vR a1), a6] h0 (Qrm112 Z a1 a2 ck3 a4 a5 a6 h0 n0) := by
  obtain ⟨hw, hj, hS⟩ := id cx
  refine own_bd (plainFor_of_name pn122) (fun m => ef726 m a1 a6 (own_obR PE7)) fun p e s m below meth c s₁ hret hlk hZ hx hby hml hown hnm X0 e0 => ?_
  have N0 := Fr.nil n0
  obtain ⟨T1, X1, e1, st1⟩ := getF X0 hx hZ hown (host := "") (Or.inl (hw _ m178)) (Via.of (hw _ m179)) e0 PF2 (g := (mkF m 2 #[sR a1, .val a6] [(vR a1), (vR a1)])) rfl rfl (hb hby d30_2)
  obtain ⟨T2, h2, L'2, X2, e2, W2, Fw2, O2, K2, N2, st2⟩ := own_put X1 hx hZ hown (host := "") (Or.inl (hw _ m178)) (Via.of (hw _ m179)) e1 O0 (Keep.refl h0 [a1, a2]) N0 gn6 (Or.inl (List.mem_of_getElem? (i := 0) rfl)) PF2 PE1 (Or.inl (hw _ m161)) (hw _ m142) (ty := .int) (by decide) rfl rfl (g := (mkF m 7 #[sR a1, .val a6] [(vI 3), (vR a1)])) rfl rfl (hb hby d30_7)
  have f3 : ObV Z h2 a6 := (own_obW PE7 W2)
  have f4 : Fld Z h2 a1 z0 z7 z4 (vR a2) := (PF3.other W2 (Or.inr (slot_ne (Or.inl (hw _ m164)) (Or.inl (hw _ m161)) (by decide) (t := (.array (.object z2))) (t' := .int) (by decide) (by decide))))
  obtain ⟨T5, X5, e5, st5⟩ := getF X2 hx hZ hown (host := "") (Or.inl (hw _ m163)) Via.refl e2 f4 (g := (mkF m 13 #[sR a1, .val a6] [(vR a1), a6, (vR a1)])) rfl rfl (hb hby d30_13)
  have f6 : Fld Z h2 a1 z0 "size" "I" (vI 2) := (PF4.other W2 (Or.inr (slot_ne (Or.inl (hw _ m181)) (Or.inl (hw _ m161)) (by decide) (t := .int) (t' := .int) (by decide) (by decide))))
  obtain ⟨T7, X7, e7, st7⟩ := getF X5 hx hZ hown (host := "") (Or.inl (hw _ m180)) Via.refl e5 f6 (g := (mkF m 17 #[sR a1, .val a6] [(vR a1), (vR a2), a6, (vR a1)])) rfl rfl (hb hby d30_17)
  have f9 : Arv Z h2 a2 ck3 (.object z2) (10 : Int32) [a4, a5, .null, .null, .null, .null, .null, .null, .null, .null] .null := (PV5.other W2 pne8)
  have f10 : Exa Z h2 a1 z0 := (PE1.wr W2)
  obtain ⟨_, T8, L8, ⟨rfl, N8q, Kq8, q8_0, q8_1, q8_2, q8_3⟩, X8, st8⟩ := own_private X7 hx hZ (W := 0) hown (hw _ m182) (hw _ m183) (mvT hZ (hw _ m185)) (hw _ m184) (hw _ m143) (hw _ m186) (by decide) (rm111 cx a2 ck3 a4 a5 a1 a6 O2 f9 f10 Fw2 f4 f6 f3 Ov9 gn10 (Ne.symm pne8) gn6) e7 f10 (g := (mkF m 20 #[sR a1, .val a6] [(vI 2), (vR a2), a6, (vR a1)])) rfl hml rfl (rest := []) (lenOf pd640 rfl) rfl rfl rfl (hb hby d30_20) (by decide)
  have N8 := Fr.app N2 N8q
  have O8 : Old Z n0 T8.heap := O2.keep Kq8 (allS gn10 (allS gn6 all0))
  have K8 : Keep h0 T8.heap [a1, a2] := K2.trans Kq8 (allS (Or.inl (List.mem_of_getElem? (i := 1) rfl)) (allS (Or.inl (List.mem_of_getElem? (i := 0) rfl)) all0))
  refine own_end X8 hlk (v := some (vI 1)) (own_hv hret) (by decide) ⟨rfl, N8, K8, q8_1, q8_2, q8_3, q8_0⟩ fun fs hr => ?_
  show St p e below s₁ (mkF m 0 #[sR a1, .val a6] []) _
  refine wal X0 hx hby rfl d30_0 rfl rfl ?_
  refine wdu X0 hx hby rfl d30_1 rfl rfl ?_
  refine st1 _ ?_
  refine wic X1 hx hby rfl d30_5 ?_
  refine Own.iadd X1.here hx rfl (hb hby d30_6) rfl (by decide : ((2 : Int32) + (1 : Int32)) = (3 : Int32)) ?_
  refine st2 _ ?_
  refine wal X2 hx hby rfl d30_10 rfl rfl ?_
  refine wal X2 hx hby rfl d30_11 rfl (own_obR f3) ?_
  refine wal X2 hx hby rfl d30_12 rfl rfl ?_
  refine st5 _ ?_
  refine wal X5 hx hby rfl d30_16 rfl rfl ?_
  refine st7 _ ?_
  refine st8 _ ?_
  refine wic X8 hx hby rfl d30_23 ?_
  exact retN X8 hx (t := .boolean) hret (by simp) (hb hby d30_24) hr
def Qrm113 (Z : State) (a3 : Addr) (h0 : Heap) (n0 : Nat) (v : Option Value) (h : Heap) (L : List Loc) : Prop := v = some (vR a3) ∧ Fr n0 L ∧ h = h0
theorem rm113 (cx : Cx Z a0 w1 w2 w3 clw3 w4 kw4 w5 kw5) (p1 : Int32) (p2 : Int32) (a3 : Addr) (O0 : Old Z n0 h0) : Ct l Z ⟨z9, "slot", z19⟩ method_3_code 6 (some (.object z2)) ⟨0, 0, 0, 0⟩ #[(vI 3), (vI 3), (vI p1), (vI p2), (vR a3)] h0 (Qrm113 Z a3 h0 n0) := by
  obtain ⟨hw, hj, hS⟩ := id cx
  refine own_bd (plainFor_of_name pn127) (fun m => ef128 m 3 3 p1 p2 a3) fun p e s m below meth c s₁ hret hlk hZ hx hby hml hown hnm X0 e0 => ?_
  have N0 := Fr.nil n0
  refine own_end X0 hlk (v := some (vR a3)) (own_hv hret) (by decide) (by rw [e0]; exact ⟨rfl, N0, rfl⟩) fun fs hr => ?_
  show St p e below s₁ (mkF m 0 #[sI 3, sI 3, sI p1, sI p2, sR a3, sU] []) _
  refine wil X0 hx hby rfl d29_0 rfl ?_
  refine wic X0 hx hby rfl d29_1 ?_
  refine wil X0 hx hby rfl d29_2 rfl ?_
  refine Own.imul X0.here hx rfl (hb hby d29_3) rfl (by decide : ((2 : Int32) * (3 : Int32)) = (6 : Int32)) ?_
  refine XS.iushr X0.here hx rfl (hb hby d29_4) rfl ?_
  refine wic X0 hx hby rfl d29_5 ?_
  refine XS.iand X0.here hx rfl (hb hby d29_6) rfl ?_
  refine wiS X0 hx hby rfl d29_7 rfl (l' := #[sI 3, sI 3, sI p1, sI p2, sR a3, sI (((p1.toUInt32 >>> ((6 : Int32) &&& 31).toUInt32).toInt32) &&& (3 : Int32))]) rfl ?_
  refine wil X0 hx hby rfl d29_9 rfl ?_
  refine wil X0 hx hby rfl d29_10 rfl ?_
  refine wcy X0 hx hby rfl (pc0 := 11) (pc' := 19) rfl d29_11 rfl (teq (by decide : (3 : Int32) = (3 : Int32))).1 (by decide) (by decide) ?_
  refine waL X0 hx hby rfl d29_19 rfl rfl ?_
  exact retOut X0 hx hret rfl (Or.inr (Or.inr (Or.inr (Or.inr ⟨rfl, rfl, rfl⟩)))) (hb hby d29_21) hr
def Qrm114 (Z : State) (a1 : Addr) (ck2 : ClassId) (a3 : Value) (a4 : Value) (a5 : Value) (a6 : Addr) (a7 : Addr) (h0 : Heap) (n0 : Nat) (v : Option Value) (h : Heap) (L : List Loc) : Prop := v = none ∧ Fr n0 L ∧ Keep h0 h [a1, a6] ∧ Arv Z h a1 ck2 (.object z2) (10 : Int32) [a3, a4, a5, (vR a7), .null, .null, .null, .null, .null, .null] .null ∧ Fld Z h a6 z6 "modCount" "I" (vI 4) ∧ Fld Z h a6 z0 z7 z4 (vR a1) ∧ Fld Z h a6 z0 "size" "I" (vI 4)
theorem rm114 (cx : Cx Z a0 w1 w2 w3 clw3 w4 kw4 w5 kw5) (a1 : Addr) (ck2 : ClassId) (a3 : Value) (a4 : Value) (a5 : Value) (a6 : Addr) (a7 : Addr) (O0 : Old Z n0 h0) (PV1 : Arv Z h0 a1 ck2 (.object z2) (10 : Int32) [a3, a4, a5, .null, .null, .null, .null, .null, .null, .null] .null) (PE2 : Exa Z h0 a6 z0) (PF3 : Fld Z h0 a6 z6 "modCount" "I" (vI 4)) (PF4 : Fld Z h0 a6 z0 z7 z4 (vR a1)) (PF5 : Fld Z h0 a6 z0 "size" "I" (vI 3)) (Ov6 : Ovr Z ck2 z2) (PE7 : Exa Z h0 a7 z5) (gn8 : n0 ≤ a1) (pne9 : a6 ≠ a1) (gn10 : n0 ≤ a6) : Ct l Z ⟨z0, "add", z12⟩ jdk_38_method_24_code 4 none ⟨0, 0, 0, 0⟩ #[(vR a6), (vR a7), (vR a1), (vI 3)] h0 (Qrm114 Z a1 ck2 a3 a4 a5 a6 a7 h0 n0) := by
  obtain ⟨hw, hj, hS⟩ := id cx
  refine own_bd (plainFor_of_name pn122) (fun m => ef638 m a6 a7 a1 3) fun p e s m below meth c s₁ hret hlk hZ hx hby hml hown hnm X0 e0 => ?_
  have N0 := Fr.nil n0
  obtain ⟨T1, h1, L'1, X1, e1, W1, V1, O1, K1, N1, st1⟩ := own_stR X0 hx hZ e0 PV1 O0 (Keep.refl h0 [a1, a6]) N0 gn8 (Or.inl (List.mem_of_getElem? (i := 0) rfl)) (j := (3 : Int32)) 3 (by decide) (Nat.le_of_ble_eq_true rfl) (vs' := [a3, a4, a5, (vR a7), .null, .null, .null, .null, .null, .null]) rfl rfl rfl (Or.inr ⟨_, _, rfl, Ov6, (Ins.of_exa PE7 (hw _ m200))⟩) (g := (mkF m 14 #[sR a6, sR a7, sR a1, sI 3] [(vR a7), (vI 3), (vR a1)])) rfl rfl (hb hby d31_14)
  have f2 : Fld Z h1 a6 z0 "size" "I" (vI 3) := (PF5.other W1 (Or.inl pne9))
  have f3 : Exa Z h1 a6 z0 := (PE2.wr W1)
  obtain ⟨T4, h4, L'4, X4, e4, W4, Fw4, O4, K4, N4, st4⟩ := own_put X1 hx hZ hown (host := "") (Or.inl (hw _ m180)) Via.refl e1 O1 K1 N1 gn10 (Or.inl (List.mem_of_getElem? (i := 1) rfl)) f2 f3 (Or.inl (hw _ m181)) (hw _ m142) (ty := .int) (by decide) rfl rfl (g := (mkF m 19 #[sR a6, sR a7, sR a1, sI 3] [(vI 4), (vR a6)])) rfl rfl (hb hby d31_19)
  have f5 : Arv Z h4 a1 ck2 (.object z2) (10 : Int32) [a3, a4, a5, (vR a7), .null, .null, .null, .null, .null, .null] .null := (V1.other W4 (Ne.symm pne9))
  have f6 : Fld Z h4 a6 z6 "modCount" "I" (vI 4) := ((PF3.other W1 (Or.inl pne9)).other W4 (Or.inr (slot_ne (Or.inl (hw _ m161)) (Or.inl (hw _ m181)) (by decide) (t := .int) (t' := .int) (by decide) (by decide))))
  have f7 : Fld Z h4 a6 z0 z7 z4 (vR a1) := ((PF4.other W1 (Or.inl pne9)).other W4 (Or.inr (slot_ne (Or.inl (hw _ m164)) (Or.inl (hw _ m181)) (by decide) (t := (.array (.object z2))) (t' := .int) (by decide) (by decide))))
  refine own_end X4 hlk (v := none) (fun _ => rfl) (by decide) (by rw [e4]; exact ⟨rfl, N4, K4, f5, f6, f7, Fw4⟩) fun fs hr => ?_
  show St p e below s₁ (mkF m 0 #[sR a6, sR a7, sR a1, sI 3] []) _
  refine wil X0 hx hby rfl d31_0 rfl ?_
  refine wal X0 hx hby rfl d31_1 rfl rfl ?_
  refine own_alen X0 hx hZ e0 PV1 (g := (mkF m 2 #[sR a6, sR a7, sR a1, sI 3] [(vR a1), (vI 3)])) rfl rfl (hb hby d31_2) ?_
  refine wcy X0 hx hby rfl (pc0 := 3) (pc' := 11) rfl d31_3 rfl (feq (by decide : ¬ ((3 : Int32) = (10 : Int32)))).2 (by decide) (by decide) ?_
  refine wal X0 hx hby rfl d31_11 rfl rfl ?_
  refine wil X0 hx hby rfl d31_12 rfl ?_
  refine wal X0 hx hby rfl d31_13 rfl rfl ?_
  refine st1 _ ?_
  refine wal X1 hx hby rfl d31_15 rfl rfl ?_
  refine wil X1 hx hby rfl d31_16 rfl ?_
  refine wic X1 hx hby rfl d31_17 ?_
  refine Own.iadd X1.here hx rfl (hb hby d31_18) rfl (by decide : ((3 : Int32) + (1 : Int32)) = (4 : Int32)) ?_
  refine st4 _ ?_
  exact X4.returnOut hx hret (hb hby d31_22) hr
def Qrm115 (Z : State) (a1 : Addr) (a2 : Addr) (ck3 : ClassId) (a4 : Value) (a5 : Value) (a6 : Value) (a7 : Addr) (h0 : Heap) (n0 : Nat) (v : Option Value) (h : Heap) (L : List Loc) : Prop := v = some (vI 1) ∧ Fr n0 L ∧ Keep h0 h [a1, a2] ∧ Fld Z h a1 z6 "modCount" "I" (vI 4) ∧ Fld Z h a1 z0 z7 z4 (vR a2) ∧ Fld Z h a1 z0 "size" "I" (vI 4) ∧ Arv Z h a2 ck3 (.object z2) (10 : Int32) [a4, a5, a6, (vR a7), .null, .null, .null, .null, .null, .null] .null
theorem rm115 (cx : Cx Z a0 w1 w2 w3 clw3 w4 kw4 w5 kw5) (a1 : Addr) (a2 : Addr) (ck3 : ClassId) (a4 : Value) (a5 : Value) (a6 : Value) (a7 : Addr) (O0 : Old Z n0 h0) (PE1 : Exa Z h0 a1 z0) (PF2 : Fld Z h0 a1 z6 "modCount" "I" (vI 3)) (PF3 : Fld Z h0 a1 z0 z7 z4 (vR a2)) (PF4 : Fld Z h0 a1 z0 "size" "I" (vI 3)) (PV5 : Arv Z h0 a2 ck3 (.object z2) (10 : Int32) [a4, a5, a6, .null, .null, .null, .null, .null, .null, .null] .null) (gn6 : n0 ≤ a1) (pne7 : a2 ≠ a1) (Ov8 : Ovr Z ck3 z2) (PE9 : Exa Z h0 a7 z5) (gn10 : n0 ≤ a2) : Ct l Z ⟨z0, "add", z15⟩ jdk_38_method_25_code 2 (some .boolean) ⟨1, 0, 0, 15⟩ #[(vR a1), (vR a7)] h0 (Qrm115 Z a1 a2 ck3 a4 a5 a6 a7 h0 n0) := by
  obtain ⟨hw, hj, hS⟩ := id cx
  refine own_bd (plainFor_of_name pn122) (fun m => ef152 m a1 a7) fun p e s m below meth c s₁ hret hlk hZ hx hby hml hown hnm X0 e0 => ?_
  have N0 := Fr.nil n0
  obtain ⟨T1, X1, e1, st1⟩ := getF X0 hx hZ hown (host := "") (Or.inl (hw _ m178)) (Via.of (hw _ m179)) e0 PF2 (g := (mkF m 2 #[sR a1, sR a7] [(vR a1), (vR a1)])) rfl rfl (hb hby d30_2)
  obtain ⟨T2, h2, L'2, X2, e2, W2, Fw2, O2, K2, N2, st2⟩ := own_put X1 hx hZ hown (host := "") (Or.inl (hw _ m178)) (Via.of (hw _ m179)) e1 O0 (Keep.refl h0 [a1, a2]) N0 gn6 (Or.inl (List.mem_of_getElem? (i := 0) rfl)) PF2 PE1 (Or.inl (hw _ m161)) (hw _ m142) (ty := .int) (by decide) rfl rfl (g := (mkF m 7 #[sR a1, sR a7] [(vI 4), (vR a1)])) rfl rfl (hb hby d30_7)
  have f3 : Fld Z h2 a1 z0 z7 z4 (vR a2) := (PF3.other W2 (Or.inr (slot_ne (Or.inl (hw _ m164)) (Or.inl (hw _ m161)) (by decide) (t := (.array (.object z2))) (t' := .int) (by decide) (by decide))))
  obtain ⟨T4, X4, e4, st4⟩ := getF X2 hx hZ hown (host := "") (Or.inl (hw _ m163)) Via.refl e2 f3 (g := (mkF m 13 #[sR a1, sR a7] [(vR a1), (vR a7), (vR a1)])) rfl rfl (hb hby d30_13)
  have f5 : Fld Z h2 a1 z0 "size" "I" (vI 3) := (PF4.other W2 (Or.inr (slot_ne (Or.inl (hw _ m181)) (Or.inl (hw _ m161)) (by decide) (t := .int) (t' := .int) (by decide) (by decide))))
  obtain ⟨T6, X6, e6, st6⟩ := getF X4 hx hZ hown (host := "") (Or.inl (hw _ m180)) Via.refl e4 f5 (g := (mkF m 17 #[sR a1, sR a7] [(vR a1), (vR a2), (vR a7), (vR a1)])) rfl rfl (hb hby d30_17)
  have f8 : Arv Z h2 a2 ck3 (.object z2) (10 : Int32) [a4, a5, a6, .null, .null, .null, .null, .null, .null, .null] .null := (PV5.other W2 pne7)
  have f9 : Exa Z h2 a1 z0 := (PE1.wr W2)
  have f10 : Exa Z h2 a7 z5 := (PE9.wr W2)
  obtain ⟨_, T7, L7, ⟨rfl, N7q, Kq7, q7_0, q7_1, q7_2, q7_3⟩, X7, st7⟩ := own_private X6 hx hZ (W := 0) hown (hw _ m182) (hw _ m183) (mvT hZ (hw _ m185)) (hw _ m184) (hw _ m143) (hw _ m186) (by decide) (rm114 cx a2 ck3 a4 a5 a6 a1 a7 O2 f8 f9 Fw2 f3 f5 Ov8 f10 gn10 (Ne.symm pne7) gn6) e6 f9 (g := (mkF m 20 #[sR a1, sR a7] [(vI 3), (vR a2), (vR a7), (vR a1)])) rfl hml rfl (rest := []) (lenOf pd640 rfl) rfl rfl rfl (hb hby d30_20) (by decide)
  have N7 := Fr.app N2 N7q
  have O7 : Old Z n0 T7.heap := O2.keep Kq7 (allS gn10 (allS gn6 all0))
  have K7 : Keep h0 T7.heap [a1, a2] := K2.trans Kq7 (allS (Or.inl (List.mem_of_getElem? (i := 1) rfl)) (allS (Or.inl (List.mem_of_getElem? (i := 0) rfl)) all0))
  refine own_end X7 hlk (v := some (vI 1)) (own_hv hret) (by decide) ⟨rfl, N7, K7, q7_1, q7_2, q7_3, q7_0⟩ fun fs hr => ?_
  show St p e below s₁ (mkF m 0 #[sR a1, sR a7] []) _
  refine wal X0 hx hby rfl d30_0 rfl rfl ?_
  refine wdu X0 hx hby rfl d30_1 rfl rfl ?_
  refine st1 _ ?_
  refine wic X1 hx hby rfl d30_5 ?_
  refine Own.iadd X1.here hx rfl (hb hby d30_6) rfl (by decide : ((3 : Int32) + (1 : Int32)) = (4 : Int32)) ?_
  refine st2 _ ?_
  refine wal X2 hx hby rfl d30_10 rfl rfl ?_
  refine wal X2 hx hby rfl d30_11 rfl rfl ?_
  refine wal X2 hx hby rfl d30_12 rfl rfl ?_
  refine st4 _ ?_
  refine wal X4 hx hby rfl d30_16 rfl rfl ?_
  refine st6 _ ?_
  refine st7 _ ?_
  refine wic X7 hx hby rfl d30_23 ?_
  exact retN X7 hx (t := .boolean) hret (by simp) (hb hby d30_24) hr
def Qrm116 (Z : State) (h0 : Heap) (n0 : Nat) (v : Option Value) (h : Heap) (L : List Loc) : Prop := v = some (vI 3) ∧ Fr n0 L ∧ h = h0
theorem rm116 (cx : Cx Z a0 w1 w2 w3 clw3 w4 kw4 w5 kw5) (O0 : Old Z n0 h0) : Ct l Z ⟨z22, "checkIndex", "(II)I"⟩ jdk_31_method_17_code 2 (some .int) ⟨1, 0, 0, 14⟩ #[(vI 3), (vI 4)] h0 (Qrm116 Z h0 n0) := by
  obtain ⟨hw, hj, hS⟩ := id cx
  refine own_bd (plainFor_of_name pn686) (fun m => ef261 m 3 4) fun p e s m below meth c s₁ hret hlk hZ hx hby hml hown hnm X0 e0 => ?_
  have N0 := Fr.nil n0
  obtain ⟨_, T1, L1, ⟨rfl, N1q, e1⟩, X1, st1⟩ := cS X0 hx hZ (W := 0) hown (cw33 cx) (rm49 cx 3 4 O0 (by decide : ¬ ((3 : Int32) < (0 : Int32))) (by decide : (3 : Int32) < (4 : Int32))) e0 (g := (mkF m 3 #[sI 3, sI 4] [.null, (vI 4), (vI 3)])) rfl hml rfl (rest := []) rfl rfl rfl rfl (hb hby d37_3) (by decide)
  refine own_end X1 hlk (v := some (vI 3)) (own_hv hret) (by decide) (by rw [e1]; exact ⟨rfl, (Fr.app N0 N1q), rfl⟩) fun fs hr => ?_
  show St p e below s₁ (mkF m 0 #[sI 3, sI 4] []) _
  refine wil X0 hx hby rfl d37_0 rfl ?_
  refine wil X0 hx hby rfl d37_1 rfl ?_
  refine wan X0 hx hby rfl d37_2 ?_
  refine st1 _ ?_
  exact retOut X1 hx hret rfl (Or.inl ⟨rfl, Or.inl rfl, _, rfl⟩) (hb hby d37_6) hr
def Qrm117 (Z : State) (a7 : Addr) (h0 : Heap) (n0 : Nat) (v : Option Value) (h : Heap) (L : List Loc) : Prop := v = some (vR a7) ∧ Fr n0 L ∧ h = h0
theorem rm117 (cx : Cx Z a0 w1 w2 w3 clw3 w4 kw4 w5 kw5) (a1 : Addr) (a2 : Addr) (ck3 : ClassId) (a4 : Value) (a5 : Value) (a6 : Value) (a7 : Addr) (O0 : Old Z n0 h0) (PF1 : Fld Z h0 a1 z0 z7 z4 (vR a2)) (PV2 : Arv Z h0 a2 ck3 (.object z2) (10 : Int32) [a4, a5, a6, (vR a7), .null, .null, .null, .null, .null, .null] .null) : Ct l Z ⟨z0, z7, z10⟩ jdk_38_method_18_code 2 (some (.object z2)) ⟨0, 0, 0, 0⟩ #[(vR a1), (vI 3)] h0 (Qrm117 Z a7 h0 n0) := by
  obtain ⟨hw, hj, hS⟩ := id cx
  refine own_bd (plainFor_of_name pn122) (fun m => ef55 m a1 3) fun p e s m below meth c s₁ hret hlk hZ hx hby hml hown hnm X0 e0 => ?_
  have N0 := Fr.nil n0
  obtain ⟨T1, X1, e1, st1⟩ := getF X0 hx hZ hown (host := "") (Or.inl (hw _ m163)) Via.refl e0 PF1 (g := (mkF m 1 #[sR a1, sI 3] [(vR a1)])) rfl rfl (hb hby d38_1)
  refine own_end X1 hlk (v := some (vR a7)) (own_hv hret) (by decide) (by rw [e1]; exact ⟨rfl, N0, rfl⟩) fun fs hr => ?_
  show St p e below s₁ (mkF m 0 #[sR a1, sI 3] []) _
  refine wal X0 hx hby rfl d38_0 rfl rfl ?_
  refine st1 _ ?_
  refine wil X1 hx hby rfl d38_4 rfl ?_
  refine own_aaload X1 hx hZ e1 PV2 (j := 3) (by decide) (v := (vR a7)) rfl rfl (g := (mkF m 5 #[sR a1, sI 3] [(vI 3), (vR a2)])) rfl rfl (hb hby d38_5) ?_
  exact retOut X1 hx hret rfl (Or.inr (Or.inr (Or.inr (Or.inr ⟨rfl, rfl, rfl⟩)))) (hb hby d38_6) hr
def Qrm118 (Z : State) (a7 : Addr) (h0 : Heap) (n0 : Nat) (v : Option Value) (h : Heap) (L : List Loc) : Prop := v = some (vR a7) ∧ Fr n0 L ∧ h = h0
theorem rm118 (cx : Cx Z a0 w1 w2 w3 clw3 w4 kw4 w5 kw5) (a1 : Addr) (a2 : Addr) (ck3 : ClassId) (a4 : Value) (a5 : Value) (a6 : Value) (a7 : Addr) (O0 : Old Z n0 h0) (PF1 : Fld Z h0 a1 z0 "size" "I" (vI 4)) (PF2 : Fld Z h0 a1 z0 z7 z4 (vR a2)) (PV3 : Arv Z h0 a2 ck3 (.object z2) (10 : Int32) [a4, a5, a6, (vR a7), .null, .null, .null, .null, .null, .null] .null) (PE4 : Exa Z h0 a1 z0) : Ct l Z ⟨z0, "get", z10⟩ jdk_38_method_20_code 2 (some (.object z2)) ⟨2, 0, 0, 27⟩ #[(vR a1), (vI 3)] h0 (Qrm118 Z a7 h0 n0) := by
  obtain ⟨hw, hj, hS⟩ := id cx
  refine own_bd (plainFor_of_name pn122) (fun m => ef55 m a1 3) fun p e s m below meth c s₁ hret hlk hZ hx hby hml hown hnm X0 e0 => ?_
  have N0 := Fr.nil n0
  obtain ⟨T1, X1, e1, st1⟩ := getF X0 hx hZ hown (host := "") (Or.inl (hw _ m180)) Via.refl e0 PF1 (g := (mkF m 2 #[sR a1, sI 3] [(vR a1), (vI 3)])) rfl rfl (hb hby d36_2)
  obtain ⟨_, T2, L2, ⟨rfl, N2q, e2⟩, X2, st2⟩ := cS X1 hx hZ (W := 0) hown (cw34 cx) (rm116 cx O0) e1 (g := (mkF m 5 #[sR a1, sI 3] [(vI 4), (vI 3)])) rfl hml rfl (rest := []) rfl rfl rfl rfl (hb hby d36_5) (by decide)
  obtain ⟨_, T3, L3, ⟨rfl, N3q, e3⟩, X3, st3⟩ := cV X2 hx hZ (W := 0) hown (cw35 cx) (rm117 cx a1 a2 ck3 a4 a5 a6 a7 O0 PF2 PV3) e2 PE4 (g := (mkF m 11 #[sR a1, sI 3] [(vI 3), (vR a1)])) rfl hml rfl (rest := []) rfl rfl rfl rfl (hb hby d36_11) (by decide)
  refine own_end X3 hlk (v := some (vR a7)) (own_hv hret) (by decide) (by rw [e3]; exact ⟨rfl, (Fr.app (Fr.app N0 N2q) N3q), rfl⟩) fun fs hr => ?_
  show St p e below s₁ (mkF m 0 #[sR a1, sI 3] []) _
  refine wil X0 hx hby rfl d36_0 rfl ?_
  refine wal X0 hx hby rfl d36_1 rfl rfl ?_
  refine st1 _ ?_
  refine st2 _ ?_
  refine XS.pop X2.here hx rfl (hb hby d36_8) rfl rfl ?_
  refine wal X2 hx hby rfl d36_9 rfl rfl ?_
  refine wil X2 hx hby rfl d36_10 rfl ?_
  refine st3 _ ?_
  exact retOut X3 hx hret rfl (Or.inr (Or.inr (Or.inr (Or.inr ⟨rfl, rfl, rfl⟩)))) (hb hby d36_14) hr
def Qrm119 (Z : State) (a7 : Addr) (h0 : Heap) (n0 : Nat) (v : Option Value) (h : Heap) (L : List Loc) : Prop := v = some (vR a7) ∧ Fr n0 L ∧ h = h0
theorem rm119 (cx : Cx Z a0 w1 w2 w3 clw3 w4 kw4 w5 kw5) (a1 : Addr) (a2 : Addr) (ck3 : ClassId) (a4 : Value) (a5 : Value) (a6 : Value) (a7 : Addr) (O0 : Old Z n0 h0) (PF1 : Fld Z h0 a1 z0 "size" "I" (vI 4)) (PE2 : Exa Z h0 a1 z0) (PF3 : Fld Z h0 a1 z0 z7 z4 (vR a2)) (PV4 : Arv Z h0 a2 ck3 (.object z2) (10 : Int32) [a4, a5, a6, (vR a7), .null, .null, .null, .null, .null, .null] .null) (PE5 : Exa Z h0 a7 z5) : Ct l Z ⟨z8, "element", z14⟩ prog_16_method_9_code 3 (some (.object z16)) ⟨3, 0, 0, 40⟩ #[(vR a1), (vI 3)] h0 (Qrm119 Z a7 h0 n0) := by
  obtain ⟨hw, hj, hS⟩ := id cx
  refine own_bd (plainFor_of_name pn546) (fun m => ef503 m a1 3) fun p e s m below meth c s₁ hret hlk hZ hx hby hml hown hnm X0 e0 => ?_
  have N0 := Fr.nil n0
  obtain ⟨_, T1, L1, ⟨rfl, N1q, e1⟩, X1, st1⟩ := own_iface X0 hx hZ (W := 1) hown (hw _ m204) (hw _ m205) (mvT hZ (hw _ m206)) (hw _ m207) (hw _ m208) (mvT hZ (hw _ m209)) (mvT hZ (hw _ m210)) (hw _ m176) (hw _ m143) (hw _ m211) (by decide) (rm94 cx a1 O0 PF1) e0 PE2 (g := (mkF m 2 #[sR a1, sI 3, sU] [(vR a1), (vI 3)])) rfl hml rfl (rest := [(vI 3)]) (lenOf pd200 rfl) rfl rfl rfl (hb hby d34_2) (by decide)
  obtain ⟨_, T2, L2, ⟨rfl, N2q, e2⟩, X2, st2⟩ := own_iface X1 hx hZ (W := 0) hown (hw _ m212) (hw _ m213) (mvT hZ (hw _ m214)) (hw _ m215) (hw _ m216) (mvT hZ (hw _ m217)) (mvT hZ (hw _ m218)) (hw _ m176) (hw _ m143) (hw _ m219) (by decide) (rm118 cx a1 a2 ck3 a4 a5 a6 a7 O0 PF1 PF3 PV4 PE2) e1 PE2 (g := (mkF m 12 #[sR a1, sI 3, sU] [(vI 3), (vR a1)])) rfl hml rfl (rest := []) (lenOf pd521 rfl) rfl rfl rfl (hb hby d34_12) (by decide)
  obtain ⟨T3, X3, e3, st3⟩ := instY X2 hx hZ hown (hw _ m136) e2 (Ins.of_exa PE5 (hw _ m137)) (g := (mkF m 23 #[sR a1, sI 3, sR a7] [(vR a7)])) rfl rfl (hb hby d34_23)
  obtain ⟨_, T4, L4, ⟨rfl, N4q, e4⟩, X4, st4⟩ := cS X3 hx hZ (W := 0) hown (cw29 cx) (rm40 cx a7 O0 PE5) e3 (g := (mkF m 44 #[sR a1, sI 3, sR a7] [(vR a7)])) rfl hml rfl (rest := []) rfl rfl rfl rfl (hb hby d34_44) (by decide)
  refine own_end X4 hlk (v := some (vR a7)) (own_hv hret) (by decide) (by rw [e4]; exact ⟨rfl, (Fr.app (Fr.app (Fr.app N0 N1q) N2q) N4q), rfl⟩) fun fs hr => ?_
  show St p e below s₁ (mkF m 0 #[sR a1, sI 3, sU] []) _
  refine wil X0 hx hby rfl d34_0 rfl ?_
  refine wal X0 hx hby rfl d34_1 rfl rfl ?_
  refine st1 _ ?_
  refine wcn X1 hx hby rfl d34_7 rfl (tlt (by decide : (3 : Int32) < (4 : Int32))).2.1 ?_
  refine wal X1 hx hby rfl d34_10 rfl rfl ?_
  refine wil X1 hx hby rfl d34_11 rfl ?_
  refine st2 _ ?_
  refine wgt X2 hx hby rfl (pc0 := 17) (pc' := 21) rfl d34_17 (by decide) (by decide) ?_
  refine was X2 hx hby rfl d34_21 rfl rfl (l' := #[sR a1, sI 3, sR a7]) rfl ?_
  refine wal X2 hx hby rfl d34_22 rfl rfl ?_
  refine st3 _ ?_
  refine wfy X3 hx hby rfl (pc0 := 26) (pc' := 43) rfl d34_26 rfl ((if0 _ _).trans (feq (by decide : ¬ ((1 : Int32) = (0 : Int32)))).2) (by decide) (by decide) ?_
  refine wal X3 hx hby rfl d34_43 rfl rfl ?_
  refine st4 _ ?_
  exact retOut X4 hx hret rfl (Or.inr (Or.inr (Or.inr (Or.inr ⟨rfl, rfl, rfl⟩)))) (hb hby d34_47) hr
def QL (n0 : Nat) (v : Option Value) (h : Heap) (L : List Loc) : Prop := v = some (.int (1 : Int32)) ∧ Fr n0 L
theorem rm0 (cx : Cx Z a0 w1 w2 w3 clw3 w4 kw4 w5 kw5) (ws : List Jvm.Cond) (i0 : Int32) (i1 : Int32) (i2 : Int32) (i3 : Int32) (h0 : Heap) (n0 : Nat) (O0 : Old Z n0 h0) :
    MetFree l x (head1 (Jvm.Cond.code x code maxLocals ret :: ws) room_1) (fun a U => a = #[(vI i0), (vI i1), (vI i2), (vI i3)] ∧ Z.Warmed39 U.vm ∧ U.heap = h0 ∧ CHv Z EL U.vm h0 ∧ ∀ x ∈ ([] : List Addr), Safe Z EL U.vm h0 x) (fun _ _ _ _ _ => True) (fun _ U o U' => ∃ v L, o = .returned v ∧ QL n0 v U'.heap L ∧ CHr Z EL U.vm U.heap U'.vm U'.heap ∧ ReturnedEndW U o U' L room_1.cells room_1.slots) := by
  refine MetFree.of_bodySF (plainFor_of_name pn127) hisR ?_
  intro p e s m args below meth c s₁ Bd hml0 hP hK
  obtain ⟨rfl, hZ, hh, H0, hsx⟩ := hP
  have hx := Bd.exec
  have hby := Bd.bytes
  have hret := Bd.returns
  have hlk := Bd.notSynchronized
  have hml : c.maxLocals = 13 := hml0
  have hown : s.vm.findClass z9 = some m.cls := findClass_of_methodNamed Bd.named
  have hnm := (name_of_methodNamed Bd.named Bd.method).1
  have X0 : Stand p l e room_1 (s.setVm s.vm) m #[(vI i0), (vI i1), (vI i2), (vI i3)] below meth c s₁ [] 0 0 := Stand.of_body Bd
  have e0 : s₁.heap = h0 := by rw [← hh, Bd.state]; rfl
  obtain ⟨hw, hj, hS⟩ := id cx
  have N0 := Fr.nil n0
  have hS0 : s.Since s.vm h0.size := (State.WarmedH.refl s).since _
  have C0 : CHr Z EL s.vm h0 s.vm h0 := CHr.refl H0
  obtain ⟨g0, hg0⟩ : ∃ g, g = entryFrame m #[(vI i0), (vI i1), (vI i2), (vI i3)] maxLocals := ⟨_, rfl⟩
  rw [← hg0]
  have pre0 : ∀ t, St p e below s₁ (mkF m 0 #[sI i0, sI i1, sI i2, sI i3, sU, sU, sU, sU, sU, sU, sU, sU, sU] []) t → St p e below s₁ g0 t := fun t k => castTop (hg0.trans (ef728 m i0 i1 i2 i3)) k
  show EndW EL Z p e s below room_1 (QL n0) _
  obtain ⟨x3, hx3⟩ : ∃ z, (i0 &&& (3 : Int32)) = z := ⟨_, rfl⟩
  have rx3 : 0 ≤ x3.toInt ∧ x3.toInt ≤ 3 := hx3 ▸ (own_mask i0 (3 : Int32) (by decide) : 0 ≤ ((i0 &&& (3 : Int32))).toInt ∧ ((i0 &&& (3 : Int32))).toInt ≤ 3)
  obtain ⟨x4, hx4⟩ : ∃ z, ((1 : Int32) + x3) = z := ⟨_, rfl⟩
  have rx4 : 1 ≤ x4.toInt ∧ x4.toInt ≤ 4 := hx4 ▸ (by have q0 := (by decide : ((1 : Int32)).toInt = 1); have q1 := rx3; have q2 := c_iadd (1 : Int32) x3; have q3 := own_rng ((1 : Int32) + x3); omega : 1 ≤ (((1 : Int32) + x3)).toInt ∧ (((1 : Int32) + x3)).toInt ≤ 4)
  obtain ⟨x10, hx10⟩ : ∃ z, (i1 &&& (2147483647 : Int32)) = z := ⟨_, rfl⟩
  have rx10 : 0 ≤ x10.toInt ∧ x10.toInt ≤ 2147483647 := hx10 ▸ (own_mask i1 (2147483647 : Int32) (by decide) : 0 ≤ ((i1 &&& (2147483647 : Int32))).toInt ∧ ((i1 &&& (2147483647 : Int32))).toInt ≤ 2147483647)
  have pre1 : ∀ t, St p e below s₁ (mkF m 11 #[sI i0, sI i1, sI i2, sI i3, sI x4, sU, sU, sU, sU, sU, sU, sU, sU] [(vI x10)]) t → St p e below s₁ g0 t := fun t kt => pre0 _ (by
      show St p e below s₁ (mkF m 0 #[sI i0, sI i1, sI i2, sI i3, sU, sU, sU, sU, sU, sU, sU, sU, sU] []) _
      refine wic X0 hx hby rfl at_0 ?_
      refine wil X0 hx hby rfl at_1 rfl ?_
      refine wic X0 hx hby rfl at_2 ?_
      refine Own.iand X0.here hx rfl (hb hby at_3) rfl hx3 ?_
      refine Own.iadd X0.here hx rfl (hb hby at_4) rfl hx4 ?_
      refine wiS X0 hx hby rfl at_5 rfl (l' := #[sI i0, sI i1, sI i2, sI i3, sI x4, sU, sU, sU, sU, sU, sU, sU, sU]) rfl ?_
      refine wil X0 hx hby rfl at_7 rfl ?_
      refine X0.ldcInt hx hown (mvT hZ (hw _ m0)) (g := (mkF m 8 #[sI i0, sI i1, sI i2, sI i3, sI x4, sU, sU, sU, sU, sU, sU, sU, sU] [(vI i1)])) rfl (hb hby at_8) _ ?_
      refine Own.iand X0.here hx rfl (hb hby at_10) rfl hx10 ?_
      exact kt)
  rcases en_130 x4 (by have q0 := (by decide : ((1 : Int32)).toInt = 1); have q1 := own_rng i0; have q2 := (by decide : ((3 : Int32)).toInt = 3); have q3 := (own_mask i0 (3 : Int32) (by decide) : 0 ≤ ((i0 &&& (3 : Int32))).toInt ∧ ((i0 &&& (3 : Int32))).toInt ≤ 3); have q4 := congrArg Int32.toInt hx3; have q5 := rx3; have q6 := c_iadd (1 : Int32) x3; have q7 := own_rng ((1 : Int32) + x3); have q8 := congrArg Int32.toInt hx4; have q9 := rx4; omega) with hp0 | hp0 | hp0 | hp0
  · obtain ⟨x13, hx13⟩ : ∃ z, (x10 % (1 : Int32)) = z := ⟨_, rfl⟩
    have rx13 : 0 ≤ x13.toInt ∧ x13.toInt ≤ 0 := hx13 ▸ (own_rem x10 (1 : Int32) 1 (by decide) (by have q0 := rx10; omega : 0 ≤ (x10).toInt ∧ (x10).toInt ≤ 2147483647) (by decide) : 0 ≤ ((x10 % (1 : Int32))).toInt ∧ ((x10 % (1 : Int32))).toInt ≤ 0)
    obtain ⟨sa1, T1, h1, k11, sb1, k1, X1, e1, E1, hS1, hk1, hZ1, hown1, A1, Fc1, Fv1, V1, la1, lb1, Cq1, -, hn1, st1⟩ := ldcCH X0 hx hZ hown (hw _ m1) (own_str hw hj) e0 hS0 (Nat.le_refl _) (own_EW hw hj) (List.mem_of_getElem? (i := 1) rfl) C0.1 (vs := [(.int (123 : Int32)), (.int (125 : Int32))]) (z := (2 : Int32)) ⟨by decide, by decide⟩ (by decide) (by decide) (g := (mkF m 16 #[sI i0, sI i1, sI i2, sI i3, sI x4, sI x13, sU, sU, sU, sU, sU, sU, sU] [])) rfl (hb hby at_16) (n := 8) (by decide) (by decide) (by decide) (by decide)
    have O1 : Old Z n0 h1 := O0.ext E1
    have K1 : Keep h0 h1 [] := (Keep.refl h0 []).ext E1
    have C1 := C0.trans Cq1
    obtain ⟨_, T2, L2, ⟨c2_0, rfl, N2q, Kq2, lo2_0, q2_0, q2_1, q2_2, q2_3⟩, hS2, hZ2, hown2, Cq2, X2, st2⟩ := cSW X1 hx hZ1 (W := 0) hown1 (cw30 cx) (rm41 cx sa1 sb1 k1 O1 Fv1 V1 Fc1 A1) e1 hS1 hk1 (own_EW hw hj) C1.1 own_sx0 (g := (mkF m 18 #[sI i0, sI i1, sI i2, sI i3, sI x4, sI x13, sU, sU, sU, sU, sU, sU, sU] [(vR sa1)])) rfl hml rfl (rest := []) rfl rfl rfl rfl (hb hby at_18) (by decide)
    have N2 := Fr.app N0 N2q
    have C2 := C1.trans Cq2
    have O2 : Old Z n0 T2.heap := O1.keep Kq2 all0
    have K2 : Keep h0 T2.heap [] := K1.trans Kq2 all0
    obtain ⟨sa3, T3, h3, k13, sb3, k3, X3, e3, E3, hS3, hk3, hZ3, hown3, A3, Fc3, Fv3, V3, la3, lb3, Cq3, -, hn3, st3⟩ := ldcCH X2 hx hZ2 hown2 (hw _ m1) (own_str hw hj) (rfl : T2.heap = T2.heap) hS2 (Nat.le_refl _) (own_EW hw hj) (List.mem_of_getElem? (i := 1) rfl) C2.1 (vs := [(.int (123 : Int32)), (.int (125 : Int32))]) (z := (2 : Int32)) ⟨by decide, by decide⟩ (by decide) (by decide) (g := (mkF m 23 #[sI i0, sI i1, sI i2, sI i3, sI x4, sI x13, sR c2_0, sU, sU, sU, sU, sU, sU] [])) rfl (hb hby at_23) (n := 8) (by decide) (by decide) (by decide) (by decide)
    have O3 : Old Z n0 h3 := O2.ext E3
    have K3 : Keep h0 h3 [] := K2.ext E3
    have C3 := C2.trans Cq3
    obtain ⟨_, T4, L4, ⟨c4_0, rfl, N4q, Kq4, lo4_0, q4_0, q4_1, q4_2, q4_3⟩, hS4, hZ4, hown4, Cq4, X4, st4⟩ := cSW X3 hx hZ3 (W := 0) hown3 (cw30 cx) (rm41 cx sa3 sb3 k3 O3 Fv3 V3 Fc3 A3) e3 hS3 hk3 (own_EW hw hj) C3.1 own_sx0 (g := (mkF m 25 #[sI i0, sI i1, sI i2, sI i3, sI x4, sI x13, sR c2_0, sU, sU, sU, sU, sU, sU] [(vR sa3)])) rfl hml rfl (rest := []) rfl rfl rfl rfl (hb hby at_25) (by decide)
    have N4 := Fr.app N2 N4q
    have C4 := C3.trans Cq4
    have O4 : Old Z n0 T4.heap := O3.keep Kq4 all0
    have K4 : Keep h0 T4.heap [] := K3.trans Kq4 all0
    obtain ⟨sa5, T5, h5, k15, sb5, k5, X5, e5, E5, hS5, hk5, hZ5, hown5, A5, Fc5, Fv5, V5, la5, lb5, Cq5, -, hn5, st5⟩ := ldcCH X4 hx hZ4 hown4 (hw _ m1) (own_str hw hj) (rfl : T4.heap = T4.heap) hS4 (Nat.le_refl _) (own_EW hw hj) (List.mem_of_getElem? (i := 1) rfl) C4.1 (vs := [(.int (123 : Int32)), (.int (125 : Int32))]) (z := (2 : Int32)) ⟨by decide, by decide⟩ (by decide) (by decide) (g := (mkF m 30 #[sI i0, sI i1, sI i2, sI i3, sI x4, sI x13, sR c2_0, sR c4_0, sU, sU, sU, sU, sU] [])) rfl (hb hby at_30) (n := 8) (by decide) (by decide) (by decide) (by decide)
    have O5 : Old Z n0 h5 := O4.ext E5
    have K5 : Keep h0 h5 [] := K4.ext E5
    have C5 := C4.trans Cq5
    obtain ⟨_, T6, L6, ⟨c6_0, rfl, N6q, Kq6, lo6_0, q6_0, q6_1, q6_2, q6_3⟩, hS6, hZ6, hown6, Cq6, X6, st6⟩ := cSW X5 hx hZ5 (W := 0) hown5 (cw30 cx) (rm41 cx sa5 sb5 k5 O5 Fv5 V5 Fc5 A5) e5 hS5 hk5 (own_EW hw hj) C5.1 own_sx0 (g := (mkF m 32 #[sI i0, sI i1, sI i2, sI i3, sI x4, sI x13, sR c2_0, sR c4_0, sU, sU, sU, sU, sU] [(vR sa5)])) rfl hml rfl (rest := []) rfl rfl rfl rfl (hb hby at_32) (by decide)
    have N6 := Fr.app N4 N6q
    have C6 := C5.trans Cq6
    have O6 : Old Z n0 T6.heap := O5.keep Kq6 all0
    have K6 : Keep h0 T6.heap [] := K5.trans Kq6 all0
    obtain ⟨sa7, T7, h7, k17, sb7, k7, X7, e7, E7, hS7, hk7, hZ7, hown7, A7, Fc7, Fv7, V7, la7, lb7, Cq7, -, hn7, st7⟩ := ldcCH X6 hx hZ6 hown6 (hw _ m1) (own_str hw hj) (rfl : T6.heap = T6.heap) hS6 (Nat.le_refl _) (own_EW hw hj) (List.mem_of_getElem? (i := 1) rfl) C6.1 (vs := [(.int (123 : Int32)), (.int (125 : Int32))]) (z := (2 : Int32)) ⟨by decide, by decide⟩ (by decide) (by decide) (g := (mkF m 37 #[sI i0, sI i1, sI i2, sI i3, sI x4, sI x13, sR c2_0, sR c4_0, sR c6_0, sU, sU, sU, sU] [])) rfl (hb hby at_37) (n := 8) (by decide) (by decide) (by decide) (by decide)
    have O7 : Old Z n0 h7 := O6.ext E7
    have K7 : Keep h0 h7 [] := K6.ext E7
    have C7 := C6.trans Cq7
    obtain ⟨_, T8, L8, ⟨c8_0, rfl, N8q, Kq8, lo8_0, q8_0, q8_1, q8_2, q8_3⟩, hS8, hZ8, hown8, Cq8, X8, st8⟩ := cSW X7 hx hZ7 (W := 0) hown7 (cw30 cx) (rm41 cx sa7 sb7 k7 O7 Fv7 V7 Fc7 A7) e7 hS7 hk7 (own_EW hw hj) C7.1 own_sx0 (g := (mkF m 39 #[sI i0, sI i1, sI i2, sI i3, sI x4, sI x13, sR c2_0, sR c4_0, sR c6_0, sU, sU, sU, sU] [(vR sa7)])) rfl hml rfl (rest := []) rfl rfl rfl rfl (hb hby at_39) (by decide)
    have N8 := Fr.app N6 N8q
    have C8 := C7.trans Cq8
    have O8 : Old Z n0 T8.heap := O7.keep Kq8 all0
    have K8 : Keep h0 T8.heap [] := K7.trans Kq8 all0
    obtain ⟨T9, h9, b9, X9, e9, E9, A9, D9, g9, O9, K9, st9⟩ := own_newO X8 hx hZ8 hown8 (hw _ m141) (hw _ m142) (hw _ m143) (rfl : T8.heap = T8.heap) O8 K8 (g := (mkF m 44 #[sI i0, sI i1, sI i2, sI i3, sI x4, sI x13, sR c2_0, sR c4_0, sR c6_0, sR c8_0, sU, sU, sU] [])) rfl (hb hby at_44) (by decide) (by decide)
    have C9 := C8.trans (CHr.ext E9 C8.1)
    have F9_1 : Fld Z h9 b9 z6 "modCount" "I" (vI 0) := D9 (Or.inl (hw _ m161)) (ty := .int) (by decide)
    have F9_2 : Fld Z h9 b9 z0 z7 z4 .null := D9 (Or.inl (hw _ m164)) (ty := (.array (.object z2))) (by decide)
    have F9_3 : Fld Z h9 b9 z0 "size" "I" (vI 0) := D9 (Or.inl (hw _ m181)) (ty := .int) (by decide)
    have sf10 := ((sfS (Safe.exa (EL := EL) hZ8.alike A9 (by decide) (by decide)) sf0) : ∀ x ∈ [b9], Safe Z EL T8.vm h9 x)
    obtain ⟨_, T10, L10, ⟨rfl, N10q, Kq10, q10_0, q10_1, q10_2⟩, X10, st10⟩ := cI X9 hx hZ8 (W := 1) hown8 (cw5 cx) (rm8 cx b9 O9 A9 F9_1 F9_2 F9_3 (Nat.le_trans (own_old_le O8) g9)) e9 (g := (mkF m 48 #[sI i0, sI i1, sI i2, sI i3, sI x4, sI x13, sR c2_0, sR c4_0, sR c6_0, sR c8_0, sU, sU, sU] [(vR b9), (vR b9)])) rfl hml rfl (rest := [(vR b9)]) rfl rfl rfl rfl (hb hby at_48) (by decide)
    have N10 := Fr.app N8 N10q
    have C10 := C9.trans (CHr.keep Kq10 sf10 C9.1)
    have O10 : Old Z n0 T10.heap := O9.keep Kq10 (allS (Nat.le_trans (own_old_le O8) g9) all0)
    have K10 : Keep h0 T10.heap [] := K9.trans Kq10 (allS (Or.inr (Nat.le_trans K8.1 g9)) all0)
    have pre2 : ∀ t, St p e below T10 (mkF m 56 #[sI i0, sI i1, sI i2, sI i3, sI x4, sI x13, sR c2_0, sR c4_0, sR c6_0, sR c8_0, sR b9, sU, sU] [(vI 0), (vR b9)]) t → St p e below s₁ g0 t := fun t kt => pre1 _ (by
        refine Own.iload X0.here hx rfl (hb hby at_11) rfl hp0 ?_
        refine own_irem X0 hx rfl (hb hby at_13) rfl (by decide : ¬ ((1 : Int32) = (0 : Int32))) hx13 ?_
        refine wiS X0 hx hby rfl at_14 rfl (l' := #[sI i0, sI i1, sI i2, sI i3, sI x4, sI x13, sU, sU, sU, sU, sU, sU, sU]) rfl ?_
        refine st1 _ ?_
        refine st2 _ ?_
        refine waS X2 hx hby rfl at_21 rfl rfl (l' := #[sI i0, sI i1, sI i2, sI i3, sI x4, sI x13, sR c2_0, sU, sU, sU, sU, sU, sU]) rfl ?_
        refine st3 _ ?_
        show St p e below T3 (mkF m 25 #[sI i0, sI i1, sI i2, sI i3, sI x4, sI x13, sR c2_0, sU, sU, sU, sU, sU, sU] [(vR sa3)]) _
        refine st4 _ ?_
        refine waS X4 hx hby rfl at_28 rfl rfl (l' := #[sI i0, sI i1, sI i2, sI i3, sI x4, sI x13, sR c2_0, sR c4_0, sU, sU, sU, sU, sU]) rfl ?_
        refine st5 _ ?_
        refine st6 _ ?_
        refine waS X6 hx hby rfl at_35 rfl rfl (l' := #[sI i0, sI i1, sI i2, sI i3, sI x4, sI x13, sR c2_0, sR c4_0, sR c6_0, sU, sU, sU, sU]) rfl ?_
        refine st7 _ ?_
        refine st8 _ ?_
        refine waS X8 hx hby rfl at_42 rfl rfl (l' := #[sI i0, sI i1, sI i2, sI i3, sI x4, sI x13, sR c2_0, sR c4_0, sR c6_0, sR c8_0, sU, sU, sU]) rfl ?_
        refine st9 _ ?_
        refine wdu X9 hx hby rfl at_47 rfl rfl ?_
        refine st10 _ ?_
        refine waS X10 hx hby rfl at_51 rfl rfl (l' := #[sI i0, sI i1, sI i2, sI i3, sI x4, sI x13, sR c2_0, sR c4_0, sR c6_0, sR c8_0, sR b9, sU, sU]) rfl ?_
        refine waL X10 hx hby rfl at_53 rfl rfl ?_
        refine wic X10 hx hby rfl at_55 ?_
        exact kt)
    have hp1 := en_131 x13 (by have q0 := own_rng i1; have q1 := (by decide : ((2147483647 : Int32)).toInt = 2147483647); have q2 := (own_mask i1 (2147483647 : Int32) (by decide) : 0 ≤ ((i1 &&& (2147483647 : Int32))).toInt ∧ ((i1 &&& (2147483647 : Int32))).toInt ≤ 2147483647); have q3 := congrArg Int32.toInt hx10; have q4 := rx10; have q5 := (by decide : ((1 : Int32)).toInt = 1); have q6 := (own_rem x10 (1 : Int32) 1 (by decide) (by have q0 := rx10; omega : 0 ≤ (x10).toInt ∧ (x10).toInt ≤ 2147483647) (by decide) : 0 ≤ ((x10 % (1 : Int32))).toInt ∧ ((x10 % (1 : Int32))).toInt ≤ 0); have q7 := congrArg Int32.toInt hx13; have q8 := rx13; omega)
    · have sf11 := (sf0 : ∀ x ∈ [], Safe Z EL T8.vm T10.heap x)
      obtain ⟨_, T11, L11, ⟨rfl, N11q, e11⟩, X11, st11⟩ := cS X10 hx hZ8 (W := 1) hown8 (cw31 cx) (rm42 cx i2 i3 c2_0 O10) (rfl : T10.heap = T10.heap) (g := (mkF m 62 #[sI i0, sI i1, sI i2, sI i3, sI x4, sI x13, sR c2_0, sR c4_0, sR c6_0, sR c8_0, sR b9, sU, sU] [(vR c2_0), (vI i3), (vI i2), (vI 0), (vI 0), (vR b9)])) rfl hml rfl (rest := [(vR b9)]) rfl rfl rfl rfl (hb hby at_62) (by decide)
      have f13 : Exa Z T10.heap b9 z0 := (A9.keep Kq10)
      have f14 : Exa Z T10.heap c2_0 z5 := ((((((((q2_0.ext E3).keep Kq4).ext E5).keep Kq6).ext E7).keep Kq8).ext E9).keep Kq10)
      have sf12 := ((sfS (Safe.exa (EL := EL) hZ8.alike f13 (by decide) (by decide)) sf0) : ∀ x ∈ [b9], Safe Z EL T8.vm T10.heap x)
      obtain ⟨_, T12, L12, ⟨c12_0, k12_1, rfl, N12q, Kq12, lo12_0, q12_0, q12_1, q12_2, q12_3, q12_4⟩, X12, st12⟩ := own_iface X11 hx hZ8 (W := 0) hown8 (hw _ m169) (hw _ m170) (mvT hZ8 (hw _ m171)) (hw _ m172) (hw _ m173) (mvT hZ8 (hw _ m174)) (mvT hZ8 (hw _ m175)) (hw _ m176) (hw _ m143) (hw _ m177) (by decide) (rm47 cx b9 c2_0 O10 f13 q10_0 q10_1 q10_2 (Nat.le_trans (own_old_le O8) g9) f14) e11 f13 (g := (mkF m 65 #[sI i0, sI i1, sI i2, sI i3, sI x4, sI x13, sR c2_0, sR c4_0, sR c6_0, sR c8_0, sR b9, sU, sU] [(vR c2_0), (vR b9)])) rfl hml rfl (rest := []) (lenOf pd646 rfl) rfl rfl rfl (hb hby at_65) (by decide)
      have N12 := Fr.app (Fr.app N10 N11q) N12q
      have C12 := C10.trans (CHr.keep Kq12 sf12 C10.1)
      have O12 : Old Z n0 T12.heap := O10.keep Kq12 (allS (Nat.le_trans (own_old_le O8) g9) all0)
      have K12 : Keep h0 T12.heap [] := K10.trans Kq12 (allS (Or.inr (Nat.le_trans K8.1 g9)) all0)
      have f16 : Exa Z T12.heap b9 z0 := (f13.keep Kq12)
      have f17 : Exa Z T12.heap c2_0 z5 := (f14.keep Kq12)
      have sf15 := (sf0 : ∀ x ∈ [], Safe Z EL T8.vm T12.heap x)
      obtain ⟨_, T15, L15, ⟨rfl, N15q, e15⟩, X15, st15⟩ := cS X12 hx hZ8 (W := 0) hown8 (cw36 cx) (rm53 cx b9 c12_0 k12_1 c2_0 O12 q12_4 f16 q12_3 q12_0 f17) (rfl : T12.heap = T12.heap) (g := (mkF m 183 #[sI i0, sI i1, sI i2, sI i3, sI x4, sI x13, sR c2_0, sR c4_0, sR c6_0, sR c8_0, sR b9, sR c2_0, sU] [(vI 0), (vR b9)])) rfl hml rfl (rest := []) rfl rfl rfl rfl (hb hby at_183) (by decide)
      have sf18 := (sf0 : ∀ x ∈ [], Safe Z EL T8.vm T12.heap x)
      obtain ⟨_, T18, L18, ⟨rfl, N18q, e18⟩, X18, st18⟩ := own_iface X15 hx hZ8 (W := 0) hown8 (hw _ m230) (hw _ m205) (mvT hZ8 (hw _ m206)) (hw _ m207) (hw _ m208) (mvT hZ8 (hw _ m209)) (mvT hZ8 (hw _ m210)) (hw _ m176) (hw _ m143) (hw _ m211) (by decide) (rm48 cx b9 O12 q12_4) e15 f16 (g := (mkF m 197 #[sI i0, sI i1, sI i2, sI i3, sI x4, sI x13, sR c2_0, sR c4_0, sR c6_0, sR c8_0, sR b9, sR c2_0, sR c2_0] [(vR b9)])) rfl hml rfl (rest := []) (lenOf pd200 rfl) rfl rfl rfl (hb hby at_197) (by decide)
      have sf19 := (sf0 : ∀ x ∈ [], Safe Z EL T8.vm T12.heap x)
      obtain ⟨_, T19, L19, ⟨rfl, N19q, e19⟩, X19, st19⟩ := own_iface X18 hx hZ8 (W := 0) hown8 (hw _ m231) (hw _ m213) (mvT hZ8 (hw _ m214)) (hw _ m215) (hw _ m216) (mvT hZ8 (hw _ m217)) (mvT hZ8 (hw _ m218)) (hw _ m176) (hw _ m143) (hw _ m219) (by decide) (rm52 cx b9 c12_0 k12_1 c2_0 O12 q12_4 q12_3 q12_0 f16) e18 f16 (g := (mkF m 211 #[sI i0, sI i1, sI i2, sI i3, sI x4, sI x13, sR c2_0, sR c4_0, sR c6_0, sR c8_0, sR b9, sR c2_0, sR c2_0] [(vI 0), (vR b9)])) rfl hml rfl (rest := []) (lenOf pd521 rfl) rfl rfl rfl (hb hby at_211) (by decide)
      refine own_endW X19 hlk (v := some (vI 1)) (own_hv hret) hS8 (Nat.le_trans (Nat.le_refl _) (Nat.le_trans (Nat.le_trans E9.1 Kq10.1) Kq12.1)) (by decide) hh e19 C12 hZ8 (own_EW hw hj) ⟨rfl, (Fr.app (Fr.app (Fr.app N12 N15q) N18q) N19q)⟩ fun fs hr => pre2 _ ?_
      refine Own.iload X10.here hx rfl (hb hby at_56) rfl hp1 ?_
      refine wil X10 hx hby rfl at_58 rfl ?_
      show St p e below T10 (mkF m 59 #[sI i0, sI i1, sI i2, sI i3, sI x4, sI x13, sR c2_0, sR c4_0, sR c6_0, sR c8_0, sR b9, sU, sU] [(vI i2), (vI 0), (vI 0), (vR b9)]) _
      refine wil X10 hx hby rfl at_59 rfl ?_
      refine waL X10 hx hby rfl at_60 rfl rfl ?_
      refine st11 _ ?_
      refine st12 _ ?_
      refine XS.pop X12.here hx rfl (hb hby at_70) rfl rfl ?_
      refine Own.iload X12.here hx rfl (hb hby at_71) rfl hp0 ?_
      refine wic X12 hx hby rfl at_73 ?_
      refine wcy X12 hx hby rfl (pc0 := 74) (pc' := 95) rfl at_74 rfl (flt (by decide : ¬ ((1 : Int32) < (1 : Int32)))).2.2.2 (by decide) (by decide) ?_
      show St p e below T12 (mkF m 95 #[sI i0, sI i1, sI i2, sI i3, sI x4, sI x13, sR c2_0, sR c4_0, sR c6_0, sR c8_0, sR b9, sU, sU] []) _
      refine Own.iload X12.here hx rfl (hb hby at_95) rfl hp0 ?_
      refine wic X12 hx hby rfl at_97 ?_
      refine wcy X12 hx hby rfl (pc0 := 98) (pc' := 119) rfl at_98 rfl (flt (by decide : ¬ ((2 : Int32) < (1 : Int32)))).2.2.2 (by decide) (by decide) ?_
      show St p e below T12 (mkF m 119 #[sI i0, sI i1, sI i2, sI i3, sI x4, sI x13, sR c2_0, sR c4_0, sR c6_0, sR c8_0, sR b9, sU, sU] []) _
      refine Own.iload X12.here hx rfl (hb hby at_119) rfl hp0 ?_
      refine wic X12 hx hby rfl at_121 ?_
      refine wcy X12 hx hby rfl (pc0 := 122) (pc' := 143) rfl at_122 rfl (flt (by decide : ¬ ((3 : Int32) < (1 : Int32)))).2.2.2 (by decide) (by decide) ?_
      show St p e below T12 (mkF m 143 #[sI i0, sI i1, sI i2, sI i3, sI x4, sI x13, sR c2_0, sR c4_0, sR c6_0, sR c8_0, sR b9, sU, sU] []) _
      refine Own.iload X12.here hx rfl (hb hby at_143) rfl hp1 ?_
      refine wfn X12 hx hby rfl at_145 rfl ((if0 _ _).trans (teq (by decide : (0 : Int32) = (0 : Int32))).2) ?_
      refine waL X12 hx hby rfl at_148 rfl rfl ?_
      refine wgt X12 hx hby rfl (pc0 := 150) (pc' := 177) rfl at_150 (by decide) (by decide) ?_
      show St p e below T12 (mkF m 177 #[sI i0, sI i1, sI i2, sI i3, sI x4, sI x13, sR c2_0, sR c4_0, sR c6_0, sR c8_0, sR b9, sU, sU] [(vR c2_0)]) _
      refine waS X12 hx hby rfl at_177 rfl rfl (l' := #[sI i0, sI i1, sI i2, sI i3, sI x4, sI x13, sR c2_0, sR c4_0, sR c6_0, sR c8_0, sR b9, sR c2_0, sU]) rfl ?_
      refine waL X12 hx hby rfl at_179 rfl rfl ?_
      refine Own.iload X12.here hx rfl (hb hby at_181) rfl hp1 ?_
      refine st15 _ ?_
      refine waS X15 hx hby rfl at_186 rfl rfl (l' := #[sI i0, sI i1, sI i2, sI i3, sI x4, sI x13, sR c2_0, sR c4_0, sR c6_0, sR c8_0, sR b9, sR c2_0, sR c2_0]) rfl ?_
      refine waL X15 hx hby rfl at_188 rfl rfl ?_
      refine waL X15 hx hby rfl at_190 rfl rfl ?_
      refine Jvm.RoadKit.acmp (g := (mkF m 192 #[sI i0, sI i1, sI i2, sI i3, sI x4, sI x13, sR c2_0, sR c4_0, sR c6_0, sR c8_0, sR b9, sR c2_0, sR c2_0] [(vR c2_0), (vR c2_0)])) X15 hx rfl rfl rfl (pc0 := 192) (pc' := 195) (same := true) rfl (hb hby at_192) rfl (decide_eq_true rfl) (by decide) (by decide) ?_
      refine waL X15 hx hby rfl at_195 rfl rfl ?_
      refine st18 _ ?_
      refine Own.iload X18.here hx rfl (hb hby at_202) rfl hp0 ?_
      refine wcn X18 hx hby rfl at_204 rfl (teq (by decide : (1 : Int32) = (1 : Int32))).2 ?_
      refine waL X18 hx hby rfl at_207 rfl rfl ?_
      refine Own.iload X18.here hx rfl (hb hby at_209) rfl hp1 ?_
      refine st19 _ ?_
      refine waL X19 hx hby rfl at_216 rfl rfl ?_
      show St p e below T19 (mkF m 218 #[sI i0, sI i1, sI i2, sI i3, sI x4, sI x13, sR c2_0, sR c4_0, sR c6_0, sR c8_0, sR b9, sR c2_0, sR c2_0] [(vR c2_0), (vR c2_0)]) _
      refine Jvm.RoadKit.acmp (g := (mkF m 218 #[sI i0, sI i1, sI i2, sI i3, sI x4, sI x13, sR c2_0, sR c4_0, sR c6_0, sR c8_0, sR b9, sR c2_0, sR c2_0] [(vR c2_0), (vR c2_0)])) X19 hx rfl rfl rfl (pc0 := 218) (pc' := 221) (same := true) rfl (hb hby at_218) rfl (decide_eq_true rfl) (by decide) (by decide) ?_
      refine wic X19 hx hby rfl at_221 ?_
      refine wgt X19 hx hby rfl (pc0 := 222) (pc' := 226) rfl at_222 (by decide) (by decide) ?_
      show St p e below T19 (mkF m 226 #[sI i0, sI i1, sI i2, sI i3, sI x4, sI x13, sR c2_0, sR c4_0, sR c6_0, sR c8_0, sR b9, sR c2_0, sR c2_0] [(vI 1)]) _
      exact retN X19 hx (t := .boolean) hret (by simp) (hb hby at_226) hr
  · obtain ⟨x13, hx13⟩ : ∃ z, (x10 % (2 : Int32)) = z := ⟨_, rfl⟩
    have rx13 : 0 ≤ x13.toInt ∧ x13.toInt ≤ 1 := hx13 ▸ (own_rem x10 (2 : Int32) 2 (by decide) (by have q0 := rx10; omega : 0 ≤ (x10).toInt ∧ (x10).toInt ≤ 2147483647) (by decide) : 0 ≤ ((x10 % (2 : Int32))).toInt ∧ ((x10 % (2 : Int32))).toInt ≤ 1)
    obtain ⟨sa1, T1, h1, k11, sb1, k1, X1, e1, E1, hS1, hk1, hZ1, hown1, A1, Fc1, Fv1, V1, la1, lb1, Cq1, -, hn1, st1⟩ := ldcCH X0 hx hZ hown (hw _ m1) (own_str hw hj) e0 hS0 (Nat.le_refl _) (own_EW hw hj) (List.mem_of_getElem? (i := 1) rfl) C0.1 (vs := [(.int (123 : Int32)), (.int (125 : Int32))]) (z := (2 : Int32)) ⟨by decide, by decide⟩ (by decide) (by decide) (g := (mkF m 16 #[sI i0, sI i1, sI i2, sI i3, sI x4, sI x13, sU, sU, sU, sU, sU, sU, sU] [])) rfl (hb hby at_16) (n := 8) (by decide) (by decide) (by decide) (by decide)
    have O1 : Old Z n0 h1 := O0.ext E1
    have K1 : Keep h0 h1 [] := (Keep.refl h0 []).ext E1
    have C1 := C0.trans Cq1
    obtain ⟨_, T2, L2, ⟨c2_0, rfl, N2q, Kq2, lo2_0, q2_0, q2_1, q2_2, q2_3⟩, hS2, hZ2, hown2, Cq2, X2, st2⟩ := cSW X1 hx hZ1 (W := 0) hown1 (cw30 cx) (rm41 cx sa1 sb1 k1 O1 Fv1 V1 Fc1 A1) e1 hS1 hk1 (own_EW hw hj) C1.1 own_sx0 (g := (mkF m 18 #[sI i0, sI i1, sI i2, sI i3, sI x4, sI x13, sU, sU, sU, sU, sU, sU, sU] [(vR sa1)])) rfl hml rfl (rest := []) rfl rfl rfl rfl (hb hby at_18) (by decide)
    have N2 := Fr.app N0 N2q
    have C2 := C1.trans Cq2
    have O2 : Old Z n0 T2.heap := O1.keep Kq2 all0
    have K2 : Keep h0 T2.heap [] := K1.trans Kq2 all0
    obtain ⟨sa3, T3, h3, k13, sb3, k3, X3, e3, E3, hS3, hk3, hZ3, hown3, A3, Fc3, Fv3, V3, la3, lb3, Cq3, -, hn3, st3⟩ := ldcCH X2 hx hZ2 hown2 (hw _ m1) (own_str hw hj) (rfl : T2.heap = T2.heap) hS2 (Nat.le_refl _) (own_EW hw hj) (List.mem_of_getElem? (i := 1) rfl) C2.1 (vs := [(.int (123 : Int32)), (.int (125 : Int32))]) (z := (2 : Int32)) ⟨by decide, by decide⟩ (by decide) (by decide) (g := (mkF m 23 #[sI i0, sI i1, sI i2, sI i3, sI x4, sI x13, sR c2_0, sU, sU, sU, sU, sU, sU] [])) rfl (hb hby at_23) (n := 8) (by decide) (by decide) (by decide) (by decide)
    have O3 : Old Z n0 h3 := O2.ext E3
    have K3 : Keep h0 h3 [] := K2.ext E3
    have C3 := C2.trans Cq3
    obtain ⟨_, T4, L4, ⟨c4_0, rfl, N4q, Kq4, lo4_0, q4_0, q4_1, q4_2, q4_3⟩, hS4, hZ4, hown4, Cq4, X4, st4⟩ := cSW X3 hx hZ3 (W := 0) hown3 (cw30 cx) (rm41 cx sa3 sb3 k3 O3 Fv3 V3 Fc3 A3) e3 hS3 hk3 (own_EW hw hj) C3.1 own_sx0 (g := (mkF m 25 #[sI i0, sI i1, sI i2, sI i3, sI x4, sI x13, sR c2_0, sU, sU, sU, sU, sU, sU] [(vR sa3)])) rfl hml rfl (rest := []) rfl rfl rfl rfl (hb hby at_25) (by decide)
    have N4 := Fr.app N2 N4q
    have C4 := C3.trans Cq4
    have O4 : Old Z n0 T4.heap := O3.keep Kq4 all0
    have K4 : Keep h0 T4.heap [] := K3.trans Kq4 all0
    obtain ⟨sa5, T5, h5, k15, sb5, k5, X5, e5, E5, hS5, hk5, hZ5, hown5, A5, Fc5, Fv5, V5, la5, lb5, Cq5, -, hn5, st5⟩ := ldcCH X4 hx hZ4 hown4 (hw _ m1) (own_str hw hj) (rfl : T4.heap = T4.heap) hS4 (Nat.le_refl _) (own_EW hw hj) (List.mem_of_getElem? (i := 1) rfl) C4.1 (vs := [(.int (123 : Int32)), (.int (125 : Int32))]) (z := (2 : Int32)) ⟨by decide, by decide⟩ (by decide) (by decide) (g := (mkF m 30 #[sI i0, sI i1, sI i2, sI i3, sI x4, sI x13, sR c2_0, sR c4_0, sU, sU, sU, sU, sU] [])) rfl (hb hby at_30) (n := 8) (by decide) (by decide) (by decide) (by decide)
    have O5 : Old Z n0 h5 := O4.ext E5
    have K5 : Keep h0 h5 [] := K4.ext E5
    have C5 := C4.trans Cq5
    obtain ⟨_, T6, L6, ⟨c6_0, rfl, N6q, Kq6, lo6_0, q6_0, q6_1, q6_2, q6_3⟩, hS6, hZ6, hown6, Cq6, X6, st6⟩ := cSW X5 hx hZ5 (W := 0) hown5 (cw30 cx) (rm41 cx sa5 sb5 k5 O5 Fv5 V5 Fc5 A5) e5 hS5 hk5 (own_EW hw hj) C5.1 own_sx0 (g := (mkF m 32 #[sI i0, sI i1, sI i2, sI i3, sI x4, sI x13, sR c2_0, sR c4_0, sU, sU, sU, sU, sU] [(vR sa5)])) rfl hml rfl (rest := []) rfl rfl rfl rfl (hb hby at_32) (by decide)
    have N6 := Fr.app N4 N6q
    have C6 := C5.trans Cq6
    have O6 : Old Z n0 T6.heap := O5.keep Kq6 all0
    have K6 : Keep h0 T6.heap [] := K5.trans Kq6 all0
    obtain ⟨sa7, T7, h7, k17, sb7, k7, X7, e7, E7, hS7, hk7, hZ7, hown7, A7, Fc7, Fv7, V7, la7, lb7, Cq7, -, hn7, st7⟩ := ldcCH X6 hx hZ6 hown6 (hw _ m1) (own_str hw hj) (rfl : T6.heap = T6.heap) hS6 (Nat.le_refl _) (own_EW hw hj) (List.mem_of_getElem? (i := 1) rfl) C6.1 (vs := [(.int (123 : Int32)), (.int (125 : Int32))]) (z := (2 : Int32)) ⟨by decide, by decide⟩ (by decide) (by decide) (g := (mkF m 37 #[sI i0, sI i1, sI i2, sI i3, sI x4, sI x13, sR c2_0, sR c4_0, sR c6_0, sU, sU, sU, sU] [])) rfl (hb hby at_37) (n := 8) (by decide) (by decide) (by decide) (by decide)
    have O7 : Old Z n0 h7 := O6.ext E7
    have K7 : Keep h0 h7 [] := K6.ext E7
    have C7 := C6.trans Cq7
    obtain ⟨_, T8, L8, ⟨c8_0, rfl, N8q, Kq8, lo8_0, q8_0, q8_1, q8_2, q8_3⟩, hS8, hZ8, hown8, Cq8, X8, st8⟩ := cSW X7 hx hZ7 (W := 0) hown7 (cw30 cx) (rm41 cx sa7 sb7 k7 O7 Fv7 V7 Fc7 A7) e7 hS7 hk7 (own_EW hw hj) C7.1 own_sx0 (g := (mkF m 39 #[sI i0, sI i1, sI i2, sI i3, sI x4, sI x13, sR c2_0, sR c4_0, sR c6_0, sU, sU, sU, sU] [(vR sa7)])) rfl hml rfl (rest := []) rfl rfl rfl rfl (hb hby at_39) (by decide)
    have N8 := Fr.app N6 N8q
    have C8 := C7.trans Cq8
    have O8 : Old Z n0 T8.heap := O7.keep Kq8 all0
    have K8 : Keep h0 T8.heap [] := K7.trans Kq8 all0
    obtain ⟨T9, h9, b9, X9, e9, E9, A9, D9, g9, O9, K9, st9⟩ := own_newO X8 hx hZ8 hown8 (hw _ m141) (hw _ m142) (hw _ m143) (rfl : T8.heap = T8.heap) O8 K8 (g := (mkF m 44 #[sI i0, sI i1, sI i2, sI i3, sI x4, sI x13, sR c2_0, sR c4_0, sR c6_0, sR c8_0, sU, sU, sU] [])) rfl (hb hby at_44) (by decide) (by decide)
    have C9 := C8.trans (CHr.ext E9 C8.1)
    have F9_1 : Fld Z h9 b9 z6 "modCount" "I" (vI 0) := D9 (Or.inl (hw _ m161)) (ty := .int) (by decide)
    have F9_2 : Fld Z h9 b9 z0 z7 z4 .null := D9 (Or.inl (hw _ m164)) (ty := (.array (.object z2))) (by decide)
    have F9_3 : Fld Z h9 b9 z0 "size" "I" (vI 0) := D9 (Or.inl (hw _ m181)) (ty := .int) (by decide)
    have sf10 := ((sfS (Safe.exa (EL := EL) hZ8.alike A9 (by decide) (by decide)) sf0) : ∀ x ∈ [b9], Safe Z EL T8.vm h9 x)
    obtain ⟨_, T10, L10, ⟨rfl, N10q, Kq10, q10_0, q10_1, q10_2⟩, X10, st10⟩ := cI X9 hx hZ8 (W := 1) hown8 (cw5 cx) (rm8 cx b9 O9 A9 F9_1 F9_2 F9_3 (Nat.le_trans (own_old_le O8) g9)) e9 (g := (mkF m 48 #[sI i0, sI i1, sI i2, sI i3, sI x4, sI x13, sR c2_0, sR c4_0, sR c6_0, sR c8_0, sU, sU, sU] [(vR b9), (vR b9)])) rfl hml rfl (rest := [(vR b9)]) rfl rfl rfl rfl (hb hby at_48) (by decide)
    have N10 := Fr.app N8 N10q
    have C10 := C9.trans (CHr.keep Kq10 sf10 C9.1)
    have O10 : Old Z n0 T10.heap := O9.keep Kq10 (allS (Nat.le_trans (own_old_le O8) g9) all0)
    have K10 : Keep h0 T10.heap [] := K9.trans Kq10 (allS (Or.inr (Nat.le_trans K8.1 g9)) all0)
    have pre2 : ∀ t, St p e below T10 (mkF m 56 #[sI i0, sI i1, sI i2, sI i3, sI x4, sI x13, sR c2_0, sR c4_0, sR c6_0, sR c8_0, sR b9, sU, sU] [(vI 0), (vR b9)]) t → St p e below s₁ g0 t := fun t kt => pre1 _ (by
        refine Own.iload X0.here hx rfl (hb hby at_11) rfl hp0 ?_
        refine own_irem X0 hx rfl (hb hby at_13) rfl (by decide : ¬ ((2 : Int32) = (0 : Int32))) hx13 ?_
        refine wiS X0 hx hby rfl at_14 rfl (l' := #[sI i0, sI i1, sI i2, sI i3, sI x4, sI x13, sU, sU, sU, sU, sU, sU, sU]) rfl ?_
        refine st1 _ ?_
        refine st2 _ ?_
        refine waS X2 hx hby rfl at_21 rfl rfl (l' := #[sI i0, sI i1, sI i2, sI i3, sI x4, sI x13, sR c2_0, sU, sU, sU, sU, sU, sU]) rfl ?_
        refine st3 _ ?_
        show St p e below T3 (mkF m 25 #[sI i0, sI i1, sI i2, sI i3, sI x4, sI x13, sR c2_0, sU, sU, sU, sU, sU, sU] [(vR sa3)]) _
        refine st4 _ ?_
        refine waS X4 hx hby rfl at_28 rfl rfl (l' := #[sI i0, sI i1, sI i2, sI i3, sI x4, sI x13, sR c2_0, sR c4_0, sU, sU, sU, sU, sU]) rfl ?_
        refine st5 _ ?_
        refine st6 _ ?_
        refine waS X6 hx hby rfl at_35 rfl rfl (l' := #[sI i0, sI i1, sI i2, sI i3, sI x4, sI x13, sR c2_0, sR c4_0, sR c6_0, sU, sU, sU, sU]) rfl ?_
        refine st7 _ ?_
        refine st8 _ ?_
        refine waS X8 hx hby rfl at_42 rfl rfl (l' := #[sI i0, sI i1, sI i2, sI i3, sI x4, sI x13, sR c2_0, sR c4_0, sR c6_0, sR c8_0, sU, sU, sU]) rfl ?_
        refine st9 _ ?_
        refine wdu X9 hx hby rfl at_47 rfl rfl ?_
        refine st10 _ ?_
        refine waS X10 hx hby rfl at_51 rfl rfl (l' := #[sI i0, sI i1, sI i2, sI i3, sI x4, sI x13, sR c2_0, sR c4_0, sR c6_0, sR c8_0, sR b9, sU, sU]) rfl ?_
        refine waL X10 hx hby rfl at_53 rfl rfl ?_
        refine wic X10 hx hby rfl at_55 ?_
        exact kt)
    rcases en_724 x13 (by have q0 := own_rng i1; have q1 := (by decide : ((2147483647 : Int32)).toInt = 2147483647); have q2 := (own_mask i1 (2147483647 : Int32) (by decide) : 0 ≤ ((i1 &&& (2147483647 : Int32))).toInt ∧ ((i1 &&& (2147483647 : Int32))).toInt ≤ 2147483647); have q3 := congrArg Int32.toInt hx10; have q4 := rx10; have q5 := (by decide : ((2 : Int32)).toInt = 2); have q6 := (own_rem x10 (2 : Int32) 2 (by decide) (by have q0 := rx10; omega : 0 ≤ (x10).toInt ∧ (x10).toInt ≤ 2147483647) (by decide) : 0 ≤ ((x10 % (2 : Int32))).toInt ∧ ((x10 % (2 : Int32))).toInt ≤ 1); have q7 := congrArg Int32.toInt hx13; have q8 := rx13; omega) with hp1 | hp1
    · have sf11 := (sf0 : ∀ x ∈ [], Safe Z EL T8.vm T10.heap x)
      obtain ⟨_, T11, L11, ⟨rfl, N11q, e11⟩, X11, st11⟩ := cS X10 hx hZ8 (W := 1) hown8 (cw31 cx) (rm42 cx i2 i3 c2_0 O10) (rfl : T10.heap = T10.heap) (g := (mkF m 62 #[sI i0, sI i1, sI i2, sI i3, sI x4, sI x13, sR c2_0, sR c4_0, sR c6_0, sR c8_0, sR b9, sU, sU] [(vR c2_0), (vI i3), (vI i2), (vI 0), (vI 0), (vR b9)])) rfl hml rfl (rest := [(vR b9)]) rfl rfl rfl rfl (hb hby at_62) (by decide)
      have f13 : Exa Z T10.heap b9 z0 := (A9.keep Kq10)
      have f14 : Exa Z T10.heap c2_0 z5 := ((((((((q2_0.ext E3).keep Kq4).ext E5).keep Kq6).ext E7).keep Kq8).ext E9).keep Kq10)
      have sf12 := ((sfS (Safe.exa (EL := EL) hZ8.alike f13 (by decide) (by decide)) sf0) : ∀ x ∈ [b9], Safe Z EL T8.vm T10.heap x)
      obtain ⟨_, T12, L12, ⟨c12_0, k12_1, rfl, N12q, Kq12, lo12_0, q12_0, q12_1, q12_2, q12_3, q12_4⟩, X12, st12⟩ := own_iface X11 hx hZ8 (W := 0) hown8 (hw _ m169) (hw _ m170) (mvT hZ8 (hw _ m171)) (hw _ m172) (hw _ m173) (mvT hZ8 (hw _ m174)) (mvT hZ8 (hw _ m175)) (hw _ m176) (hw _ m143) (hw _ m177) (by decide) (rm47 cx b9 c2_0 O10 f13 q10_0 q10_1 q10_2 (Nat.le_trans (own_old_le O8) g9) f14) e11 f13 (g := (mkF m 65 #[sI i0, sI i1, sI i2, sI i3, sI x4, sI x13, sR c2_0, sR c4_0, sR c6_0, sR c8_0, sR b9, sU, sU] [(vR c2_0), (vR b9)])) rfl hml rfl (rest := []) (lenOf pd646 rfl) rfl rfl rfl (hb hby at_65) (by decide)
      have N12 := Fr.app (Fr.app N10 N11q) N12q
      have C12 := C10.trans (CHr.keep Kq12 sf12 C10.1)
      have O12 : Old Z n0 T12.heap := O10.keep Kq12 (allS (Nat.le_trans (own_old_le O8) g9) all0)
      have K12 : Keep h0 T12.heap [] := K10.trans Kq12 (allS (Or.inr (Nat.le_trans K8.1 g9)) all0)
      have f15 : Exa Z T12.heap c4_0 z5 := (((((((q4_0.ext E5).keep Kq6).ext E7).keep Kq8).ext E9).keep Kq10).keep Kq12)
      have sf16 := (sf0 : ∀ x ∈ [], Safe Z EL T8.vm T12.heap x)
      obtain ⟨_, T16, L16, ⟨oz16, rfl, N16q, Kq16, q16⟩, X16, st16⟩ := own_callS X12 hx hZ8 (W := 1) hown8 (hw _ m165) (hw _ m166) (hw _ m167) (hw _ m168) (by decide) (jm0 cx (1 : Int32) (0 : Int32) i2 i3 c4_0 O12 (by decide : ¬ ((1 : Int32) = (0 : Int32))) f15) (rfl : T12.heap = T12.heap) (g := (mkF m 86 #[sI i0, sI i1, sI i2, sI i3, sI x4, sI x13, sR c2_0, sR c4_0, sR c6_0, sR c8_0, sR b9, sU, sU] [(vR c4_0), (vI i3), (vI i2), (vI 0), (vI 1), (vR b9)])) rfl hml rfl (rest := [(vR b9)]) (lenOf pd559 rfl) rfl rfl rfl (hb hby at_86) (by decide)
      have N16 := Fr.app N12 N16q
      have C16 := C12.trans (CHr.keep Kq16 sf16 C12.1)
      have O16 : Old Z n0 T16.heap := O12.keep Kq16 all0
      have K16 : Keep h0 T16.heap [] := K12.trans Kq16 all0
      have f18 : Exa Z T16.heap b9 z0 := ((f13.keep Kq12).keep Kq16)
      have f19 : Fld Z T16.heap b9 z6 "modCount" "I" (vI 1) := (q12_2.keep Kq16 nin0)
      have f20 : Fld Z T16.heap b9 z0 z7 z4 (vR c12_0) := (q12_3.keep Kq16 nin0)
      have f21 : Fld Z T16.heap b9 z0 "size" "I" (vI 1) := (q12_4.keep Kq16 nin0)
      have f22 : Arv Z T16.heap c12_0 k12_1 (.object z2) (10 : Int32) [(vR c2_0), .null, .null, .null, .null, .null, .null, .null, .null, .null] .null := (q12_0.keep Kq16 nin0)
      have ne23 : b9 ≠ c12_0 := (Nat.ne_of_lt (Nat.lt_of_lt_of_le (Nat.lt_of_lt_of_le A9.lt Kq10.1) lo12_0))
      have sf17 := ((sfS (Safe.exa (EL := EL) hZ8.alike f18 (by decide) (by decide)) (sfS (Safe.arv (EL := EL) hZ8.alike f22 (by decide)) sf0)) : ∀ x ∈ [b9, c12_0], Safe Z EL T8.vm T16.heap x)
      obtain ⟨_, T17, L17, ⟨rfl, N17q, Kq17, q17_0, q17_1, q17_2, q17_3⟩, X17, st17⟩ := own_iface X16 hx hZ8 (W := 0) hown8 (hw _ m169) (hw _ m170) (mvT hZ8 (hw _ m171)) (hw _ m172) (hw _ m173) (mvT hZ8 (hw _ m174)) (mvT hZ8 (hw _ m175)) (hw _ m176) (hw _ m143) (hw _ m177) (by decide) (rm55 cx b9 c12_0 k12_1 c2_0 oz16 O16 f18 f19 f20 f21 f22 (Nat.le_trans (own_old_le O8) g9) q16 (Ne.symm ne23) q12_1 (Nat.le_trans (own_old_le O10) lo12_0)) (rfl : T16.heap = T16.heap) f18 (g := (mkF m 89 #[sI i0, sI i1, sI i2, sI i3, sI x4, sI x13, sR c2_0, sR c4_0, sR c6_0, sR c8_0, sR b9, sU, sU] [oz16, (vR b9)])) rfl hml rfl (rest := []) (lenOf pd646 rfl) rfl rfl rfl (hb hby at_89) (by decide)
      have N17 := Fr.app N16 N17q
      have C17 := C16.trans (CHr.keep Kq17 sf17 C16.1)
      have O17 : Old Z n0 T17.heap := O16.keep Kq17 (allS (Nat.le_trans (own_old_le O8) g9) (allS (Nat.le_trans (own_old_le O10) lo12_0) all0))
      have K17 : Keep h0 T17.heap [] := K16.trans Kq17 (allS (Or.inr (Nat.le_trans K8.1 g9)) (allS (Or.inr (Nat.le_trans K10.1 lo12_0)) all0))
      have f25 : Exa Z T17.heap b9 z0 := (f18.keep Kq17)
      have f26 : Exa Z T17.heap c2_0 z5 := (((f14.keep Kq12).keep Kq16).keep Kq17)
      have sf24 := (sf0 : ∀ x ∈ [], Safe Z EL T8.vm T17.heap x)
      obtain ⟨_, T24, L24, ⟨rfl, N24q, e24⟩, X24, st24⟩ := cS X17 hx hZ8 (W := 0) hown8 (cw36 cx) (rm60 cx b9 c12_0 k12_1 c2_0 oz16 O17 q17_2 f25 q17_1 q17_3 f26) (rfl : T17.heap = T17.heap) (g := (mkF m 183 #[sI i0, sI i1, sI i2, sI i3, sI x4, sI x13, sR c2_0, sR c4_0, sR c6_0, sR c8_0, sR b9, sR c2_0, sU] [(vI 0), (vR b9)])) rfl hml rfl (rest := []) rfl rfl rfl rfl (hb hby at_183) (by decide)
      have sf27 := (sf0 : ∀ x ∈ [], Safe Z EL T8.vm T17.heap x)
      obtain ⟨_, T27, L27, ⟨rfl, N27q, e27⟩, X27, st27⟩ := own_iface X24 hx hZ8 (W := 0) hown8 (hw _ m230) (hw _ m205) (mvT hZ8 (hw _ m206)) (hw _ m207) (hw _ m208) (mvT hZ8 (hw _ m209)) (mvT hZ8 (hw _ m210)) (hw _ m176) (hw _ m143) (hw _ m211) (by decide) (rm56 cx b9 O17 q17_2) e24 f25 (g := (mkF m 197 #[sI i0, sI i1, sI i2, sI i3, sI x4, sI x13, sR c2_0, sR c4_0, sR c6_0, sR c8_0, sR b9, sR c2_0, sR c2_0] [(vR b9)])) rfl hml rfl (rest := []) (lenOf pd200 rfl) rfl rfl rfl (hb hby at_197) (by decide)
      have sf28 := (sf0 : ∀ x ∈ [], Safe Z EL T8.vm T17.heap x)
      obtain ⟨_, T28, L28, ⟨rfl, N28q, e28⟩, X28, st28⟩ := own_iface X27 hx hZ8 (W := 0) hown8 (hw _ m231) (hw _ m213) (mvT hZ8 (hw _ m214)) (hw _ m215) (hw _ m216) (mvT hZ8 (hw _ m217)) (mvT hZ8 (hw _ m218)) (hw _ m176) (hw _ m143) (hw _ m219) (by decide) (rm59 cx b9 c12_0 k12_1 c2_0 oz16 O17 q17_2 q17_1 q17_3 f25) e27 f25 (g := (mkF m 211 #[sI i0, sI i1, sI i2, sI i3, sI x4, sI x13, sR c2_0, sR c4_0, sR c6_0, sR c8_0, sR b9, sR c2_0, sR c2_0] [(vI 0), (vR b9)])) rfl hml rfl (rest := []) (lenOf pd521 rfl) rfl rfl rfl (hb hby at_211) (by decide)
      refine own_endW X28 hlk (v := some (vI 1)) (own_hv hret) hS8 (Nat.le_trans (Nat.le_refl _) (Nat.le_trans (Nat.le_trans (Nat.le_trans (Nat.le_trans E9.1 Kq10.1) Kq12.1) Kq16.1) Kq17.1)) (by decide) hh e28 C17 hZ8 (own_EW hw hj) ⟨rfl, (Fr.app (Fr.app (Fr.app N17 N24q) N27q) N28q)⟩ fun fs hr => pre2 _ ?_
      refine Own.iload X10.here hx rfl (hb hby at_56) rfl hp1 ?_
      refine wil X10 hx hby rfl at_58 rfl ?_
      show St p e below T10 (mkF m 59 #[sI i0, sI i1, sI i2, sI i3, sI x4, sI x13, sR c2_0, sR c4_0, sR c6_0, sR c8_0, sR b9, sU, sU] [(vI i2), (vI 0), (vI 0), (vR b9)]) _
      refine wil X10 hx hby rfl at_59 rfl ?_
      refine waL X10 hx hby rfl at_60 rfl rfl ?_
      refine st11 _ ?_
      refine st12 _ ?_
      refine XS.pop X12.here hx rfl (hb hby at_70) rfl rfl ?_
      refine Own.iload X12.here hx rfl (hb hby at_71) rfl hp0 ?_
      refine wic X12 hx hby rfl at_73 ?_
      refine wcn X12 hx hby rfl at_74 rfl (tlt (by decide : (1 : Int32) < (2 : Int32))).2.2.2 ?_
      refine waL X12 hx hby rfl at_77 rfl rfl ?_
      refine wic X12 hx hby rfl at_79 ?_
      refine Own.iload X12.here hx rfl (hb hby at_80) rfl hp1 ?_
      refine wil X12 hx hby rfl at_82 rfl ?_
      refine wil X12 hx hby rfl at_83 rfl ?_
      refine waL X12 hx hby rfl at_84 rfl rfl ?_
      refine st16 _ ?_
      refine st17 _ ?_
      show St p e below T17 (mkF m 94 #[sI i0, sI i1, sI i2, sI i3, sI x4, sI x13, sR c2_0, sR c4_0, sR c6_0, sR c8_0, sR b9, sU, sU] [(vI 1)]) _
      refine XS.pop X17.here hx rfl (hb hby at_94) rfl rfl ?_
      show St p e below T17 (mkF m 95 #[sI i0, sI i1, sI i2, sI i3, sI x4, sI x13, sR c2_0, sR c4_0, sR c6_0, sR c8_0, sR b9, sU, sU] []) _
      refine Own.iload X17.here hx rfl (hb hby at_95) rfl hp0 ?_
      refine wic X17 hx hby rfl at_97 ?_
      refine wcy X17 hx hby rfl (pc0 := 98) (pc' := 119) rfl at_98 rfl (flt (by decide : ¬ ((2 : Int32) < (2 : Int32)))).2.2.2 (by decide) (by decide) ?_
      show St p e below T17 (mkF m 119 #[sI i0, sI i1, sI i2, sI i3, sI x4, sI x13, sR c2_0, sR c4_0, sR c6_0, sR c8_0, sR b9, sU, sU] []) _
      refine Own.iload X17.here hx rfl (hb hby at_119) rfl hp0 ?_
      refine wic X17 hx hby rfl at_121 ?_
      refine wcy X17 hx hby rfl (pc0 := 122) (pc' := 143) rfl at_122 rfl (flt (by decide : ¬ ((3 : Int32) < (2 : Int32)))).2.2.2 (by decide) (by decide) ?_
      show St p e below T17 (mkF m 143 #[sI i0, sI i1, sI i2, sI i3, sI x4, sI x13, sR c2_0, sR c4_0, sR c6_0, sR c8_0, sR b9, sU, sU] []) _
      refine Own.iload X17.here hx rfl (hb hby at_143) rfl hp1 ?_
      refine wfn X17 hx hby rfl at_145 rfl ((if0 _ _).trans (teq (by decide : (0 : Int32) = (0 : Int32))).2) ?_
      refine waL X17 hx hby rfl at_148 rfl rfl ?_
      refine wgt X17 hx hby rfl (pc0 := 150) (pc' := 177) rfl at_150 (by decide) (by decide) ?_
      show St p e below T17 (mkF m 177 #[sI i0, sI i1, sI i2, sI i3, sI x4, sI x13, sR c2_0, sR c4_0, sR c6_0, sR c8_0, sR b9, sU, sU] [(vR c2_0)]) _
      refine waS X17 hx hby rfl at_177 rfl rfl (l' := #[sI i0, sI i1, sI i2, sI i3, sI x4, sI x13, sR c2_0, sR c4_0, sR c6_0, sR c8_0, sR b9, sR c2_0, sU]) rfl ?_
      refine waL X17 hx hby rfl at_179 rfl rfl ?_
      refine Own.iload X17.here hx rfl (hb hby at_181) rfl hp1 ?_
      refine st24 _ ?_
      refine waS X24 hx hby rfl at_186 rfl rfl (l' := #[sI i0, sI i1, sI i2, sI i3, sI x4, sI x13, sR c2_0, sR c4_0, sR c6_0, sR c8_0, sR b9, sR c2_0, sR c2_0]) rfl ?_
      refine waL X24 hx hby rfl at_188 rfl rfl ?_
      refine waL X24 hx hby rfl at_190 rfl rfl ?_
      refine Jvm.RoadKit.acmp (g := (mkF m 192 #[sI i0, sI i1, sI i2, sI i3, sI x4, sI x13, sR c2_0, sR c4_0, sR c6_0, sR c8_0, sR b9, sR c2_0, sR c2_0] [(vR c2_0), (vR c2_0)])) X24 hx rfl rfl rfl (pc0 := 192) (pc' := 195) (same := true) rfl (hb hby at_192) rfl (decide_eq_true rfl) (by decide) (by decide) ?_
      refine waL X24 hx hby rfl at_195 rfl rfl ?_
      refine st27 _ ?_
      refine Own.iload X27.here hx rfl (hb hby at_202) rfl hp0 ?_
      refine wcn X27 hx hby rfl at_204 rfl (teq (by decide : (2 : Int32) = (2 : Int32))).2 ?_
      refine waL X27 hx hby rfl at_207 rfl rfl ?_
      refine Own.iload X27.here hx rfl (hb hby at_209) rfl hp1 ?_
      refine st28 _ ?_
      refine waL X28 hx hby rfl at_216 rfl rfl ?_
      show St p e below T28 (mkF m 218 #[sI i0, sI i1, sI i2, sI i3, sI x4, sI x13, sR c2_0, sR c4_0, sR c6_0, sR c8_0, sR b9, sR c2_0, sR c2_0] [(vR c2_0), (vR c2_0)]) _
      refine Jvm.RoadKit.acmp (g := (mkF m 218 #[sI i0, sI i1, sI i2, sI i3, sI x4, sI x13, sR c2_0, sR c4_0, sR c6_0, sR c8_0, sR b9, sR c2_0, sR c2_0] [(vR c2_0), (vR c2_0)])) X28 hx rfl rfl rfl (pc0 := 218) (pc' := 221) (same := true) rfl (hb hby at_218) rfl (decide_eq_true rfl) (by decide) (by decide) ?_
      refine wic X28 hx hby rfl at_221 ?_
      refine wgt X28 hx hby rfl (pc0 := 222) (pc' := 226) rfl at_222 (by decide) (by decide) ?_
      show St p e below T28 (mkF m 226 #[sI i0, sI i1, sI i2, sI i3, sI x4, sI x13, sR c2_0, sR c4_0, sR c6_0, sR c8_0, sR b9, sR c2_0, sR c2_0] [(vI 1)]) _
      exact retN X28 hx (t := .boolean) hret (by simp) (hb hby at_226) hr
    · have f11 : Exa Z T10.heap c2_0 z5 := ((((((((q2_0.ext E3).keep Kq4).ext E5).keep Kq6).ext E7).keep Kq8).ext E9).keep Kq10)
      have sf12 := (sf0 : ∀ x ∈ [], Safe Z EL T8.vm T10.heap x)
      obtain ⟨_, T12, L12, ⟨oz12, rfl, N12q, Kq12, q12⟩, X12, st12⟩ := own_callS X10 hx hZ8 (W := 1) hown8 (hw _ m165) (hw _ m166) (hw _ m167) (hw _ m168) (by decide) (jm0 cx (0 : Int32) (1 : Int32) i2 i3 c2_0 O10 (by decide : ¬ ((0 : Int32) = (1 : Int32))) f11) (rfl : T10.heap = T10.heap) (g := (mkF m 62 #[sI i0, sI i1, sI i2, sI i3, sI x4, sI x13, sR c2_0, sR c4_0, sR c6_0, sR c8_0, sR b9, sU, sU] [(vR c2_0), (vI i3), (vI i2), (vI 1), (vI 0), (vR b9)])) rfl hml rfl (rest := [(vR b9)]) (lenOf pd559 rfl) rfl rfl rfl (hb hby at_62) (by decide)
      have N12 := Fr.app N10 N12q
      have C12 := C10.trans (CHr.keep Kq12 sf12 C10.1)
      have O12 : Old Z n0 T12.heap := O10.keep Kq12 all0
      have K12 : Keep h0 T12.heap [] := K10.trans Kq12 all0
      have f14 : Exa Z T12.heap b9 z0 := ((A9.keep Kq10).keep Kq12)
      have f15 : Fld Z T12.heap b9 z6 "modCount" "I" (vI 0) := (q10_0.keep Kq12 nin0)
      have f16 : Fld Z T12.heap b9 z0 z7 z4 (vR w4) := (q10_1.keep Kq12 nin0)
      have f17 : Fld Z T12.heap b9 z0 "size" "I" (vI 0) := (q10_2.keep Kq12 nin0)
      have sf13 := ((sfS (Safe.exa (EL := EL) hZ8.alike f14 (by decide) (by decide)) sf0) : ∀ x ∈ [b9], Safe Z EL T8.vm T12.heap x)
      obtain ⟨_, T13, L13, ⟨c13_0, k13_1, rfl, N13q, Kq13, lo13_0, q13_0, q13_1, q13_2, q13_3, q13_4⟩, X13, st13⟩ := own_iface X12 hx hZ8 (W := 0) hown8 (hw _ m169) (hw _ m170) (mvT hZ8 (hw _ m171)) (hw _ m172) (hw _ m173) (mvT hZ8 (hw _ m174)) (mvT hZ8 (hw _ m175)) (hw _ m176) (hw _ m143) (hw _ m177) (by decide) (rm62 cx b9 oz12 O12 f14 f15 f16 f17 (Nat.le_trans (own_old_le O8) g9) q12) (rfl : T12.heap = T12.heap) f14 (g := (mkF m 65 #[sI i0, sI i1, sI i2, sI i3, sI x4, sI x13, sR c2_0, sR c4_0, sR c6_0, sR c8_0, sR b9, sU, sU] [oz12, (vR b9)])) rfl hml rfl (rest := []) (lenOf pd646 rfl) rfl rfl rfl (hb hby at_65) (by decide)
      have N13 := Fr.app N12 N13q
      have C13 := C12.trans (CHr.keep Kq13 sf13 C12.1)
      have O13 : Old Z n0 T13.heap := O12.keep Kq13 (allS (Nat.le_trans (own_old_le O8) g9) all0)
      have K13 : Keep h0 T13.heap [] := K12.trans Kq13 (allS (Or.inr (Nat.le_trans K8.1 g9)) all0)
      have sf18 := (sf0 : ∀ x ∈ [], Safe Z EL T8.vm T13.heap x)
      obtain ⟨_, T18, L18, ⟨rfl, N18q, e18⟩, X18, st18⟩ := cS X13 hx hZ8 (W := 1) hown8 (cw31 cx) (rm63 cx i2 i3 c4_0 O13) (rfl : T13.heap = T13.heap) (g := (mkF m 86 #[sI i0, sI i1, sI i2, sI i3, sI x4, sI x13, sR c2_0, sR c4_0, sR c6_0, sR c8_0, sR b9, sU, sU] [(vR c4_0), (vI i3), (vI i2), (vI 1), (vI 1), (vR b9)])) rfl hml rfl (rest := [(vR b9)]) rfl rfl rfl rfl (hb hby at_86) (by decide)
      have f20 : Exa Z T13.heap b9 z0 := (f14.keep Kq13)
      have ne21 : b9 ≠ c13_0 := (Nat.ne_of_lt (Nat.lt_of_lt_of_le (Nat.lt_of_lt_of_le A9.lt (Nat.le_trans Kq10.1 Kq12.1)) lo13_0))
      have f22 : Exa Z T13.heap c4_0 z5 := ((((((((q4_0.ext E5).keep Kq6).ext E7).keep Kq8).ext E9).keep Kq10).keep Kq12).keep Kq13)
      have sf19 := ((sfS (Safe.exa (EL := EL) hZ8.alike f20 (by decide) (by decide)) (sfS (Safe.arv (EL := EL) hZ8.alike q13_0 (by decide)) sf0)) : ∀ x ∈ [b9, c13_0], Safe Z EL T8.vm T13.heap x)
      obtain ⟨_, T19, L19, ⟨rfl, N19q, Kq19, q19_0, q19_1, q19_2, q19_3⟩, X19, st19⟩ := own_iface X18 hx hZ8 (W := 0) hown8 (hw _ m169) (hw _ m170) (mvT hZ8 (hw _ m171)) (hw _ m172) (hw _ m173) (mvT hZ8 (hw _ m174)) (mvT hZ8 (hw _ m175)) (hw _ m176) (hw _ m143) (hw _ m177) (by decide) (rm65 cx b9 c13_0 k13_1 oz12 c4_0 O13 f20 q13_2 q13_3 q13_4 q13_0 (Nat.le_trans (own_old_le O8) g9) (Ne.symm ne21) q13_1 f22 (Nat.le_trans (own_old_le O12) lo13_0)) e18 f20 (g := (mkF m 89 #[sI i0, sI i1, sI i2, sI i3, sI x4, sI x13, sR c2_0, sR c4_0, sR c6_0, sR c8_0, sR b9, sU, sU] [(vR c4_0), (vR b9)])) rfl hml rfl (rest := []) (lenOf pd646 rfl) rfl rfl rfl (hb hby at_89) (by decide)
      have N19 := Fr.app (Fr.app N13 N18q) N19q
      have C19 := C13.trans (CHr.keep Kq19 sf19 C13.1)
      have O19 : Old Z n0 T19.heap := O13.keep Kq19 (allS (Nat.le_trans (own_old_le O8) g9) (allS (Nat.le_trans (own_old_le O12) lo13_0) all0))
      have K19 : Keep h0 T19.heap [] := K13.trans Kq19 (allS (Or.inr (Nat.le_trans K8.1 g9)) (allS (Or.inr (Nat.le_trans K12.1 lo13_0)) all0))
      have f24 : Exa Z T19.heap b9 z0 := (f20.keep Kq19)
      have f25 : Exa Z T19.heap c4_0 z5 := (f22.keep Kq19)
      have sf23 := (sf0 : ∀ x ∈ [], Safe Z EL T8.vm T19.heap x)
      obtain ⟨_, T23, L23, ⟨rfl, N23q, e23⟩, X23, st23⟩ := cS X19 hx hZ8 (W := 0) hown8 (cw36 cx) (rm69 cx b9 c13_0 k13_1 oz12 c4_0 O19 q19_2 f24 q19_1 q19_3 f25) (rfl : T19.heap = T19.heap) (g := (mkF m 183 #[sI i0, sI i1, sI i2, sI i3, sI x4, sI x13, sR c2_0, sR c4_0, sR c6_0, sR c8_0, sR b9, sR c4_0, sU] [(vI 1), (vR b9)])) rfl hml rfl (rest := []) rfl rfl rfl rfl (hb hby at_183) (by decide)
      have sf26 := (sf0 : ∀ x ∈ [], Safe Z EL T8.vm T19.heap x)
      obtain ⟨_, T26, L26, ⟨rfl, N26q, e26⟩, X26, st26⟩ := own_iface X23 hx hZ8 (W := 0) hown8 (hw _ m230) (hw _ m205) (mvT hZ8 (hw _ m206)) (hw _ m207) (hw _ m208) (mvT hZ8 (hw _ m209)) (mvT hZ8 (hw _ m210)) (hw _ m176) (hw _ m143) (hw _ m211) (by decide) (rm56 cx b9 O19 q19_2) e23 f24 (g := (mkF m 197 #[sI i0, sI i1, sI i2, sI i3, sI x4, sI x13, sR c2_0, sR c4_0, sR c6_0, sR c8_0, sR b9, sR c4_0, sR c4_0] [(vR b9)])) rfl hml rfl (rest := []) (lenOf pd200 rfl) rfl rfl rfl (hb hby at_197) (by decide)
      have sf27 := (sf0 : ∀ x ∈ [], Safe Z EL T8.vm T19.heap x)
      obtain ⟨_, T27, L27, ⟨rfl, N27q, e27⟩, X27, st27⟩ := own_iface X26 hx hZ8 (W := 0) hown8 (hw _ m231) (hw _ m213) (mvT hZ8 (hw _ m214)) (hw _ m215) (hw _ m216) (mvT hZ8 (hw _ m217)) (mvT hZ8 (hw _ m218)) (hw _ m176) (hw _ m143) (hw _ m219) (by decide) (rm68 cx b9 c13_0 k13_1 oz12 c4_0 O19 q19_2 q19_1 q19_3 f24) e26 f24 (g := (mkF m 211 #[sI i0, sI i1, sI i2, sI i3, sI x4, sI x13, sR c2_0, sR c4_0, sR c6_0, sR c8_0, sR b9, sR c4_0, sR c4_0] [(vI 1), (vR b9)])) rfl hml rfl (rest := []) (lenOf pd521 rfl) rfl rfl rfl (hb hby at_211) (by decide)
      refine own_endW X27 hlk (v := some (vI 1)) (own_hv hret) hS8 (Nat.le_trans (Nat.le_refl _) (Nat.le_trans (Nat.le_trans (Nat.le_trans (Nat.le_trans E9.1 Kq10.1) Kq12.1) Kq13.1) Kq19.1)) (by decide) hh e27 C19 hZ8 (own_EW hw hj) ⟨rfl, (Fr.app (Fr.app (Fr.app N19 N23q) N26q) N27q)⟩ fun fs hr => pre2 _ ?_
      refine Own.iload X10.here hx rfl (hb hby at_56) rfl hp1 ?_
      refine wil X10 hx hby rfl at_58 rfl ?_
      show St p e below T10 (mkF m 59 #[sI i0, sI i1, sI i2, sI i3, sI x4, sI x13, sR c2_0, sR c4_0, sR c6_0, sR c8_0, sR b9, sU, sU] [(vI i2), (vI 1), (vI 0), (vR b9)]) _
      refine wil X10 hx hby rfl at_59 rfl ?_
      refine waL X10 hx hby rfl at_60 rfl rfl ?_
      refine st12 _ ?_
      refine st13 _ ?_
      refine XS.pop X13.here hx rfl (hb hby at_70) rfl rfl ?_
      refine Own.iload X13.here hx rfl (hb hby at_71) rfl hp0 ?_
      refine wic X13 hx hby rfl at_73 ?_
      refine wcn X13 hx hby rfl at_74 rfl (tlt (by decide : (1 : Int32) < (2 : Int32))).2.2.2 ?_
      refine waL X13 hx hby rfl at_77 rfl rfl ?_
      refine wic X13 hx hby rfl at_79 ?_
      refine Own.iload X13.here hx rfl (hb hby at_80) rfl hp1 ?_
      refine wil X13 hx hby rfl at_82 rfl ?_
      refine wil X13 hx hby rfl at_83 rfl ?_
      refine waL X13 hx hby rfl at_84 rfl rfl ?_
      refine st18 _ ?_
      refine st19 _ ?_
      show St p e below T19 (mkF m 94 #[sI i0, sI i1, sI i2, sI i3, sI x4, sI x13, sR c2_0, sR c4_0, sR c6_0, sR c8_0, sR b9, sU, sU] [(vI 1)]) _
      refine XS.pop X19.here hx rfl (hb hby at_94) rfl rfl ?_
      show St p e below T19 (mkF m 95 #[sI i0, sI i1, sI i2, sI i3, sI x4, sI x13, sR c2_0, sR c4_0, sR c6_0, sR c8_0, sR b9, sU, sU] []) _
      refine Own.iload X19.here hx rfl (hb hby at_95) rfl hp0 ?_
      refine wic X19 hx hby rfl at_97 ?_
      refine wcy X19 hx hby rfl (pc0 := 98) (pc' := 119) rfl at_98 rfl (flt (by decide : ¬ ((2 : Int32) < (2 : Int32)))).2.2.2 (by decide) (by decide) ?_
      show St p e below T19 (mkF m 119 #[sI i0, sI i1, sI i2, sI i3, sI x4, sI x13, sR c2_0, sR c4_0, sR c6_0, sR c8_0, sR b9, sU, sU] []) _
      refine Own.iload X19.here hx rfl (hb hby at_119) rfl hp0 ?_
      refine wic X19 hx hby rfl at_121 ?_
      refine wcy X19 hx hby rfl (pc0 := 122) (pc' := 143) rfl at_122 rfl (flt (by decide : ¬ ((3 : Int32) < (2 : Int32)))).2.2.2 (by decide) (by decide) ?_
      show St p e below T19 (mkF m 143 #[sI i0, sI i1, sI i2, sI i3, sI x4, sI x13, sR c2_0, sR c4_0, sR c6_0, sR c8_0, sR b9, sU, sU] []) _
      refine Own.iload X19.here hx rfl (hb hby at_143) rfl hp1 ?_
      refine wfy X19 hx hby rfl (pc0 := 145) (pc' := 153) rfl at_145 rfl ((if0 _ _).trans (feq (by decide : ¬ ((1 : Int32) = (0 : Int32)))).2) (by decide) (by decide) ?_
      show St p e below T19 (mkF m 153 #[sI i0, sI i1, sI i2, sI i3, sI x4, sI x13, sR c2_0, sR c4_0, sR c6_0, sR c8_0, sR b9, sU, sU] []) _
      refine Own.iload X19.here hx rfl (hb hby at_153) rfl hp1 ?_
      refine wic X19 hx hby rfl at_155 ?_
      refine wcn X19 hx hby rfl at_156 rfl (teq (by decide : (1 : Int32) = (1 : Int32))).2 ?_
      refine waL X19 hx hby rfl at_159 rfl rfl ?_
      refine wgt X19 hx hby rfl (pc0 := 161) (pc' := 177) rfl at_161 (by decide) (by decide) ?_
      show St p e below T19 (mkF m 177 #[sI i0, sI i1, sI i2, sI i3, sI x4, sI x13, sR c2_0, sR c4_0, sR c6_0, sR c8_0, sR b9, sU, sU] [(vR c4_0)]) _
      refine waS X19 hx hby rfl at_177 rfl rfl (l' := #[sI i0, sI i1, sI i2, sI i3, sI x4, sI x13, sR c2_0, sR c4_0, sR c6_0, sR c8_0, sR b9, sR c4_0, sU]) rfl ?_
      refine waL X19 hx hby rfl at_179 rfl rfl ?_
      refine Own.iload X19.here hx rfl (hb hby at_181) rfl hp1 ?_
      refine st23 _ ?_
      refine waS X23 hx hby rfl at_186 rfl rfl (l' := #[sI i0, sI i1, sI i2, sI i3, sI x4, sI x13, sR c2_0, sR c4_0, sR c6_0, sR c8_0, sR b9, sR c4_0, sR c4_0]) rfl ?_
      refine waL X23 hx hby rfl at_188 rfl rfl ?_
      refine waL X23 hx hby rfl at_190 rfl rfl ?_
      refine Jvm.RoadKit.acmp (g := (mkF m 192 #[sI i0, sI i1, sI i2, sI i3, sI x4, sI x13, sR c2_0, sR c4_0, sR c6_0, sR c8_0, sR b9, sR c4_0, sR c4_0] [(vR c4_0), (vR c4_0)])) X23 hx rfl rfl rfl (pc0 := 192) (pc' := 195) (same := true) rfl (hb hby at_192) rfl (decide_eq_true rfl) (by decide) (by decide) ?_
      refine waL X23 hx hby rfl at_195 rfl rfl ?_
      refine st26 _ ?_
      refine Own.iload X26.here hx rfl (hb hby at_202) rfl hp0 ?_
      refine wcn X26 hx hby rfl at_204 rfl (teq (by decide : (2 : Int32) = (2 : Int32))).2 ?_
      refine waL X26 hx hby rfl at_207 rfl rfl ?_
      refine Own.iload X26.here hx rfl (hb hby at_209) rfl hp1 ?_
      refine st27 _ ?_
      refine waL X27 hx hby rfl at_216 rfl rfl ?_
      show St p e below T27 (mkF m 218 #[sI i0, sI i1, sI i2, sI i3, sI x4, sI x13, sR c2_0, sR c4_0, sR c6_0, sR c8_0, sR b9, sR c4_0, sR c4_0] [(vR c4_0), (vR c4_0)]) _
      refine Jvm.RoadKit.acmp (g := (mkF m 218 #[sI i0, sI i1, sI i2, sI i3, sI x4, sI x13, sR c2_0, sR c4_0, sR c6_0, sR c8_0, sR b9, sR c4_0, sR c4_0] [(vR c4_0), (vR c4_0)])) X27 hx rfl rfl rfl (pc0 := 218) (pc' := 221) (same := true) rfl (hb hby at_218) rfl (decide_eq_true rfl) (by decide) (by decide) ?_
      refine wic X27 hx hby rfl at_221 ?_
      refine wgt X27 hx hby rfl (pc0 := 222) (pc' := 226) rfl at_222 (by decide) (by decide) ?_
      show St p e below T27 (mkF m 226 #[sI i0, sI i1, sI i2, sI i3, sI x4, sI x13, sR c2_0, sR c4_0, sR c6_0, sR c8_0, sR b9, sR c4_0, sR c4_0] [(vI 1)]) _
      exact retN X27 hx (t := .boolean) hret (by simp) (hb hby at_226) hr
  · obtain ⟨x13, hx13⟩ : ∃ z, (x10 % (3 : Int32)) = z := ⟨_, rfl⟩
    have rx13 : 0 ≤ x13.toInt ∧ x13.toInt ≤ 2 := hx13 ▸ (own_rem x10 (3 : Int32) 3 (by decide) (by have q0 := rx10; omega : 0 ≤ (x10).toInt ∧ (x10).toInt ≤ 2147483647) (by decide) : 0 ≤ ((x10 % (3 : Int32))).toInt ∧ ((x10 % (3 : Int32))).toInt ≤ 2)
    obtain ⟨sa1, T1, h1, k11, sb1, k1, X1, e1, E1, hS1, hk1, hZ1, hown1, A1, Fc1, Fv1, V1, la1, lb1, Cq1, -, hn1, st1⟩ := ldcCH X0 hx hZ hown (hw _ m1) (own_str hw hj) e0 hS0 (Nat.le_refl _) (own_EW hw hj) (List.mem_of_getElem? (i := 1) rfl) C0.1 (vs := [(.int (123 : Int32)), (.int (125 : Int32))]) (z := (2 : Int32)) ⟨by decide, by decide⟩ (by decide) (by decide) (g := (mkF m 16 #[sI i0, sI i1, sI i2, sI i3, sI x4, sI x13, sU, sU, sU, sU, sU, sU, sU] [])) rfl (hb hby at_16) (n := 8) (by decide) (by decide) (by decide) (by decide)
    have O1 : Old Z n0 h1 := O0.ext E1
    have K1 : Keep h0 h1 [] := (Keep.refl h0 []).ext E1
    have C1 := C0.trans Cq1
    obtain ⟨_, T2, L2, ⟨c2_0, rfl, N2q, Kq2, lo2_0, q2_0, q2_1, q2_2, q2_3⟩, hS2, hZ2, hown2, Cq2, X2, st2⟩ := cSW X1 hx hZ1 (W := 0) hown1 (cw30 cx) (rm41 cx sa1 sb1 k1 O1 Fv1 V1 Fc1 A1) e1 hS1 hk1 (own_EW hw hj) C1.1 own_sx0 (g := (mkF m 18 #[sI i0, sI i1, sI i2, sI i3, sI x4, sI x13, sU, sU, sU, sU, sU, sU, sU] [(vR sa1)])) rfl hml rfl (rest := []) rfl rfl rfl rfl (hb hby at_18) (by decide)
    have N2 := Fr.app N0 N2q
    have C2 := C1.trans Cq2
    have O2 : Old Z n0 T2.heap := O1.keep Kq2 all0
    have K2 : Keep h0 T2.heap [] := K1.trans Kq2 all0
    obtain ⟨sa3, T3, h3, k13, sb3, k3, X3, e3, E3, hS3, hk3, hZ3, hown3, A3, Fc3, Fv3, V3, la3, lb3, Cq3, -, hn3, st3⟩ := ldcCH X2 hx hZ2 hown2 (hw _ m1) (own_str hw hj) (rfl : T2.heap = T2.heap) hS2 (Nat.le_refl _) (own_EW hw hj) (List.mem_of_getElem? (i := 1) rfl) C2.1 (vs := [(.int (123 : Int32)), (.int (125 : Int32))]) (z := (2 : Int32)) ⟨by decide, by decide⟩ (by decide) (by decide) (g := (mkF m 23 #[sI i0, sI i1, sI i2, sI i3, sI x4, sI x13, sR c2_0, sU, sU, sU, sU, sU, sU] [])) rfl (hb hby at_23) (n := 8) (by decide) (by decide) (by decide) (by decide)
    have O3 : Old Z n0 h3 := O2.ext E3
    have K3 : Keep h0 h3 [] := K2.ext E3
    have C3 := C2.trans Cq3
    obtain ⟨_, T4, L4, ⟨c4_0, rfl, N4q, Kq4, lo4_0, q4_0, q4_1, q4_2, q4_3⟩, hS4, hZ4, hown4, Cq4, X4, st4⟩ := cSW X3 hx hZ3 (W := 0) hown3 (cw30 cx) (rm41 cx sa3 sb3 k3 O3 Fv3 V3 Fc3 A3) e3 hS3 hk3 (own_EW hw hj) C3.1 own_sx0 (g := (mkF m 25 #[sI i0, sI i1, sI i2, sI i3, sI x4, sI x13, sR c2_0, sU, sU, sU, sU, sU, sU] [(vR sa3)])) rfl hml rfl (rest := []) rfl rfl rfl rfl (hb hby at_25) (by decide)
    have N4 := Fr.app N2 N4q
    have C4 := C3.trans Cq4
    have O4 : Old Z n0 T4.heap := O3.keep Kq4 all0
    have K4 : Keep h0 T4.heap [] := K3.trans Kq4 all0
    obtain ⟨sa5, T5, h5, k15, sb5, k5, X5, e5, E5, hS5, hk5, hZ5, hown5, A5, Fc5, Fv5, V5, la5, lb5, Cq5, -, hn5, st5⟩ := ldcCH X4 hx hZ4 hown4 (hw _ m1) (own_str hw hj) (rfl : T4.heap = T4.heap) hS4 (Nat.le_refl _) (own_EW hw hj) (List.mem_of_getElem? (i := 1) rfl) C4.1 (vs := [(.int (123 : Int32)), (.int (125 : Int32))]) (z := (2 : Int32)) ⟨by decide, by decide⟩ (by decide) (by decide) (g := (mkF m 30 #[sI i0, sI i1, sI i2, sI i3, sI x4, sI x13, sR c2_0, sR c4_0, sU, sU, sU, sU, sU] [])) rfl (hb hby at_30) (n := 8) (by decide) (by decide) (by decide) (by decide)
    have O5 : Old Z n0 h5 := O4.ext E5
    have K5 : Keep h0 h5 [] := K4.ext E5
    have C5 := C4.trans Cq5
    obtain ⟨_, T6, L6, ⟨c6_0, rfl, N6q, Kq6, lo6_0, q6_0, q6_1, q6_2, q6_3⟩, hS6, hZ6, hown6, Cq6, X6, st6⟩ := cSW X5 hx hZ5 (W := 0) hown5 (cw30 cx) (rm41 cx sa5 sb5 k5 O5 Fv5 V5 Fc5 A5) e5 hS5 hk5 (own_EW hw hj) C5.1 own_sx0 (g := (mkF m 32 #[sI i0, sI i1, sI i2, sI i3, sI x4, sI x13, sR c2_0, sR c4_0, sU, sU, sU, sU, sU] [(vR sa5)])) rfl hml rfl (rest := []) rfl rfl rfl rfl (hb hby at_32) (by decide)
    have N6 := Fr.app N4 N6q
    have C6 := C5.trans Cq6
    have O6 : Old Z n0 T6.heap := O5.keep Kq6 all0
    have K6 : Keep h0 T6.heap [] := K5.trans Kq6 all0
    obtain ⟨sa7, T7, h7, k17, sb7, k7, X7, e7, E7, hS7, hk7, hZ7, hown7, A7, Fc7, Fv7, V7, la7, lb7, Cq7, -, hn7, st7⟩ := ldcCH X6 hx hZ6 hown6 (hw _ m1) (own_str hw hj) (rfl : T6.heap = T6.heap) hS6 (Nat.le_refl _) (own_EW hw hj) (List.mem_of_getElem? (i := 1) rfl) C6.1 (vs := [(.int (123 : Int32)), (.int (125 : Int32))]) (z := (2 : Int32)) ⟨by decide, by decide⟩ (by decide) (by decide) (g := (mkF m 37 #[sI i0, sI i1, sI i2, sI i3, sI x4, sI x13, sR c2_0, sR c4_0, sR c6_0, sU, sU, sU, sU] [])) rfl (hb hby at_37) (n := 8) (by decide) (by decide) (by decide) (by decide)
    have O7 : Old Z n0 h7 := O6.ext E7
    have K7 : Keep h0 h7 [] := K6.ext E7
    have C7 := C6.trans Cq7
    obtain ⟨_, T8, L8, ⟨c8_0, rfl, N8q, Kq8, lo8_0, q8_0, q8_1, q8_2, q8_3⟩, hS8, hZ8, hown8, Cq8, X8, st8⟩ := cSW X7 hx hZ7 (W := 0) hown7 (cw30 cx) (rm41 cx sa7 sb7 k7 O7 Fv7 V7 Fc7 A7) e7 hS7 hk7 (own_EW hw hj) C7.1 own_sx0 (g := (mkF m 39 #[sI i0, sI i1, sI i2, sI i3, sI x4, sI x13, sR c2_0, sR c4_0, sR c6_0, sU, sU, sU, sU] [(vR sa7)])) rfl hml rfl (rest := []) rfl rfl rfl rfl (hb hby at_39) (by decide)
    have N8 := Fr.app N6 N8q
    have C8 := C7.trans Cq8
    have O8 : Old Z n0 T8.heap := O7.keep Kq8 all0
    have K8 : Keep h0 T8.heap [] := K7.trans Kq8 all0
    obtain ⟨T9, h9, b9, X9, e9, E9, A9, D9, g9, O9, K9, st9⟩ := own_newO X8 hx hZ8 hown8 (hw _ m141) (hw _ m142) (hw _ m143) (rfl : T8.heap = T8.heap) O8 K8 (g := (mkF m 44 #[sI i0, sI i1, sI i2, sI i3, sI x4, sI x13, sR c2_0, sR c4_0, sR c6_0, sR c8_0, sU, sU, sU] [])) rfl (hb hby at_44) (by decide) (by decide)
    have C9 := C8.trans (CHr.ext E9 C8.1)
    have F9_1 : Fld Z h9 b9 z6 "modCount" "I" (vI 0) := D9 (Or.inl (hw _ m161)) (ty := .int) (by decide)
    have F9_2 : Fld Z h9 b9 z0 z7 z4 .null := D9 (Or.inl (hw _ m164)) (ty := (.array (.object z2))) (by decide)
    have F9_3 : Fld Z h9 b9 z0 "size" "I" (vI 0) := D9 (Or.inl (hw _ m181)) (ty := .int) (by decide)
    have sf10 := ((sfS (Safe.exa (EL := EL) hZ8.alike A9 (by decide) (by decide)) sf0) : ∀ x ∈ [b9], Safe Z EL T8.vm h9 x)
    obtain ⟨_, T10, L10, ⟨rfl, N10q, Kq10, q10_0, q10_1, q10_2⟩, X10, st10⟩ := cI X9 hx hZ8 (W := 1) hown8 (cw5 cx) (rm8 cx b9 O9 A9 F9_1 F9_2 F9_3 (Nat.le_trans (own_old_le O8) g9)) e9 (g := (mkF m 48 #[sI i0, sI i1, sI i2, sI i3, sI x4, sI x13, sR c2_0, sR c4_0, sR c6_0, sR c8_0, sU, sU, sU] [(vR b9), (vR b9)])) rfl hml rfl (rest := [(vR b9)]) rfl rfl rfl rfl (hb hby at_48) (by decide)
    have N10 := Fr.app N8 N10q
    have C10 := C9.trans (CHr.keep Kq10 sf10 C9.1)
    have O10 : Old Z n0 T10.heap := O9.keep Kq10 (allS (Nat.le_trans (own_old_le O8) g9) all0)
    have K10 : Keep h0 T10.heap [] := K9.trans Kq10 (allS (Or.inr (Nat.le_trans K8.1 g9)) all0)
    have pre2 : ∀ t, St p e below T10 (mkF m 56 #[sI i0, sI i1, sI i2, sI i3, sI x4, sI x13, sR c2_0, sR c4_0, sR c6_0, sR c8_0, sR b9, sU, sU] [(vI 0), (vR b9)]) t → St p e below s₁ g0 t := fun t kt => pre1 _ (by
        refine Own.iload X0.here hx rfl (hb hby at_11) rfl hp0 ?_
        refine own_irem X0 hx rfl (hb hby at_13) rfl (by decide : ¬ ((3 : Int32) = (0 : Int32))) hx13 ?_
        refine wiS X0 hx hby rfl at_14 rfl (l' := #[sI i0, sI i1, sI i2, sI i3, sI x4, sI x13, sU, sU, sU, sU, sU, sU, sU]) rfl ?_
        refine st1 _ ?_
        refine st2 _ ?_
        refine waS X2 hx hby rfl at_21 rfl rfl (l' := #[sI i0, sI i1, sI i2, sI i3, sI x4, sI x13, sR c2_0, sU, sU, sU, sU, sU, sU]) rfl ?_
        refine st3 _ ?_
        show St p e below T3 (mkF m 25 #[sI i0, sI i1, sI i2, sI i3, sI x4, sI x13, sR c2_0, sU, sU, sU, sU, sU, sU] [(vR sa3)]) _
        refine st4 _ ?_
        refine waS X4 hx hby rfl at_28 rfl rfl (l' := #[sI i0, sI i1, sI i2, sI i3, sI x4, sI x13, sR c2_0, sR c4_0, sU, sU, sU, sU, sU]) rfl ?_
        refine st5 _ ?_
        refine st6 _ ?_
        refine waS X6 hx hby rfl at_35 rfl rfl (l' := #[sI i0, sI i1, sI i2, sI i3, sI x4, sI x13, sR c2_0, sR c4_0, sR c6_0, sU, sU, sU, sU]) rfl ?_
        refine st7 _ ?_
        refine st8 _ ?_
        refine waS X8 hx hby rfl at_42 rfl rfl (l' := #[sI i0, sI i1, sI i2, sI i3, sI x4, sI x13, sR c2_0, sR c4_0, sR c6_0, sR c8_0, sU, sU, sU]) rfl ?_
        refine st9 _ ?_
        refine wdu X9 hx hby rfl at_47 rfl rfl ?_
        refine st10 _ ?_
        refine waS X10 hx hby rfl at_51 rfl rfl (l' := #[sI i0, sI i1, sI i2, sI i3, sI x4, sI x13, sR c2_0, sR c4_0, sR c6_0, sR c8_0, sR b9, sU, sU]) rfl ?_
        refine waL X10 hx hby rfl at_53 rfl rfl ?_
        refine wic X10 hx hby rfl at_55 ?_
        exact kt)
    rcases en_727 x13 (by have q0 := own_rng i1; have q1 := (by decide : ((2147483647 : Int32)).toInt = 2147483647); have q2 := (own_mask i1 (2147483647 : Int32) (by decide) : 0 ≤ ((i1 &&& (2147483647 : Int32))).toInt ∧ ((i1 &&& (2147483647 : Int32))).toInt ≤ 2147483647); have q3 := congrArg Int32.toInt hx10; have q4 := rx10; have q5 := (by decide : ((3 : Int32)).toInt = 3); have q6 := (own_rem x10 (3 : Int32) 3 (by decide) (by have q0 := rx10; omega : 0 ≤ (x10).toInt ∧ (x10).toInt ≤ 2147483647) (by decide) : 0 ≤ ((x10 % (3 : Int32))).toInt ∧ ((x10 % (3 : Int32))).toInt ≤ 2); have q7 := congrArg Int32.toInt hx13; have q8 := rx13; omega) with hp1 | hp1 | hp1
    · have sf11 := (sf0 : ∀ x ∈ [], Safe Z EL T8.vm T10.heap x)
      obtain ⟨_, T11, L11, ⟨rfl, N11q, e11⟩, X11, st11⟩ := cS X10 hx hZ8 (W := 1) hown8 (cw31 cx) (rm42 cx i2 i3 c2_0 O10) (rfl : T10.heap = T10.heap) (g := (mkF m 62 #[sI i0, sI i1, sI i2, sI i3, sI x4, sI x13, sR c2_0, sR c4_0, sR c6_0, sR c8_0, sR b9, sU, sU] [(vR c2_0), (vI i3), (vI i2), (vI 0), (vI 0), (vR b9)])) rfl hml rfl (rest := [(vR b9)]) rfl rfl rfl rfl (hb hby at_62) (by decide)
      have f13 : Exa Z T10.heap b9 z0 := (A9.keep Kq10)
      have f14 : Exa Z T10.heap c2_0 z5 := ((((((((q2_0.ext E3).keep Kq4).ext E5).keep Kq6).ext E7).keep Kq8).ext E9).keep Kq10)
      have sf12 := ((sfS (Safe.exa (EL := EL) hZ8.alike f13 (by decide) (by decide)) sf0) : ∀ x ∈ [b9], Safe Z EL T8.vm T10.heap x)
      obtain ⟨_, T12, L12, ⟨c12_0, k12_1, rfl, N12q, Kq12, lo12_0, q12_0, q12_1, q12_2, q12_3, q12_4⟩, X12, st12⟩ := own_iface X11 hx hZ8 (W := 0) hown8 (hw _ m169) (hw _ m170) (mvT hZ8 (hw _ m171)) (hw _ m172) (hw _ m173) (mvT hZ8 (hw _ m174)) (mvT hZ8 (hw _ m175)) (hw _ m176) (hw _ m143) (hw _ m177) (by decide) (rm47 cx b9 c2_0 O10 f13 q10_0 q10_1 q10_2 (Nat.le_trans (own_old_le O8) g9) f14) e11 f13 (g := (mkF m 65 #[sI i0, sI i1, sI i2, sI i3, sI x4, sI x13, sR c2_0, sR c4_0, sR c6_0, sR c8_0, sR b9, sU, sU] [(vR c2_0), (vR b9)])) rfl hml rfl (rest := []) (lenOf pd646 rfl) rfl rfl rfl (hb hby at_65) (by decide)
      have N12 := Fr.app (Fr.app N10 N11q) N12q
      have C12 := C10.trans (CHr.keep Kq12 sf12 C10.1)
      have O12 : Old Z n0 T12.heap := O10.keep Kq12 (allS (Nat.le_trans (own_old_le O8) g9) all0)
      have K12 : Keep h0 T12.heap [] := K10.trans Kq12 (allS (Or.inr (Nat.le_trans K8.1 g9)) all0)
      have f15 : Exa Z T12.heap c4_0 z5 := (((((((q4_0.ext E5).keep Kq6).ext E7).keep Kq8).ext E9).keep Kq10).keep Kq12)
      have sf16 := (sf0 : ∀ x ∈ [], Safe Z EL T8.vm T12.heap x)
      obtain ⟨_, T16, L16, ⟨oz16, rfl, N16q, Kq16, q16⟩, X16, st16⟩ := own_callS X12 hx hZ8 (W := 1) hown8 (hw _ m165) (hw _ m166) (hw _ m167) (hw _ m168) (by decide) (jm0 cx (1 : Int32) (0 : Int32) i2 i3 c4_0 O12 (by decide : ¬ ((1 : Int32) = (0 : Int32))) f15) (rfl : T12.heap = T12.heap) (g := (mkF m 86 #[sI i0, sI i1, sI i2, sI i3, sI x4, sI x13, sR c2_0, sR c4_0, sR c6_0, sR c8_0, sR b9, sU, sU] [(vR c4_0), (vI i3), (vI i2), (vI 0), (vI 1), (vR b9)])) rfl hml rfl (rest := [(vR b9)]) (lenOf pd559 rfl) rfl rfl rfl (hb hby at_86) (by decide)
      have N16 := Fr.app N12 N16q
      have C16 := C12.trans (CHr.keep Kq16 sf16 C12.1)
      have O16 : Old Z n0 T16.heap := O12.keep Kq16 all0
      have K16 : Keep h0 T16.heap [] := K12.trans Kq16 all0
      have f18 : Exa Z T16.heap b9 z0 := ((f13.keep Kq12).keep Kq16)
      have f19 : Fld Z T16.heap b9 z6 "modCount" "I" (vI 1) := (q12_2.keep Kq16 nin0)
      have f20 : Fld Z T16.heap b9 z0 z7 z4 (vR c12_0) := (q12_3.keep Kq16 nin0)
      have f21 : Fld Z T16.heap b9 z0 "size" "I" (vI 1) := (q12_4.keep Kq16 nin0)
      have f22 : Arv Z T16.heap c12_0 k12_1 (.object z2) (10 : Int32) [(vR c2_0), .null, .null, .null, .null, .null, .null, .null, .null, .null] .null := (q12_0.keep Kq16 nin0)
      have ne23 : b9 ≠ c12_0 := (Nat.ne_of_lt (Nat.lt_of_lt_of_le (Nat.lt_of_lt_of_le A9.lt Kq10.1) lo12_0))
      have sf17 := ((sfS (Safe.exa (EL := EL) hZ8.alike f18 (by decide) (by decide)) (sfS (Safe.arv (EL := EL) hZ8.alike f22 (by decide)) sf0)) : ∀ x ∈ [b9, c12_0], Safe Z EL T8.vm T16.heap x)
      obtain ⟨_, T17, L17, ⟨rfl, N17q, Kq17, q17_0, q17_1, q17_2, q17_3⟩, X17, st17⟩ := own_iface X16 hx hZ8 (W := 0) hown8 (hw _ m169) (hw _ m170) (mvT hZ8 (hw _ m171)) (hw _ m172) (hw _ m173) (mvT hZ8 (hw _ m174)) (mvT hZ8 (hw _ m175)) (hw _ m176) (hw _ m143) (hw _ m177) (by decide) (rm55 cx b9 c12_0 k12_1 c2_0 oz16 O16 f18 f19 f20 f21 f22 (Nat.le_trans (own_old_le O8) g9) q16 (Ne.symm ne23) q12_1 (Nat.le_trans (own_old_le O10) lo12_0)) (rfl : T16.heap = T16.heap) f18 (g := (mkF m 89 #[sI i0, sI i1, sI i2, sI i3, sI x4, sI x13, sR c2_0, sR c4_0, sR c6_0, sR c8_0, sR b9, sU, sU] [oz16, (vR b9)])) rfl hml rfl (rest := []) (lenOf pd646 rfl) rfl rfl rfl (hb hby at_89) (by decide)
      have N17 := Fr.app N16 N17q
      have C17 := C16.trans (CHr.keep Kq17 sf17 C16.1)
      have O17 : Old Z n0 T17.heap := O16.keep Kq17 (allS (Nat.le_trans (own_old_le O8) g9) (allS (Nat.le_trans (own_old_le O10) lo12_0) all0))
      have K17 : Keep h0 T17.heap [] := K16.trans Kq17 (allS (Or.inr (Nat.le_trans K8.1 g9)) (allS (Or.inr (Nat.le_trans K10.1 lo12_0)) all0))
      have f24 : Exa Z T17.heap c6_0 z5 := (((((((q6_0.ext E7).keep Kq8).ext E9).keep Kq10).keep Kq12).keep Kq16).keep Kq17)
      have sf25 := (sf0 : ∀ x ∈ [], Safe Z EL T8.vm T17.heap x)
      obtain ⟨_, T25, L25, ⟨oz25, rfl, N25q, Kq25, q25⟩, X25, st25⟩ := own_callS X17 hx hZ8 (W := 1) hown8 (hw _ m165) (hw _ m166) (hw _ m167) (hw _ m168) (by decide) (jm0 cx (2 : Int32) (0 : Int32) i2 i3 c6_0 O17 (by decide : ¬ ((2 : Int32) = (0 : Int32))) f24) (rfl : T17.heap = T17.heap) (g := (mkF m 110 #[sI i0, sI i1, sI i2, sI i3, sI x4, sI x13, sR c2_0, sR c4_0, sR c6_0, sR c8_0, sR b9, sU, sU] [(vR c6_0), (vI i3), (vI i2), (vI 0), (vI 2), (vR b9)])) rfl hml rfl (rest := [(vR b9)]) (lenOf pd559 rfl) rfl rfl rfl (hb hby at_110) (by decide)
      have N25 := Fr.app N17 N25q
      have C25 := C17.trans (CHr.keep Kq25 sf25 C17.1)
      have O25 : Old Z n0 T25.heap := O17.keep Kq25 all0
      have K25 : Keep h0 T25.heap [] := K17.trans Kq25 all0
      have f27 : Exa Z T25.heap b9 z0 := ((f18.keep Kq17).keep Kq25)
      have f28 : Fld Z T25.heap b9 z6 "modCount" "I" (vI 2) := (q17_0.keep Kq25 nin0)
      have f29 : Fld Z T25.heap b9 z0 z7 z4 (vR c12_0) := (q17_1.keep Kq25 nin0)
      have f30 : Fld Z T25.heap b9 z0 "size" "I" (vI 2) := (q17_2.keep Kq25 nin0)
      have f31 : Arv Z T25.heap c12_0 k12_1 (.object z2) (10 : Int32) [(vR c2_0), oz16, .null, .null, .null, .null, .null, .null, .null, .null] .null := (q17_3.keep Kq25 nin0)
      have sf26 := ((sfS (Safe.exa (EL := EL) hZ8.alike f27 (by decide) (by decide)) (sfS (Safe.arv (EL := EL) hZ8.alike f31 (by decide)) sf0)) : ∀ x ∈ [b9, c12_0], Safe Z EL T8.vm T25.heap x)
      obtain ⟨_, T26, L26, ⟨rfl, N26q, Kq26, q26_0, q26_1, q26_2, q26_3⟩, X26, st26⟩ := own_iface X25 hx hZ8 (W := 0) hown8 (hw _ m169) (hw _ m170) (mvT hZ8 (hw _ m171)) (hw _ m172) (hw _ m173) (mvT hZ8 (hw _ m174)) (mvT hZ8 (hw _ m175)) (hw _ m176) (hw _ m143) (hw _ m177) (by decide) (rm71 cx b9 c12_0 k12_1 c2_0 oz16 oz25 O25 f27 f28 f29 f30 f31 (Nat.le_trans (own_old_le O8) g9) q25 (Ne.symm ne23) q12_1 (Nat.le_trans (own_old_le O10) lo12_0)) (rfl : T25.heap = T25.heap) f27 (g := (mkF m 113 #[sI i0, sI i1, sI i2, sI i3, sI x4, sI x13, sR c2_0, sR c4_0, sR c6_0, sR c8_0, sR b9, sU, sU] [oz25, (vR b9)])) rfl hml rfl (rest := []) (lenOf pd646 rfl) rfl rfl rfl (hb hby at_113) (by decide)
      have N26 := Fr.app N25 N26q
      have C26 := C25.trans (CHr.keep Kq26 sf26 C25.1)
      have O26 : Old Z n0 T26.heap := O25.keep Kq26 (allS (Nat.le_trans (own_old_le O8) g9) (allS (Nat.le_trans (own_old_le O10) lo12_0) all0))
      have K26 : Keep h0 T26.heap [] := K25.trans Kq26 (allS (Or.inr (Nat.le_trans K8.1 g9)) (allS (Or.inr (Nat.le_trans K10.1 lo12_0)) all0))
      have f33 : Exa Z T26.heap b9 z0 := (f27.keep Kq26)
      have f34 : Exa Z T26.heap c2_0 z5 := (((((f14.keep Kq12).keep Kq16).keep Kq17).keep Kq25).keep Kq26)
      have sf32 := (sf0 : ∀ x ∈ [], Safe Z EL T8.vm T26.heap x)
      obtain ⟨_, T32, L32, ⟨rfl, N32q, e32⟩, X32, st32⟩ := cS X26 hx hZ8 (W := 0) hown8 (cw36 cx) (rm76 cx b9 c12_0 k12_1 c2_0 oz16 oz25 O26 q26_2 f33 q26_1 q26_3 f34) (rfl : T26.heap = T26.heap) (g := (mkF m 183 #[sI i0, sI i1, sI i2, sI i3, sI x4, sI x13, sR c2_0, sR c4_0, sR c6_0, sR c8_0, sR b9, sR c2_0, sU] [(vI 0), (vR b9)])) rfl hml rfl (rest := []) rfl rfl rfl rfl (hb hby at_183) (by decide)
      have sf35 := (sf0 : ∀ x ∈ [], Safe Z EL T8.vm T26.heap x)
      obtain ⟨_, T35, L35, ⟨rfl, N35q, e35⟩, X35, st35⟩ := own_iface X32 hx hZ8 (W := 0) hown8 (hw _ m230) (hw _ m205) (mvT hZ8 (hw _ m206)) (hw _ m207) (hw _ m208) (mvT hZ8 (hw _ m209)) (mvT hZ8 (hw _ m210)) (hw _ m176) (hw _ m143) (hw _ m211) (by decide) (rm72 cx b9 O26 q26_2) e32 f33 (g := (mkF m 197 #[sI i0, sI i1, sI i2, sI i3, sI x4, sI x13, sR c2_0, sR c4_0, sR c6_0, sR c8_0, sR b9, sR c2_0, sR c2_0] [(vR b9)])) rfl hml rfl (rest := []) (lenOf pd200 rfl) rfl rfl rfl (hb hby at_197) (by decide)
      have sf36 := (sf0 : ∀ x ∈ [], Safe Z EL T8.vm T26.heap x)
      obtain ⟨_, T36, L36, ⟨rfl, N36q, e36⟩, X36, st36⟩ := own_iface X35 hx hZ8 (W := 0) hown8 (hw _ m231) (hw _ m213) (mvT hZ8 (hw _ m214)) (hw _ m215) (hw _ m216) (mvT hZ8 (hw _ m217)) (mvT hZ8 (hw _ m218)) (hw _ m176) (hw _ m143) (hw _ m219) (by decide) (rm75 cx b9 c12_0 k12_1 c2_0 oz16 oz25 O26 q26_2 q26_1 q26_3 f33) e35 f33 (g := (mkF m 211 #[sI i0, sI i1, sI i2, sI i3, sI x4, sI x13, sR c2_0, sR c4_0, sR c6_0, sR c8_0, sR b9, sR c2_0, sR c2_0] [(vI 0), (vR b9)])) rfl hml rfl (rest := []) (lenOf pd521 rfl) rfl rfl rfl (hb hby at_211) (by decide)
      refine own_endW X36 hlk (v := some (vI 1)) (own_hv hret) hS8 (Nat.le_trans (Nat.le_refl _) (Nat.le_trans (Nat.le_trans (Nat.le_trans (Nat.le_trans (Nat.le_trans (Nat.le_trans E9.1 Kq10.1) Kq12.1) Kq16.1) Kq17.1) Kq25.1) Kq26.1)) (by decide) hh e36 C26 hZ8 (own_EW hw hj) ⟨rfl, (Fr.app (Fr.app (Fr.app N26 N32q) N35q) N36q)⟩ fun fs hr => pre2 _ ?_
      refine Own.iload X10.here hx rfl (hb hby at_56) rfl hp1 ?_
      refine wil X10 hx hby rfl at_58 rfl ?_
      show St p e below T10 (mkF m 59 #[sI i0, sI i1, sI i2, sI i3, sI x4, sI x13, sR c2_0, sR c4_0, sR c6_0, sR c8_0, sR b9, sU, sU] [(vI i2), (vI 0), (vI 0), (vR b9)]) _
      refine wil X10 hx hby rfl at_59 rfl ?_
      refine waL X10 hx hby rfl at_60 rfl rfl ?_
      refine st11 _ ?_
      refine st12 _ ?_
      refine XS.pop X12.here hx rfl (hb hby at_70) rfl rfl ?_
      refine Own.iload X12.here hx rfl (hb hby at_71) rfl hp0 ?_
      refine wic X12 hx hby rfl at_73 ?_
      refine wcn X12 hx hby rfl at_74 rfl (tlt (by decide : (1 : Int32) < (3 : Int32))).2.2.2 ?_
      refine waL X12 hx hby rfl at_77 rfl rfl ?_
      refine wic X12 hx hby rfl at_79 ?_
      refine Own.iload X12.here hx rfl (hb hby at_80) rfl hp1 ?_
      refine wil X12 hx hby rfl at_82 rfl ?_
      refine wil X12 hx hby rfl at_83 rfl ?_
      refine waL X12 hx hby rfl at_84 rfl rfl ?_
      refine st16 _ ?_
      refine st17 _ ?_
      show St p e below T17 (mkF m 94 #[sI i0, sI i1, sI i2, sI i3, sI x4, sI x13, sR c2_0, sR c4_0, sR c6_0, sR c8_0, sR b9, sU, sU] [(vI 1)]) _
      refine XS.pop X17.here hx rfl (hb hby at_94) rfl rfl ?_
      show St p e below T17 (mkF m 95 #[sI i0, sI i1, sI i2, sI i3, sI x4, sI x13, sR c2_0, sR c4_0, sR c6_0, sR c8_0, sR b9, sU, sU] []) _
      refine Own.iload X17.here hx rfl (hb hby at_95) rfl hp0 ?_
      refine wic X17 hx hby rfl at_97 ?_
      refine wcn X17 hx hby rfl at_98 rfl (tlt (by decide : (2 : Int32) < (3 : Int32))).2.2.2 ?_
      refine waL X17 hx hby rfl at_101 rfl rfl ?_
      refine wic X17 hx hby rfl at_103 ?_
      refine Own.iload X17.here hx rfl (hb hby at_104) rfl hp1 ?_
      refine wil X17 hx hby rfl at_106 rfl ?_
      refine wil X17 hx hby rfl at_107 rfl ?_
      refine waL X17 hx hby rfl at_108 rfl rfl ?_
      refine st25 _ ?_
      refine st26 _ ?_
      refine XS.pop X26.here hx rfl (hb hby at_118) rfl rfl ?_
      show St p e below T26 (mkF m 119 #[sI i0, sI i1, sI i2, sI i3, sI x4, sI x13, sR c2_0, sR c4_0, sR c6_0, sR c8_0, sR b9, sU, sU] []) _
      refine Own.iload X26.here hx rfl (hb hby at_119) rfl hp0 ?_
      refine wic X26 hx hby rfl at_121 ?_
      refine wcy X26 hx hby rfl (pc0 := 122) (pc' := 143) rfl at_122 rfl (flt (by decide : ¬ ((3 : Int32) < (3 : Int32)))).2.2.2 (by decide) (by decide) ?_
      show St p e below T26 (mkF m 143 #[sI i0, sI i1, sI i2, sI i3, sI x4, sI x13, sR c2_0, sR c4_0, sR c6_0, sR c8_0, sR b9, sU, sU] []) _
      refine Own.iload X26.here hx rfl (hb hby at_143) rfl hp1 ?_
      refine wfn X26 hx hby rfl at_145 rfl ((if0 _ _).trans (teq (by decide : (0 : Int32) = (0 : Int32))).2) ?_
      refine waL X26 hx hby rfl at_148 rfl rfl ?_
      refine wgt X26 hx hby rfl (pc0 := 150) (pc' := 177) rfl at_150 (by decide) (by decide) ?_
      show St p e below T26 (mkF m 177 #[sI i0, sI i1, sI i2, sI i3, sI x4, sI x13, sR c2_0, sR c4_0, sR c6_0, sR c8_0, sR b9, sU, sU] [(vR c2_0)]) _
      refine waS X26 hx hby rfl at_177 rfl rfl (l' := #[sI i0, sI i1, sI i2, sI i3, sI x4, sI x13, sR c2_0, sR c4_0, sR c6_0, sR c8_0, sR b9, sR c2_0, sU]) rfl ?_
      refine waL X26 hx hby rfl at_179 rfl rfl ?_
      refine Own.iload X26.here hx rfl (hb hby at_181) rfl hp1 ?_
      refine st32 _ ?_
      refine waS X32 hx hby rfl at_186 rfl rfl (l' := #[sI i0, sI i1, sI i2, sI i3, sI x4, sI x13, sR c2_0, sR c4_0, sR c6_0, sR c8_0, sR b9, sR c2_0, sR c2_0]) rfl ?_
      refine waL X32 hx hby rfl at_188 rfl rfl ?_
      refine waL X32 hx hby rfl at_190 rfl rfl ?_
      refine Jvm.RoadKit.acmp (g := (mkF m 192 #[sI i0, sI i1, sI i2, sI i3, sI x4, sI x13, sR c2_0, sR c4_0, sR c6_0, sR c8_0, sR b9, sR c2_0, sR c2_0] [(vR c2_0), (vR c2_0)])) X32 hx rfl rfl rfl (pc0 := 192) (pc' := 195) (same := true) rfl (hb hby at_192) rfl (decide_eq_true rfl) (by decide) (by decide) ?_
      refine waL X32 hx hby rfl at_195 rfl rfl ?_
      refine st35 _ ?_
      refine Own.iload X35.here hx rfl (hb hby at_202) rfl hp0 ?_
      refine wcn X35 hx hby rfl at_204 rfl (teq (by decide : (3 : Int32) = (3 : Int32))).2 ?_
      refine waL X35 hx hby rfl at_207 rfl rfl ?_
      refine Own.iload X35.here hx rfl (hb hby at_209) rfl hp1 ?_
      refine st36 _ ?_
      refine waL X36 hx hby rfl at_216 rfl rfl ?_
      show St p e below T36 (mkF m 218 #[sI i0, sI i1, sI i2, sI i3, sI x4, sI x13, sR c2_0, sR c4_0, sR c6_0, sR c8_0, sR b9, sR c2_0, sR c2_0] [(vR c2_0), (vR c2_0)]) _
      refine Jvm.RoadKit.acmp (g := (mkF m 218 #[sI i0, sI i1, sI i2, sI i3, sI x4, sI x13, sR c2_0, sR c4_0, sR c6_0, sR c8_0, sR b9, sR c2_0, sR c2_0] [(vR c2_0), (vR c2_0)])) X36 hx rfl rfl rfl (pc0 := 218) (pc' := 221) (same := true) rfl (hb hby at_218) rfl (decide_eq_true rfl) (by decide) (by decide) ?_
      refine wic X36 hx hby rfl at_221 ?_
      refine wgt X36 hx hby rfl (pc0 := 222) (pc' := 226) rfl at_222 (by decide) (by decide) ?_
      show St p e below T36 (mkF m 226 #[sI i0, sI i1, sI i2, sI i3, sI x4, sI x13, sR c2_0, sR c4_0, sR c6_0, sR c8_0, sR b9, sR c2_0, sR c2_0] [(vI 1)]) _
      exact retN X36 hx (t := .boolean) hret (by simp) (hb hby at_226) hr
    · have f11 : Exa Z T10.heap c2_0 z5 := ((((((((q2_0.ext E3).keep Kq4).ext E5).keep Kq6).ext E7).keep Kq8).ext E9).keep Kq10)
      have sf12 := (sf0 : ∀ x ∈ [], Safe Z EL T8.vm T10.heap x)
      obtain ⟨_, T12, L12, ⟨oz12, rfl, N12q, Kq12, q12⟩, X12, st12⟩ := own_callS X10 hx hZ8 (W := 1) hown8 (hw _ m165) (hw _ m166) (hw _ m167) (hw _ m168) (by decide) (jm0 cx (0 : Int32) (1 : Int32) i2 i3 c2_0 O10 (by decide : ¬ ((0 : Int32) = (1 : Int32))) f11) (rfl : T10.heap = T10.heap) (g := (mkF m 62 #[sI i0, sI i1, sI i2, sI i3, sI x4, sI x13, sR c2_0, sR c4_0, sR c6_0, sR c8_0, sR b9, sU, sU] [(vR c2_0), (vI i3), (vI i2), (vI 1), (vI 0), (vR b9)])) rfl hml rfl (rest := [(vR b9)]) (lenOf pd559 rfl) rfl rfl rfl (hb hby at_62) (by decide)
      have N12 := Fr.app N10 N12q
      have C12 := C10.trans (CHr.keep Kq12 sf12 C10.1)
      have O12 : Old Z n0 T12.heap := O10.keep Kq12 all0
      have K12 : Keep h0 T12.heap [] := K10.trans Kq12 all0
      have f14 : Exa Z T12.heap b9 z0 := ((A9.keep Kq10).keep Kq12)
      have f15 : Fld Z T12.heap b9 z6 "modCount" "I" (vI 0) := (q10_0.keep Kq12 nin0)
      have f16 : Fld Z T12.heap b9 z0 z7 z4 (vR w4) := (q10_1.keep Kq12 nin0)
      have f17 : Fld Z T12.heap b9 z0 "size" "I" (vI 0) := (q10_2.keep Kq12 nin0)
      have sf13 := ((sfS (Safe.exa (EL := EL) hZ8.alike f14 (by decide) (by decide)) sf0) : ∀ x ∈ [b9], Safe Z EL T8.vm T12.heap x)
      obtain ⟨_, T13, L13, ⟨c13_0, k13_1, rfl, N13q, Kq13, lo13_0, q13_0, q13_1, q13_2, q13_3, q13_4⟩, X13, st13⟩ := own_iface X12 hx hZ8 (W := 0) hown8 (hw _ m169) (hw _ m170) (mvT hZ8 (hw _ m171)) (hw _ m172) (hw _ m173) (mvT hZ8 (hw _ m174)) (mvT hZ8 (hw _ m175)) (hw _ m176) (hw _ m143) (hw _ m177) (by decide) (rm62 cx b9 oz12 O12 f14 f15 f16 f17 (Nat.le_trans (own_old_le O8) g9) q12) (rfl : T12.heap = T12.heap) f14 (g := (mkF m 65 #[sI i0, sI i1, sI i2, sI i3, sI x4, sI x13, sR c2_0, sR c4_0, sR c6_0, sR c8_0, sR b9, sU, sU] [oz12, (vR b9)])) rfl hml rfl (rest := []) (lenOf pd646 rfl) rfl rfl rfl (hb hby at_65) (by decide)
      have N13 := Fr.app N12 N13q
      have C13 := C12.trans (CHr.keep Kq13 sf13 C12.1)
      have O13 : Old Z n0 T13.heap := O12.keep Kq13 (allS (Nat.le_trans (own_old_le O8) g9) all0)
      have K13 : Keep h0 T13.heap [] := K12.trans Kq13 (allS (Or.inr (Nat.le_trans K8.1 g9)) all0)
      have sf18 := (sf0 : ∀ x ∈ [], Safe Z EL T8.vm T13.heap x)
      obtain ⟨_, T18, L18, ⟨rfl, N18q, e18⟩, X18, st18⟩ := cS X13 hx hZ8 (W := 1) hown8 (cw31 cx) (rm63 cx i2 i3 c4_0 O13) (rfl : T13.heap = T13.heap) (g := (mkF m 86 #[sI i0, sI i1, sI i2, sI i3, sI x4, sI x13, sR c2_0, sR c4_0, sR c6_0, sR c8_0, sR b9, sU, sU] [(vR c4_0), (vI i3), (vI i2), (vI 1), (vI 1), (vR b9)])) rfl hml rfl (rest := [(vR b9)]) rfl rfl rfl rfl (hb hby at_86) (by decide)
      have f20 : Exa Z T13.heap b9 z0 := (f14.keep Kq13)
      have ne21 : b9 ≠ c13_0 := (Nat.ne_of_lt (Nat.lt_of_lt_of_le (Nat.lt_of_lt_of_le A9.lt (Nat.le_trans Kq10.1 Kq12.1)) lo13_0))
      have f22 : Exa Z T13.heap c4_0 z5 := ((((((((q4_0.ext E5).keep Kq6).ext E7).keep Kq8).ext E9).keep Kq10).keep Kq12).keep Kq13)
      have sf19 := ((sfS (Safe.exa (EL := EL) hZ8.alike f20 (by decide) (by decide)) (sfS (Safe.arv (EL := EL) hZ8.alike q13_0 (by decide)) sf0)) : ∀ x ∈ [b9, c13_0], Safe Z EL T8.vm T13.heap x)
      obtain ⟨_, T19, L19, ⟨rfl, N19q, Kq19, q19_0, q19_1, q19_2, q19_3⟩, X19, st19⟩ := own_iface X18 hx hZ8 (W := 0) hown8 (hw _ m169) (hw _ m170) (mvT hZ8 (hw _ m171)) (hw _ m172) (hw _ m173) (mvT hZ8 (hw _ m174)) (mvT hZ8 (hw _ m175)) (hw _ m176) (hw _ m143) (hw _ m177) (by decide) (rm65 cx b9 c13_0 k13_1 oz12 c4_0 O13 f20 q13_2 q13_3 q13_4 q13_0 (Nat.le_trans (own_old_le O8) g9) (Ne.symm ne21) q13_1 f22 (Nat.le_trans (own_old_le O12) lo13_0)) e18 f20 (g := (mkF m 89 #[sI i0, sI i1, sI i2, sI i3, sI x4, sI x13, sR c2_0, sR c4_0, sR c6_0, sR c8_0, sR b9, sU, sU] [(vR c4_0), (vR b9)])) rfl hml rfl (rest := []) (lenOf pd646 rfl) rfl rfl rfl (hb hby at_89) (by decide)
      have N19 := Fr.app (Fr.app N13 N18q) N19q
      have C19 := C13.trans (CHr.keep Kq19 sf19 C13.1)
      have O19 : Old Z n0 T19.heap := O13.keep Kq19 (allS (Nat.le_trans (own_old_le O8) g9) (allS (Nat.le_trans (own_old_le O12) lo13_0) all0))
      have K19 : Keep h0 T19.heap [] := K13.trans Kq19 (allS (Or.inr (Nat.le_trans K8.1 g9)) (allS (Or.inr (Nat.le_trans K12.1 lo13_0)) all0))
      have f23 : Exa Z T19.heap c6_0 z5 := (((((((q6_0.ext E7).keep Kq8).ext E9).keep Kq10).keep Kq12).keep Kq13).keep Kq19)
      have sf24 := (sf0 : ∀ x ∈ [], Safe Z EL T8.vm T19.heap x)
      obtain ⟨_, T24, L24, ⟨oz24, rfl, N24q, Kq24, q24⟩, X24, st24⟩ := own_callS X19 hx hZ8 (W := 1) hown8 (hw _ m165) (hw _ m166) (hw _ m167) (hw _ m168) (by decide) (jm0 cx (2 : Int32) (1 : Int32) i2 i3 c6_0 O19 (by decide : ¬ ((2 : Int32) = (1 : Int32))) f23) (rfl : T19.heap = T19.heap) (g := (mkF m 110 #[sI i0, sI i1, sI i2, sI i3, sI x4, sI x13, sR c2_0, sR c4_0, sR c6_0, sR c8_0, sR b9, sU, sU] [(vR c6_0), (vI i3), (vI i2), (vI 1), (vI 2), (vR b9)])) rfl hml rfl (rest := [(vR b9)]) (lenOf pd559 rfl) rfl rfl rfl (hb hby at_110) (by decide)
      have N24 := Fr.app N19 N24q
      have C24 := C19.trans (CHr.keep Kq24 sf24 C19.1)
      have O24 : Old Z n0 T24.heap := O19.keep Kq24 all0
      have K24 : Keep h0 T24.heap [] := K19.trans Kq24 all0
      have f26 : Exa Z T24.heap b9 z0 := ((f20.keep Kq19).keep Kq24)
      have f27 : Fld Z T24.heap b9 z6 "modCount" "I" (vI 2) := (q19_0.keep Kq24 nin0)
      have f28 : Fld Z T24.heap b9 z0 z7 z4 (vR c13_0) := (q19_1.keep Kq24 nin0)
      have f29 : Fld Z T24.heap b9 z0 "size" "I" (vI 2) := (q19_2.keep Kq24 nin0)
      have f30 : Arv Z T24.heap c13_0 k13_1 (.object z2) (10 : Int32) [oz12, (vR c4_0), .null, .null, .null, .null, .null, .null, .null, .null] .null := (q19_3.keep Kq24 nin0)
      have sf25 := ((sfS (Safe.exa (EL := EL) hZ8.alike f26 (by decide) (by decide)) (sfS (Safe.arv (EL := EL) hZ8.alike f30 (by decide)) sf0)) : ∀ x ∈ [b9, c13_0], Safe Z EL T8.vm T24.heap x)
      obtain ⟨_, T25, L25, ⟨rfl, N25q, Kq25, q25_0, q25_1, q25_2, q25_3⟩, X25, st25⟩ := own_iface X24 hx hZ8 (W := 0) hown8 (hw _ m169) (hw _ m170) (mvT hZ8 (hw _ m171)) (hw _ m172) (hw _ m173) (mvT hZ8 (hw _ m174)) (mvT hZ8 (hw _ m175)) (hw _ m176) (hw _ m143) (hw _ m177) (by decide) (rm78 cx b9 c13_0 k13_1 oz12 c4_0 oz24 O24 f26 f27 f28 f29 f30 (Nat.le_trans (own_old_le O8) g9) q24 (Ne.symm ne21) q13_1 (Nat.le_trans (own_old_le O12) lo13_0)) (rfl : T24.heap = T24.heap) f26 (g := (mkF m 113 #[sI i0, sI i1, sI i2, sI i3, sI x4, sI x13, sR c2_0, sR c4_0, sR c6_0, sR c8_0, sR b9, sU, sU] [oz24, (vR b9)])) rfl hml rfl (rest := []) (lenOf pd646 rfl) rfl rfl rfl (hb hby at_113) (by decide)
      have N25 := Fr.app N24 N25q
      have C25 := C24.trans (CHr.keep Kq25 sf25 C24.1)
      have O25 : Old Z n0 T25.heap := O24.keep Kq25 (allS (Nat.le_trans (own_old_le O8) g9) (allS (Nat.le_trans (own_old_le O12) lo13_0) all0))
      have K25 : Keep h0 T25.heap [] := K24.trans Kq25 (allS (Or.inr (Nat.le_trans K8.1 g9)) (allS (Or.inr (Nat.le_trans K12.1 lo13_0)) all0))
      have f32 : Exa Z T25.heap b9 z0 := (f26.keep Kq25)
      have f33 : Exa Z T25.heap c4_0 z5 := (((f22.keep Kq19).keep Kq24).keep Kq25)
      have sf31 := (sf0 : ∀ x ∈ [], Safe Z EL T8.vm T25.heap x)
      obtain ⟨_, T31, L31, ⟨rfl, N31q, e31⟩, X31, st31⟩ := cS X25 hx hZ8 (W := 0) hown8 (cw36 cx) (rm82 cx b9 c13_0 k13_1 oz12 c4_0 oz24 O25 q25_2 f32 q25_1 q25_3 f33) (rfl : T25.heap = T25.heap) (g := (mkF m 183 #[sI i0, sI i1, sI i2, sI i3, sI x4, sI x13, sR c2_0, sR c4_0, sR c6_0, sR c8_0, sR b9, sR c4_0, sU] [(vI 1), (vR b9)])) rfl hml rfl (rest := []) rfl rfl rfl rfl (hb hby at_183) (by decide)
      have sf34 := (sf0 : ∀ x ∈ [], Safe Z EL T8.vm T25.heap x)
      obtain ⟨_, T34, L34, ⟨rfl, N34q, e34⟩, X34, st34⟩ := own_iface X31 hx hZ8 (W := 0) hown8 (hw _ m230) (hw _ m205) (mvT hZ8 (hw _ m206)) (hw _ m207) (hw _ m208) (mvT hZ8 (hw _ m209)) (mvT hZ8 (hw _ m210)) (hw _ m176) (hw _ m143) (hw _ m211) (by decide) (rm72 cx b9 O25 q25_2) e31 f32 (g := (mkF m 197 #[sI i0, sI i1, sI i2, sI i3, sI x4, sI x13, sR c2_0, sR c4_0, sR c6_0, sR c8_0, sR b9, sR c4_0, sR c4_0] [(vR b9)])) rfl hml rfl (rest := []) (lenOf pd200 rfl) rfl rfl rfl (hb hby at_197) (by decide)
      have sf35 := (sf0 : ∀ x ∈ [], Safe Z EL T8.vm T25.heap x)
      obtain ⟨_, T35, L35, ⟨rfl, N35q, e35⟩, X35, st35⟩ := own_iface X34 hx hZ8 (W := 0) hown8 (hw _ m231) (hw _ m213) (mvT hZ8 (hw _ m214)) (hw _ m215) (hw _ m216) (mvT hZ8 (hw _ m217)) (mvT hZ8 (hw _ m218)) (hw _ m176) (hw _ m143) (hw _ m219) (by decide) (rm81 cx b9 c13_0 k13_1 oz12 c4_0 oz24 O25 q25_2 q25_1 q25_3 f32) e34 f32 (g := (mkF m 211 #[sI i0, sI i1, sI i2, sI i3, sI x4, sI x13, sR c2_0, sR c4_0, sR c6_0, sR c8_0, sR b9, sR c4_0, sR c4_0] [(vI 1), (vR b9)])) rfl hml rfl (rest := []) (lenOf pd521 rfl) rfl rfl rfl (hb hby at_211) (by decide)
      refine own_endW X35 hlk (v := some (vI 1)) (own_hv hret) hS8 (Nat.le_trans (Nat.le_refl _) (Nat.le_trans (Nat.le_trans (Nat.le_trans (Nat.le_trans (Nat.le_trans (Nat.le_trans E9.1 Kq10.1) Kq12.1) Kq13.1) Kq19.1) Kq24.1) Kq25.1)) (by decide) hh e35 C25 hZ8 (own_EW hw hj) ⟨rfl, (Fr.app (Fr.app (Fr.app N25 N31q) N34q) N35q)⟩ fun fs hr => pre2 _ ?_
      refine Own.iload X10.here hx rfl (hb hby at_56) rfl hp1 ?_
      refine wil X10 hx hby rfl at_58 rfl ?_
      show St p e below T10 (mkF m 59 #[sI i0, sI i1, sI i2, sI i3, sI x4, sI x13, sR c2_0, sR c4_0, sR c6_0, sR c8_0, sR b9, sU, sU] [(vI i2), (vI 1), (vI 0), (vR b9)]) _
      refine wil X10 hx hby rfl at_59 rfl ?_
      refine waL X10 hx hby rfl at_60 rfl rfl ?_
      refine st12 _ ?_
      refine st13 _ ?_
      refine XS.pop X13.here hx rfl (hb hby at_70) rfl rfl ?_
      refine Own.iload X13.here hx rfl (hb hby at_71) rfl hp0 ?_
      refine wic X13 hx hby rfl at_73 ?_
      refine wcn X13 hx hby rfl at_74 rfl (tlt (by decide : (1 : Int32) < (3 : Int32))).2.2.2 ?_
      refine waL X13 hx hby rfl at_77 rfl rfl ?_
      refine wic X13 hx hby rfl at_79 ?_
      refine Own.iload X13.here hx rfl (hb hby at_80) rfl hp1 ?_
      refine wil X13 hx hby rfl at_82 rfl ?_
      refine wil X13 hx hby rfl at_83 rfl ?_
      refine waL X13 hx hby rfl at_84 rfl rfl ?_
      refine st18 _ ?_
      refine st19 _ ?_
      show St p e below T19 (mkF m 94 #[sI i0, sI i1, sI i2, sI i3, sI x4, sI x13, sR c2_0, sR c4_0, sR c6_0, sR c8_0, sR b9, sU, sU] [(vI 1)]) _
      refine XS.pop X19.here hx rfl (hb hby at_94) rfl rfl ?_
      show St p e below T19 (mkF m 95 #[sI i0, sI i1, sI i2, sI i3, sI x4, sI x13, sR c2_0, sR c4_0, sR c6_0, sR c8_0, sR b9, sU, sU] []) _
      refine Own.iload X19.here hx rfl (hb hby at_95) rfl hp0 ?_
      refine wic X19 hx hby rfl at_97 ?_
      refine wcn X19 hx hby rfl at_98 rfl (tlt (by decide : (2 : Int32) < (3 : Int32))).2.2.2 ?_
      refine waL X19 hx hby rfl at_101 rfl rfl ?_
      refine wic X19 hx hby rfl at_103 ?_
      refine Own.iload X19.here hx rfl (hb hby at_104) rfl hp1 ?_
      refine wil X19 hx hby rfl at_106 rfl ?_
      refine wil X19 hx hby rfl at_107 rfl ?_
      refine waL X19 hx hby rfl at_108 rfl rfl ?_
      refine st24 _ ?_
      refine st25 _ ?_
      refine XS.pop X25.here hx rfl (hb hby at_118) rfl rfl ?_
      show St p e below T25 (mkF m 119 #[sI i0, sI i1, sI i2, sI i3, sI x4, sI x13, sR c2_0, sR c4_0, sR c6_0, sR c8_0, sR b9, sU, sU] []) _
      refine Own.iload X25.here hx rfl (hb hby at_119) rfl hp0 ?_
      refine wic X25 hx hby rfl at_121 ?_
      refine wcy X25 hx hby rfl (pc0 := 122) (pc' := 143) rfl at_122 rfl (flt (by decide : ¬ ((3 : Int32) < (3 : Int32)))).2.2.2 (by decide) (by decide) ?_
      show St p e below T25 (mkF m 143 #[sI i0, sI i1, sI i2, sI i3, sI x4, sI x13, sR c2_0, sR c4_0, sR c6_0, sR c8_0, sR b9, sU, sU] []) _
      refine Own.iload X25.here hx rfl (hb hby at_143) rfl hp1 ?_
      refine wfy X25 hx hby rfl (pc0 := 145) (pc' := 153) rfl at_145 rfl ((if0 _ _).trans (feq (by decide : ¬ ((1 : Int32) = (0 : Int32)))).2) (by decide) (by decide) ?_
      show St p e below T25 (mkF m 153 #[sI i0, sI i1, sI i2, sI i3, sI x4, sI x13, sR c2_0, sR c4_0, sR c6_0, sR c8_0, sR b9, sU, sU] []) _
      refine Own.iload X25.here hx rfl (hb hby at_153) rfl hp1 ?_
      refine wic X25 hx hby rfl at_155 ?_
      refine wcn X25 hx hby rfl at_156 rfl (teq (by decide : (1 : Int32) = (1 : Int32))).2 ?_
      refine waL X25 hx hby rfl at_159 rfl rfl ?_
      refine wgt X25 hx hby rfl (pc0 := 161) (pc' := 177) rfl at_161 (by decide) (by decide) ?_
      show St p e below T25 (mkF m 177 #[sI i0, sI i1, sI i2, sI i3, sI x4, sI x13, sR c2_0, sR c4_0, sR c6_0, sR c8_0, sR b9, sU, sU] [(vR c4_0)]) _
      refine waS X25 hx hby rfl at_177 rfl rfl (l' := #[sI i0, sI i1, sI i2, sI i3, sI x4, sI x13, sR c2_0, sR c4_0, sR c6_0, sR c8_0, sR b9, sR c4_0, sU]) rfl ?_
      refine waL X25 hx hby rfl at_179 rfl rfl ?_
      refine Own.iload X25.here hx rfl (hb hby at_181) rfl hp1 ?_
      refine st31 _ ?_
      refine waS X31 hx hby rfl at_186 rfl rfl (l' := #[sI i0, sI i1, sI i2, sI i3, sI x4, sI x13, sR c2_0, sR c4_0, sR c6_0, sR c8_0, sR b9, sR c4_0, sR c4_0]) rfl ?_
      refine waL X31 hx hby rfl at_188 rfl rfl ?_
      refine waL X31 hx hby rfl at_190 rfl rfl ?_
      refine Jvm.RoadKit.acmp (g := (mkF m 192 #[sI i0, sI i1, sI i2, sI i3, sI x4, sI x13, sR c2_0, sR c4_0, sR c6_0, sR c8_0, sR b9, sR c4_0, sR c4_0] [(vR c4_0), (vR c4_0)])) X31 hx rfl rfl rfl (pc0 := 192) (pc' := 195) (same := true) rfl (hb hby at_192) rfl (decide_eq_true rfl) (by decide) (by decide) ?_
      refine waL X31 hx hby rfl at_195 rfl rfl ?_
      refine st34 _ ?_
      refine Own.iload X34.here hx rfl (hb hby at_202) rfl hp0 ?_
      refine wcn X34 hx hby rfl at_204 rfl (teq (by decide : (3 : Int32) = (3 : Int32))).2 ?_
      refine waL X34 hx hby rfl at_207 rfl rfl ?_
      refine Own.iload X34.here hx rfl (hb hby at_209) rfl hp1 ?_
      refine st35 _ ?_
      refine waL X35 hx hby rfl at_216 rfl rfl ?_
      show St p e below T35 (mkF m 218 #[sI i0, sI i1, sI i2, sI i3, sI x4, sI x13, sR c2_0, sR c4_0, sR c6_0, sR c8_0, sR b9, sR c4_0, sR c4_0] [(vR c4_0), (vR c4_0)]) _
      refine Jvm.RoadKit.acmp (g := (mkF m 218 #[sI i0, sI i1, sI i2, sI i3, sI x4, sI x13, sR c2_0, sR c4_0, sR c6_0, sR c8_0, sR b9, sR c4_0, sR c4_0] [(vR c4_0), (vR c4_0)])) X35 hx rfl rfl rfl (pc0 := 218) (pc' := 221) (same := true) rfl (hb hby at_218) rfl (decide_eq_true rfl) (by decide) (by decide) ?_
      refine wic X35 hx hby rfl at_221 ?_
      refine wgt X35 hx hby rfl (pc0 := 222) (pc' := 226) rfl at_222 (by decide) (by decide) ?_
      show St p e below T35 (mkF m 226 #[sI i0, sI i1, sI i2, sI i3, sI x4, sI x13, sR c2_0, sR c4_0, sR c6_0, sR c8_0, sR b9, sR c4_0, sR c4_0] [(vI 1)]) _
      exact retN X35 hx (t := .boolean) hret (by simp) (hb hby at_226) hr
    · have f11 : Exa Z T10.heap c2_0 z5 := ((((((((q2_0.ext E3).keep Kq4).ext E5).keep Kq6).ext E7).keep Kq8).ext E9).keep Kq10)
      have sf12 := (sf0 : ∀ x ∈ [], Safe Z EL T8.vm T10.heap x)
      obtain ⟨_, T12, L12, ⟨oz12, rfl, N12q, Kq12, q12⟩, X12, st12⟩ := own_callS X10 hx hZ8 (W := 1) hown8 (hw _ m165) (hw _ m166) (hw _ m167) (hw _ m168) (by decide) (jm0 cx (0 : Int32) (2 : Int32) i2 i3 c2_0 O10 (by decide : ¬ ((0 : Int32) = (2 : Int32))) f11) (rfl : T10.heap = T10.heap) (g := (mkF m 62 #[sI i0, sI i1, sI i2, sI i3, sI x4, sI x13, sR c2_0, sR c4_0, sR c6_0, sR c8_0, sR b9, sU, sU] [(vR c2_0), (vI i3), (vI i2), (vI 2), (vI 0), (vR b9)])) rfl hml rfl (rest := [(vR b9)]) (lenOf pd559 rfl) rfl rfl rfl (hb hby at_62) (by decide)
      have N12 := Fr.app N10 N12q
      have C12 := C10.trans (CHr.keep Kq12 sf12 C10.1)
      have O12 : Old Z n0 T12.heap := O10.keep Kq12 all0
      have K12 : Keep h0 T12.heap [] := K10.trans Kq12 all0
      have f14 : Exa Z T12.heap b9 z0 := ((A9.keep Kq10).keep Kq12)
      have f15 : Fld Z T12.heap b9 z6 "modCount" "I" (vI 0) := (q10_0.keep Kq12 nin0)
      have f16 : Fld Z T12.heap b9 z0 z7 z4 (vR w4) := (q10_1.keep Kq12 nin0)
      have f17 : Fld Z T12.heap b9 z0 "size" "I" (vI 0) := (q10_2.keep Kq12 nin0)
      have sf13 := ((sfS (Safe.exa (EL := EL) hZ8.alike f14 (by decide) (by decide)) sf0) : ∀ x ∈ [b9], Safe Z EL T8.vm T12.heap x)
      obtain ⟨_, T13, L13, ⟨c13_0, k13_1, rfl, N13q, Kq13, lo13_0, q13_0, q13_1, q13_2, q13_3, q13_4⟩, X13, st13⟩ := own_iface X12 hx hZ8 (W := 0) hown8 (hw _ m169) (hw _ m170) (mvT hZ8 (hw _ m171)) (hw _ m172) (hw _ m173) (mvT hZ8 (hw _ m174)) (mvT hZ8 (hw _ m175)) (hw _ m176) (hw _ m143) (hw _ m177) (by decide) (rm62 cx b9 oz12 O12 f14 f15 f16 f17 (Nat.le_trans (own_old_le O8) g9) q12) (rfl : T12.heap = T12.heap) f14 (g := (mkF m 65 #[sI i0, sI i1, sI i2, sI i3, sI x4, sI x13, sR c2_0, sR c4_0, sR c6_0, sR c8_0, sR b9, sU, sU] [oz12, (vR b9)])) rfl hml rfl (rest := []) (lenOf pd646 rfl) rfl rfl rfl (hb hby at_65) (by decide)
      have N13 := Fr.app N12 N13q
      have C13 := C12.trans (CHr.keep Kq13 sf13 C12.1)
      have O13 : Old Z n0 T13.heap := O12.keep Kq13 (allS (Nat.le_trans (own_old_le O8) g9) all0)
      have K13 : Keep h0 T13.heap [] := K12.trans Kq13 (allS (Or.inr (Nat.le_trans K8.1 g9)) all0)
      have f18 : Exa Z T13.heap c4_0 z5 := ((((((((q4_0.ext E5).keep Kq6).ext E7).keep Kq8).ext E9).keep Kq10).keep Kq12).keep Kq13)
      have sf19 := (sf0 : ∀ x ∈ [], Safe Z EL T8.vm T13.heap x)
      obtain ⟨_, T19, L19, ⟨oz19, rfl, N19q, Kq19, q19⟩, X19, st19⟩ := own_callS X13 hx hZ8 (W := 1) hown8 (hw _ m165) (hw _ m166) (hw _ m167) (hw _ m168) (by decide) (jm0 cx (1 : Int32) (2 : Int32) i2 i3 c4_0 O13 (by decide : ¬ ((1 : Int32) = (2 : Int32))) f18) (rfl : T13.heap = T13.heap) (g := (mkF m 86 #[sI i0, sI i1, sI i2, sI i3, sI x4, sI x13, sR c2_0, sR c4_0, sR c6_0, sR c8_0, sR b9, sU, sU] [(vR c4_0), (vI i3), (vI i2), (vI 2), (vI 1), (vR b9)])) rfl hml rfl (rest := [(vR b9)]) (lenOf pd559 rfl) rfl rfl rfl (hb hby at_86) (by decide)
      have N19 := Fr.app N13 N19q
      have C19 := C13.trans (CHr.keep Kq19 sf19 C13.1)
      have O19 : Old Z n0 T19.heap := O13.keep Kq19 all0
      have K19 : Keep h0 T19.heap [] := K13.trans Kq19 all0
      have f21 : Exa Z T19.heap b9 z0 := ((f14.keep Kq13).keep Kq19)
      have f22 : Fld Z T19.heap b9 z6 "modCount" "I" (vI 1) := (q13_2.keep Kq19 nin0)
      have f23 : Fld Z T19.heap b9 z0 z7 z4 (vR c13_0) := (q13_3.keep Kq19 nin0)
      have f24 : Fld Z T19.heap b9 z0 "size" "I" (vI 1) := (q13_4.keep Kq19 nin0)
      have f25 : Arv Z T19.heap c13_0 k13_1 (.object z2) (10 : Int32) [oz12, .null, .null, .null, .null, .null, .null, .null, .null, .null] .null := (q13_0.keep Kq19 nin0)
      have ne26 : b9 ≠ c13_0 := (Nat.ne_of_lt (Nat.lt_of_lt_of_le (Nat.lt_of_lt_of_le A9.lt (Nat.le_trans Kq10.1 Kq12.1)) lo13_0))
      have sf20 := ((sfS (Safe.exa (EL := EL) hZ8.alike f21 (by decide) (by decide)) (sfS (Safe.arv (EL := EL) hZ8.alike f25 (by decide)) sf0)) : ∀ x ∈ [b9, c13_0], Safe Z EL T8.vm T19.heap x)
      obtain ⟨_, T20, L20, ⟨rfl, N20q, Kq20, q20_0, q20_1, q20_2, q20_3⟩, X20, st20⟩ := own_iface X19 hx hZ8 (W := 0) hown8 (hw _ m169) (hw _ m170) (mvT hZ8 (hw _ m171)) (hw _ m172) (hw _ m173) (mvT hZ8 (hw _ m174)) (mvT hZ8 (hw _ m175)) (hw _ m176) (hw _ m143) (hw _ m177) (by decide) (rm84 cx b9 c13_0 k13_1 oz12 oz19 O19 f21 f22 f23 f24 f25 (Nat.le_trans (own_old_le O8) g9) q19 (Ne.symm ne26) q13_1 (Nat.le_trans (own_old_le O12) lo13_0)) (rfl : T19.heap = T19.heap) f21 (g := (mkF m 89 #[sI i0, sI i1, sI i2, sI i3, sI x4, sI x13, sR c2_0, sR c4_0, sR c6_0, sR c8_0, sR b9, sU, sU] [oz19, (vR b9)])) rfl hml rfl (rest := []) (lenOf pd646 rfl) rfl rfl rfl (hb hby at_89) (by decide)
      have N20 := Fr.app N19 N20q
      have C20 := C19.trans (CHr.keep Kq20 sf20 C19.1)
      have O20 : Old Z n0 T20.heap := O19.keep Kq20 (allS (Nat.le_trans (own_old_le O8) g9) (allS (Nat.le_trans (own_old_le O12) lo13_0) all0))
      have K20 : Keep h0 T20.heap [] := K19.trans Kq20 (allS (Or.inr (Nat.le_trans K8.1 g9)) (allS (Or.inr (Nat.le_trans K12.1 lo13_0)) all0))
      have sf27 := (sf0 : ∀ x ∈ [], Safe Z EL T8.vm T20.heap x)
      obtain ⟨_, T27, L27, ⟨rfl, N27q, e27⟩, X27, st27⟩ := cS X20 hx hZ8 (W := 1) hown8 (cw31 cx) (rm85 cx i2 i3 c6_0 O20) (rfl : T20.heap = T20.heap) (g := (mkF m 110 #[sI i0, sI i1, sI i2, sI i3, sI x4, sI x13, sR c2_0, sR c4_0, sR c6_0, sR c8_0, sR b9, sU, sU] [(vR c6_0), (vI i3), (vI i2), (vI 2), (vI 2), (vR b9)])) rfl hml rfl (rest := [(vR b9)]) rfl rfl rfl rfl (hb hby at_110) (by decide)
      have f29 : Exa Z T20.heap b9 z0 := (f21.keep Kq20)
      have f30 : Exa Z T20.heap c6_0 z5 := ((((((((q6_0.ext E7).keep Kq8).ext E9).keep Kq10).keep Kq12).keep Kq13).keep Kq19).keep Kq20)
      have sf28 := ((sfS (Safe.exa (EL := EL) hZ8.alike f29 (by decide) (by decide)) (sfS (Safe.arv (EL := EL) hZ8.alike q20_3 (by decide)) sf0)) : ∀ x ∈ [b9, c13_0], Safe Z EL T8.vm T20.heap x)
      obtain ⟨_, T28, L28, ⟨rfl, N28q, Kq28, q28_0, q28_1, q28_2, q28_3⟩, X28, st28⟩ := own_iface X27 hx hZ8 (W := 0) hown8 (hw _ m169) (hw _ m170) (mvT hZ8 (hw _ m171)) (hw _ m172) (hw _ m173) (mvT hZ8 (hw _ m174)) (mvT hZ8 (hw _ m175)) (hw _ m176) (hw _ m143) (hw _ m177) (by decide) (rm87 cx b9 c13_0 k13_1 oz12 oz19 c6_0 O20 f29 q20_0 q20_1 q20_2 q20_3 (Nat.le_trans (own_old_le O8) g9) (Ne.symm ne26) q13_1 f30 (Nat.le_trans (own_old_le O12) lo13_0)) e27 f29 (g := (mkF m 113 #[sI i0, sI i1, sI i2, sI i3, sI x4, sI x13, sR c2_0, sR c4_0, sR c6_0, sR c8_0, sR b9, sU, sU] [(vR c6_0), (vR b9)])) rfl hml rfl (rest := []) (lenOf pd646 rfl) rfl rfl rfl (hb hby at_113) (by decide)
      have N28 := Fr.app (Fr.app N20 N27q) N28q
      have C28 := C20.trans (CHr.keep Kq28 sf28 C20.1)
      have O28 : Old Z n0 T28.heap := O20.keep Kq28 (allS (Nat.le_trans (own_old_le O8) g9) (allS (Nat.le_trans (own_old_le O12) lo13_0) all0))
      have K28 : Keep h0 T28.heap [] := K20.trans Kq28 (allS (Or.inr (Nat.le_trans K8.1 g9)) (allS (Or.inr (Nat.le_trans K12.1 lo13_0)) all0))
      have f32 : Exa Z T28.heap b9 z0 := (f29.keep Kq28)
      have f33 : Exa Z T28.heap c6_0 z5 := (f30.keep Kq28)
      have sf31 := (sf0 : ∀ x ∈ [], Safe Z EL T8.vm T28.heap x)
      obtain ⟨_, T31, L31, ⟨rfl, N31q, e31⟩, X31, st31⟩ := cS X28 hx hZ8 (W := 0) hown8 (cw36 cx) (rm91 cx b9 c13_0 k13_1 oz12 oz19 c6_0 O28 q28_2 f32 q28_1 q28_3 f33) (rfl : T28.heap = T28.heap) (g := (mkF m 183 #[sI i0, sI i1, sI i2, sI i3, sI x4, sI x13, sR c2_0, sR c4_0, sR c6_0, sR c8_0, sR b9, sR c6_0, sU] [(vI 2), (vR b9)])) rfl hml rfl (rest := []) rfl rfl rfl rfl (hb hby at_183) (by decide)
      have sf34 := (sf0 : ∀ x ∈ [], Safe Z EL T8.vm T28.heap x)
      obtain ⟨_, T34, L34, ⟨rfl, N34q, e34⟩, X34, st34⟩ := own_iface X31 hx hZ8 (W := 0) hown8 (hw _ m230) (hw _ m205) (mvT hZ8 (hw _ m206)) (hw _ m207) (hw _ m208) (mvT hZ8 (hw _ m209)) (mvT hZ8 (hw _ m210)) (hw _ m176) (hw _ m143) (hw _ m211) (by decide) (rm72 cx b9 O28 q28_2) e31 f32 (g := (mkF m 197 #[sI i0, sI i1, sI i2, sI i3, sI x4, sI x13, sR c2_0, sR c4_0, sR c6_0, sR c8_0, sR b9, sR c6_0, sR c6_0] [(vR b9)])) rfl hml rfl (rest := []) (lenOf pd200 rfl) rfl rfl rfl (hb hby at_197) (by decide)
      have sf35 := (sf0 : ∀ x ∈ [], Safe Z EL T8.vm T28.heap x)
      obtain ⟨_, T35, L35, ⟨rfl, N35q, e35⟩, X35, st35⟩ := own_iface X34 hx hZ8 (W := 0) hown8 (hw _ m231) (hw _ m213) (mvT hZ8 (hw _ m214)) (hw _ m215) (hw _ m216) (mvT hZ8 (hw _ m217)) (mvT hZ8 (hw _ m218)) (hw _ m176) (hw _ m143) (hw _ m219) (by decide) (rm90 cx b9 c13_0 k13_1 oz12 oz19 c6_0 O28 q28_2 q28_1 q28_3 f32) e34 f32 (g := (mkF m 211 #[sI i0, sI i1, sI i2, sI i3, sI x4, sI x13, sR c2_0, sR c4_0, sR c6_0, sR c8_0, sR b9, sR c6_0, sR c6_0] [(vI 2), (vR b9)])) rfl hml rfl (rest := []) (lenOf pd521 rfl) rfl rfl rfl (hb hby at_211) (by decide)
      refine own_endW X35 hlk (v := some (vI 1)) (own_hv hret) hS8 (Nat.le_trans (Nat.le_refl _) (Nat.le_trans (Nat.le_trans (Nat.le_trans (Nat.le_trans (Nat.le_trans (Nat.le_trans E9.1 Kq10.1) Kq12.1) Kq13.1) Kq19.1) Kq20.1) Kq28.1)) (by decide) hh e35 C28 hZ8 (own_EW hw hj) ⟨rfl, (Fr.app (Fr.app (Fr.app N28 N31q) N34q) N35q)⟩ fun fs hr => pre2 _ ?_
      refine Own.iload X10.here hx rfl (hb hby at_56) rfl hp1 ?_
      refine wil X10 hx hby rfl at_58 rfl ?_
      show St p e below T10 (mkF m 59 #[sI i0, sI i1, sI i2, sI i3, sI x4, sI x13, sR c2_0, sR c4_0, sR c6_0, sR c8_0, sR b9, sU, sU] [(vI i2), (vI 2), (vI 0), (vR b9)]) _
      refine wil X10 hx hby rfl at_59 rfl ?_
      refine waL X10 hx hby rfl at_60 rfl rfl ?_
      refine st12 _ ?_
      refine st13 _ ?_
      refine XS.pop X13.here hx rfl (hb hby at_70) rfl rfl ?_
      refine Own.iload X13.here hx rfl (hb hby at_71) rfl hp0 ?_
      refine wic X13 hx hby rfl at_73 ?_
      refine wcn X13 hx hby rfl at_74 rfl (tlt (by decide : (1 : Int32) < (3 : Int32))).2.2.2 ?_
      refine waL X13 hx hby rfl at_77 rfl rfl ?_
      refine wic X13 hx hby rfl at_79 ?_
      refine Own.iload X13.here hx rfl (hb hby at_80) rfl hp1 ?_
      refine wil X13 hx hby rfl at_82 rfl ?_
      refine wil X13 hx hby rfl at_83 rfl ?_
      refine waL X13 hx hby rfl at_84 rfl rfl ?_
      refine st19 _ ?_
      refine st20 _ ?_
      show St p e below T20 (mkF m 94 #[sI i0, sI i1, sI i2, sI i3, sI x4, sI x13, sR c2_0, sR c4_0, sR c6_0, sR c8_0, sR b9, sU, sU] [(vI 1)]) _
      refine XS.pop X20.here hx rfl (hb hby at_94) rfl rfl ?_
      show St p e below T20 (mkF m 95 #[sI i0, sI i1, sI i2, sI i3, sI x4, sI x13, sR c2_0, sR c4_0, sR c6_0, sR c8_0, sR b9, sU, sU] []) _
      refine Own.iload X20.here hx rfl (hb hby at_95) rfl hp0 ?_
      refine wic X20 hx hby rfl at_97 ?_
      refine wcn X20 hx hby rfl at_98 rfl (tlt (by decide : (2 : Int32) < (3 : Int32))).2.2.2 ?_
      refine waL X20 hx hby rfl at_101 rfl rfl ?_
      refine wic X20 hx hby rfl at_103 ?_
      refine Own.iload X20.here hx rfl (hb hby at_104) rfl hp1 ?_
      refine wil X20 hx hby rfl at_106 rfl ?_
      refine wil X20 hx hby rfl at_107 rfl ?_
      refine waL X20 hx hby rfl at_108 rfl rfl ?_
      refine st27 _ ?_
      refine st28 _ ?_
      refine XS.pop X28.here hx rfl (hb hby at_118) rfl rfl ?_
      show St p e below T28 (mkF m 119 #[sI i0, sI i1, sI i2, sI i3, sI x4, sI x13, sR c2_0, sR c4_0, sR c6_0, sR c8_0, sR b9, sU, sU] []) _
      refine Own.iload X28.here hx rfl (hb hby at_119) rfl hp0 ?_
      refine wic X28 hx hby rfl at_121 ?_
      refine wcy X28 hx hby rfl (pc0 := 122) (pc' := 143) rfl at_122 rfl (flt (by decide : ¬ ((3 : Int32) < (3 : Int32)))).2.2.2 (by decide) (by decide) ?_
      show St p e below T28 (mkF m 143 #[sI i0, sI i1, sI i2, sI i3, sI x4, sI x13, sR c2_0, sR c4_0, sR c6_0, sR c8_0, sR b9, sU, sU] []) _
      refine Own.iload X28.here hx rfl (hb hby at_143) rfl hp1 ?_
      refine wfy X28 hx hby rfl (pc0 := 145) (pc' := 153) rfl at_145 rfl ((if0 _ _).trans (feq (by decide : ¬ ((2 : Int32) = (0 : Int32)))).2) (by decide) (by decide) ?_
      show St p e below T28 (mkF m 153 #[sI i0, sI i1, sI i2, sI i3, sI x4, sI x13, sR c2_0, sR c4_0, sR c6_0, sR c8_0, sR b9, sU, sU] []) _
      refine Own.iload X28.here hx rfl (hb hby at_153) rfl hp1 ?_
      refine wic X28 hx hby rfl at_155 ?_
      refine wcy X28 hx hby rfl (pc0 := 156) (pc' := 164) rfl at_156 rfl (feq (by decide : ¬ ((2 : Int32) = (1 : Int32)))).2 (by decide) (by decide) ?_
      show St p e below T28 (mkF m 164 #[sI i0, sI i1, sI i2, sI i3, sI x4, sI x13, sR c2_0, sR c4_0, sR c6_0, sR c8_0, sR b9, sU, sU] []) _
      refine Own.iload X28.here hx rfl (hb hby at_164) rfl hp1 ?_
      refine wic X28 hx hby rfl at_166 ?_
      refine wcn X28 hx hby rfl at_167 rfl (teq (by decide : (2 : Int32) = (2 : Int32))).2 ?_
      refine waL X28 hx hby rfl at_170 rfl rfl ?_
      refine wgt X28 hx hby rfl (pc0 := 172) (pc' := 177) rfl at_172 (by decide) (by decide) ?_
      show St p e below T28 (mkF m 177 #[sI i0, sI i1, sI i2, sI i3, sI x4, sI x13, sR c2_0, sR c4_0, sR c6_0, sR c8_0, sR b9, sU, sU] [(vR c6_0)]) _
      refine waS X28 hx hby rfl at_177 rfl rfl (l' := #[sI i0, sI i1, sI i2, sI i3, sI x4, sI x13, sR c2_0, sR c4_0, sR c6_0, sR c8_0, sR b9, sR c6_0, sU]) rfl ?_
      refine waL X28 hx hby rfl at_179 rfl rfl ?_
      refine Own.iload X28.here hx rfl (hb hby at_181) rfl hp1 ?_
      refine st31 _ ?_
      refine waS X31 hx hby rfl at_186 rfl rfl (l' := #[sI i0, sI i1, sI i2, sI i3, sI x4, sI x13, sR c2_0, sR c4_0, sR c6_0, sR c8_0, sR b9, sR c6_0, sR c6_0]) rfl ?_
      refine waL X31 hx hby rfl at_188 rfl rfl ?_
      refine waL X31 hx hby rfl at_190 rfl rfl ?_
      refine Jvm.RoadKit.acmp (g := (mkF m 192 #[sI i0, sI i1, sI i2, sI i3, sI x4, sI x13, sR c2_0, sR c4_0, sR c6_0, sR c8_0, sR b9, sR c6_0, sR c6_0] [(vR c6_0), (vR c6_0)])) X31 hx rfl rfl rfl (pc0 := 192) (pc' := 195) (same := true) rfl (hb hby at_192) rfl (decide_eq_true rfl) (by decide) (by decide) ?_
      refine waL X31 hx hby rfl at_195 rfl rfl ?_
      refine st34 _ ?_
      refine Own.iload X34.here hx rfl (hb hby at_202) rfl hp0 ?_
      refine wcn X34 hx hby rfl at_204 rfl (teq (by decide : (3 : Int32) = (3 : Int32))).2 ?_
      refine waL X34 hx hby rfl at_207 rfl rfl ?_
      refine Own.iload X34.here hx rfl (hb hby at_209) rfl hp1 ?_
      refine st35 _ ?_
      refine waL X35 hx hby rfl at_216 rfl rfl ?_
      show St p e below T35 (mkF m 218 #[sI i0, sI i1, sI i2, sI i3, sI x4, sI x13, sR c2_0, sR c4_0, sR c6_0, sR c8_0, sR b9, sR c6_0, sR c6_0] [(vR c6_0), (vR c6_0)]) _
      refine Jvm.RoadKit.acmp (g := (mkF m 218 #[sI i0, sI i1, sI i2, sI i3, sI x4, sI x13, sR c2_0, sR c4_0, sR c6_0, sR c8_0, sR b9, sR c6_0, sR c6_0] [(vR c6_0), (vR c6_0)])) X35 hx rfl rfl rfl (pc0 := 218) (pc' := 221) (same := true) rfl (hb hby at_218) rfl (decide_eq_true rfl) (by decide) (by decide) ?_
      refine wic X35 hx hby rfl at_221 ?_
      refine wgt X35 hx hby rfl (pc0 := 222) (pc' := 226) rfl at_222 (by decide) (by decide) ?_
      show St p e below T35 (mkF m 226 #[sI i0, sI i1, sI i2, sI i3, sI x4, sI x13, sR c2_0, sR c4_0, sR c6_0, sR c8_0, sR b9, sR c6_0, sR c6_0] [(vI 1)]) _
      exact retN X35 hx (t := .boolean) hret (by simp) (hb hby at_226) hr
  · obtain ⟨x13, hx13⟩ : ∃ z, (x10 % (4 : Int32)) = z := ⟨_, rfl⟩
    have rx13 : 0 ≤ x13.toInt ∧ x13.toInt ≤ 3 := hx13 ▸ (own_rem x10 (4 : Int32) 4 (by decide) (by have q0 := rx10; omega : 0 ≤ (x10).toInt ∧ (x10).toInt ≤ 2147483647) (by decide) : 0 ≤ ((x10 % (4 : Int32))).toInt ∧ ((x10 % (4 : Int32))).toInt ≤ 3)
    obtain ⟨sa1, T1, h1, k11, sb1, k1, X1, e1, E1, hS1, hk1, hZ1, hown1, A1, Fc1, Fv1, V1, la1, lb1, Cq1, -, hn1, st1⟩ := ldcCH X0 hx hZ hown (hw _ m1) (own_str hw hj) e0 hS0 (Nat.le_refl _) (own_EW hw hj) (List.mem_of_getElem? (i := 1) rfl) C0.1 (vs := [(.int (123 : Int32)), (.int (125 : Int32))]) (z := (2 : Int32)) ⟨by decide, by decide⟩ (by decide) (by decide) (g := (mkF m 16 #[sI i0, sI i1, sI i2, sI i3, sI x4, sI x13, sU, sU, sU, sU, sU, sU, sU] [])) rfl (hb hby at_16) (n := 8) (by decide) (by decide) (by decide) (by decide)
    have O1 : Old Z n0 h1 := O0.ext E1
    have K1 : Keep h0 h1 [] := (Keep.refl h0 []).ext E1
    have C1 := C0.trans Cq1
    obtain ⟨_, T2, L2, ⟨c2_0, rfl, N2q, Kq2, lo2_0, q2_0, q2_1, q2_2, q2_3⟩, hS2, hZ2, hown2, Cq2, X2, st2⟩ := cSW X1 hx hZ1 (W := 0) hown1 (cw30 cx) (rm41 cx sa1 sb1 k1 O1 Fv1 V1 Fc1 A1) e1 hS1 hk1 (own_EW hw hj) C1.1 own_sx0 (g := (mkF m 18 #[sI i0, sI i1, sI i2, sI i3, sI x4, sI x13, sU, sU, sU, sU, sU, sU, sU] [(vR sa1)])) rfl hml rfl (rest := []) rfl rfl rfl rfl (hb hby at_18) (by decide)
    have N2 := Fr.app N0 N2q
    have C2 := C1.trans Cq2
    have O2 : Old Z n0 T2.heap := O1.keep Kq2 all0
    have K2 : Keep h0 T2.heap [] := K1.trans Kq2 all0
    obtain ⟨sa3, T3, h3, k13, sb3, k3, X3, e3, E3, hS3, hk3, hZ3, hown3, A3, Fc3, Fv3, V3, la3, lb3, Cq3, -, hn3, st3⟩ := ldcCH X2 hx hZ2 hown2 (hw _ m1) (own_str hw hj) (rfl : T2.heap = T2.heap) hS2 (Nat.le_refl _) (own_EW hw hj) (List.mem_of_getElem? (i := 1) rfl) C2.1 (vs := [(.int (123 : Int32)), (.int (125 : Int32))]) (z := (2 : Int32)) ⟨by decide, by decide⟩ (by decide) (by decide) (g := (mkF m 23 #[sI i0, sI i1, sI i2, sI i3, sI x4, sI x13, sR c2_0, sU, sU, sU, sU, sU, sU] [])) rfl (hb hby at_23) (n := 8) (by decide) (by decide) (by decide) (by decide)
    have O3 : Old Z n0 h3 := O2.ext E3
    have K3 : Keep h0 h3 [] := K2.ext E3
    have C3 := C2.trans Cq3
    obtain ⟨_, T4, L4, ⟨c4_0, rfl, N4q, Kq4, lo4_0, q4_0, q4_1, q4_2, q4_3⟩, hS4, hZ4, hown4, Cq4, X4, st4⟩ := cSW X3 hx hZ3 (W := 0) hown3 (cw30 cx) (rm41 cx sa3 sb3 k3 O3 Fv3 V3 Fc3 A3) e3 hS3 hk3 (own_EW hw hj) C3.1 own_sx0 (g := (mkF m 25 #[sI i0, sI i1, sI i2, sI i3, sI x4, sI x13, sR c2_0, sU, sU, sU, sU, sU, sU] [(vR sa3)])) rfl hml rfl (rest := []) rfl rfl rfl rfl (hb hby at_25) (by decide)
    have N4 := Fr.app N2 N4q
    have C4 := C3.trans Cq4
    have O4 : Old Z n0 T4.heap := O3.keep Kq4 all0
    have K4 : Keep h0 T4.heap [] := K3.trans Kq4 all0
    obtain ⟨sa5, T5, h5, k15, sb5, k5, X5, e5, E5, hS5, hk5, hZ5, hown5, A5, Fc5, Fv5, V5, la5, lb5, Cq5, -, hn5, st5⟩ := ldcCH X4 hx hZ4 hown4 (hw _ m1) (own_str hw hj) (rfl : T4.heap = T4.heap) hS4 (Nat.le_refl _) (own_EW hw hj) (List.mem_of_getElem? (i := 1) rfl) C4.1 (vs := [(.int (123 : Int32)), (.int (125 : Int32))]) (z := (2 : Int32)) ⟨by decide, by decide⟩ (by decide) (by decide) (g := (mkF m 30 #[sI i0, sI i1, sI i2, sI i3, sI x4, sI x13, sR c2_0, sR c4_0, sU, sU, sU, sU, sU] [])) rfl (hb hby at_30) (n := 8) (by decide) (by decide) (by decide) (by decide)
    have O5 : Old Z n0 h5 := O4.ext E5
    have K5 : Keep h0 h5 [] := K4.ext E5
    have C5 := C4.trans Cq5
    obtain ⟨_, T6, L6, ⟨c6_0, rfl, N6q, Kq6, lo6_0, q6_0, q6_1, q6_2, q6_3⟩, hS6, hZ6, hown6, Cq6, X6, st6⟩ := cSW X5 hx hZ5 (W := 0) hown5 (cw30 cx) (rm41 cx sa5 sb5 k5 O5 Fv5 V5 Fc5 A5) e5 hS5 hk5 (own_EW hw hj) C5.1 own_sx0 (g := (mkF m 32 #[sI i0, sI i1, sI i2, sI i3, sI x4, sI x13, sR c2_0, sR c4_0, sU, sU, sU, sU, sU] [(vR sa5)])) rfl hml rfl (rest := []) rfl rfl rfl rfl (hb hby at_32) (by decide)
    have N6 := Fr.app N4 N6q
    have C6 := C5.trans Cq6
    have O6 : Old Z n0 T6.heap := O5.keep Kq6 all0
    have K6 : Keep h0 T6.heap [] := K5.trans Kq6 all0
    obtain ⟨sa7, T7, h7, k17, sb7, k7, X7, e7, E7, hS7, hk7, hZ7, hown7, A7, Fc7, Fv7, V7, la7, lb7, Cq7, -, hn7, st7⟩ := ldcCH X6 hx hZ6 hown6 (hw _ m1) (own_str hw hj) (rfl : T6.heap = T6.heap) hS6 (Nat.le_refl _) (own_EW hw hj) (List.mem_of_getElem? (i := 1) rfl) C6.1 (vs := [(.int (123 : Int32)), (.int (125 : Int32))]) (z := (2 : Int32)) ⟨by decide, by decide⟩ (by decide) (by decide) (g := (mkF m 37 #[sI i0, sI i1, sI i2, sI i3, sI x4, sI x13, sR c2_0, sR c4_0, sR c6_0, sU, sU, sU, sU] [])) rfl (hb hby at_37) (n := 8) (by decide) (by decide) (by decide) (by decide)
    have O7 : Old Z n0 h7 := O6.ext E7
    have K7 : Keep h0 h7 [] := K6.ext E7
    have C7 := C6.trans Cq7
    obtain ⟨_, T8, L8, ⟨c8_0, rfl, N8q, Kq8, lo8_0, q8_0, q8_1, q8_2, q8_3⟩, hS8, hZ8, hown8, Cq8, X8, st8⟩ := cSW X7 hx hZ7 (W := 0) hown7 (cw30 cx) (rm41 cx sa7 sb7 k7 O7 Fv7 V7 Fc7 A7) e7 hS7 hk7 (own_EW hw hj) C7.1 own_sx0 (g := (mkF m 39 #[sI i0, sI i1, sI i2, sI i3, sI x4, sI x13, sR c2_0, sR c4_0, sR c6_0, sU, sU, sU, sU] [(vR sa7)])) rfl hml rfl (rest := []) rfl rfl rfl rfl (hb hby at_39) (by decide)
    have N8 := Fr.app N6 N8q
    have C8 := C7.trans Cq8
    have O8 : Old Z n0 T8.heap := O7.keep Kq8 all0
    have K8 : Keep h0 T8.heap [] := K7.trans Kq8 all0
    obtain ⟨T9, h9, b9, X9, e9, E9, A9, D9, g9, O9, K9, st9⟩ := own_newO X8 hx hZ8 hown8 (hw _ m141) (hw _ m142) (hw _ m143) (rfl : T8.heap = T8.heap) O8 K8 (g := (mkF m 44 #[sI i0, sI i1, sI i2, sI i3, sI x4, sI x13, sR c2_0, sR c4_0, sR c6_0, sR c8_0, sU, sU, sU] [])) rfl (hb hby at_44) (by decide) (by decide)
    have C9 := C8.trans (CHr.ext E9 C8.1)
    have F9_1 : Fld Z h9 b9 z6 "modCount" "I" (vI 0) := D9 (Or.inl (hw _ m161)) (ty := .int) (by decide)
    have F9_2 : Fld Z h9 b9 z0 z7 z4 .null := D9 (Or.inl (hw _ m164)) (ty := (.array (.object z2))) (by decide)
    have F9_3 : Fld Z h9 b9 z0 "size" "I" (vI 0) := D9 (Or.inl (hw _ m181)) (ty := .int) (by decide)
    have sf10 := ((sfS (Safe.exa (EL := EL) hZ8.alike A9 (by decide) (by decide)) sf0) : ∀ x ∈ [b9], Safe Z EL T8.vm h9 x)
    obtain ⟨_, T10, L10, ⟨rfl, N10q, Kq10, q10_0, q10_1, q10_2⟩, X10, st10⟩ := cI X9 hx hZ8 (W := 1) hown8 (cw5 cx) (rm8 cx b9 O9 A9 F9_1 F9_2 F9_3 (Nat.le_trans (own_old_le O8) g9)) e9 (g := (mkF m 48 #[sI i0, sI i1, sI i2, sI i3, sI x4, sI x13, sR c2_0, sR c4_0, sR c6_0, sR c8_0, sU, sU, sU] [(vR b9), (vR b9)])) rfl hml rfl (rest := [(vR b9)]) rfl rfl rfl rfl (hb hby at_48) (by decide)
    have N10 := Fr.app N8 N10q
    have C10 := C9.trans (CHr.keep Kq10 sf10 C9.1)
    have O10 : Old Z n0 T10.heap := O9.keep Kq10 (allS (Nat.le_trans (own_old_le O8) g9) all0)
    have K10 : Keep h0 T10.heap [] := K9.trans Kq10 (allS (Or.inr (Nat.le_trans K8.1 g9)) all0)
    have pre2 : ∀ t, St p e below T10 (mkF m 56 #[sI i0, sI i1, sI i2, sI i3, sI x4, sI x13, sR c2_0, sR c4_0, sR c6_0, sR c8_0, sR b9, sU, sU] [(vI 0), (vR b9)]) t → St p e below s₁ g0 t := fun t kt => pre1 _ (by
        refine Own.iload X0.here hx rfl (hb hby at_11) rfl hp0 ?_
        refine own_irem X0 hx rfl (hb hby at_13) rfl (by decide : ¬ ((4 : Int32) = (0 : Int32))) hx13 ?_
        refine wiS X0 hx hby rfl at_14 rfl (l' := #[sI i0, sI i1, sI i2, sI i3, sI x4, sI x13, sU, sU, sU, sU, sU, sU, sU]) rfl ?_
        refine st1 _ ?_
        refine st2 _ ?_
        refine waS X2 hx hby rfl at_21 rfl rfl (l' := #[sI i0, sI i1, sI i2, sI i3, sI x4, sI x13, sR c2_0, sU, sU, sU, sU, sU, sU]) rfl ?_
        refine st3 _ ?_
        show St p e below T3 (mkF m 25 #[sI i0, sI i1, sI i2, sI i3, sI x4, sI x13, sR c2_0, sU, sU, sU, sU, sU, sU] [(vR sa3)]) _
        refine st4 _ ?_
        refine waS X4 hx hby rfl at_28 rfl rfl (l' := #[sI i0, sI i1, sI i2, sI i3, sI x4, sI x13, sR c2_0, sR c4_0, sU, sU, sU, sU, sU]) rfl ?_
        refine st5 _ ?_
        refine st6 _ ?_
        refine waS X6 hx hby rfl at_35 rfl rfl (l' := #[sI i0, sI i1, sI i2, sI i3, sI x4, sI x13, sR c2_0, sR c4_0, sR c6_0, sU, sU, sU, sU]) rfl ?_
        refine st7 _ ?_
        refine st8 _ ?_
        refine waS X8 hx hby rfl at_42 rfl rfl (l' := #[sI i0, sI i1, sI i2, sI i3, sI x4, sI x13, sR c2_0, sR c4_0, sR c6_0, sR c8_0, sU, sU, sU]) rfl ?_
        refine st9 _ ?_
        refine wdu X9 hx hby rfl at_47 rfl rfl ?_
        refine st10 _ ?_
        refine waS X10 hx hby rfl at_51 rfl rfl (l' := #[sI i0, sI i1, sI i2, sI i3, sI x4, sI x13, sR c2_0, sR c4_0, sR c6_0, sR c8_0, sR b9, sU, sU]) rfl ?_
        refine waL X10 hx hby rfl at_53 rfl rfl ?_
        refine wic X10 hx hby rfl at_55 ?_
        exact kt)
    rcases en_13 x13 (by have q0 := own_rng i1; have q1 := (by decide : ((2147483647 : Int32)).toInt = 2147483647); have q2 := (own_mask i1 (2147483647 : Int32) (by decide) : 0 ≤ ((i1 &&& (2147483647 : Int32))).toInt ∧ ((i1 &&& (2147483647 : Int32))).toInt ≤ 2147483647); have q3 := congrArg Int32.toInt hx10; have q4 := rx10; have q5 := (by decide : ((4 : Int32)).toInt = 4); have q6 := (own_rem x10 (4 : Int32) 4 (by decide) (by have q0 := rx10; omega : 0 ≤ (x10).toInt ∧ (x10).toInt ≤ 2147483647) (by decide) : 0 ≤ ((x10 % (4 : Int32))).toInt ∧ ((x10 % (4 : Int32))).toInt ≤ 3); have q7 := congrArg Int32.toInt hx13; have q8 := rx13; omega) with hp1 | hp1 | hp1 | hp1
    · have sf11 := (sf0 : ∀ x ∈ [], Safe Z EL T8.vm T10.heap x)
      obtain ⟨_, T11, L11, ⟨rfl, N11q, e11⟩, X11, st11⟩ := cS X10 hx hZ8 (W := 1) hown8 (cw31 cx) (rm42 cx i2 i3 c2_0 O10) (rfl : T10.heap = T10.heap) (g := (mkF m 62 #[sI i0, sI i1, sI i2, sI i3, sI x4, sI x13, sR c2_0, sR c4_0, sR c6_0, sR c8_0, sR b9, sU, sU] [(vR c2_0), (vI i3), (vI i2), (vI 0), (vI 0), (vR b9)])) rfl hml rfl (rest := [(vR b9)]) rfl rfl rfl rfl (hb hby at_62) (by decide)
      have f13 : Exa Z T10.heap b9 z0 := (A9.keep Kq10)
      have f14 : Exa Z T10.heap c2_0 z5 := ((((((((q2_0.ext E3).keep Kq4).ext E5).keep Kq6).ext E7).keep Kq8).ext E9).keep Kq10)
      have sf12 := ((sfS (Safe.exa (EL := EL) hZ8.alike f13 (by decide) (by decide)) sf0) : ∀ x ∈ [b9], Safe Z EL T8.vm T10.heap x)
      obtain ⟨_, T12, L12, ⟨c12_0, k12_1, rfl, N12q, Kq12, lo12_0, q12_0, q12_1, q12_2, q12_3, q12_4⟩, X12, st12⟩ := own_iface X11 hx hZ8 (W := 0) hown8 (hw _ m169) (hw _ m170) (mvT hZ8 (hw _ m171)) (hw _ m172) (hw _ m173) (mvT hZ8 (hw _ m174)) (mvT hZ8 (hw _ m175)) (hw _ m176) (hw _ m143) (hw _ m177) (by decide) (rm47 cx b9 c2_0 O10 f13 q10_0 q10_1 q10_2 (Nat.le_trans (own_old_le O8) g9) f14) e11 f13 (g := (mkF m 65 #[sI i0, sI i1, sI i2, sI i3, sI x4, sI x13, sR c2_0, sR c4_0, sR c6_0, sR c8_0, sR b9, sU, sU] [(vR c2_0), (vR b9)])) rfl hml rfl (rest := []) (lenOf pd646 rfl) rfl rfl rfl (hb hby at_65) (by decide)
      have N12 := Fr.app (Fr.app N10 N11q) N12q
      have C12 := C10.trans (CHr.keep Kq12 sf12 C10.1)
      have O12 : Old Z n0 T12.heap := O10.keep Kq12 (allS (Nat.le_trans (own_old_le O8) g9) all0)
      have K12 : Keep h0 T12.heap [] := K10.trans Kq12 (allS (Or.inr (Nat.le_trans K8.1 g9)) all0)
      have f15 : Exa Z T12.heap c4_0 z5 := (((((((q4_0.ext E5).keep Kq6).ext E7).keep Kq8).ext E9).keep Kq10).keep Kq12)
      have sf16 := (sf0 : ∀ x ∈ [], Safe Z EL T8.vm T12.heap x)
      obtain ⟨_, T16, L16, ⟨oz16, rfl, N16q, Kq16, q16⟩, X16, st16⟩ := own_callS X12 hx hZ8 (W := 1) hown8 (hw _ m165) (hw _ m166) (hw _ m167) (hw _ m168) (by decide) (jm0 cx (1 : Int32) (0 : Int32) i2 i3 c4_0 O12 (by decide : ¬ ((1 : Int32) = (0 : Int32))) f15) (rfl : T12.heap = T12.heap) (g := (mkF m 86 #[sI i0, sI i1, sI i2, sI i3, sI x4, sI x13, sR c2_0, sR c4_0, sR c6_0, sR c8_0, sR b9, sU, sU] [(vR c4_0), (vI i3), (vI i2), (vI 0), (vI 1), (vR b9)])) rfl hml rfl (rest := [(vR b9)]) (lenOf pd559 rfl) rfl rfl rfl (hb hby at_86) (by decide)
      have N16 := Fr.app N12 N16q
      have C16 := C12.trans (CHr.keep Kq16 sf16 C12.1)
      have O16 : Old Z n0 T16.heap := O12.keep Kq16 all0
      have K16 : Keep h0 T16.heap [] := K12.trans Kq16 all0
      have f18 : Exa Z T16.heap b9 z0 := ((f13.keep Kq12).keep Kq16)
      have f19 : Fld Z T16.heap b9 z6 "modCount" "I" (vI 1) := (q12_2.keep Kq16 nin0)
      have f20 : Fld Z T16.heap b9 z0 z7 z4 (vR c12_0) := (q12_3.keep Kq16 nin0)
      have f21 : Fld Z T16.heap b9 z0 "size" "I" (vI 1) := (q12_4.keep Kq16 nin0)
      have f22 : Arv Z T16.heap c12_0 k12_1 (.object z2) (10 : Int32) [(vR c2_0), .null, .null, .null, .null, .null, .null, .null, .null, .null] .null := (q12_0.keep Kq16 nin0)
      have ne23 : b9 ≠ c12_0 := (Nat.ne_of_lt (Nat.lt_of_lt_of_le (Nat.lt_of_lt_of_le A9.lt Kq10.1) lo12_0))
      have sf17 := ((sfS (Safe.exa (EL := EL) hZ8.alike f18 (by decide) (by decide)) (sfS (Safe.arv (EL := EL) hZ8.alike f22 (by decide)) sf0)) : ∀ x ∈ [b9, c12_0], Safe Z EL T8.vm T16.heap x)
      obtain ⟨_, T17, L17, ⟨rfl, N17q, Kq17, q17_0, q17_1, q17_2, q17_3⟩, X17, st17⟩ := own_iface X16 hx hZ8 (W := 0) hown8 (hw _ m169) (hw _ m170) (mvT hZ8 (hw _ m171)) (hw _ m172) (hw _ m173) (mvT hZ8 (hw _ m174)) (mvT hZ8 (hw _ m175)) (hw _ m176) (hw _ m143) (hw _ m177) (by decide) (rm55 cx b9 c12_0 k12_1 c2_0 oz16 O16 f18 f19 f20 f21 f22 (Nat.le_trans (own_old_le O8) g9) q16 (Ne.symm ne23) q12_1 (Nat.le_trans (own_old_le O10) lo12_0)) (rfl : T16.heap = T16.heap) f18 (g := (mkF m 89 #[sI i0, sI i1, sI i2, sI i3, sI x4, sI x13, sR c2_0, sR c4_0, sR c6_0, sR c8_0, sR b9, sU, sU] [oz16, (vR b9)])) rfl hml rfl (rest := []) (lenOf pd646 rfl) rfl rfl rfl (hb hby at_89) (by decide)
      have N17 := Fr.app N16 N17q
      have C17 := C16.trans (CHr.keep Kq17 sf17 C16.1)
      have O17 : Old Z n0 T17.heap := O16.keep Kq17 (allS (Nat.le_trans (own_old_le O8) g9) (allS (Nat.le_trans (own_old_le O10) lo12_0) all0))
      have K17 : Keep h0 T17.heap [] := K16.trans Kq17 (allS (Or.inr (Nat.le_trans K8.1 g9)) (allS (Or.inr (Nat.le_trans K10.1 lo12_0)) all0))
      have f24 : Exa Z T17.heap c6_0 z5 := (((((((q6_0.ext E7).keep Kq8).ext E9).keep Kq10).keep Kq12).keep Kq16).keep Kq17)
      have sf25 := (sf0 : ∀ x ∈ [], Safe Z EL T8.vm T17.heap x)
      obtain ⟨_, T25, L25, ⟨oz25, rfl, N25q, Kq25, q25⟩, X25, st25⟩ := own_callS X17 hx hZ8 (W := 1) hown8 (hw _ m165) (hw _ m166) (hw _ m167) (hw _ m168) (by decide) (jm0 cx (2 : Int32) (0 : Int32) i2 i3 c6_0 O17 (by decide : ¬ ((2 : Int32) = (0 : Int32))) f24) (rfl : T17.heap = T17.heap) (g := (mkF m 110 #[sI i0, sI i1, sI i2, sI i3, sI x4, sI x13, sR c2_0, sR c4_0, sR c6_0, sR c8_0, sR b9, sU, sU] [(vR c6_0), (vI i3), (vI i2), (vI 0), (vI 2), (vR b9)])) rfl hml rfl (rest := [(vR b9)]) (lenOf pd559 rfl) rfl rfl rfl (hb hby at_110) (by decide)
      have N25 := Fr.app N17 N25q
      have C25 := C17.trans (CHr.keep Kq25 sf25 C17.1)
      have O25 : Old Z n0 T25.heap := O17.keep Kq25 all0
      have K25 : Keep h0 T25.heap [] := K17.trans Kq25 all0
      have f27 : Exa Z T25.heap b9 z0 := ((f18.keep Kq17).keep Kq25)
      have f28 : Fld Z T25.heap b9 z6 "modCount" "I" (vI 2) := (q17_0.keep Kq25 nin0)
      have f29 : Fld Z T25.heap b9 z0 z7 z4 (vR c12_0) := (q17_1.keep Kq25 nin0)
      have f30 : Fld Z T25.heap b9 z0 "size" "I" (vI 2) := (q17_2.keep Kq25 nin0)
      have f31 : Arv Z T25.heap c12_0 k12_1 (.object z2) (10 : Int32) [(vR c2_0), oz16, .null, .null, .null, .null, .null, .null, .null, .null] .null := (q17_3.keep Kq25 nin0)
      have sf26 := ((sfS (Safe.exa (EL := EL) hZ8.alike f27 (by decide) (by decide)) (sfS (Safe.arv (EL := EL) hZ8.alike f31 (by decide)) sf0)) : ∀ x ∈ [b9, c12_0], Safe Z EL T8.vm T25.heap x)
      obtain ⟨_, T26, L26, ⟨rfl, N26q, Kq26, q26_0, q26_1, q26_2, q26_3⟩, X26, st26⟩ := own_iface X25 hx hZ8 (W := 0) hown8 (hw _ m169) (hw _ m170) (mvT hZ8 (hw _ m171)) (hw _ m172) (hw _ m173) (mvT hZ8 (hw _ m174)) (mvT hZ8 (hw _ m175)) (hw _ m176) (hw _ m143) (hw _ m177) (by decide) (rm71 cx b9 c12_0 k12_1 c2_0 oz16 oz25 O25 f27 f28 f29 f30 f31 (Nat.le_trans (own_old_le O8) g9) q25 (Ne.symm ne23) q12_1 (Nat.le_trans (own_old_le O10) lo12_0)) (rfl : T25.heap = T25.heap) f27 (g := (mkF m 113 #[sI i0, sI i1, sI i2, sI i3, sI x4, sI x13, sR c2_0, sR c4_0, sR c6_0, sR c8_0, sR b9, sU, sU] [oz25, (vR b9)])) rfl hml rfl (rest := []) (lenOf pd646 rfl) rfl rfl rfl (hb hby at_113) (by decide)
      have N26 := Fr.app N25 N26q
      have C26 := C25.trans (CHr.keep Kq26 sf26 C25.1)
      have O26 : Old Z n0 T26.heap := O25.keep Kq26 (allS (Nat.le_trans (own_old_le O8) g9) (allS (Nat.le_trans (own_old_le O10) lo12_0) all0))
      have K26 : Keep h0 T26.heap [] := K25.trans Kq26 (allS (Or.inr (Nat.le_trans K8.1 g9)) (allS (Or.inr (Nat.le_trans K10.1 lo12_0)) all0))
      have f32 : Exa Z T26.heap c8_0 z5 := (((((((q8_0.ext E9).keep Kq10).keep Kq12).keep Kq16).keep Kq17).keep Kq25).keep Kq26)
      have sf33 := (sf0 : ∀ x ∈ [], Safe Z EL T8.vm T26.heap x)
      obtain ⟨_, T33, L33, ⟨oz33, rfl, N33q, Kq33, q33⟩, X33, st33⟩ := own_callS X26 hx hZ8 (W := 1) hown8 (hw _ m165) (hw _ m166) (hw _ m167) (hw _ m168) (by decide) (jm0 cx (3 : Int32) (0 : Int32) i2 i3 c8_0 O26 (by decide : ¬ ((3 : Int32) = (0 : Int32))) f32) (rfl : T26.heap = T26.heap) (g := (mkF m 134 #[sI i0, sI i1, sI i2, sI i3, sI x4, sI x13, sR c2_0, sR c4_0, sR c6_0, sR c8_0, sR b9, sU, sU] [(vR c8_0), (vI i3), (vI i2), (vI 0), (vI 3), (vR b9)])) rfl hml rfl (rest := [(vR b9)]) (lenOf pd559 rfl) rfl rfl rfl (hb hby at_134) (by decide)
      have N33 := Fr.app N26 N33q
      have C33 := C26.trans (CHr.keep Kq33 sf33 C26.1)
      have O33 : Old Z n0 T33.heap := O26.keep Kq33 all0
      have K33 : Keep h0 T33.heap [] := K26.trans Kq33 all0
      have f35 : Exa Z T33.heap b9 z0 := ((f27.keep Kq26).keep Kq33)
      have f36 : Fld Z T33.heap b9 z6 "modCount" "I" (vI 3) := (q26_0.keep Kq33 nin0)
      have f37 : Fld Z T33.heap b9 z0 z7 z4 (vR c12_0) := (q26_1.keep Kq33 nin0)
      have f38 : Fld Z T33.heap b9 z0 "size" "I" (vI 3) := (q26_2.keep Kq33 nin0)
      have f39 : Arv Z T33.heap c12_0 k12_1 (.object z2) (10 : Int32) [(vR c2_0), oz16, oz25, .null, .null, .null, .null, .null, .null, .null] .null := (q26_3.keep Kq33 nin0)
      have sf34 := ((sfS (Safe.exa (EL := EL) hZ8.alike f35 (by decide) (by decide)) (sfS (Safe.arv (EL := EL) hZ8.alike f39 (by decide)) sf0)) : ∀ x ∈ [b9, c12_0], Safe Z EL T8.vm T33.heap x)
      obtain ⟨_, T34, L34, ⟨rfl, N34q, Kq34, q34_0, q34_1, q34_2, q34_3⟩, X34, st34⟩ := own_iface X33 hx hZ8 (W := 0) hown8 (hw _ m169) (hw _ m170) (mvT hZ8 (hw _ m171)) (hw _ m172) (hw _ m173) (mvT hZ8 (hw _ m174)) (mvT hZ8 (hw _ m175)) (hw _ m176) (hw _ m143) (hw _ m177) (by decide) (rm93 cx b9 c12_0 k12_1 c2_0 oz16 oz25 oz33 O33 f35 f36 f37 f38 f39 (Nat.le_trans (own_old_le O8) g9) q33 (Ne.symm ne23) q12_1 (Nat.le_trans (own_old_le O10) lo12_0)) (rfl : T33.heap = T33.heap) f35 (g := (mkF m 137 #[sI i0, sI i1, sI i2, sI i3, sI x4, sI x13, sR c2_0, sR c4_0, sR c6_0, sR c8_0, sR b9, sU, sU] [oz33, (vR b9)])) rfl hml rfl (rest := []) (lenOf pd646 rfl) rfl rfl rfl (hb hby at_137) (by decide)
      have N34 := Fr.app N33 N34q
      have C34 := C33.trans (CHr.keep Kq34 sf34 C33.1)
      have O34 : Old Z n0 T34.heap := O33.keep Kq34 (allS (Nat.le_trans (own_old_le O8) g9) (allS (Nat.le_trans (own_old_le O10) lo12_0) all0))
      have K34 : Keep h0 T34.heap [] := K33.trans Kq34 (allS (Or.inr (Nat.le_trans K8.1 g9)) (allS (Or.inr (Nat.le_trans K10.1 lo12_0)) all0))
      have f41 : Exa Z T34.heap b9 z0 := (f35.keep Kq34)
      have f42 : Exa Z T34.heap c2_0 z5 := (((((((f14.keep Kq12).keep Kq16).keep Kq17).keep Kq25).keep Kq26).keep Kq33).keep Kq34)
      have sf40 := (sf0 : ∀ x ∈ [], Safe Z EL T8.vm T34.heap x)
      obtain ⟨_, T40, L40, ⟨rfl, N40q, e40⟩, X40, st40⟩ := cS X34 hx hZ8 (W := 0) hown8 (cw36 cx) (rm98 cx b9 c12_0 k12_1 c2_0 oz16 oz25 oz33 O34 q34_2 f41 q34_1 q34_3 f42) (rfl : T34.heap = T34.heap) (g := (mkF m 183 #[sI i0, sI i1, sI i2, sI i3, sI x4, sI x13, sR c2_0, sR c4_0, sR c6_0, sR c8_0, sR b9, sR c2_0, sU] [(vI 0), (vR b9)])) rfl hml rfl (rest := []) rfl rfl rfl rfl (hb hby at_183) (by decide)
      have sf43 := (sf0 : ∀ x ∈ [], Safe Z EL T8.vm T34.heap x)
      obtain ⟨_, T43, L43, ⟨rfl, N43q, e43⟩, X43, st43⟩ := own_iface X40 hx hZ8 (W := 0) hown8 (hw _ m230) (hw _ m205) (mvT hZ8 (hw _ m206)) (hw _ m207) (hw _ m208) (mvT hZ8 (hw _ m209)) (mvT hZ8 (hw _ m210)) (hw _ m176) (hw _ m143) (hw _ m211) (by decide) (rm94 cx b9 O34 q34_2) e40 f41 (g := (mkF m 197 #[sI i0, sI i1, sI i2, sI i3, sI x4, sI x13, sR c2_0, sR c4_0, sR c6_0, sR c8_0, sR b9, sR c2_0, sR c2_0] [(vR b9)])) rfl hml rfl (rest := []) (lenOf pd200 rfl) rfl rfl rfl (hb hby at_197) (by decide)
      have sf44 := (sf0 : ∀ x ∈ [], Safe Z EL T8.vm T34.heap x)
      obtain ⟨_, T44, L44, ⟨rfl, N44q, e44⟩, X44, st44⟩ := own_iface X43 hx hZ8 (W := 0) hown8 (hw _ m231) (hw _ m213) (mvT hZ8 (hw _ m214)) (hw _ m215) (hw _ m216) (mvT hZ8 (hw _ m217)) (mvT hZ8 (hw _ m218)) (hw _ m176) (hw _ m143) (hw _ m219) (by decide) (rm97 cx b9 c12_0 k12_1 c2_0 oz16 oz25 oz33 O34 q34_2 q34_1 q34_3 f41) e43 f41 (g := (mkF m 211 #[sI i0, sI i1, sI i2, sI i3, sI x4, sI x13, sR c2_0, sR c4_0, sR c6_0, sR c8_0, sR b9, sR c2_0, sR c2_0] [(vI 0), (vR b9)])) rfl hml rfl (rest := []) (lenOf pd521 rfl) rfl rfl rfl (hb hby at_211) (by decide)
      refine own_endW X44 hlk (v := some (vI 1)) (own_hv hret) hS8 (Nat.le_trans (Nat.le_refl _) (Nat.le_trans (Nat.le_trans (Nat.le_trans (Nat.le_trans (Nat.le_trans (Nat.le_trans (Nat.le_trans (Nat.le_trans E9.1 Kq10.1) Kq12.1) Kq16.1) Kq17.1) Kq25.1) Kq26.1) Kq33.1) Kq34.1)) (by decide) hh e44 C34 hZ8 (own_EW hw hj) ⟨rfl, (Fr.app (Fr.app (Fr.app N34 N40q) N43q) N44q)⟩ fun fs hr => pre2 _ ?_
      refine Own.iload X10.here hx rfl (hb hby at_56) rfl hp1 ?_
      refine wil X10 hx hby rfl at_58 rfl ?_
      show St p e below T10 (mkF m 59 #[sI i0, sI i1, sI i2, sI i3, sI x4, sI x13, sR c2_0, sR c4_0, sR c6_0, sR c8_0, sR b9, sU, sU] [(vI i2), (vI 0), (vI 0), (vR b9)]) _
      refine wil X10 hx hby rfl at_59 rfl ?_
      refine waL X10 hx hby rfl at_60 rfl rfl ?_
      refine st11 _ ?_
      refine st12 _ ?_
      refine XS.pop X12.here hx rfl (hb hby at_70) rfl rfl ?_
      refine Own.iload X12.here hx rfl (hb hby at_71) rfl hp0 ?_
      refine wic X12 hx hby rfl at_73 ?_
      refine wcn X12 hx hby rfl at_74 rfl (tlt (by decide : (1 : Int32) < (4 : Int32))).2.2.2 ?_
      refine waL X12 hx hby rfl at_77 rfl rfl ?_
      refine wic X12 hx hby rfl at_79 ?_
      refine Own.iload X12.here hx rfl (hb hby at_80) rfl hp1 ?_
      refine wil X12 hx hby rfl at_82 rfl ?_
      refine wil X12 hx hby rfl at_83 rfl ?_
      refine waL X12 hx hby rfl at_84 rfl rfl ?_
      refine st16 _ ?_
      refine st17 _ ?_
      show St p e below T17 (mkF m 94 #[sI i0, sI i1, sI i2, sI i3, sI x4, sI x13, sR c2_0, sR c4_0, sR c6_0, sR c8_0, sR b9, sU, sU] [(vI 1)]) _
      refine XS.pop X17.here hx rfl (hb hby at_94) rfl rfl ?_
      show St p e below T17 (mkF m 95 #[sI i0, sI i1, sI i2, sI i3, sI x4, sI x13, sR c2_0, sR c4_0, sR c6_0, sR c8_0, sR b9, sU, sU] []) _
      refine Own.iload X17.here hx rfl (hb hby at_95) rfl hp0 ?_
      refine wic X17 hx hby rfl at_97 ?_
      refine wcn X17 hx hby rfl at_98 rfl (tlt (by decide : (2 : Int32) < (4 : Int32))).2.2.2 ?_
      refine waL X17 hx hby rfl at_101 rfl rfl ?_
      refine wic X17 hx hby rfl at_103 ?_
      refine Own.iload X17.here hx rfl (hb hby at_104) rfl hp1 ?_
      refine wil X17 hx hby rfl at_106 rfl ?_
      refine wil X17 hx hby rfl at_107 rfl ?_
      refine waL X17 hx hby rfl at_108 rfl rfl ?_
      refine st25 _ ?_
      refine st26 _ ?_
      refine XS.pop X26.here hx rfl (hb hby at_118) rfl rfl ?_
      show St p e below T26 (mkF m 119 #[sI i0, sI i1, sI i2, sI i3, sI x4, sI x13, sR c2_0, sR c4_0, sR c6_0, sR c8_0, sR b9, sU, sU] []) _
      refine Own.iload X26.here hx rfl (hb hby at_119) rfl hp0 ?_
      refine wic X26 hx hby rfl at_121 ?_
      refine wcn X26 hx hby rfl at_122 rfl (tlt (by decide : (3 : Int32) < (4 : Int32))).2.2.2 ?_
      refine waL X26 hx hby rfl at_125 rfl rfl ?_
      refine wic X26 hx hby rfl at_127 ?_
      refine Own.iload X26.here hx rfl (hb hby at_128) rfl hp1 ?_
      refine wil X26 hx hby rfl at_130 rfl ?_
      refine wil X26 hx hby rfl at_131 rfl ?_
      refine waL X26 hx hby rfl at_132 rfl rfl ?_
      refine st33 _ ?_
      refine st34 _ ?_
      refine XS.pop X34.here hx rfl (hb hby at_142) rfl rfl ?_
      show St p e below T34 (mkF m 143 #[sI i0, sI i1, sI i2, sI i3, sI x4, sI x13, sR c2_0, sR c4_0, sR c6_0, sR c8_0, sR b9, sU, sU] []) _
      refine Own.iload X34.here hx rfl (hb hby at_143) rfl hp1 ?_
      refine wfn X34 hx hby rfl at_145 rfl ((if0 _ _).trans (teq (by decide : (0 : Int32) = (0 : Int32))).2) ?_
      refine waL X34 hx hby rfl at_148 rfl rfl ?_
      refine wgt X34 hx hby rfl (pc0 := 150) (pc' := 177) rfl at_150 (by decide) (by decide) ?_
      show St p e below T34 (mkF m 177 #[sI i0, sI i1, sI i2, sI i3, sI x4, sI x13, sR c2_0, sR c4_0, sR c6_0, sR c8_0, sR b9, sU, sU] [(vR c2_0)]) _
      refine waS X34 hx hby rfl at_177 rfl rfl (l' := #[sI i0, sI i1, sI i2, sI i3, sI x4, sI x13, sR c2_0, sR c4_0, sR c6_0, sR c8_0, sR b9, sR c2_0, sU]) rfl ?_
      refine waL X34 hx hby rfl at_179 rfl rfl ?_
      refine Own.iload X34.here hx rfl (hb hby at_181) rfl hp1 ?_
      refine st40 _ ?_
      refine waS X40 hx hby rfl at_186 rfl rfl (l' := #[sI i0, sI i1, sI i2, sI i3, sI x4, sI x13, sR c2_0, sR c4_0, sR c6_0, sR c8_0, sR b9, sR c2_0, sR c2_0]) rfl ?_
      refine waL X40 hx hby rfl at_188 rfl rfl ?_
      refine waL X40 hx hby rfl at_190 rfl rfl ?_
      refine Jvm.RoadKit.acmp (g := (mkF m 192 #[sI i0, sI i1, sI i2, sI i3, sI x4, sI x13, sR c2_0, sR c4_0, sR c6_0, sR c8_0, sR b9, sR c2_0, sR c2_0] [(vR c2_0), (vR c2_0)])) X40 hx rfl rfl rfl (pc0 := 192) (pc' := 195) (same := true) rfl (hb hby at_192) rfl (decide_eq_true rfl) (by decide) (by decide) ?_
      refine waL X40 hx hby rfl at_195 rfl rfl ?_
      refine st43 _ ?_
      refine Own.iload X43.here hx rfl (hb hby at_202) rfl hp0 ?_
      refine wcn X43 hx hby rfl at_204 rfl (teq (by decide : (4 : Int32) = (4 : Int32))).2 ?_
      refine waL X43 hx hby rfl at_207 rfl rfl ?_
      refine Own.iload X43.here hx rfl (hb hby at_209) rfl hp1 ?_
      refine st44 _ ?_
      refine waL X44 hx hby rfl at_216 rfl rfl ?_
      show St p e below T44 (mkF m 218 #[sI i0, sI i1, sI i2, sI i3, sI x4, sI x13, sR c2_0, sR c4_0, sR c6_0, sR c8_0, sR b9, sR c2_0, sR c2_0] [(vR c2_0), (vR c2_0)]) _
      refine Jvm.RoadKit.acmp (g := (mkF m 218 #[sI i0, sI i1, sI i2, sI i3, sI x4, sI x13, sR c2_0, sR c4_0, sR c6_0, sR c8_0, sR b9, sR c2_0, sR c2_0] [(vR c2_0), (vR c2_0)])) X44 hx rfl rfl rfl (pc0 := 218) (pc' := 221) (same := true) rfl (hb hby at_218) rfl (decide_eq_true rfl) (by decide) (by decide) ?_
      refine wic X44 hx hby rfl at_221 ?_
      refine wgt X44 hx hby rfl (pc0 := 222) (pc' := 226) rfl at_222 (by decide) (by decide) ?_
      show St p e below T44 (mkF m 226 #[sI i0, sI i1, sI i2, sI i3, sI x4, sI x13, sR c2_0, sR c4_0, sR c6_0, sR c8_0, sR b9, sR c2_0, sR c2_0] [(vI 1)]) _
      exact retN X44 hx (t := .boolean) hret (by simp) (hb hby at_226) hr
    · have f11 : Exa Z T10.heap c2_0 z5 := ((((((((q2_0.ext E3).keep Kq4).ext E5).keep Kq6).ext E7).keep Kq8).ext E9).keep Kq10)
      have sf12 := (sf0 : ∀ x ∈ [], Safe Z EL T8.vm T10.heap x)
      obtain ⟨_, T12, L12, ⟨oz12, rfl, N12q, Kq12, q12⟩, X12, st12⟩ := own_callS X10 hx hZ8 (W := 1) hown8 (hw _ m165) (hw _ m166) (hw _ m167) (hw _ m168) (by decide) (jm0 cx (0 : Int32) (1 : Int32) i2 i3 c2_0 O10 (by decide : ¬ ((0 : Int32) = (1 : Int32))) f11) (rfl : T10.heap = T10.heap) (g := (mkF m 62 #[sI i0, sI i1, sI i2, sI i3, sI x4, sI x13, sR c2_0, sR c4_0, sR c6_0, sR c8_0, sR b9, sU, sU] [(vR c2_0), (vI i3), (vI i2), (vI 1), (vI 0), (vR b9)])) rfl hml rfl (rest := [(vR b9)]) (lenOf pd559 rfl) rfl rfl rfl (hb hby at_62) (by decide)
      have N12 := Fr.app N10 N12q
      have C12 := C10.trans (CHr.keep Kq12 sf12 C10.1)
      have O12 : Old Z n0 T12.heap := O10.keep Kq12 all0
      have K12 : Keep h0 T12.heap [] := K10.trans Kq12 all0
      have f14 : Exa Z T12.heap b9 z0 := ((A9.keep Kq10).keep Kq12)
      have f15 : Fld Z T12.heap b9 z6 "modCount" "I" (vI 0) := (q10_0.keep Kq12 nin0)
      have f16 : Fld Z T12.heap b9 z0 z7 z4 (vR w4) := (q10_1.keep Kq12 nin0)
      have f17 : Fld Z T12.heap b9 z0 "size" "I" (vI 0) := (q10_2.keep Kq12 nin0)
      have sf13 := ((sfS (Safe.exa (EL := EL) hZ8.alike f14 (by decide) (by decide)) sf0) : ∀ x ∈ [b9], Safe Z EL T8.vm T12.heap x)
      obtain ⟨_, T13, L13, ⟨c13_0, k13_1, rfl, N13q, Kq13, lo13_0, q13_0, q13_1, q13_2, q13_3, q13_4⟩, X13, st13⟩ := own_iface X12 hx hZ8 (W := 0) hown8 (hw _ m169) (hw _ m170) (mvT hZ8 (hw _ m171)) (hw _ m172) (hw _ m173) (mvT hZ8 (hw _ m174)) (mvT hZ8 (hw _ m175)) (hw _ m176) (hw _ m143) (hw _ m177) (by decide) (rm62 cx b9 oz12 O12 f14 f15 f16 f17 (Nat.le_trans (own_old_le O8) g9) q12) (rfl : T12.heap = T12.heap) f14 (g := (mkF m 65 #[sI i0, sI i1, sI i2, sI i3, sI x4, sI x13, sR c2_0, sR c4_0, sR c6_0, sR c8_0, sR b9, sU, sU] [oz12, (vR b9)])) rfl hml rfl (rest := []) (lenOf pd646 rfl) rfl rfl rfl (hb hby at_65) (by decide)
      have N13 := Fr.app N12 N13q
      have C13 := C12.trans (CHr.keep Kq13 sf13 C12.1)
      have O13 : Old Z n0 T13.heap := O12.keep Kq13 (allS (Nat.le_trans (own_old_le O8) g9) all0)
      have K13 : Keep h0 T13.heap [] := K12.trans Kq13 (allS (Or.inr (Nat.le_trans K8.1 g9)) all0)
      have sf18 := (sf0 : ∀ x ∈ [], Safe Z EL T8.vm T13.heap x)
      obtain ⟨_, T18, L18, ⟨rfl, N18q, e18⟩, X18, st18⟩ := cS X13 hx hZ8 (W := 1) hown8 (cw31 cx) (rm63 cx i2 i3 c4_0 O13) (rfl : T13.heap = T13.heap) (g := (mkF m 86 #[sI i0, sI i1, sI i2, sI i3, sI x4, sI x13, sR c2_0, sR c4_0, sR c6_0, sR c8_0, sR b9, sU, sU] [(vR c4_0), (vI i3), (vI i2), (vI 1), (vI 1), (vR b9)])) rfl hml rfl (rest := [(vR b9)]) rfl rfl rfl rfl (hb hby at_86) (by decide)
      have f20 : Exa Z T13.heap b9 z0 := (f14.keep Kq13)
      have ne21 : b9 ≠ c13_0 := (Nat.ne_of_lt (Nat.lt_of_lt_of_le (Nat.lt_of_lt_of_le A9.lt (Nat.le_trans Kq10.1 Kq12.1)) lo13_0))
      have f22 : Exa Z T13.heap c4_0 z5 := ((((((((q4_0.ext E5).keep Kq6).ext E7).keep Kq8).ext E9).keep Kq10).keep Kq12).keep Kq13)
      have sf19 := ((sfS (Safe.exa (EL := EL) hZ8.alike f20 (by decide) (by decide)) (sfS (Safe.arv (EL := EL) hZ8.alike q13_0 (by decide)) sf0)) : ∀ x ∈ [b9, c13_0], Safe Z EL T8.vm T13.heap x)
      obtain ⟨_, T19, L19, ⟨rfl, N19q, Kq19, q19_0, q19_1, q19_2, q19_3⟩, X19, st19⟩ := own_iface X18 hx hZ8 (W := 0) hown8 (hw _ m169) (hw _ m170) (mvT hZ8 (hw _ m171)) (hw _ m172) (hw _ m173) (mvT hZ8 (hw _ m174)) (mvT hZ8 (hw _ m175)) (hw _ m176) (hw _ m143) (hw _ m177) (by decide) (rm65 cx b9 c13_0 k13_1 oz12 c4_0 O13 f20 q13_2 q13_3 q13_4 q13_0 (Nat.le_trans (own_old_le O8) g9) (Ne.symm ne21) q13_1 f22 (Nat.le_trans (own_old_le O12) lo13_0)) e18 f20 (g := (mkF m 89 #[sI i0, sI i1, sI i2, sI i3, sI x4, sI x13, sR c2_0, sR c4_0, sR c6_0, sR c8_0, sR b9, sU, sU] [(vR c4_0), (vR b9)])) rfl hml rfl (rest := []) (lenOf pd646 rfl) rfl rfl rfl (hb hby at_89) (by decide)
      have N19 := Fr.app (Fr.app N13 N18q) N19q
      have C19 := C13.trans (CHr.keep Kq19 sf19 C13.1)
      have O19 : Old Z n0 T19.heap := O13.keep Kq19 (allS (Nat.le_trans (own_old_le O8) g9) (allS (Nat.le_trans (own_old_le O12) lo13_0) all0))
      have K19 : Keep h0 T19.heap [] := K13.trans Kq19 (allS (Or.inr (Nat.le_trans K8.1 g9)) (allS (Or.inr (Nat.le_trans K12.1 lo13_0)) all0))
      have f23 : Exa Z T19.heap c6_0 z5 := (((((((q6_0.ext E7).keep Kq8).ext E9).keep Kq10).keep Kq12).keep Kq13).keep Kq19)
      have sf24 := (sf0 : ∀ x ∈ [], Safe Z EL T8.vm T19.heap x)
      obtain ⟨_, T24, L24, ⟨oz24, rfl, N24q, Kq24, q24⟩, X24, st24⟩ := own_callS X19 hx hZ8 (W := 1) hown8 (hw _ m165) (hw _ m166) (hw _ m167) (hw _ m168) (by decide) (jm0 cx (2 : Int32) (1 : Int32) i2 i3 c6_0 O19 (by decide : ¬ ((2 : Int32) = (1 : Int32))) f23) (rfl : T19.heap = T19.heap) (g := (mkF m 110 #[sI i0, sI i1, sI i2, sI i3, sI x4, sI x13, sR c2_0, sR c4_0, sR c6_0, sR c8_0, sR b9, sU, sU] [(vR c6_0), (vI i3), (vI i2), (vI 1), (vI 2), (vR b9)])) rfl hml rfl (rest := [(vR b9)]) (lenOf pd559 rfl) rfl rfl rfl (hb hby at_110) (by decide)
      have N24 := Fr.app N19 N24q
      have C24 := C19.trans (CHr.keep Kq24 sf24 C19.1)
      have O24 : Old Z n0 T24.heap := O19.keep Kq24 all0
      have K24 : Keep h0 T24.heap [] := K19.trans Kq24 all0
      have f26 : Exa Z T24.heap b9 z0 := ((f20.keep Kq19).keep Kq24)
      have f27 : Fld Z T24.heap b9 z6 "modCount" "I" (vI 2) := (q19_0.keep Kq24 nin0)
      have f28 : Fld Z T24.heap b9 z0 z7 z4 (vR c13_0) := (q19_1.keep Kq24 nin0)
      have f29 : Fld Z T24.heap b9 z0 "size" "I" (vI 2) := (q19_2.keep Kq24 nin0)
      have f30 : Arv Z T24.heap c13_0 k13_1 (.object z2) (10 : Int32) [oz12, (vR c4_0), .null, .null, .null, .null, .null, .null, .null, .null] .null := (q19_3.keep Kq24 nin0)
      have sf25 := ((sfS (Safe.exa (EL := EL) hZ8.alike f26 (by decide) (by decide)) (sfS (Safe.arv (EL := EL) hZ8.alike f30 (by decide)) sf0)) : ∀ x ∈ [b9, c13_0], Safe Z EL T8.vm T24.heap x)
      obtain ⟨_, T25, L25, ⟨rfl, N25q, Kq25, q25_0, q25_1, q25_2, q25_3⟩, X25, st25⟩ := own_iface X24 hx hZ8 (W := 0) hown8 (hw _ m169) (hw _ m170) (mvT hZ8 (hw _ m171)) (hw _ m172) (hw _ m173) (mvT hZ8 (hw _ m174)) (mvT hZ8 (hw _ m175)) (hw _ m176) (hw _ m143) (hw _ m177) (by decide) (rm78 cx b9 c13_0 k13_1 oz12 c4_0 oz24 O24 f26 f27 f28 f29 f30 (Nat.le_trans (own_old_le O8) g9) q24 (Ne.symm ne21) q13_1 (Nat.le_trans (own_old_le O12) lo13_0)) (rfl : T24.heap = T24.heap) f26 (g := (mkF m 113 #[sI i0, sI i1, sI i2, sI i3, sI x4, sI x13, sR c2_0, sR c4_0, sR c6_0, sR c8_0, sR b9, sU, sU] [oz24, (vR b9)])) rfl hml rfl (rest := []) (lenOf pd646 rfl) rfl rfl rfl (hb hby at_113) (by decide)
      have N25 := Fr.app N24 N25q
      have C25 := C24.trans (CHr.keep Kq25 sf25 C24.1)
      have O25 : Old Z n0 T25.heap := O24.keep Kq25 (allS (Nat.le_trans (own_old_le O8) g9) (allS (Nat.le_trans (own_old_le O12) lo13_0) all0))
      have K25 : Keep h0 T25.heap [] := K24.trans Kq25 (allS (Or.inr (Nat.le_trans K8.1 g9)) (allS (Or.inr (Nat.le_trans K12.1 lo13_0)) all0))
      have f31 : Exa Z T25.heap c8_0 z5 := (((((((q8_0.ext E9).keep Kq10).keep Kq12).keep Kq13).keep Kq19).keep Kq24).keep Kq25)
      have sf32 := (sf0 : ∀ x ∈ [], Safe Z EL T8.vm T25.heap x)
      obtain ⟨_, T32, L32, ⟨oz32, rfl, N32q, Kq32, q32⟩, X32, st32⟩ := own_callS X25 hx hZ8 (W := 1) hown8 (hw _ m165) (hw _ m166) (hw _ m167) (hw _ m168) (by decide) (jm0 cx (3 : Int32) (1 : Int32) i2 i3 c8_0 O25 (by decide : ¬ ((3 : Int32) = (1 : Int32))) f31) (rfl : T25.heap = T25.heap) (g := (mkF m 134 #[sI i0, sI i1, sI i2, sI i3, sI x4, sI x13, sR c2_0, sR c4_0, sR c6_0, sR c8_0, sR b9, sU, sU] [(vR c8_0), (vI i3), (vI i2), (vI 1), (vI 3), (vR b9)])) rfl hml rfl (rest := [(vR b9)]) (lenOf pd559 rfl) rfl rfl rfl (hb hby at_134) (by decide)
      have N32 := Fr.app N25 N32q
      have C32 := C25.trans (CHr.keep Kq32 sf32 C25.1)
      have O32 : Old Z n0 T32.heap := O25.keep Kq32 all0
      have K32 : Keep h0 T32.heap [] := K25.trans Kq32 all0
      have f34 : Exa Z T32.heap b9 z0 := ((f26.keep Kq25).keep Kq32)
      have f35 : Fld Z T32.heap b9 z6 "modCount" "I" (vI 3) := (q25_0.keep Kq32 nin0)
      have f36 : Fld Z T32.heap b9 z0 z7 z4 (vR c13_0) := (q25_1.keep Kq32 nin0)
      have f37 : Fld Z T32.heap b9 z0 "size" "I" (vI 3) := (q25_2.keep Kq32 nin0)
      have f38 : Arv Z T32.heap c13_0 k13_1 (.object z2) (10 : Int32) [oz12, (vR c4_0), oz24, .null, .null, .null, .null, .null, .null, .null] .null := (q25_3.keep Kq32 nin0)
      have sf33 := ((sfS (Safe.exa (EL := EL) hZ8.alike f34 (by decide) (by decide)) (sfS (Safe.arv (EL := EL) hZ8.alike f38 (by decide)) sf0)) : ∀ x ∈ [b9, c13_0], Safe Z EL T8.vm T32.heap x)
      obtain ⟨_, T33, L33, ⟨rfl, N33q, Kq33, q33_0, q33_1, q33_2, q33_3⟩, X33, st33⟩ := own_iface X32 hx hZ8 (W := 0) hown8 (hw _ m169) (hw _ m170) (mvT hZ8 (hw _ m171)) (hw _ m172) (hw _ m173) (mvT hZ8 (hw _ m174)) (mvT hZ8 (hw _ m175)) (hw _ m176) (hw _ m143) (hw _ m177) (by decide) (rm100 cx b9 c13_0 k13_1 oz12 c4_0 oz24 oz32 O32 f34 f35 f36 f37 f38 (Nat.le_trans (own_old_le O8) g9) q32 (Ne.symm ne21) q13_1 (Nat.le_trans (own_old_le O12) lo13_0)) (rfl : T32.heap = T32.heap) f34 (g := (mkF m 137 #[sI i0, sI i1, sI i2, sI i3, sI x4, sI x13, sR c2_0, sR c4_0, sR c6_0, sR c8_0, sR b9, sU, sU] [oz32, (vR b9)])) rfl hml rfl (rest := []) (lenOf pd646 rfl) rfl rfl rfl (hb hby at_137) (by decide)
      have N33 := Fr.app N32 N33q
      have C33 := C32.trans (CHr.keep Kq33 sf33 C32.1)
      have O33 : Old Z n0 T33.heap := O32.keep Kq33 (allS (Nat.le_trans (own_old_le O8) g9) (allS (Nat.le_trans (own_old_le O12) lo13_0) all0))
      have K33 : Keep h0 T33.heap [] := K32.trans Kq33 (allS (Or.inr (Nat.le_trans K8.1 g9)) (allS (Or.inr (Nat.le_trans K12.1 lo13_0)) all0))
      have f40 : Exa Z T33.heap b9 z0 := (f34.keep Kq33)
      have f41 : Exa Z T33.heap c4_0 z5 := (((((f22.keep Kq19).keep Kq24).keep Kq25).keep Kq32).keep Kq33)
      have sf39 := (sf0 : ∀ x ∈ [], Safe Z EL T8.vm T33.heap x)
      obtain ⟨_, T39, L39, ⟨rfl, N39q, e39⟩, X39, st39⟩ := cS X33 hx hZ8 (W := 0) hown8 (cw36 cx) (rm104 cx b9 c13_0 k13_1 oz12 c4_0 oz24 oz32 O33 q33_2 f40 q33_1 q33_3 f41) (rfl : T33.heap = T33.heap) (g := (mkF m 183 #[sI i0, sI i1, sI i2, sI i3, sI x4, sI x13, sR c2_0, sR c4_0, sR c6_0, sR c8_0, sR b9, sR c4_0, sU] [(vI 1), (vR b9)])) rfl hml rfl (rest := []) rfl rfl rfl rfl (hb hby at_183) (by decide)
      have sf42 := (sf0 : ∀ x ∈ [], Safe Z EL T8.vm T33.heap x)
      obtain ⟨_, T42, L42, ⟨rfl, N42q, e42⟩, X42, st42⟩ := own_iface X39 hx hZ8 (W := 0) hown8 (hw _ m230) (hw _ m205) (mvT hZ8 (hw _ m206)) (hw _ m207) (hw _ m208) (mvT hZ8 (hw _ m209)) (mvT hZ8 (hw _ m210)) (hw _ m176) (hw _ m143) (hw _ m211) (by decide) (rm94 cx b9 O33 q33_2) e39 f40 (g := (mkF m 197 #[sI i0, sI i1, sI i2, sI i3, sI x4, sI x13, sR c2_0, sR c4_0, sR c6_0, sR c8_0, sR b9, sR c4_0, sR c4_0] [(vR b9)])) rfl hml rfl (rest := []) (lenOf pd200 rfl) rfl rfl rfl (hb hby at_197) (by decide)
      have sf43 := (sf0 : ∀ x ∈ [], Safe Z EL T8.vm T33.heap x)
      obtain ⟨_, T43, L43, ⟨rfl, N43q, e43⟩, X43, st43⟩ := own_iface X42 hx hZ8 (W := 0) hown8 (hw _ m231) (hw _ m213) (mvT hZ8 (hw _ m214)) (hw _ m215) (hw _ m216) (mvT hZ8 (hw _ m217)) (mvT hZ8 (hw _ m218)) (hw _ m176) (hw _ m143) (hw _ m219) (by decide) (rm103 cx b9 c13_0 k13_1 oz12 c4_0 oz24 oz32 O33 q33_2 q33_1 q33_3 f40) e42 f40 (g := (mkF m 211 #[sI i0, sI i1, sI i2, sI i3, sI x4, sI x13, sR c2_0, sR c4_0, sR c6_0, sR c8_0, sR b9, sR c4_0, sR c4_0] [(vI 1), (vR b9)])) rfl hml rfl (rest := []) (lenOf pd521 rfl) rfl rfl rfl (hb hby at_211) (by decide)
      refine own_endW X43 hlk (v := some (vI 1)) (own_hv hret) hS8 (Nat.le_trans (Nat.le_refl _) (Nat.le_trans (Nat.le_trans (Nat.le_trans (Nat.le_trans (Nat.le_trans (Nat.le_trans (Nat.le_trans (Nat.le_trans E9.1 Kq10.1) Kq12.1) Kq13.1) Kq19.1) Kq24.1) Kq25.1) Kq32.1) Kq33.1)) (by decide) hh e43 C33 hZ8 (own_EW hw hj) ⟨rfl, (Fr.app (Fr.app (Fr.app N33 N39q) N42q) N43q)⟩ fun fs hr => pre2 _ ?_
      refine Own.iload X10.here hx rfl (hb hby at_56) rfl hp1 ?_
      refine wil X10 hx hby rfl at_58 rfl ?_
      show St p e below T10 (mkF m 59 #[sI i0, sI i1, sI i2, sI i3, sI x4, sI x13, sR c2_0, sR c4_0, sR c6_0, sR c8_0, sR b9, sU, sU] [(vI i2), (vI 1), (vI 0), (vR b9)]) _
      refine wil X10 hx hby rfl at_59 rfl ?_
      refine waL X10 hx hby rfl at_60 rfl rfl ?_
      refine st12 _ ?_
      refine st13 _ ?_
      refine XS.pop X13.here hx rfl (hb hby at_70) rfl rfl ?_
      refine Own.iload X13.here hx rfl (hb hby at_71) rfl hp0 ?_
      refine wic X13 hx hby rfl at_73 ?_
      refine wcn X13 hx hby rfl at_74 rfl (tlt (by decide : (1 : Int32) < (4 : Int32))).2.2.2 ?_
      refine waL X13 hx hby rfl at_77 rfl rfl ?_
      refine wic X13 hx hby rfl at_79 ?_
      refine Own.iload X13.here hx rfl (hb hby at_80) rfl hp1 ?_
      refine wil X13 hx hby rfl at_82 rfl ?_
      refine wil X13 hx hby rfl at_83 rfl ?_
      refine waL X13 hx hby rfl at_84 rfl rfl ?_
      refine st18 _ ?_
      refine st19 _ ?_
      show St p e below T19 (mkF m 94 #[sI i0, sI i1, sI i2, sI i3, sI x4, sI x13, sR c2_0, sR c4_0, sR c6_0, sR c8_0, sR b9, sU, sU] [(vI 1)]) _
      refine XS.pop X19.here hx rfl (hb hby at_94) rfl rfl ?_
      show St p e below T19 (mkF m 95 #[sI i0, sI i1, sI i2, sI i3, sI x4, sI x13, sR c2_0, sR c4_0, sR c6_0, sR c8_0, sR b9, sU, sU] []) _
      refine Own.iload X19.here hx rfl (hb hby at_95) rfl hp0 ?_
      refine wic X19 hx hby rfl at_97 ?_
      refine wcn X19 hx hby rfl at_98 rfl (tlt (by decide : (2 : Int32) < (4 : Int32))).2.2.2 ?_
      refine waL X19 hx hby rfl at_101 rfl rfl ?_
      refine wic X19 hx hby rfl at_103 ?_
      refine Own.iload X19.here hx rfl (hb hby at_104) rfl hp1 ?_
      refine wil X19 hx hby rfl at_106 rfl ?_
      refine wil X19 hx hby rfl at_107 rfl ?_
      refine waL X19 hx hby rfl at_108 rfl rfl ?_
      refine st24 _ ?_
      refine st25 _ ?_
      refine XS.pop X25.here hx rfl (hb hby at_118) rfl rfl ?_
      show St p e below T25 (mkF m 119 #[sI i0, sI i1, sI i2, sI i3, sI x4, sI x13, sR c2_0, sR c4_0, sR c6_0, sR c8_0, sR b9, sU, sU] []) _
      refine Own.iload X25.here hx rfl (hb hby at_119) rfl hp0 ?_
      refine wic X25 hx hby rfl at_121 ?_
      refine wcn X25 hx hby rfl at_122 rfl (tlt (by decide : (3 : Int32) < (4 : Int32))).2.2.2 ?_
      refine waL X25 hx hby rfl at_125 rfl rfl ?_
      refine wic X25 hx hby rfl at_127 ?_
      refine Own.iload X25.here hx rfl (hb hby at_128) rfl hp1 ?_
      refine wil X25 hx hby rfl at_130 rfl ?_
      refine wil X25 hx hby rfl at_131 rfl ?_
      refine waL X25 hx hby rfl at_132 rfl rfl ?_
      refine st32 _ ?_
      refine st33 _ ?_
      refine XS.pop X33.here hx rfl (hb hby at_142) rfl rfl ?_
      show St p e below T33 (mkF m 143 #[sI i0, sI i1, sI i2, sI i3, sI x4, sI x13, sR c2_0, sR c4_0, sR c6_0, sR c8_0, sR b9, sU, sU] []) _
      refine Own.iload X33.here hx rfl (hb hby at_143) rfl hp1 ?_
      refine wfy X33 hx hby rfl (pc0 := 145) (pc' := 153) rfl at_145 rfl ((if0 _ _).trans (feq (by decide : ¬ ((1 : Int32) = (0 : Int32)))).2) (by decide) (by decide) ?_
      show St p e below T33 (mkF m 153 #[sI i0, sI i1, sI i2, sI i3, sI x4, sI x13, sR c2_0, sR c4_0, sR c6_0, sR c8_0, sR b9, sU, sU] []) _
      refine Own.iload X33.here hx rfl (hb hby at_153) rfl hp1 ?_
      refine wic X33 hx hby rfl at_155 ?_
      refine wcn X33 hx hby rfl at_156 rfl (teq (by decide : (1 : Int32) = (1 : Int32))).2 ?_
      refine waL X33 hx hby rfl at_159 rfl rfl ?_
      refine wgt X33 hx hby rfl (pc0 := 161) (pc' := 177) rfl at_161 (by decide) (by decide) ?_
      show St p e below T33 (mkF m 177 #[sI i0, sI i1, sI i2, sI i3, sI x4, sI x13, sR c2_0, sR c4_0, sR c6_0, sR c8_0, sR b9, sU, sU] [(vR c4_0)]) _
      refine waS X33 hx hby rfl at_177 rfl rfl (l' := #[sI i0, sI i1, sI i2, sI i3, sI x4, sI x13, sR c2_0, sR c4_0, sR c6_0, sR c8_0, sR b9, sR c4_0, sU]) rfl ?_
      refine waL X33 hx hby rfl at_179 rfl rfl ?_
      refine Own.iload X33.here hx rfl (hb hby at_181) rfl hp1 ?_
      refine st39 _ ?_
      refine waS X39 hx hby rfl at_186 rfl rfl (l' := #[sI i0, sI i1, sI i2, sI i3, sI x4, sI x13, sR c2_0, sR c4_0, sR c6_0, sR c8_0, sR b9, sR c4_0, sR c4_0]) rfl ?_
      refine waL X39 hx hby rfl at_188 rfl rfl ?_
      refine waL X39 hx hby rfl at_190 rfl rfl ?_
      refine Jvm.RoadKit.acmp (g := (mkF m 192 #[sI i0, sI i1, sI i2, sI i3, sI x4, sI x13, sR c2_0, sR c4_0, sR c6_0, sR c8_0, sR b9, sR c4_0, sR c4_0] [(vR c4_0), (vR c4_0)])) X39 hx rfl rfl rfl (pc0 := 192) (pc' := 195) (same := true) rfl (hb hby at_192) rfl (decide_eq_true rfl) (by decide) (by decide) ?_
      refine waL X39 hx hby rfl at_195 rfl rfl ?_
      refine st42 _ ?_
      refine Own.iload X42.here hx rfl (hb hby at_202) rfl hp0 ?_
      refine wcn X42 hx hby rfl at_204 rfl (teq (by decide : (4 : Int32) = (4 : Int32))).2 ?_
      refine waL X42 hx hby rfl at_207 rfl rfl ?_
      refine Own.iload X42.here hx rfl (hb hby at_209) rfl hp1 ?_
      refine st43 _ ?_
      refine waL X43 hx hby rfl at_216 rfl rfl ?_
      show St p e below T43 (mkF m 218 #[sI i0, sI i1, sI i2, sI i3, sI x4, sI x13, sR c2_0, sR c4_0, sR c6_0, sR c8_0, sR b9, sR c4_0, sR c4_0] [(vR c4_0), (vR c4_0)]) _
      refine Jvm.RoadKit.acmp (g := (mkF m 218 #[sI i0, sI i1, sI i2, sI i3, sI x4, sI x13, sR c2_0, sR c4_0, sR c6_0, sR c8_0, sR b9, sR c4_0, sR c4_0] [(vR c4_0), (vR c4_0)])) X43 hx rfl rfl rfl (pc0 := 218) (pc' := 221) (same := true) rfl (hb hby at_218) rfl (decide_eq_true rfl) (by decide) (by decide) ?_
      refine wic X43 hx hby rfl at_221 ?_
      refine wgt X43 hx hby rfl (pc0 := 222) (pc' := 226) rfl at_222 (by decide) (by decide) ?_
      show St p e below T43 (mkF m 226 #[sI i0, sI i1, sI i2, sI i3, sI x4, sI x13, sR c2_0, sR c4_0, sR c6_0, sR c8_0, sR b9, sR c4_0, sR c4_0] [(vI 1)]) _
      exact retN X43 hx (t := .boolean) hret (by simp) (hb hby at_226) hr
    · have f11 : Exa Z T10.heap c2_0 z5 := ((((((((q2_0.ext E3).keep Kq4).ext E5).keep Kq6).ext E7).keep Kq8).ext E9).keep Kq10)
      have sf12 := (sf0 : ∀ x ∈ [], Safe Z EL T8.vm T10.heap x)
      obtain ⟨_, T12, L12, ⟨oz12, rfl, N12q, Kq12, q12⟩, X12, st12⟩ := own_callS X10 hx hZ8 (W := 1) hown8 (hw _ m165) (hw _ m166) (hw _ m167) (hw _ m168) (by decide) (jm0 cx (0 : Int32) (2 : Int32) i2 i3 c2_0 O10 (by decide : ¬ ((0 : Int32) = (2 : Int32))) f11) (rfl : T10.heap = T10.heap) (g := (mkF m 62 #[sI i0, sI i1, sI i2, sI i3, sI x4, sI x13, sR c2_0, sR c4_0, sR c6_0, sR c8_0, sR b9, sU, sU] [(vR c2_0), (vI i3), (vI i2), (vI 2), (vI 0), (vR b9)])) rfl hml rfl (rest := [(vR b9)]) (lenOf pd559 rfl) rfl rfl rfl (hb hby at_62) (by decide)
      have N12 := Fr.app N10 N12q
      have C12 := C10.trans (CHr.keep Kq12 sf12 C10.1)
      have O12 : Old Z n0 T12.heap := O10.keep Kq12 all0
      have K12 : Keep h0 T12.heap [] := K10.trans Kq12 all0
      have f14 : Exa Z T12.heap b9 z0 := ((A9.keep Kq10).keep Kq12)
      have f15 : Fld Z T12.heap b9 z6 "modCount" "I" (vI 0) := (q10_0.keep Kq12 nin0)
      have f16 : Fld Z T12.heap b9 z0 z7 z4 (vR w4) := (q10_1.keep Kq12 nin0)
      have f17 : Fld Z T12.heap b9 z0 "size" "I" (vI 0) := (q10_2.keep Kq12 nin0)
      have sf13 := ((sfS (Safe.exa (EL := EL) hZ8.alike f14 (by decide) (by decide)) sf0) : ∀ x ∈ [b9], Safe Z EL T8.vm T12.heap x)
      obtain ⟨_, T13, L13, ⟨c13_0, k13_1, rfl, N13q, Kq13, lo13_0, q13_0, q13_1, q13_2, q13_3, q13_4⟩, X13, st13⟩ := own_iface X12 hx hZ8 (W := 0) hown8 (hw _ m169) (hw _ m170) (mvT hZ8 (hw _ m171)) (hw _ m172) (hw _ m173) (mvT hZ8 (hw _ m174)) (mvT hZ8 (hw _ m175)) (hw _ m176) (hw _ m143) (hw _ m177) (by decide) (rm62 cx b9 oz12 O12 f14 f15 f16 f17 (Nat.le_trans (own_old_le O8) g9) q12) (rfl : T12.heap = T12.heap) f14 (g := (mkF m 65 #[sI i0, sI i1, sI i2, sI i3, sI x4, sI x13, sR c2_0, sR c4_0, sR c6_0, sR c8_0, sR b9, sU, sU] [oz12, (vR b9)])) rfl hml rfl (rest := []) (lenOf pd646 rfl) rfl rfl rfl (hb hby at_65) (by decide)
      have N13 := Fr.app N12 N13q
      have C13 := C12.trans (CHr.keep Kq13 sf13 C12.1)
      have O13 : Old Z n0 T13.heap := O12.keep Kq13 (allS (Nat.le_trans (own_old_le O8) g9) all0)
      have K13 : Keep h0 T13.heap [] := K12.trans Kq13 (allS (Or.inr (Nat.le_trans K8.1 g9)) all0)
      have f18 : Exa Z T13.heap c4_0 z5 := ((((((((q4_0.ext E5).keep Kq6).ext E7).keep Kq8).ext E9).keep Kq10).keep Kq12).keep Kq13)
      have sf19 := (sf0 : ∀ x ∈ [], Safe Z EL T8.vm T13.heap x)
      obtain ⟨_, T19, L19, ⟨oz19, rfl, N19q, Kq19, q19⟩, X19, st19⟩ := own_callS X13 hx hZ8 (W := 1) hown8 (hw _ m165) (hw _ m166) (hw _ m167) (hw _ m168) (by decide) (jm0 cx (1 : Int32) (2 : Int32) i2 i3 c4_0 O13 (by decide : ¬ ((1 : Int32) = (2 : Int32))) f18) (rfl : T13.heap = T13.heap) (g := (mkF m 86 #[sI i0, sI i1, sI i2, sI i3, sI x4, sI x13, sR c2_0, sR c4_0, sR c6_0, sR c8_0, sR b9, sU, sU] [(vR c4_0), (vI i3), (vI i2), (vI 2), (vI 1), (vR b9)])) rfl hml rfl (rest := [(vR b9)]) (lenOf pd559 rfl) rfl rfl rfl (hb hby at_86) (by decide)
      have N19 := Fr.app N13 N19q
      have C19 := C13.trans (CHr.keep Kq19 sf19 C13.1)
      have O19 : Old Z n0 T19.heap := O13.keep Kq19 all0
      have K19 : Keep h0 T19.heap [] := K13.trans Kq19 all0
      have f21 : Exa Z T19.heap b9 z0 := ((f14.keep Kq13).keep Kq19)
      have f22 : Fld Z T19.heap b9 z6 "modCount" "I" (vI 1) := (q13_2.keep Kq19 nin0)
      have f23 : Fld Z T19.heap b9 z0 z7 z4 (vR c13_0) := (q13_3.keep Kq19 nin0)
      have f24 : Fld Z T19.heap b9 z0 "size" "I" (vI 1) := (q13_4.keep Kq19 nin0)
      have f25 : Arv Z T19.heap c13_0 k13_1 (.object z2) (10 : Int32) [oz12, .null, .null, .null, .null, .null, .null, .null, .null, .null] .null := (q13_0.keep Kq19 nin0)
      have ne26 : b9 ≠ c13_0 := (Nat.ne_of_lt (Nat.lt_of_lt_of_le (Nat.lt_of_lt_of_le A9.lt (Nat.le_trans Kq10.1 Kq12.1)) lo13_0))
      have sf20 := ((sfS (Safe.exa (EL := EL) hZ8.alike f21 (by decide) (by decide)) (sfS (Safe.arv (EL := EL) hZ8.alike f25 (by decide)) sf0)) : ∀ x ∈ [b9, c13_0], Safe Z EL T8.vm T19.heap x)
      obtain ⟨_, T20, L20, ⟨rfl, N20q, Kq20, q20_0, q20_1, q20_2, q20_3⟩, X20, st20⟩ := own_iface X19 hx hZ8 (W := 0) hown8 (hw _ m169) (hw _ m170) (mvT hZ8 (hw _ m171)) (hw _ m172) (hw _ m173) (mvT hZ8 (hw _ m174)) (mvT hZ8 (hw _ m175)) (hw _ m176) (hw _ m143) (hw _ m177) (by decide) (rm84 cx b9 c13_0 k13_1 oz12 oz19 O19 f21 f22 f23 f24 f25 (Nat.le_trans (own_old_le O8) g9) q19 (Ne.symm ne26) q13_1 (Nat.le_trans (own_old_le O12) lo13_0)) (rfl : T19.heap = T19.heap) f21 (g := (mkF m 89 #[sI i0, sI i1, sI i2, sI i3, sI x4, sI x13, sR c2_0, sR c4_0, sR c6_0, sR c8_0, sR b9, sU, sU] [oz19, (vR b9)])) rfl hml rfl (rest := []) (lenOf pd646 rfl) rfl rfl rfl (hb hby at_89) (by decide)
      have N20 := Fr.app N19 N20q
      have C20 := C19.trans (CHr.keep Kq20 sf20 C19.1)
      have O20 : Old Z n0 T20.heap := O19.keep Kq20 (allS (Nat.le_trans (own_old_le O8) g9) (allS (Nat.le_trans (own_old_le O12) lo13_0) all0))
      have K20 : Keep h0 T20.heap [] := K19.trans Kq20 (allS (Or.inr (Nat.le_trans K8.1 g9)) (allS (Or.inr (Nat.le_trans K12.1 lo13_0)) all0))
      have sf27 := (sf0 : ∀ x ∈ [], Safe Z EL T8.vm T20.heap x)
      obtain ⟨_, T27, L27, ⟨rfl, N27q, e27⟩, X27, st27⟩ := cS X20 hx hZ8 (W := 1) hown8 (cw31 cx) (rm85 cx i2 i3 c6_0 O20) (rfl : T20.heap = T20.heap) (g := (mkF m 110 #[sI i0, sI i1, sI i2, sI i3, sI x4, sI x13, sR c2_0, sR c4_0, sR c6_0, sR c8_0, sR b9, sU, sU] [(vR c6_0), (vI i3), (vI i2), (vI 2), (vI 2), (vR b9)])) rfl hml rfl (rest := [(vR b9)]) rfl rfl rfl rfl (hb hby at_110) (by decide)
      have f29 : Exa Z T20.heap b9 z0 := (f21.keep Kq20)
      have f30 : Exa Z T20.heap c6_0 z5 := ((((((((q6_0.ext E7).keep Kq8).ext E9).keep Kq10).keep Kq12).keep Kq13).keep Kq19).keep Kq20)
      have sf28 := ((sfS (Safe.exa (EL := EL) hZ8.alike f29 (by decide) (by decide)) (sfS (Safe.arv (EL := EL) hZ8.alike q20_3 (by decide)) sf0)) : ∀ x ∈ [b9, c13_0], Safe Z EL T8.vm T20.heap x)
      obtain ⟨_, T28, L28, ⟨rfl, N28q, Kq28, q28_0, q28_1, q28_2, q28_3⟩, X28, st28⟩ := own_iface X27 hx hZ8 (W := 0) hown8 (hw _ m169) (hw _ m170) (mvT hZ8 (hw _ m171)) (hw _ m172) (hw _ m173) (mvT hZ8 (hw _ m174)) (mvT hZ8 (hw _ m175)) (hw _ m176) (hw _ m143) (hw _ m177) (by decide) (rm87 cx b9 c13_0 k13_1 oz12 oz19 c6_0 O20 f29 q20_0 q20_1 q20_2 q20_3 (Nat.le_trans (own_old_le O8) g9) (Ne.symm ne26) q13_1 f30 (Nat.le_trans (own_old_le O12) lo13_0)) e27 f29 (g := (mkF m 113 #[sI i0, sI i1, sI i2, sI i3, sI x4, sI x13, sR c2_0, sR c4_0, sR c6_0, sR c8_0, sR b9, sU, sU] [(vR c6_0), (vR b9)])) rfl hml rfl (rest := []) (lenOf pd646 rfl) rfl rfl rfl (hb hby at_113) (by decide)
      have N28 := Fr.app (Fr.app N20 N27q) N28q
      have C28 := C20.trans (CHr.keep Kq28 sf28 C20.1)
      have O28 : Old Z n0 T28.heap := O20.keep Kq28 (allS (Nat.le_trans (own_old_le O8) g9) (allS (Nat.le_trans (own_old_le O12) lo13_0) all0))
      have K28 : Keep h0 T28.heap [] := K20.trans Kq28 (allS (Or.inr (Nat.le_trans K8.1 g9)) (allS (Or.inr (Nat.le_trans K12.1 lo13_0)) all0))
      have f31 : Exa Z T28.heap c8_0 z5 := (((((((q8_0.ext E9).keep Kq10).keep Kq12).keep Kq13).keep Kq19).keep Kq20).keep Kq28)
      have sf32 := (sf0 : ∀ x ∈ [], Safe Z EL T8.vm T28.heap x)
      obtain ⟨_, T32, L32, ⟨oz32, rfl, N32q, Kq32, q32⟩, X32, st32⟩ := own_callS X28 hx hZ8 (W := 1) hown8 (hw _ m165) (hw _ m166) (hw _ m167) (hw _ m168) (by decide) (jm0 cx (3 : Int32) (2 : Int32) i2 i3 c8_0 O28 (by decide : ¬ ((3 : Int32) = (2 : Int32))) f31) (rfl : T28.heap = T28.heap) (g := (mkF m 134 #[sI i0, sI i1, sI i2, sI i3, sI x4, sI x13, sR c2_0, sR c4_0, sR c6_0, sR c8_0, sR b9, sU, sU] [(vR c8_0), (vI i3), (vI i2), (vI 2), (vI 3), (vR b9)])) rfl hml rfl (rest := [(vR b9)]) (lenOf pd559 rfl) rfl rfl rfl (hb hby at_134) (by decide)
      have N32 := Fr.app N28 N32q
      have C32 := C28.trans (CHr.keep Kq32 sf32 C28.1)
      have O32 : Old Z n0 T32.heap := O28.keep Kq32 all0
      have K32 : Keep h0 T32.heap [] := K28.trans Kq32 all0
      have f34 : Exa Z T32.heap b9 z0 := ((f29.keep Kq28).keep Kq32)
      have f35 : Fld Z T32.heap b9 z6 "modCount" "I" (vI 3) := (q28_0.keep Kq32 nin0)
      have f36 : Fld Z T32.heap b9 z0 z7 z4 (vR c13_0) := (q28_1.keep Kq32 nin0)
      have f37 : Fld Z T32.heap b9 z0 "size" "I" (vI 3) := (q28_2.keep Kq32 nin0)
      have f38 : Arv Z T32.heap c13_0 k13_1 (.object z2) (10 : Int32) [oz12, oz19, (vR c6_0), .null, .null, .null, .null, .null, .null, .null] .null := (q28_3.keep Kq32 nin0)
      have sf33 := ((sfS (Safe.exa (EL := EL) hZ8.alike f34 (by decide) (by decide)) (sfS (Safe.arv (EL := EL) hZ8.alike f38 (by decide)) sf0)) : ∀ x ∈ [b9, c13_0], Safe Z EL T8.vm T32.heap x)
      obtain ⟨_, T33, L33, ⟨rfl, N33q, Kq33, q33_0, q33_1, q33_2, q33_3⟩, X33, st33⟩ := own_iface X32 hx hZ8 (W := 0) hown8 (hw _ m169) (hw _ m170) (mvT hZ8 (hw _ m171)) (hw _ m172) (hw _ m173) (mvT hZ8 (hw _ m174)) (mvT hZ8 (hw _ m175)) (hw _ m176) (hw _ m143) (hw _ m177) (by decide) (rm106 cx b9 c13_0 k13_1 oz12 oz19 c6_0 oz32 O32 f34 f35 f36 f37 f38 (Nat.le_trans (own_old_le O8) g9) q32 (Ne.symm ne26) q13_1 (Nat.le_trans (own_old_le O12) lo13_0)) (rfl : T32.heap = T32.heap) f34 (g := (mkF m 137 #[sI i0, sI i1, sI i2, sI i3, sI x4, sI x13, sR c2_0, sR c4_0, sR c6_0, sR c8_0, sR b9, sU, sU] [oz32, (vR b9)])) rfl hml rfl (rest := []) (lenOf pd646 rfl) rfl rfl rfl (hb hby at_137) (by decide)
      have N33 := Fr.app N32 N33q
      have C33 := C32.trans (CHr.keep Kq33 sf33 C32.1)
      have O33 : Old Z n0 T33.heap := O32.keep Kq33 (allS (Nat.le_trans (own_old_le O8) g9) (allS (Nat.le_trans (own_old_le O12) lo13_0) all0))
      have K33 : Keep h0 T33.heap [] := K32.trans Kq33 (allS (Or.inr (Nat.le_trans K8.1 g9)) (allS (Or.inr (Nat.le_trans K12.1 lo13_0)) all0))
      have f40 : Exa Z T33.heap b9 z0 := (f34.keep Kq33)
      have f41 : Exa Z T33.heap c6_0 z5 := (((f30.keep Kq28).keep Kq32).keep Kq33)
      have sf39 := (sf0 : ∀ x ∈ [], Safe Z EL T8.vm T33.heap x)
      obtain ⟨_, T39, L39, ⟨rfl, N39q, e39⟩, X39, st39⟩ := cS X33 hx hZ8 (W := 0) hown8 (cw36 cx) (rm110 cx b9 c13_0 k13_1 oz12 oz19 c6_0 oz32 O33 q33_2 f40 q33_1 q33_3 f41) (rfl : T33.heap = T33.heap) (g := (mkF m 183 #[sI i0, sI i1, sI i2, sI i3, sI x4, sI x13, sR c2_0, sR c4_0, sR c6_0, sR c8_0, sR b9, sR c6_0, sU] [(vI 2), (vR b9)])) rfl hml rfl (rest := []) rfl rfl rfl rfl (hb hby at_183) (by decide)
      have sf42 := (sf0 : ∀ x ∈ [], Safe Z EL T8.vm T33.heap x)
      obtain ⟨_, T42, L42, ⟨rfl, N42q, e42⟩, X42, st42⟩ := own_iface X39 hx hZ8 (W := 0) hown8 (hw _ m230) (hw _ m205) (mvT hZ8 (hw _ m206)) (hw _ m207) (hw _ m208) (mvT hZ8 (hw _ m209)) (mvT hZ8 (hw _ m210)) (hw _ m176) (hw _ m143) (hw _ m211) (by decide) (rm94 cx b9 O33 q33_2) e39 f40 (g := (mkF m 197 #[sI i0, sI i1, sI i2, sI i3, sI x4, sI x13, sR c2_0, sR c4_0, sR c6_0, sR c8_0, sR b9, sR c6_0, sR c6_0] [(vR b9)])) rfl hml rfl (rest := []) (lenOf pd200 rfl) rfl rfl rfl (hb hby at_197) (by decide)
      have sf43 := (sf0 : ∀ x ∈ [], Safe Z EL T8.vm T33.heap x)
      obtain ⟨_, T43, L43, ⟨rfl, N43q, e43⟩, X43, st43⟩ := own_iface X42 hx hZ8 (W := 0) hown8 (hw _ m231) (hw _ m213) (mvT hZ8 (hw _ m214)) (hw _ m215) (hw _ m216) (mvT hZ8 (hw _ m217)) (mvT hZ8 (hw _ m218)) (hw _ m176) (hw _ m143) (hw _ m219) (by decide) (rm109 cx b9 c13_0 k13_1 oz12 oz19 c6_0 oz32 O33 q33_2 q33_1 q33_3 f40) e42 f40 (g := (mkF m 211 #[sI i0, sI i1, sI i2, sI i3, sI x4, sI x13, sR c2_0, sR c4_0, sR c6_0, sR c8_0, sR b9, sR c6_0, sR c6_0] [(vI 2), (vR b9)])) rfl hml rfl (rest := []) (lenOf pd521 rfl) rfl rfl rfl (hb hby at_211) (by decide)
      refine own_endW X43 hlk (v := some (vI 1)) (own_hv hret) hS8 (Nat.le_trans (Nat.le_refl _) (Nat.le_trans (Nat.le_trans (Nat.le_trans (Nat.le_trans (Nat.le_trans (Nat.le_trans (Nat.le_trans (Nat.le_trans E9.1 Kq10.1) Kq12.1) Kq13.1) Kq19.1) Kq20.1) Kq28.1) Kq32.1) Kq33.1)) (by decide) hh e43 C33 hZ8 (own_EW hw hj) ⟨rfl, (Fr.app (Fr.app (Fr.app N33 N39q) N42q) N43q)⟩ fun fs hr => pre2 _ ?_
      refine Own.iload X10.here hx rfl (hb hby at_56) rfl hp1 ?_
      refine wil X10 hx hby rfl at_58 rfl ?_
      show St p e below T10 (mkF m 59 #[sI i0, sI i1, sI i2, sI i3, sI x4, sI x13, sR c2_0, sR c4_0, sR c6_0, sR c8_0, sR b9, sU, sU] [(vI i2), (vI 2), (vI 0), (vR b9)]) _
      refine wil X10 hx hby rfl at_59 rfl ?_
      refine waL X10 hx hby rfl at_60 rfl rfl ?_
      refine st12 _ ?_
      refine st13 _ ?_
      refine XS.pop X13.here hx rfl (hb hby at_70) rfl rfl ?_
      refine Own.iload X13.here hx rfl (hb hby at_71) rfl hp0 ?_
      refine wic X13 hx hby rfl at_73 ?_
      refine wcn X13 hx hby rfl at_74 rfl (tlt (by decide : (1 : Int32) < (4 : Int32))).2.2.2 ?_
      refine waL X13 hx hby rfl at_77 rfl rfl ?_
      refine wic X13 hx hby rfl at_79 ?_
      refine Own.iload X13.here hx rfl (hb hby at_80) rfl hp1 ?_
      refine wil X13 hx hby rfl at_82 rfl ?_
      refine wil X13 hx hby rfl at_83 rfl ?_
      refine waL X13 hx hby rfl at_84 rfl rfl ?_
      refine st19 _ ?_
      refine st20 _ ?_
      show St p e below T20 (mkF m 94 #[sI i0, sI i1, sI i2, sI i3, sI x4, sI x13, sR c2_0, sR c4_0, sR c6_0, sR c8_0, sR b9, sU, sU] [(vI 1)]) _
      refine XS.pop X20.here hx rfl (hb hby at_94) rfl rfl ?_
      show St p e below T20 (mkF m 95 #[sI i0, sI i1, sI i2, sI i3, sI x4, sI x13, sR c2_0, sR c4_0, sR c6_0, sR c8_0, sR b9, sU, sU] []) _
      refine Own.iload X20.here hx rfl (hb hby at_95) rfl hp0 ?_
      refine wic X20 hx hby rfl at_97 ?_
      refine wcn X20 hx hby rfl at_98 rfl (tlt (by decide : (2 : Int32) < (4 : Int32))).2.2.2 ?_
      refine waL X20 hx hby rfl at_101 rfl rfl ?_
      refine wic X20 hx hby rfl at_103 ?_
      refine Own.iload X20.here hx rfl (hb hby at_104) rfl hp1 ?_
      refine wil X20 hx hby rfl at_106 rfl ?_
      refine wil X20 hx hby rfl at_107 rfl ?_
      refine waL X20 hx hby rfl at_108 rfl rfl ?_
      refine st27 _ ?_
      refine st28 _ ?_
      refine XS.pop X28.here hx rfl (hb hby at_118) rfl rfl ?_
      show St p e below T28 (mkF m 119 #[sI i0, sI i1, sI i2, sI i3, sI x4, sI x13, sR c2_0, sR c4_0, sR c6_0, sR c8_0, sR b9, sU, sU] []) _
      refine Own.iload X28.here hx rfl (hb hby at_119) rfl hp0 ?_
      refine wic X28 hx hby rfl at_121 ?_
      refine wcn X28 hx hby rfl at_122 rfl (tlt (by decide : (3 : Int32) < (4 : Int32))).2.2.2 ?_
      refine waL X28 hx hby rfl at_125 rfl rfl ?_
      refine wic X28 hx hby rfl at_127 ?_
      refine Own.iload X28.here hx rfl (hb hby at_128) rfl hp1 ?_
      refine wil X28 hx hby rfl at_130 rfl ?_
      refine wil X28 hx hby rfl at_131 rfl ?_
      refine waL X28 hx hby rfl at_132 rfl rfl ?_
      refine st32 _ ?_
      refine st33 _ ?_
      refine XS.pop X33.here hx rfl (hb hby at_142) rfl rfl ?_
      show St p e below T33 (mkF m 143 #[sI i0, sI i1, sI i2, sI i3, sI x4, sI x13, sR c2_0, sR c4_0, sR c6_0, sR c8_0, sR b9, sU, sU] []) _
      refine Own.iload X33.here hx rfl (hb hby at_143) rfl hp1 ?_
      refine wfy X33 hx hby rfl (pc0 := 145) (pc' := 153) rfl at_145 rfl ((if0 _ _).trans (feq (by decide : ¬ ((2 : Int32) = (0 : Int32)))).2) (by decide) (by decide) ?_
      show St p e below T33 (mkF m 153 #[sI i0, sI i1, sI i2, sI i3, sI x4, sI x13, sR c2_0, sR c4_0, sR c6_0, sR c8_0, sR b9, sU, sU] []) _
      refine Own.iload X33.here hx rfl (hb hby at_153) rfl hp1 ?_
      refine wic X33 hx hby rfl at_155 ?_
      refine wcy X33 hx hby rfl (pc0 := 156) (pc' := 164) rfl at_156 rfl (feq (by decide : ¬ ((2 : Int32) = (1 : Int32)))).2 (by decide) (by decide) ?_
      show St p e below T33 (mkF m 164 #[sI i0, sI i1, sI i2, sI i3, sI x4, sI x13, sR c2_0, sR c4_0, sR c6_0, sR c8_0, sR b9, sU, sU] []) _
      refine Own.iload X33.here hx rfl (hb hby at_164) rfl hp1 ?_
      refine wic X33 hx hby rfl at_166 ?_
      refine wcn X33 hx hby rfl at_167 rfl (teq (by decide : (2 : Int32) = (2 : Int32))).2 ?_
      refine waL X33 hx hby rfl at_170 rfl rfl ?_
      refine wgt X33 hx hby rfl (pc0 := 172) (pc' := 177) rfl at_172 (by decide) (by decide) ?_
      show St p e below T33 (mkF m 177 #[sI i0, sI i1, sI i2, sI i3, sI x4, sI x13, sR c2_0, sR c4_0, sR c6_0, sR c8_0, sR b9, sU, sU] [(vR c6_0)]) _
      refine waS X33 hx hby rfl at_177 rfl rfl (l' := #[sI i0, sI i1, sI i2, sI i3, sI x4, sI x13, sR c2_0, sR c4_0, sR c6_0, sR c8_0, sR b9, sR c6_0, sU]) rfl ?_
      refine waL X33 hx hby rfl at_179 rfl rfl ?_
      refine Own.iload X33.here hx rfl (hb hby at_181) rfl hp1 ?_
      refine st39 _ ?_
      refine waS X39 hx hby rfl at_186 rfl rfl (l' := #[sI i0, sI i1, sI i2, sI i3, sI x4, sI x13, sR c2_0, sR c4_0, sR c6_0, sR c8_0, sR b9, sR c6_0, sR c6_0]) rfl ?_
      refine waL X39 hx hby rfl at_188 rfl rfl ?_
      refine waL X39 hx hby rfl at_190 rfl rfl ?_
      refine Jvm.RoadKit.acmp (g := (mkF m 192 #[sI i0, sI i1, sI i2, sI i3, sI x4, sI x13, sR c2_0, sR c4_0, sR c6_0, sR c8_0, sR b9, sR c6_0, sR c6_0] [(vR c6_0), (vR c6_0)])) X39 hx rfl rfl rfl (pc0 := 192) (pc' := 195) (same := true) rfl (hb hby at_192) rfl (decide_eq_true rfl) (by decide) (by decide) ?_
      refine waL X39 hx hby rfl at_195 rfl rfl ?_
      refine st42 _ ?_
      refine Own.iload X42.here hx rfl (hb hby at_202) rfl hp0 ?_
      refine wcn X42 hx hby rfl at_204 rfl (teq (by decide : (4 : Int32) = (4 : Int32))).2 ?_
      refine waL X42 hx hby rfl at_207 rfl rfl ?_
      refine Own.iload X42.here hx rfl (hb hby at_209) rfl hp1 ?_
      refine st43 _ ?_
      refine waL X43 hx hby rfl at_216 rfl rfl ?_
      show St p e below T43 (mkF m 218 #[sI i0, sI i1, sI i2, sI i3, sI x4, sI x13, sR c2_0, sR c4_0, sR c6_0, sR c8_0, sR b9, sR c6_0, sR c6_0] [(vR c6_0), (vR c6_0)]) _
      refine Jvm.RoadKit.acmp (g := (mkF m 218 #[sI i0, sI i1, sI i2, sI i3, sI x4, sI x13, sR c2_0, sR c4_0, sR c6_0, sR c8_0, sR b9, sR c6_0, sR c6_0] [(vR c6_0), (vR c6_0)])) X43 hx rfl rfl rfl (pc0 := 218) (pc' := 221) (same := true) rfl (hb hby at_218) rfl (decide_eq_true rfl) (by decide) (by decide) ?_
      refine wic X43 hx hby rfl at_221 ?_
      refine wgt X43 hx hby rfl (pc0 := 222) (pc' := 226) rfl at_222 (by decide) (by decide) ?_
      show St p e below T43 (mkF m 226 #[sI i0, sI i1, sI i2, sI i3, sI x4, sI x13, sR c2_0, sR c4_0, sR c6_0, sR c8_0, sR b9, sR c6_0, sR c6_0] [(vI 1)]) _
      exact retN X43 hx (t := .boolean) hret (by simp) (hb hby at_226) hr
    · have f11 : Exa Z T10.heap c2_0 z5 := ((((((((q2_0.ext E3).keep Kq4).ext E5).keep Kq6).ext E7).keep Kq8).ext E9).keep Kq10)
      have sf12 := (sf0 : ∀ x ∈ [], Safe Z EL T8.vm T10.heap x)
      obtain ⟨_, T12, L12, ⟨oz12, rfl, N12q, Kq12, q12⟩, X12, st12⟩ := own_callS X10 hx hZ8 (W := 1) hown8 (hw _ m165) (hw _ m166) (hw _ m167) (hw _ m168) (by decide) (jm0 cx (0 : Int32) (3 : Int32) i2 i3 c2_0 O10 (by decide : ¬ ((0 : Int32) = (3 : Int32))) f11) (rfl : T10.heap = T10.heap) (g := (mkF m 62 #[sI i0, sI i1, sI i2, sI i3, sI x4, sI x13, sR c2_0, sR c4_0, sR c6_0, sR c8_0, sR b9, sU, sU] [(vR c2_0), (vI i3), (vI i2), (vI 3), (vI 0), (vR b9)])) rfl hml rfl (rest := [(vR b9)]) (lenOf pd559 rfl) rfl rfl rfl (hb hby at_62) (by decide)
      have N12 := Fr.app N10 N12q
      have C12 := C10.trans (CHr.keep Kq12 sf12 C10.1)
      have O12 : Old Z n0 T12.heap := O10.keep Kq12 all0
      have K12 : Keep h0 T12.heap [] := K10.trans Kq12 all0
      have f14 : Exa Z T12.heap b9 z0 := ((A9.keep Kq10).keep Kq12)
      have f15 : Fld Z T12.heap b9 z6 "modCount" "I" (vI 0) := (q10_0.keep Kq12 nin0)
      have f16 : Fld Z T12.heap b9 z0 z7 z4 (vR w4) := (q10_1.keep Kq12 nin0)
      have f17 : Fld Z T12.heap b9 z0 "size" "I" (vI 0) := (q10_2.keep Kq12 nin0)
      have sf13 := ((sfS (Safe.exa (EL := EL) hZ8.alike f14 (by decide) (by decide)) sf0) : ∀ x ∈ [b9], Safe Z EL T8.vm T12.heap x)
      obtain ⟨_, T13, L13, ⟨c13_0, k13_1, rfl, N13q, Kq13, lo13_0, q13_0, q13_1, q13_2, q13_3, q13_4⟩, X13, st13⟩ := own_iface X12 hx hZ8 (W := 0) hown8 (hw _ m169) (hw _ m170) (mvT hZ8 (hw _ m171)) (hw _ m172) (hw _ m173) (mvT hZ8 (hw _ m174)) (mvT hZ8 (hw _ m175)) (hw _ m176) (hw _ m143) (hw _ m177) (by decide) (rm62 cx b9 oz12 O12 f14 f15 f16 f17 (Nat.le_trans (own_old_le O8) g9) q12) (rfl : T12.heap = T12.heap) f14 (g := (mkF m 65 #[sI i0, sI i1, sI i2, sI i3, sI x4, sI x13, sR c2_0, sR c4_0, sR c6_0, sR c8_0, sR b9, sU, sU] [oz12, (vR b9)])) rfl hml rfl (rest := []) (lenOf pd646 rfl) rfl rfl rfl (hb hby at_65) (by decide)
      have N13 := Fr.app N12 N13q
      have C13 := C12.trans (CHr.keep Kq13 sf13 C12.1)
      have O13 : Old Z n0 T13.heap := O12.keep Kq13 (allS (Nat.le_trans (own_old_le O8) g9) all0)
      have K13 : Keep h0 T13.heap [] := K12.trans Kq13 (allS (Or.inr (Nat.le_trans K8.1 g9)) all0)
      have f18 : Exa Z T13.heap c4_0 z5 := ((((((((q4_0.ext E5).keep Kq6).ext E7).keep Kq8).ext E9).keep Kq10).keep Kq12).keep Kq13)
      have sf19 := (sf0 : ∀ x ∈ [], Safe Z EL T8.vm T13.heap x)
      obtain ⟨_, T19, L19, ⟨oz19, rfl, N19q, Kq19, q19⟩, X19, st19⟩ := own_callS X13 hx hZ8 (W := 1) hown8 (hw _ m165) (hw _ m166) (hw _ m167) (hw _ m168) (by decide) (jm0 cx (1 : Int32) (3 : Int32) i2 i3 c4_0 O13 (by decide : ¬ ((1 : Int32) = (3 : Int32))) f18) (rfl : T13.heap = T13.heap) (g := (mkF m 86 #[sI i0, sI i1, sI i2, sI i3, sI x4, sI x13, sR c2_0, sR c4_0, sR c6_0, sR c8_0, sR b9, sU, sU] [(vR c4_0), (vI i3), (vI i2), (vI 3), (vI 1), (vR b9)])) rfl hml rfl (rest := [(vR b9)]) (lenOf pd559 rfl) rfl rfl rfl (hb hby at_86) (by decide)
      have N19 := Fr.app N13 N19q
      have C19 := C13.trans (CHr.keep Kq19 sf19 C13.1)
      have O19 : Old Z n0 T19.heap := O13.keep Kq19 all0
      have K19 : Keep h0 T19.heap [] := K13.trans Kq19 all0
      have f21 : Exa Z T19.heap b9 z0 := ((f14.keep Kq13).keep Kq19)
      have f22 : Fld Z T19.heap b9 z6 "modCount" "I" (vI 1) := (q13_2.keep Kq19 nin0)
      have f23 : Fld Z T19.heap b9 z0 z7 z4 (vR c13_0) := (q13_3.keep Kq19 nin0)
      have f24 : Fld Z T19.heap b9 z0 "size" "I" (vI 1) := (q13_4.keep Kq19 nin0)
      have f25 : Arv Z T19.heap c13_0 k13_1 (.object z2) (10 : Int32) [oz12, .null, .null, .null, .null, .null, .null, .null, .null, .null] .null := (q13_0.keep Kq19 nin0)
      have ne26 : b9 ≠ c13_0 := (Nat.ne_of_lt (Nat.lt_of_lt_of_le (Nat.lt_of_lt_of_le A9.lt (Nat.le_trans Kq10.1 Kq12.1)) lo13_0))
      have sf20 := ((sfS (Safe.exa (EL := EL) hZ8.alike f21 (by decide) (by decide)) (sfS (Safe.arv (EL := EL) hZ8.alike f25 (by decide)) sf0)) : ∀ x ∈ [b9, c13_0], Safe Z EL T8.vm T19.heap x)
      obtain ⟨_, T20, L20, ⟨rfl, N20q, Kq20, q20_0, q20_1, q20_2, q20_3⟩, X20, st20⟩ := own_iface X19 hx hZ8 (W := 0) hown8 (hw _ m169) (hw _ m170) (mvT hZ8 (hw _ m171)) (hw _ m172) (hw _ m173) (mvT hZ8 (hw _ m174)) (mvT hZ8 (hw _ m175)) (hw _ m176) (hw _ m143) (hw _ m177) (by decide) (rm84 cx b9 c13_0 k13_1 oz12 oz19 O19 f21 f22 f23 f24 f25 (Nat.le_trans (own_old_le O8) g9) q19 (Ne.symm ne26) q13_1 (Nat.le_trans (own_old_le O12) lo13_0)) (rfl : T19.heap = T19.heap) f21 (g := (mkF m 89 #[sI i0, sI i1, sI i2, sI i3, sI x4, sI x13, sR c2_0, sR c4_0, sR c6_0, sR c8_0, sR b9, sU, sU] [oz19, (vR b9)])) rfl hml rfl (rest := []) (lenOf pd646 rfl) rfl rfl rfl (hb hby at_89) (by decide)
      have N20 := Fr.app N19 N20q
      have C20 := C19.trans (CHr.keep Kq20 sf20 C19.1)
      have O20 : Old Z n0 T20.heap := O19.keep Kq20 (allS (Nat.le_trans (own_old_le O8) g9) (allS (Nat.le_trans (own_old_le O12) lo13_0) all0))
      have K20 : Keep h0 T20.heap [] := K19.trans Kq20 (allS (Or.inr (Nat.le_trans K8.1 g9)) (allS (Or.inr (Nat.le_trans K12.1 lo13_0)) all0))
      have f27 : Exa Z T20.heap c6_0 z5 := ((((((((q6_0.ext E7).keep Kq8).ext E9).keep Kq10).keep Kq12).keep Kq13).keep Kq19).keep Kq20)
      have sf28 := (sf0 : ∀ x ∈ [], Safe Z EL T8.vm T20.heap x)
      obtain ⟨_, T28, L28, ⟨oz28, rfl, N28q, Kq28, q28⟩, X28, st28⟩ := own_callS X20 hx hZ8 (W := 1) hown8 (hw _ m165) (hw _ m166) (hw _ m167) (hw _ m168) (by decide) (jm0 cx (2 : Int32) (3 : Int32) i2 i3 c6_0 O20 (by decide : ¬ ((2 : Int32) = (3 : Int32))) f27) (rfl : T20.heap = T20.heap) (g := (mkF m 110 #[sI i0, sI i1, sI i2, sI i3, sI x4, sI x13, sR c2_0, sR c4_0, sR c6_0, sR c8_0, sR b9, sU, sU] [(vR c6_0), (vI i3), (vI i2), (vI 3), (vI 2), (vR b9)])) rfl hml rfl (rest := [(vR b9)]) (lenOf pd559 rfl) rfl rfl rfl (hb hby at_110) (by decide)
      have N28 := Fr.app N20 N28q
      have C28 := C20.trans (CHr.keep Kq28 sf28 C20.1)
      have O28 : Old Z n0 T28.heap := O20.keep Kq28 all0
      have K28 : Keep h0 T28.heap [] := K20.trans Kq28 all0
      have f30 : Exa Z T28.heap b9 z0 := ((f21.keep Kq20).keep Kq28)
      have f31 : Fld Z T28.heap b9 z6 "modCount" "I" (vI 2) := (q20_0.keep Kq28 nin0)
      have f32 : Fld Z T28.heap b9 z0 z7 z4 (vR c13_0) := (q20_1.keep Kq28 nin0)
      have f33 : Fld Z T28.heap b9 z0 "size" "I" (vI 2) := (q20_2.keep Kq28 nin0)
      have f34 : Arv Z T28.heap c13_0 k13_1 (.object z2) (10 : Int32) [oz12, oz19, .null, .null, .null, .null, .null, .null, .null, .null] .null := (q20_3.keep Kq28 nin0)
      have sf29 := ((sfS (Safe.exa (EL := EL) hZ8.alike f30 (by decide) (by decide)) (sfS (Safe.arv (EL := EL) hZ8.alike f34 (by decide)) sf0)) : ∀ x ∈ [b9, c13_0], Safe Z EL T8.vm T28.heap x)
      obtain ⟨_, T29, L29, ⟨rfl, N29q, Kq29, q29_0, q29_1, q29_2, q29_3⟩, X29, st29⟩ := own_iface X28 hx hZ8 (W := 0) hown8 (hw _ m169) (hw _ m170) (mvT hZ8 (hw _ m171)) (hw _ m172) (hw _ m173) (mvT hZ8 (hw _ m174)) (mvT hZ8 (hw _ m175)) (hw _ m176) (hw _ m143) (hw _ m177) (by decide) (rm112 cx b9 c13_0 k13_1 oz12 oz19 oz28 O28 f30 f31 f32 f33 f34 (Nat.le_trans (own_old_le O8) g9) q28 (Ne.symm ne26) q13_1 (Nat.le_trans (own_old_le O12) lo13_0)) (rfl : T28.heap = T28.heap) f30 (g := (mkF m 113 #[sI i0, sI i1, sI i2, sI i3, sI x4, sI x13, sR c2_0, sR c4_0, sR c6_0, sR c8_0, sR b9, sU, sU] [oz28, (vR b9)])) rfl hml rfl (rest := []) (lenOf pd646 rfl) rfl rfl rfl (hb hby at_113) (by decide)
      have N29 := Fr.app N28 N29q
      have C29 := C28.trans (CHr.keep Kq29 sf29 C28.1)
      have O29 : Old Z n0 T29.heap := O28.keep Kq29 (allS (Nat.le_trans (own_old_le O8) g9) (allS (Nat.le_trans (own_old_le O12) lo13_0) all0))
      have K29 : Keep h0 T29.heap [] := K28.trans Kq29 (allS (Or.inr (Nat.le_trans K8.1 g9)) (allS (Or.inr (Nat.le_trans K12.1 lo13_0)) all0))
      have sf35 := (sf0 : ∀ x ∈ [], Safe Z EL T8.vm T29.heap x)
      obtain ⟨_, T35, L35, ⟨rfl, N35q, e35⟩, X35, st35⟩ := cS X29 hx hZ8 (W := 1) hown8 (cw31 cx) (rm113 cx i2 i3 c8_0 O29) (rfl : T29.heap = T29.heap) (g := (mkF m 134 #[sI i0, sI i1, sI i2, sI i3, sI x4, sI x13, sR c2_0, sR c4_0, sR c6_0, sR c8_0, sR b9, sU, sU] [(vR c8_0), (vI i3), (vI i2), (vI 3), (vI 3), (vR b9)])) rfl hml rfl (rest := [(vR b9)]) rfl rfl rfl rfl (hb hby at_134) (by decide)
      have f37 : Exa Z T29.heap b9 z0 := (f30.keep Kq29)
      have f38 : Exa Z T29.heap c8_0 z5 := ((((((((q8_0.ext E9).keep Kq10).keep Kq12).keep Kq13).keep Kq19).keep Kq20).keep Kq28).keep Kq29)
      have sf36 := ((sfS (Safe.exa (EL := EL) hZ8.alike f37 (by decide) (by decide)) (sfS (Safe.arv (EL := EL) hZ8.alike q29_3 (by decide)) sf0)) : ∀ x ∈ [b9, c13_0], Safe Z EL T8.vm T29.heap x)
      obtain ⟨_, T36, L36, ⟨rfl, N36q, Kq36, q36_0, q36_1, q36_2, q36_3⟩, X36, st36⟩ := own_iface X35 hx hZ8 (W := 0) hown8 (hw _ m169) (hw _ m170) (mvT hZ8 (hw _ m171)) (hw _ m172) (hw _ m173) (mvT hZ8 (hw _ m174)) (mvT hZ8 (hw _ m175)) (hw _ m176) (hw _ m143) (hw _ m177) (by decide) (rm115 cx b9 c13_0 k13_1 oz12 oz19 oz28 c8_0 O29 f37 q29_0 q29_1 q29_2 q29_3 (Nat.le_trans (own_old_le O8) g9) (Ne.symm ne26) q13_1 f38 (Nat.le_trans (own_old_le O12) lo13_0)) e35 f37 (g := (mkF m 137 #[sI i0, sI i1, sI i2, sI i3, sI x4, sI x13, sR c2_0, sR c4_0, sR c6_0, sR c8_0, sR b9, sU, sU] [(vR c8_0), (vR b9)])) rfl hml rfl (rest := []) (lenOf pd646 rfl) rfl rfl rfl (hb hby at_137) (by decide)
      have N36 := Fr.app (Fr.app N29 N35q) N36q
      have C36 := C29.trans (CHr.keep Kq36 sf36 C29.1)
      have O36 : Old Z n0 T36.heap := O29.keep Kq36 (allS (Nat.le_trans (own_old_le O8) g9) (allS (Nat.le_trans (own_old_le O12) lo13_0) all0))
      have K36 : Keep h0 T36.heap [] := K29.trans Kq36 (allS (Or.inr (Nat.le_trans K8.1 g9)) (allS (Or.inr (Nat.le_trans K12.1 lo13_0)) all0))
      have f40 : Exa Z T36.heap b9 z0 := (f37.keep Kq36)
      have f41 : Exa Z T36.heap c8_0 z5 := (f38.keep Kq36)
      have sf39 := (sf0 : ∀ x ∈ [], Safe Z EL T8.vm T36.heap x)
      obtain ⟨_, T39, L39, ⟨rfl, N39q, e39⟩, X39, st39⟩ := cS X36 hx hZ8 (W := 0) hown8 (cw36 cx) (rm119 cx b9 c13_0 k13_1 oz12 oz19 oz28 c8_0 O36 q36_2 f40 q36_1 q36_3 f41) (rfl : T36.heap = T36.heap) (g := (mkF m 183 #[sI i0, sI i1, sI i2, sI i3, sI x4, sI x13, sR c2_0, sR c4_0, sR c6_0, sR c8_0, sR b9, sR c8_0, sU] [(vI 3), (vR b9)])) rfl hml rfl (rest := []) rfl rfl rfl rfl (hb hby at_183) (by decide)
      have sf42 := (sf0 : ∀ x ∈ [], Safe Z EL T8.vm T36.heap x)
      obtain ⟨_, T42, L42, ⟨rfl, N42q, e42⟩, X42, st42⟩ := own_iface X39 hx hZ8 (W := 0) hown8 (hw _ m230) (hw _ m205) (mvT hZ8 (hw _ m206)) (hw _ m207) (hw _ m208) (mvT hZ8 (hw _ m209)) (mvT hZ8 (hw _ m210)) (hw _ m176) (hw _ m143) (hw _ m211) (by decide) (rm94 cx b9 O36 q36_2) e39 f40 (g := (mkF m 197 #[sI i0, sI i1, sI i2, sI i3, sI x4, sI x13, sR c2_0, sR c4_0, sR c6_0, sR c8_0, sR b9, sR c8_0, sR c8_0] [(vR b9)])) rfl hml rfl (rest := []) (lenOf pd200 rfl) rfl rfl rfl (hb hby at_197) (by decide)
      have sf43 := (sf0 : ∀ x ∈ [], Safe Z EL T8.vm T36.heap x)
      obtain ⟨_, T43, L43, ⟨rfl, N43q, e43⟩, X43, st43⟩ := own_iface X42 hx hZ8 (W := 0) hown8 (hw _ m231) (hw _ m213) (mvT hZ8 (hw _ m214)) (hw _ m215) (hw _ m216) (mvT hZ8 (hw _ m217)) (mvT hZ8 (hw _ m218)) (hw _ m176) (hw _ m143) (hw _ m219) (by decide) (rm118 cx b9 c13_0 k13_1 oz12 oz19 oz28 c8_0 O36 q36_2 q36_1 q36_3 f40) e42 f40 (g := (mkF m 211 #[sI i0, sI i1, sI i2, sI i3, sI x4, sI x13, sR c2_0, sR c4_0, sR c6_0, sR c8_0, sR b9, sR c8_0, sR c8_0] [(vI 3), (vR b9)])) rfl hml rfl (rest := []) (lenOf pd521 rfl) rfl rfl rfl (hb hby at_211) (by decide)
      refine own_endW X43 hlk (v := some (vI 1)) (own_hv hret) hS8 (Nat.le_trans (Nat.le_refl _) (Nat.le_trans (Nat.le_trans (Nat.le_trans (Nat.le_trans (Nat.le_trans (Nat.le_trans (Nat.le_trans (Nat.le_trans E9.1 Kq10.1) Kq12.1) Kq13.1) Kq19.1) Kq20.1) Kq28.1) Kq29.1) Kq36.1)) (by decide) hh e43 C36 hZ8 (own_EW hw hj) ⟨rfl, (Fr.app (Fr.app (Fr.app N36 N39q) N42q) N43q)⟩ fun fs hr => pre2 _ ?_
      refine Own.iload X10.here hx rfl (hb hby at_56) rfl hp1 ?_
      refine wil X10 hx hby rfl at_58 rfl ?_
      show St p e below T10 (mkF m 59 #[sI i0, sI i1, sI i2, sI i3, sI x4, sI x13, sR c2_0, sR c4_0, sR c6_0, sR c8_0, sR b9, sU, sU] [(vI i2), (vI 3), (vI 0), (vR b9)]) _
      refine wil X10 hx hby rfl at_59 rfl ?_
      refine waL X10 hx hby rfl at_60 rfl rfl ?_
      refine st12 _ ?_
      refine st13 _ ?_
      refine XS.pop X13.here hx rfl (hb hby at_70) rfl rfl ?_
      refine Own.iload X13.here hx rfl (hb hby at_71) rfl hp0 ?_
      refine wic X13 hx hby rfl at_73 ?_
      refine wcn X13 hx hby rfl at_74 rfl (tlt (by decide : (1 : Int32) < (4 : Int32))).2.2.2 ?_
      refine waL X13 hx hby rfl at_77 rfl rfl ?_
      refine wic X13 hx hby rfl at_79 ?_
      refine Own.iload X13.here hx rfl (hb hby at_80) rfl hp1 ?_
      refine wil X13 hx hby rfl at_82 rfl ?_
      refine wil X13 hx hby rfl at_83 rfl ?_
      refine waL X13 hx hby rfl at_84 rfl rfl ?_
      refine st19 _ ?_
      refine st20 _ ?_
      show St p e below T20 (mkF m 94 #[sI i0, sI i1, sI i2, sI i3, sI x4, sI x13, sR c2_0, sR c4_0, sR c6_0, sR c8_0, sR b9, sU, sU] [(vI 1)]) _
      refine XS.pop X20.here hx rfl (hb hby at_94) rfl rfl ?_
      show St p e below T20 (mkF m 95 #[sI i0, sI i1, sI i2, sI i3, sI x4, sI x13, sR c2_0, sR c4_0, sR c6_0, sR c8_0, sR b9, sU, sU] []) _
      refine Own.iload X20.here hx rfl (hb hby at_95) rfl hp0 ?_
      refine wic X20 hx hby rfl at_97 ?_
      refine wcn X20 hx hby rfl at_98 rfl (tlt (by decide : (2 : Int32) < (4 : Int32))).2.2.2 ?_
      refine waL X20 hx hby rfl at_101 rfl rfl ?_
      refine wic X20 hx hby rfl at_103 ?_
      refine Own.iload X20.here hx rfl (hb hby at_104) rfl hp1 ?_
      refine wil X20 hx hby rfl at_106 rfl ?_
      refine wil X20 hx hby rfl at_107 rfl ?_
      refine waL X20 hx hby rfl at_108 rfl rfl ?_
      refine st28 _ ?_
      refine st29 _ ?_
      refine XS.pop X29.here hx rfl (hb hby at_118) rfl rfl ?_
      show St p e below T29 (mkF m 119 #[sI i0, sI i1, sI i2, sI i3, sI x4, sI x13, sR c2_0, sR c4_0, sR c6_0, sR c8_0, sR b9, sU, sU] []) _
      refine Own.iload X29.here hx rfl (hb hby at_119) rfl hp0 ?_
      refine wic X29 hx hby rfl at_121 ?_
      refine wcn X29 hx hby rfl at_122 rfl (tlt (by decide : (3 : Int32) < (4 : Int32))).2.2.2 ?_
      refine waL X29 hx hby rfl at_125 rfl rfl ?_
      refine wic X29 hx hby rfl at_127 ?_
      refine Own.iload X29.here hx rfl (hb hby at_128) rfl hp1 ?_
      refine wil X29 hx hby rfl at_130 rfl ?_
      refine wil X29 hx hby rfl at_131 rfl ?_
      refine waL X29 hx hby rfl at_132 rfl rfl ?_
      refine st35 _ ?_
      refine st36 _ ?_
      refine XS.pop X36.here hx rfl (hb hby at_142) rfl rfl ?_
      show St p e below T36 (mkF m 143 #[sI i0, sI i1, sI i2, sI i3, sI x4, sI x13, sR c2_0, sR c4_0, sR c6_0, sR c8_0, sR b9, sU, sU] []) _
      refine Own.iload X36.here hx rfl (hb hby at_143) rfl hp1 ?_
      refine wfy X36 hx hby rfl (pc0 := 145) (pc' := 153) rfl at_145 rfl ((if0 _ _).trans (feq (by decide : ¬ ((3 : Int32) = (0 : Int32)))).2) (by decide) (by decide) ?_
      show St p e below T36 (mkF m 153 #[sI i0, sI i1, sI i2, sI i3, sI x4, sI x13, sR c2_0, sR c4_0, sR c6_0, sR c8_0, sR b9, sU, sU] []) _
      refine Own.iload X36.here hx rfl (hb hby at_153) rfl hp1 ?_
      refine wic X36 hx hby rfl at_155 ?_
      refine wcy X36 hx hby rfl (pc0 := 156) (pc' := 164) rfl at_156 rfl (feq (by decide : ¬ ((3 : Int32) = (1 : Int32)))).2 (by decide) (by decide) ?_
      show St p e below T36 (mkF m 164 #[sI i0, sI i1, sI i2, sI i3, sI x4, sI x13, sR c2_0, sR c4_0, sR c6_0, sR c8_0, sR b9, sU, sU] []) _
      refine Own.iload X36.here hx rfl (hb hby at_164) rfl hp1 ?_
      refine wic X36 hx hby rfl at_166 ?_
      refine wcy X36 hx hby rfl (pc0 := 167) (pc' := 175) rfl at_167 rfl (feq (by decide : ¬ ((3 : Int32) = (2 : Int32)))).2 (by decide) (by decide) ?_
      show St p e below T36 (mkF m 175 #[sI i0, sI i1, sI i2, sI i3, sI x4, sI x13, sR c2_0, sR c4_0, sR c6_0, sR c8_0, sR b9, sU, sU] []) _
      refine waL X36 hx hby rfl at_175 rfl rfl ?_
      show St p e below T36 (mkF m 177 #[sI i0, sI i1, sI i2, sI i3, sI x4, sI x13, sR c2_0, sR c4_0, sR c6_0, sR c8_0, sR b9, sU, sU] [(vR c8_0)]) _
      refine waS X36 hx hby rfl at_177 rfl rfl (l' := #[sI i0, sI i1, sI i2, sI i3, sI x4, sI x13, sR c2_0, sR c4_0, sR c6_0, sR c8_0, sR b9, sR c8_0, sU]) rfl ?_
      refine waL X36 hx hby rfl at_179 rfl rfl ?_
      refine Own.iload X36.here hx rfl (hb hby at_181) rfl hp1 ?_
      refine st39 _ ?_
      refine waS X39 hx hby rfl at_186 rfl rfl (l' := #[sI i0, sI i1, sI i2, sI i3, sI x4, sI x13, sR c2_0, sR c4_0, sR c6_0, sR c8_0, sR b9, sR c8_0, sR c8_0]) rfl ?_
      refine waL X39 hx hby rfl at_188 rfl rfl ?_
      refine waL X39 hx hby rfl at_190 rfl rfl ?_
      refine Jvm.RoadKit.acmp (g := (mkF m 192 #[sI i0, sI i1, sI i2, sI i3, sI x4, sI x13, sR c2_0, sR c4_0, sR c6_0, sR c8_0, sR b9, sR c8_0, sR c8_0] [(vR c8_0), (vR c8_0)])) X39 hx rfl rfl rfl (pc0 := 192) (pc' := 195) (same := true) rfl (hb hby at_192) rfl (decide_eq_true rfl) (by decide) (by decide) ?_
      refine waL X39 hx hby rfl at_195 rfl rfl ?_
      refine st42 _ ?_
      refine Own.iload X42.here hx rfl (hb hby at_202) rfl hp0 ?_
      refine wcn X42 hx hby rfl at_204 rfl (teq (by decide : (4 : Int32) = (4 : Int32))).2 ?_
      refine waL X42 hx hby rfl at_207 rfl rfl ?_
      refine Own.iload X42.here hx rfl (hb hby at_209) rfl hp1 ?_
      refine st43 _ ?_
      refine waL X43 hx hby rfl at_216 rfl rfl ?_
      show St p e below T43 (mkF m 218 #[sI i0, sI i1, sI i2, sI i3, sI x4, sI x13, sR c2_0, sR c4_0, sR c6_0, sR c8_0, sR b9, sR c8_0, sR c8_0] [(vR c8_0), (vR c8_0)]) _
      refine Jvm.RoadKit.acmp (g := (mkF m 218 #[sI i0, sI i1, sI i2, sI i3, sI x4, sI x13, sR c2_0, sR c4_0, sR c6_0, sR c8_0, sR b9, sR c8_0, sR c8_0] [(vR c8_0), (vR c8_0)])) X43 hx rfl rfl rfl (pc0 := 218) (pc' := 221) (same := true) rfl (hb hby at_218) rfl (decide_eq_true rfl) (by decide) (by decide) ?_
      refine wic X43 hx hby rfl at_221 ?_
      refine wgt X43 hx hby rfl (pc0 := 222) (pc' := 226) rfl at_222 (by decide) (by decide) ?_
      show St p e below T43 (mkF m 226 #[sI i0, sI i1, sI i2, sI i3, sI x4, sI x13, sR c2_0, sR c4_0, sR c6_0, sR c8_0, sR b9, sR c8_0, sR c8_0] [(vI 1)]) _
      exact retN X43 hx (t := .boolean) hret (by simp) (hb hby at_226) hr
theorem comes_1 {Post : Tables → Env → Array Value → State → Outcome → State → Prop} (hpost : ∀ tb e args s v u, (limb_1_1.after args s (.returned v) u = true ∧ limb_1_2.after args s (.returned v) u = true ∧ True) → ReturnedEndW s (.returned v) u (Jvm.fieldLocs frame_1_writes args s ++ Jvm.arrayLocs frame_1_arrays args s ++ Jvm.staticLocs frame_1_statics s) 40 2304 → Post tb e args s (.returned v) u) :
    ArmFor flags0 classFile x code maxLocals ret World_1 tables_1 room_1 Calls_1 rest_1 Pre_1 Post := by
  intro l hfl _ _ p e ha hc hk s m args below hf hA hF happ hP
  obtain ⟨hcalls, hrest, hpre⟩ := hP
  obtain ⟨-, -, -, hnamed, -, -, -, hat⟩ := (Spec.applies_iff hf).mp happ
  obtain ⟨hg, hn⟩ := and_e (Cond.before_iff.mp (show (Jvm.Cond.and given_1 narrow_1).before args s = true from hpre))
  obtain ⟨g1a, g1b⟩ := and_e hg
  obtain ⟨g2a, g2b⟩ := and_e g1b
  obtain ⟨g3a, g3b⟩ := and_e g2b
  obtain ⟨g4a, g4b⟩ := and_e g3b
  obtain ⟨v0, v1, v2, v3, rfl⟩ : ∃ v0 v1 v2 v3 : Value, args = #[v0, v1, v2, v3] := by
    have hs : args.size = 4 := by simpa [Cond.value, given_1] using g1a
    obtain ⟨L⟩ := args
    match L, hs with
    | [v0, v1, v2, v3], _ => exact ⟨v0, v1, v2, v3, rfl⟩
  have hw := fun d (hd : d ∈ tables_1) => atoms_spec (ws := Jvm.Cond.code x code maxLocals ret :: tables_1) hat d (List.mem_cons_of_mem _ hd)
  have hfit : Fit s := fun {y c} hc i hi => by
    obtain ⟨ha, rfl⟩ := Array.getElem?_eq_some_iff.mp hc
    have q := List.all_eq_true.mp ((Array.all_eq_true_iff_forall_mem.mp hF) _ (Array.getElem_mem ha)) i (List.mem_range.mpr hi)
    simpa [Array.getElem?_eq_getElem hi] using q
  obtain ⟨hj, hown0⟩ := atoms_of _ (rest_1_c_eq ▸ (show rest_1_c.before _ s = true from hrest))
  obtain ⟨i0, ei0⟩ := is_v g2a
  obtain rfl : v0 = (.int i0) := Option.some.inj ei0
  obtain ⟨i1, ei1⟩ := is_v g3a
  obtain rfl : v1 = (.int i1) := Option.some.inj ei1
  obtain ⟨i2, ei2⟩ := is_v g4a
  obtain rfl : v2 = (.int i2) := Option.some.inj ei2
  obtain ⟨i3, ei3⟩ := is_v g4b
  obtain rfl : v3 = (.int i3) := Option.some.inj ei3
  obtain ⟨w1, evw1⟩ := is_v (Cond.before_iff.mp (hj _ (List.mem_of_getElem? (i := 1) rfl)))
  obtain ⟨w2, evw2, erw2⟩ := isR_v (Cond.before_iff.mp (hj _ (List.mem_of_getElem? (i := 8) rfl)))
  obtain ⟨w3, evw3⟩ := arr_v (Cond.before_iff.mp (hj _ (List.mem_of_getElem? (i := 22) rfl)))
  obtain ⟨clw3, Aw3⟩ := Arr.start evw3 (Cond.before_iff.mp (hj _ (List.mem_of_getElem? (i := 22) rfl)))
  have lw3 := own_len evw3 Aw3 (Cond.before_iff.mp (hj _ (List.mem_of_getElem? (i := 24) rfl)))
  obtain ⟨w4, evw4⟩ := arr_v (Cond.before_iff.mp (hj _ (List.mem_of_getElem? (i := 15) rfl)))
  obtain ⟨clw4, Aw4⟩ := Arr.start evw4 (Cond.before_iff.mp (hj _ (List.mem_of_getElem? (i := 15) rfl)))
  have lw4 := own_len evw4 Aw4 (Cond.before_iff.mp (hj _ (List.mem_of_getElem? (i := 17) rfl)))
  obtain ⟨kw4, ekw4⟩ : ∃ z, z = clw4.cls := ⟨_, rfl⟩
  have Vw4 := Arv.start (dv := .null) hfit Aw4 lw4.1 lw4.2 (by decide) (vs := []) rfl trivial
  rw [← ekw4] at Vw4
  obtain ⟨w5, evw5⟩ := arr_v (Cond.before_iff.mp (hj _ (List.mem_of_getElem? (i := 12) rfl)))
  obtain ⟨clw5, Aw5⟩ := Arr.start evw5 (Cond.before_iff.mp (hj _ (List.mem_of_getElem? (i := 12) rfl)))
  have lw5 := own_len evw5 Aw5 (Cond.before_iff.mp (hj _ (List.mem_of_getElem? (i := 14) rfl)))
  obtain ⟨kw5, ekw5⟩ : ∃ z, z = clw5.cls := ⟨_, rfl⟩
  have Vw5 := Arv.start (dv := .null) hfit Aw5 lw5.1 lw5.2 (by decide) (vs := []) rfl trivial
  rw [← ekw5] at Vw5
  have hS : SF s w1 w2 w3 clw3 w4 kw4 w5 kw5 := ⟨Sta.start (own_sta (Cond.before_iff.mp (hj _ (List.mem_of_getElem? (i := 21) rfl)))) (Or.inl (hj _ j19)), Sta.start evw1 (Or.inl (hj _ j0)), own_not evw1 (Cond.before_iff.mp (hj _ (List.mem_of_getElem? (i := 2) rfl))), Sta.start evw2 (Or.inl (hj _ j7)), erw2, Sta.start evw3 (Or.inr ⟨(hw _ m237), (hj _ j20)⟩), Bxs.start (fun _ => evw3) Aw3 lw3.1 lw3.2 (by decide) (Cond.before_iff.mp (hj _ (List.mem_of_getElem? (i := 25) rfl))) (fun X j nn h => eqv_i (own_sub (idx_at nn) (Term.int_eval _)) h), Sta.start evw4 (Or.inr ⟨(hw _ m143), (hj _ j11)⟩), Vw4, Exa.start evw4 (Cond.before_iff.mp (hj _ (List.mem_of_getElem? (i := 16) rfl))), Sta.start evw5 (Or.inl (hj _ j10)), Vw5, Exa.start evw5 (Cond.before_iff.mp (hj _ (List.mem_of_getElem? (i := 13) rfl)))⟩
  obtain ⟨n, o, h1, h2, h3, _, L, rfl, ⟨rfl, N⟩, hq⟩ := rm0 (l := l) (Z := s) (a0 := _) ⟨hw, hj, hS⟩ tables_1 i0 i1 i2 i3 s.heap s.heap.size (Old.start s) p e ha hc hk s m _ below hf ((Spec.applies_iff_loose hf).mp happ).1 ⟨rfl, State.Warmed39.refl s, rfl, CHv.start (own_EW hw hj) (fun p hp => hcalls.1 p hp) (hj _ j2) (hw _ m4) (hw _ m3), sf0⟩ trivial
  refine ⟨n, _, h1, h2, h3, hpost _ _ _ _ _ _ ⟨Cond.after_iff.mpr rfl, Cond.after_iff.mpr (eq_i res_at (Term.int_eval (1)) rfl), trivial⟩ ⟨hq.2.1, hq.2.2.1, hq.2.2.2.1, (hq.2.2.2.2.sift fun y hy => Or.inr (N y hy)).mono (by decide) (by decide)⟩⟩
theorem main_1_1 : Claimed_1_1 := comes_1 fun _ _ _ _ _ _ h hF => ⟨h.1, hF⟩
theorem main_1_2 : Claimed_1_2 := comes_1 fun _ _ _ _ _ _ h hF => ⟨h.2.1, hF⟩
end Jvm.Pilot.@@N@@
namespace Jvm.Pilot.@@N@@
open Jvm Jvm.ClassFile Sem Op Lib Jvm.Free Jvm.Stand Jvm.Pilot.@@N@@.Jvm.D
/-! MADE BY PROGRAM (witnessworld.py) out of the Statement's table words and the real class files: 36 classes; the members and pool entries that the words name. The judged class is class 1, her method 1. -/
namespace start1
open Jvm.ClassFile
def u (s : String) : CpInfo := .utf8 (stringToUtf16 s)
/-- a pool by its gaps: so many unusable entries, then the entry; so many at the end -/
def gap : Nat → List CpInfo → List CpInfo
  | 0, r => r
  | n + 1, r => .unusable :: gap n r
def poolList (es : List (Nat × CpInfo)) (last : Nat) : List CpInfo := es.foldr (fun e r => gap e.1 (e.2 :: r)) (gap last [])
def pool (es : List (Nat × CpInfo)) (last : Nat) : Array CpInfo := ⟨poolList es last⟩
def fileOf (pool : Array CpInfo) (this : Nat) (attrs : Array Attribute := #[]) (ms : Array MethodInfo := #[]) (fl : Nat := 33) (sup : Nat := 0) (ifs : Array Nat := #[]) (fds : Array FieldInfo := #[]) : ClassFile where
  minorVersion := 0
  majorVersion := 65
  constantPool := pool
  accessFlags := fl
  thisClass := this
  superClass := sup
  interfaces := ifs
  fields := fds
  methods := ms
  attributes := attrs
def plain (name : String) (sup : Option ClassId) : Class where
  name := name
  kind := .ordinary
  loader := none
  accessFlags := 33
  super := sup
  interfaces := #[]
  cf := none
  fields := #[]
  methods := #[]
  instanceTypes := #[]
  staticTypes := #[]
  resolved := #[]
  callSites := []
  init := .initialized
  statics := none
  mirror := none

def pool0 : Array CpInfo := pool [(5, u "<init>"), (0, u "()V"), (1, .class_ 10), (1, u "java/lang/Object")] 113

def k0c0 : Code := { maxStack := 0, maxLocals := 1, code := object_method_1_code, exceptionTable := #[], attributes := #[] }
def k0m0 : Method := { name := "<init>", desc := "()V", sig := { parameters := [], returnType := none }, accessFlags := 1, code := some k0c0 }
/-- java/lang/Object -/
def k0 : Class := { plain "java/lang/Object" none with
  accessFlags := 33
  interfaces := #[]
  cf := some (fileOf pool0 8 #[] #[{ accessFlags := 1, nameIndex := 5, descriptorIndex := 6, attributes := #[] }] 33 0 #[] #[])
  fields := #[]
  methods := #[k0m0]
  instanceTypes := #[]
  staticTypes := #[]
  resolved := Array.replicate 124 none
  statics := none }

def pool1 : Array CpInfo := pool [(2, .class_ 4), (0, .nameAndType 5 6), (0, u "java/lang/Object"), (0, u "<init>"), (0, u "()V"), (0, .integer 2147483647), (0, .string 9), (0, u "{}"), (0, .methodref 11 12), (0, .class_ 13), (0, .nameAndType 14 15), (0, u "com/example/latchwork/latchwork/etcd/Json"), (0, u "parseObject"), (0, u "(Ljava/lang/String;)Ljava/util/Map;"), (0, .class_ 17), (0, u "java/util/ArrayList"), (0, .methodref 16 3), (0, .methodref 20 21), (0, .class_ 22), (0, .nameAndType 23 24), (0, u "com/example/latchwork/latchwork/etcd/JsonElementPinLaw"), (0, u "slot"), (0, u "(IIIILjava/util/Map;)Ljava/lang/Object;"), (0, .interfaceMethodref 26 27), (0, .class_ 28), (0, .nameAndType 29 30), (0, u "java/util/List"), (0, u "add"), (0, u "(Ljava/lang/Object;)Z"), (0, .methodref 11 32), (0, .nameAndType 33 34), (0, u "element"), (0, u "(Ljava/util/List;I)Ljava/util/Map;"), (0, .interfaceMethodref 26 36), (0, .nameAndType 37 38), (0, u "size"), (0, u "()I"), (0, .interfaceMethodref 26 40), (0, .nameAndType 41 42), (0, u "get"), (0, u "(I)Ljava/lang/Object;"), (0, .methodref 44 45), (0, .class_ 46), (0, .nameAndType 47 48), (0, u "java/lang/Integer"), (0, u "valueOf"), (0, u "(I)Ljava/lang/Integer;"), (2, u "law"), (0, u "(IIII)Z")] 7

def k1m0 : Method := { name := "<init>", desc := "()V", sig := { parameters := [], returnType := none }, accessFlags := 2, code := none }
def k1c1 : Code := { maxStack := 6, maxLocals := 13, code := code, exceptionTable := #[], attributes := #[] }
def k1m1 : Method := { name := "law", desc := "(IIII)Z", sig := { parameters := [.int, .int, .int, .int], returnType := some .boolean }, accessFlags := 9, code := some k1c1 }
def k1c2 : Code := { maxStack := 3, maxLocals := 6, code := method_3_code, exceptionTable := #[], attributes := #[] }
def k1m2 : Method := { name := "slot", desc := "(IIIILjava/util/Map;)Ljava/lang/Object;", sig := { parameters := [.int, .int, .int, .int, (.object "java/util/Map")], returnType := some (.object "java/lang/Object") }, accessFlags := 10, code := some k1c2 }
/-- com/example/latchwork/latchwork/etcd/JsonElementPinLaw -/
def k1 : Class := { plain "com/example/latchwork/latchwork/etcd/JsonElementPinLaw" (some 0) with
  accessFlags := 49
  interfaces := #[]
  cf := some (fileOf pool1 20 #[] #[{ accessFlags := 2, nameIndex := 5, descriptorIndex := 6, attributes := #[] }, { accessFlags := 9, nameIndex := 51, descriptorIndex := 52, attributes := #[] }, { accessFlags := 10, nameIndex := 23, descriptorIndex := 24, attributes := #[] }] 49 2 #[] #[])
  fields := #[]
  methods := #[k1m0, k1m1, k1m2]
  instanceTypes := #[]
  staticTypes := #[]
  resolved := Array.replicate 60 none
  statics := none }

def pool2 : Array CpInfo := pool [(1, .class_ 2), (0, u "java/io/Serializable"), (0, .class_ 4), (0, u "java/lang/Object")] 2

/-- java/io/Serializable -/
def k2 : Class := { plain "java/io/Serializable" (some 0) with
  accessFlags := 1537
  interfaces := #[]
  cf := some (fileOf pool2 1 #[] #[] 1537 3 #[] #[])
  fields := #[]
  methods := #[]
  instanceTypes := #[]
  staticTypes := #[]
  resolved := Array.replicate 7 none
  statics := none }

def pool3 : Array CpInfo := pool [(1, .class_ 2), (0, u "java/lang/Comparable"), (0, .class_ 4), (0, u "java/lang/Object")] 7

/-- java/lang/Comparable -/
def k3 : Class := { plain "java/lang/Comparable" (some 0) with
  accessFlags := 1537
  interfaces := #[]
  cf := some (fileOf pool3 1 #[] #[] 1537 3 #[] #[])
  fields := #[]
  methods := #[]
  instanceTypes := #[]
  staticTypes := #[]
  resolved := Array.replicate 12 none
  statics := none }

def pool4 : Array CpInfo := pool [(2, .class_ 4), (1, u "java/lang/CharSequence"), (42, .class_ 48), (0, u "java/lang/CharSequence$1CodePointIterator"), (10, .class_ 60), (0, u "java/lang/CharSequence$1CharIterator"), (5, .class_ 67), (0, u "java/lang/Object")] 63

/-- java/lang/CharSequence -/
def k4 : Class := { plain "java/lang/CharSequence" (some 0) with
  accessFlags := 1537
  interfaces := #[]
  cf := some (fileOf pool4 2 #[.nestMembers #[47, 59]] #[] 1537 66 #[] #[])
  fields := #[]
  methods := #[]
  instanceTypes := #[]
  staticTypes := #[]
  resolved := Array.replicate 131 none
  statics := none }

def pool5 : Array CpInfo := pool [(1, .class_ 2), (0, u "java/lang/constant/Constable"), (0, .class_ 4), (0, u "java/lang/Object")] 6

/-- java/lang/constant/Constable -/
def k5 : Class := { plain "java/lang/constant/Constable" (some 0) with
  accessFlags := 1537
  interfaces := #[]
  cf := some (fileOf pool5 1 #[] #[] 1537 3 #[] #[])
  fields := #[]
  methods := #[]
  instanceTypes := #[]
  staticTypes := #[]
  resolved := Array.replicate 11 none
  statics := none }

def pool6 : Array CpInfo := pool [(1, .class_ 2), (0, u "java/lang/constant/ConstantDesc"), (0, .class_ 4), (0, u "java/lang/Object")] 32

/-- java/lang/constant/ConstantDesc -/
def k6 : Class := { plain "java/lang/constant/ConstantDesc" (some 0) with
  accessFlags := 1537
  interfaces := #[]
  cf := some (fileOf pool6 1 #[] #[] 1537 3 #[] #[])
  fields := #[]
  methods := #[]
  instanceTypes := #[]
  staticTypes := #[]
  resolved := Array.replicate 37 none
  statics := none }

def pool7 : Array CpInfo := pool [(2, .class_ 4), (1, u "java/lang/Object"), (0, u "<init>"), (0, u "()V"), (2, .fieldref 10 11), (0, .class_ 12), (0, .nameAndType 13 14), (0, u "java/lang/String"), (0, u "value"), (0, u "[B"), (0, .fieldref 10 16), (0, .nameAndType 17 18), (0, u "coder"), (0, u "B"), (2, u "hash"), (0, u "I"), (2, u "hashIsZero"), (0, u "Z"), (11, .fieldref 10 39), (0, .nameAndType 40 26), (0, u "COMPACT_STRINGS"), (66, .class_ 109), (1, u "java/lang/StringLatin1"), (32, u "()Z"), (191, u "()I"), (0, .methodref 10 336), (0, .nameAndType 17 337), (0, u "()B"), (25, u "([BI)C"), (27, u "(II)V"), (35, u "(I)C"), (64, .methodref 10 493), (0, .nameAndType 494 142), (0, u "isLatin1"), (0, .methodref 107 496), (0, .nameAndType 497 363), (0, u "charAt"), (3, u "checkIndex"), (3, .methodref 10 506), (0, .nameAndType 507 334), (0, u "length"), (67, .class_ 576), (0, u "java/lang/CharSequence"), (22, u "CASE_INSENSITIVE_ORDER"), (0, u "Ljava/util/Comparator;"), (32, .methodref 10 634), (0, .nameAndType 635 636), (0, u "indexOf"), (0, u "(II)I"), (0, .methodref 107 638), (0, .nameAndType 635 639), (0, u "([BIII)I"), (125, u "(I)I"), (287, .fieldref 1054 1055), (0, .class_ 1056), (0, .nameAndType 1057 1058), (0, u "jdk/internal/util/Preconditions"), (0, u "SIOOBE_FORMATTER"), (0, u "Ljava/util/function/BiFunction;"), (0, .methodref 1054 1060), (0, .nameAndType 501 1061), (0, u "(IILjava/util/function/BiFunction;)I"), (39, u "serialPersistentFields"), (0, u "[Ljava/io/ObjectStreamField;"), (0, .class_ 1104), (0, u "java/lang/String$CaseInsensitiveComparator"), (1, .class_ 1107), (0, u "java/io/Serializable"), (0, .class_ 1109), (0, u "java/lang/Comparable"), (0, .class_ 1111), (0, u "java/lang/constant/Constable"), (0, .class_ 1113), (0, u "java/lang/constant/ConstantDesc"), (2, u "serialVersionUID"), (0, u "J"), (3, u "REPL"), (0, u "C"), (2, u "LATIN1"), (1, u "UTF16")] 323

def k7m0 : Method := { name := "<init>", desc := "()V", sig := { parameters := [], returnType := none }, accessFlags := 1, code := none }
def k7c1 : Code := { maxStack := 2, maxLocals := 1, code := jdk_42_method_54_code, exceptionTable := #[], attributes := #[] }
def k7m1 : Method := { name := "length", desc := "()I", sig := { parameters := [], returnType := some .int }, accessFlags := 1, code := some k7c1 }
def k7c2 : Code := { maxStack := 2, maxLocals := 2, code := jdk_42_method_56_code, exceptionTable := #[], attributes := #[] }
def k7m2 : Method := { name := "charAt", desc := "(I)C", sig := { parameters := [.int], returnType := some .char }, accessFlags := 1, code := some k7c2 }
def k7c3 : Code := { maxStack := 3, maxLocals := 2, code := jdk_42_method_79_code, exceptionTable := #[], attributes := #[] }
def k7m3 : Method := { name := "indexOf", desc := "(I)I", sig := { parameters := [.int], returnType := some .int }, accessFlags := 1, code := some k7c3 }
def k7c4 : Code := { maxStack := 4, maxLocals := 3, code := jdk_42_method_80_code, exceptionTable := #[], attributes := #[] }
def k7m4 : Method := { name := "indexOf", desc := "(II)I", sig := { parameters := [.int, .int], returnType := some .int }, accessFlags := 1, code := some k7c4 }
def k7c5 : Code := { maxStack := 1, maxLocals := 1, code := jdk_42_method_152_code, exceptionTable := #[], attributes := #[] }
def k7m5 : Method := { name := "coder", desc := "()B", sig := { parameters := [], returnType := some .byte }, accessFlags := 0, code := some k7c5 }
def k7c6 : Code := { maxStack := 1, maxLocals := 1, code := jdk_42_method_154_code, exceptionTable := #[], attributes := #[] }
def k7m6 : Method := { name := "isLatin1", desc := "()Z", sig := { parameters := [], returnType := some .boolean }, accessFlags := 0, code := some k7c6 }
def k7c7 : Code := { maxStack := 3, maxLocals := 2, code := jdk_42_method_155_code, exceptionTable := #[], attributes := #[] }
def k7m7 : Method := { name := "checkIndex", desc := "(II)V", sig := { parameters := [.int, .int], returnType := none }, accessFlags := 8, code := some k7c7 }
/-- java/lang/String -/
def k7 : Class := { plain "java/lang/String" (some 0) with
  accessFlags := 49
  interfaces := #[2, 3, 4, 5, 6]
  cf := some (fileOf pool7 10 #[.nestMembers #[1103]] #[{ accessFlags := 1, nameIndex := 5, descriptorIndex := 6, attributes := #[] }, { accessFlags := 1, nameIndex := 507, descriptorIndex := 334, attributes := #[] }, { accessFlags := 1, nameIndex := 497, descriptorIndex := 427, attributes := #[] }, { accessFlags := 1, nameIndex := 635, descriptorIndex := 765, attributes := #[] }, { accessFlags := 1, nameIndex := 635, descriptorIndex := 636, attributes := #[] }, { accessFlags := 0, nameIndex := 17, descriptorIndex := 337, attributes := #[] }, { accessFlags := 0, nameIndex := 494, descriptorIndex := 142, attributes := #[] }, { accessFlags := 8, nameIndex := 501, descriptorIndex := 391, attributes := #[] }] 49 2 #[1106, 1108, 575, 1110, 1112] #[{ accessFlags := 18, nameIndex := 13, descriptorIndex := 14, attributes := #[] }, { accessFlags := 18, nameIndex := 17, descriptorIndex := 18, attributes := #[] }, { accessFlags := 2, nameIndex := 21, descriptorIndex := 22, attributes := #[] }, { accessFlags := 2, nameIndex := 25, descriptorIndex := 26, attributes := #[] }, { accessFlags := 26, nameIndex := 1116, descriptorIndex := 1117, attributes := #[] }, { accessFlags := 24, nameIndex := 40, descriptorIndex := 26, attributes := #[] }, { accessFlags := 26, nameIndex := 1101, descriptorIndex := 1102, attributes := #[] }, { accessFlags := 26, nameIndex := 1121, descriptorIndex := 1122, attributes := #[] }, { accessFlags := 25, nameIndex := 599, descriptorIndex := 600, attributes := #[] }, { accessFlags := 24, nameIndex := 1125, descriptorIndex := 18, attributes := #[] }, { accessFlags := 24, nameIndex := 1127, descriptorIndex := 18, attributes := #[] }])
  fields := #[{ name := "value", type := (.array .byte), accessFlags := 18, slot := 0, constantValue := 0 }, { name := "coder", type := .byte, accessFlags := 18, slot := 1, constantValue := 0 }, { name := "hash", type := .int, accessFlags := 2, slot := 2, constantValue := 0 }, { name := "hashIsZero", type := .boolean, accessFlags := 2, slot := 3, constantValue := 0 }, { name := "serialVersionUID", type := .long, accessFlags := 26, slot := 0, constantValue := 0 }, { name := "COMPACT_STRINGS", type := .boolean, accessFlags := 24, slot := 1, constantValue := 0 }, { name := "serialPersistentFields", type := (.array (.object "java/io/ObjectStreamField")), accessFlags := 26, slot := 2, constantValue := 0 }, { name := "REPL", type := .char, accessFlags := 26, slot := 3, constantValue := 0 }, { name := "CASE_INSENSITIVE_ORDER", type := (.object "java/util/Comparator"), accessFlags := 25, slot := 4, constantValue := 0 }, { name := "LATIN1", type := .byte, accessFlags := 24, slot := 5, constantValue := 0 }, { name := "UTF16", type := .byte, accessFlags := 24, slot := 6, constantValue := 0 }]
  methods := #[k7m0, k7m1, k7m2, k7m3, k7m4, k7m5, k7m6, k7m7]
  instanceTypes := #[(.array .byte), .byte, .int, .boolean]
  staticTypes := #[.long, .boolean, (.array (.object "java/io/ObjectStreamField")), .char, (.object "java/util/Comparator"), .byte, .byte]
  resolved := Array.replicate 1451 none
  statics := some 0 }

def pool8 : Array CpInfo := pool [(2, .class_ 4), (1, u "java/lang/Object"), (0, u "<init>"), (0, u "()V"), (0, .class_ 8), (0, u "com/example/latchwork/latchwork/etcd/Json$Reader"), (0, .methodref 7 10), (0, .nameAndType 5 11), (0, u "(Ljava/lang/String;)V"), (0, .methodref 7 13), (0, .nameAndType 14 15), (0, u "value"), (0, u "(I)Ljava/lang/Object;"), (0, .methodref 7 17), (0, .nameAndType 18 6), (0, u "skipSpace"), (0, .fieldref 7 20), (0, .nameAndType 21 22), (0, u "at"), (0, u "I"), (0, .methodref 24 25), (0, .class_ 26), (0, .nameAndType 27 28), (0, u "java/lang/String"), (0, u "length"), (0, u "()I"), (6, .class_ 36), (0, u "java/util/Map"), (5, .methodref 43 44), (0, .class_ 45), (0, .nameAndType 46 47), (0, u "com/example/latchwork/latchwork/etcd/Json"), (0, u "asObject"), (0, u "(Ljava/lang/Object;)Ljava/util/Map;"), (13, u "get"), (9, .class_ 72), (0, u "java/util/List"), (44, .interfaceMethodref 71 118), (0, .nameAndType 119 28), (0, u "size"), (0, .interfaceMethodref 71 121), (0, .nameAndType 61 15), (86, u "NUMBER"), (0, u "Ljava/util/regex/Pattern;"), (0, u "MAX_DEPTH"), (4, u "parseObject"), (0, u "(Ljava/lang/String;)Ljava/util/Map;"), (21, u "element"), (0, u "(Ljava/util/List;I)Ljava/util/Map;")] 37

def k8m0 : Method := { name := "<init>", desc := "()V", sig := { parameters := [], returnType := none }, accessFlags := 2, code := none }
def k8c1 : Code := { maxStack := 3, maxLocals := 3, code := prog_16_method_2_code, exceptionTable := #[], attributes := #[] }
def k8m1 : Method := { name := "parseObject", desc := "(Ljava/lang/String;)Ljava/util/Map;", sig := { parameters := [(.object "java/lang/String")], returnType := some (.object "java/util/Map") }, accessFlags := 8, code := some k8c1 }
def k8c2 : Code := { maxStack := 3, maxLocals := 3, code := prog_16_method_9_code, exceptionTable := #[], attributes := #[] }
def k8m2 : Method := { name := "element", desc := "(Ljava/util/List;I)Ljava/util/Map;", sig := { parameters := [(.object "java/util/List"), .int], returnType := some (.object "java/util/Map") }, accessFlags := 8, code := some k8c2 }
def k8c3 : Code := { maxStack := 1, maxLocals := 1, code := prog_16_method_10_code, exceptionTable := #[], attributes := #[] }
def k8m3 : Method := { name := "asObject", desc := "(Ljava/lang/Object;)Ljava/util/Map;", sig := { parameters := [(.object "java/lang/Object")], returnType := some (.object "java/util/Map") }, accessFlags := 10, code := some k8c3 }
/-- com/example/latchwork/latchwork/etcd/Json -/
def k8 : Class := { plain "com/example/latchwork/latchwork/etcd/Json" (some 0) with
  accessFlags := 48
  interfaces := #[]
  cf := some (fileOf pool8 43 #[.nestMembers #[7]] #[{ accessFlags := 2, nameIndex := 5, descriptorIndex := 6, attributes := #[] }, { accessFlags := 8, nameIndex := 215, descriptorIndex := 216, attributes := #[] }, { accessFlags := 8, nameIndex := 238, descriptorIndex := 239, attributes := #[] }, { accessFlags := 10, nameIndex := 46, descriptorIndex := 47, attributes := #[] }] 48 2 #[] #[{ accessFlags := 26, nameIndex := 210, descriptorIndex := 22, attributes := #[] }, { accessFlags := 26, nameIndex := 208, descriptorIndex := 209, attributes := #[] }])
  fields := #[{ name := "MAX_DEPTH", type := .int, accessFlags := 26, slot := 0, constantValue := 0 }, { name := "NUMBER", type := (.object "java/util/regex/Pattern"), accessFlags := 26, slot := 1, constantValue := 0 }]
  methods := #[k8m0, k8m1, k8m2, k8m3]
  instanceTypes := #[]
  staticTypes := #[.int, (.object "java/util/regex/Pattern")]
  resolved := (Array.replicate 277 none).setIfInBounds 19 (some (.field 9 1))
  statics := none }

def pool9 : Array CpInfo := pool [(1, .class_ 2), (0, u "com/example/latchwork/latchwork/etcd/Json"), (0, .methodref 4 5), (0, .class_ 6), (0, .nameAndType 7 8), (0, u "java/lang/Object"), (0, u "<init>"), (0, u "()V"), (0, .fieldref 10 11), (0, .class_ 12), (0, .nameAndType 13 14), (0, u "com/example/latchwork/latchwork/etcd/Json$Reader"), (0, u "text"), (0, u "Ljava/lang/String;"), (0, .methodref 10 16), (0, .nameAndType 17 8), (0, u "skipSpace"), (0, .fieldref 10 19), (0, .nameAndType 20 21), (0, u "at"), (0, u "I"), (0, .methodref 23 24), (0, .class_ 25), (0, .nameAndType 26 27), (0, u "java/lang/String"), (0, u "length"), (0, u "()I"), (8, .methodref 23 37), (0, .nameAndType 38 39), (0, u "charAt"), (0, u "(I)C"), (0, .methodref 10 41), (0, .nameAndType 42 43), (0, u "object"), (0, u "(I)Ljava/util/Map;"), (31, .class_ 76), (0, u "java/util/LinkedHashMap"), (0, .methodref 75 5), (0, .methodref 10 79), (0, .nameAndType 80 81), (0, u "take"), (0, u "(C)Z"), (4, .methodref 10 87), (0, .nameAndType 88 89), (0, u "value"), (0, u "(I)Ljava/lang/Object;"), (84, u "(Ljava/lang/String;)V"), (0, .string 176), (0, u " \t\r\n"), (0, .methodref 23 178), (0, .nameAndType 179 180), (0, u "indexOf"), (0, u "(I)I")] 32

def k9c0 : Code := { maxStack := 2, maxLocals := 2, code := prog_17_method_1_code, exceptionTable := #[], attributes := #[] }
def k9m0 : Method := { name := "<init>", desc := "(Ljava/lang/String;)V", sig := { parameters := [(.object "java/lang/String")], returnType := none }, accessFlags := 0, code := some k9c0 }
def k9c1 : Code := { maxStack := 3, maxLocals := 4, code := prog_17_method_2_code, exceptionTable := #[], attributes := #[] }
def k9m1 : Method := { name := "value", desc := "(I)Ljava/lang/Object;", sig := { parameters := [.int], returnType := some (.object "java/lang/Object") }, accessFlags := 0, code := some k9c1 }
def k9c2 : Code := { maxStack := 5, maxLocals := 4, code := prog_17_method_3_code, exceptionTable := #[], attributes := #[] }
def k9m2 : Method := { name := "object", desc := "(I)Ljava/util/Map;", sig := { parameters := [.int], returnType := some (.object "java/util/Map") }, accessFlags := 2, code := some k9c2 }
def k9c3 : Code := { maxStack := 3, maxLocals := 3, code := prog_17_method_10_code, exceptionTable := #[], attributes := #[] }
def k9m3 : Method := { name := "take", desc := "(C)Z", sig := { parameters := [.char], returnType := some .boolean }, accessFlags := 2, code := some k9c3 }
def k9c4 : Code := { maxStack := 3, maxLocals := 1, code := prog_17_method_11_code, exceptionTable := #[], attributes := #[] }
def k9m4 : Method := { name := "skipSpace", desc := "()V", sig := { parameters := [], returnType := none }, accessFlags := 0, code := some k9c4 }
/-- com/example/latchwork/latchwork/etcd/Json$Reader -/
def k9 : Class := { plain "com/example/latchwork/latchwork/etcd/Json$Reader" (some 0) with
  accessFlags := 48
  interfaces := #[]
  cf := some (fileOf pool9 10 #[.nestHost 1] #[{ accessFlags := 0, nameIndex := 7, descriptorIndex := 174, attributes := #[] }, { accessFlags := 0, nameIndex := 88, descriptorIndex := 89, attributes := #[] }, { accessFlags := 2, nameIndex := 42, descriptorIndex := 43, attributes := #[] }, { accessFlags := 2, nameIndex := 80, descriptorIndex := 81, attributes := #[] }, { accessFlags := 0, nameIndex := 17, descriptorIndex := 8, attributes := #[] }] 48 4 #[] #[{ accessFlags := 18, nameIndex := 13, descriptorIndex := 14, attributes := #[] }, { accessFlags := 2, nameIndex := 20, descriptorIndex := 21, attributes := #[] }])
  fields := #[{ name := "text", type := (.object "java/lang/String"), accessFlags := 18, slot := 0, constantValue := 0 }, { name := "at", type := .int, accessFlags := 2, slot := 1, constantValue := 0 }]
  methods := #[k9m0, k9m1, k9m2, k9m3, k9m4]
  instanceTypes := #[(.object "java/lang/String"), .int]
  staticTypes := #[]
  resolved := Array.replicate 213 none
  statics := none }

def pool10 : Array CpInfo := pool [(1, .class_ 2), (0, u "java/lang/String"), (1, .class_ 6), (1, u "java/lang/Object"), (0, u "<init>"), (0, u "()V"), (0, .methodref 1 10), (0, .nameAndType 11 12), (0, u "checkIndex"), (0, u "(II)V"), (1, .class_ 16), (1, u "java/lang/StringLatin1"), (21, .methodref 39 40), (0, .class_ 41), (0, .nameAndType 42 43), (0, u "java/lang/Math"), (0, u "min"), (0, u "(II)I"), (9, u "([BI)C"), (34, .methodref 14 89), (0, .nameAndType 90 91), (0, u "canEncode"), (0, u "(I)Z"), (0, .methodref 39 93), (0, .nameAndType 94 43), (0, u "max"), (0, .methodref 14 96), (0, .nameAndType 97 98), (0, u "indexOfChar"), (0, u "([BIII)I"), (2, u "indexOf"), (19, u "$assertionsDisabled"), (0, u "Z"), (98, .class_ 223), (1, u "java/lang/StringLatin1$LinesSpliterator"), (28, u "charAt"), (137, .class_ 391), (0, u "java/lang/StringLatin1$CharsSpliterator")] 3

def k10m0 : Method := { name := "<init>", desc := "()V", sig := { parameters := [], returnType := none }, accessFlags := 0, code := none }
def k10c1 : Code := { maxStack := 2, maxLocals := 2, code := jdk_43_method_2_code, exceptionTable := #[], attributes := #[] }
def k10m1 : Method := { name := "charAt", desc := "([BI)C", sig := { parameters := [(.array .byte), .int], returnType := some .char }, accessFlags := 9, code := some k10c1 }
def k10c2 : Code := { maxStack := 2, maxLocals := 1, code := jdk_43_method_4_code, exceptionTable := #[], attributes := #[] }
def k10m2 : Method := { name := "canEncode", desc := "(I)Z", sig := { parameters := [.int], returnType := some .boolean }, accessFlags := 9, code := some k10c2 }
def k10c3 : Code := { maxStack := 4, maxLocals := 4, code := jdk_43_method_22_code, exceptionTable := #[], attributes := #[] }
def k10m3 : Method := { name := "indexOf", desc := "([BIII)I", sig := { parameters := [(.array .byte), .int, .int, .int], returnType := some .int }, accessFlags := 9, code := some k10c3 }
def k10c4 : Code := { maxStack := 2, maxLocals := 6, code := jdk_43_method_23_code, exceptionTable := #[], attributes := #[] }
def k10m4 : Method := { name := "indexOfChar", desc := "([BIII)I", sig := { parameters := [(.array .byte), .int, .int, .int], returnType := some .int }, accessFlags := 10, code := some k10c4 }
/-- java/lang/StringLatin1 -/
def k10 : Class := { plain "java/lang/StringLatin1" (some 0) with
  accessFlags := 48
  interfaces := #[]
  cf := some (fileOf pool10 14 #[.nestMembers #[390, 221]] #[{ accessFlags := 0, nameIndex := 7, descriptorIndex := 8, attributes := #[] }, { accessFlags := 9, nameIndex := 252, descriptorIndex := 53, attributes := #[] }, { accessFlags := 9, nameIndex := 90, descriptorIndex := 91, attributes := #[] }, { accessFlags := 9, nameIndex := 101, descriptorIndex := 98, attributes := #[] }, { accessFlags := 10, nameIndex := 97, descriptorIndex := 98, attributes := #[] }] 48 4 #[] #[{ accessFlags := 4120, nameIndex := 121, descriptorIndex := 122, attributes := #[] }])
  fields := #[{ name := "$assertionsDisabled", type := .boolean, accessFlags := 4120, slot := 0, constantValue := 0 }]
  methods := #[k10m0, k10m1, k10m2, k10m3, k10m4]
  instanceTypes := #[]
  staticTypes := #[.boolean]
  resolved := Array.replicate 395 none
  statics := none }

def pool11 : Array CpInfo := pool [(2, .class_ 4), (1, u "java/lang/Object"), (0, u "<init>"), (0, u "()V"), (17, .class_ 26), (1, u "jdk/internal/util/Preconditions"), (6, u "checkIndex"), (21, .class_ 56), (0, u "jdk/internal/util/Preconditions$4"), (57, .class_ 115), (0, u "jdk/internal/util/Preconditions$1"), (7, u "SIOOBE_FORMATTER"), (0, u "Ljava/util/function/BiFunction;"), (0, .class_ 126), (0, u "jdk/internal/util/Preconditions$2"), (3, u "AIOOBE_FORMATTER"), (0, .class_ 132), (0, u "jdk/internal/util/Preconditions$3"), (3, u "IOOBE_FORMATTER"), (41, u "(IILjava/util/function/BiFunction;)I")] 15

def k11m0 : Method := { name := "<init>", desc := "()V", sig := { parameters := [], returnType := none }, accessFlags := 1, code := none }
def k11c1 : Code := { maxStack := 3, maxLocals := 3, code := jdk_41_method_11_code, exceptionTable := #[], attributes := #[] }
def k11m1 : Method := { name := "checkIndex", desc := "(IILjava/util/function/BiFunction;)I", sig := { parameters := [.int, .int, (.object "java/util/function/BiFunction")], returnType := some .int }, accessFlags := 9, code := some k11c1 }
/-- jdk/internal/util/Preconditions -/
def k11 : Class := { plain "jdk/internal/util/Preconditions" (some 0) with
  accessFlags := 33
  interfaces := #[]
  cf := some (fileOf pool11 24 #[.nestMembers #[55, 131, 125, 114]] #[{ accessFlags := 1, nameIndex := 5, descriptorIndex := 6, attributes := #[] }, { accessFlags := 9, nameIndex := 33, descriptorIndex := 178, attributes := #[] }] 33 2 #[] #[{ accessFlags := 25, nameIndex := 123, descriptorIndex := 124, attributes := #[] }, { accessFlags := 25, nameIndex := 130, descriptorIndex := 124, attributes := #[] }, { accessFlags := 25, nameIndex := 136, descriptorIndex := 124, attributes := #[] }])
  fields := #[{ name := "SIOOBE_FORMATTER", type := (.object "java/util/function/BiFunction"), accessFlags := 25, slot := 0, constantValue := 0 }, { name := "AIOOBE_FORMATTER", type := (.object "java/util/function/BiFunction"), accessFlags := 25, slot := 1, constantValue := 0 }, { name := "IOOBE_FORMATTER", type := (.object "java/util/function/BiFunction"), accessFlags := 25, slot := 2, constantValue := 0 }]
  methods := #[k11m0, k11m1]
  instanceTypes := #[]
  staticTypes := #[(.object "java/util/function/BiFunction"), (.object "java/util/function/BiFunction"), (.object "java/util/function/BiFunction")]
  resolved := Array.replicate 194 none
  statics := some 1 }

def pool12 : Array CpInfo := pool [(1, .class_ 2), (0, u "java/lang/Math"), (1, .class_ 6), (1, u "java/lang/Object"), (0, u "<init>"), (0, u "()V"), (89, .class_ 100), (1, u "java/lang/Math$RandomNumberGeneratorHolder"), (71, u "negativeZeroFloatBits"), (0, u "J"), (2, u "negativeZeroDoubleBits"), (21, u "max"), (2, u "min"), (43, u "$assertionsDisabled"), (0, u "Z"), (88, u "(II)I"), (2, u "twoToTheDoubleScaleDown"), (0, u "D"), (4, u "twoToTheDoubleScaleUp"), (9, u "E"), (3, u "PI"), (2, u "TAU"), (2, u "DEGREES_TO_RADIANS"), (0, u "RADIANS_TO_DEGREES")] 94

def k12m0 : Method := { name := "<init>", desc := "()V", sig := { parameters := [], returnType := none }, accessFlags := 2, code := none }
def k12c1 : Code := { maxStack := 2, maxLocals := 2, code := jdk_29_method_65_code, exceptionTable := #[], attributes := #[] }
def k12m1 : Method := { name := "max", desc := "(II)I", sig := { parameters := [.int, .int], returnType := some .int }, accessFlags := 9, code := some k12c1 }
def k12c2 : Code := { maxStack := 2, maxLocals := 2, code := jdk_29_method_69_code, exceptionTable := #[], attributes := #[] }
def k12m2 : Method := { name := "min", desc := "(II)I", sig := { parameters := [.int, .int], returnType := some .int }, accessFlags := 9, code := some k12c2 }
/-- java/lang/Math -/
def k12 : Class := { plain "java/lang/Math" (some 0) with
  accessFlags := 49
  interfaces := #[]
  cf := some (fileOf pool12 1 #[.nestMembers #[98]] #[{ accessFlags := 2, nameIndex := 7, descriptorIndex := 8, attributes := #[] }, { accessFlags := 9, nameIndex := 198, descriptorIndex := 335, attributes := #[] }, { accessFlags := 9, nameIndex := 201, descriptorIndex := 335, attributes := #[] }] 49 4 #[] #[{ accessFlags := 25, nameIndex := 354, descriptorIndex := 339, attributes := #[] }, { accessFlags := 25, nameIndex := 358, descriptorIndex := 339, attributes := #[] }, { accessFlags := 25, nameIndex := 361, descriptorIndex := 339, attributes := #[] }, { accessFlags := 26, nameIndex := 364, descriptorIndex := 339, attributes := #[] }, { accessFlags := 26, nameIndex := 365, descriptorIndex := 339, attributes := #[] }, { accessFlags := 26, nameIndex := 172, descriptorIndex := 173, attributes := #[] }, { accessFlags := 26, nameIndex := 176, descriptorIndex := 173, attributes := #[] }, { accessFlags := 8, nameIndex := 344, descriptorIndex := 339, attributes := #[] }, { accessFlags := 8, nameIndex := 338, descriptorIndex := 339, attributes := #[] }, { accessFlags := 4120, nameIndex := 245, descriptorIndex := 246, attributes := #[] }])
  fields := #[{ name := "E", type := .double, accessFlags := 25, slot := 0, constantValue := 0 }, { name := "PI", type := .double, accessFlags := 25, slot := 1, constantValue := 0 }, { name := "TAU", type := .double, accessFlags := 25, slot := 2, constantValue := 0 }, { name := "DEGREES_TO_RADIANS", type := .double, accessFlags := 26, slot := 3, constantValue := 0 }, { name := "RADIANS_TO_DEGREES", type := .double, accessFlags := 26, slot := 4, constantValue := 0 }, { name := "negativeZeroFloatBits", type := .long, accessFlags := 26, slot := 5, constantValue := 0 }, { name := "negativeZeroDoubleBits", type := .long, accessFlags := 26, slot := 6, constantValue := 0 }, { name := "twoToTheDoubleScaleUp", type := .double, accessFlags := 8, slot := 7, constantValue := 0 }, { name := "twoToTheDoubleScaleDown", type := .double, accessFlags := 8, slot := 8, constantValue := 0 }, { name := "$assertionsDisabled", type := .boolean, accessFlags := 4120, slot := 9, constantValue := 0 }]
  methods := #[k12m0, k12m1, k12m2]
  instanceTypes := #[]
  staticTypes := #[.double, .double, .double, .double, .double, .long, .long, .double, .double, .boolean]
  resolved := Array.replicate 460 none
  statics := none }

def pool13 : Array CpInfo := pool [(2, .class_ 4), (1, u "java/util/Map"), (31, .class_ 37), (0, u "java/util/Map$Entry"), (55, .class_ 94), (0, u "java/lang/Object")] 168

/-- java/util/Map -/
def k13 : Class := { plain "java/util/Map" (some 0) with
  accessFlags := 1537
  interfaces := #[]
  cf := some (fileOf pool13 2 #[.nestMembers #[36]] #[] 1537 93 #[] #[])
  fields := #[]
  methods := #[]
  instanceTypes := #[]
  staticTypes := #[]
  resolved := Array.replicate 263 none
  statics := none }

def pool14 : Array CpInfo := pool [(1, .methodref 2 3), (0, .class_ 4), (0, .nameAndType 5 6), (0, u "java/lang/Object"), (0, u "<init>"), (0, u "()V"), (1, .class_ 10), (1, u "java/util/AbstractMap"), (42, .class_ 54), (0, u "java/util/Map"), (9, u "keySet"), (0, u "Ljava/util/Set;"), (0, .class_ 67), (0, u "java/util/AbstractMap$1"), (5, u "values"), (0, u "Ljava/util/Collection;"), (0, .class_ 76), (0, u "java/util/AbstractMap$2"), (104, .class_ 182), (0, u "java/util/AbstractMap$ViewCollection"), (0, .class_ 184), (0, u "java/util/AbstractMap$SimpleImmutableEntry"), (0, .class_ 186), (0, u "java/util/AbstractMap$SimpleEntry"), (0, .class_ 188), (0, u "java/util/AbstractMap$2$1"), (0, .class_ 190), (0, u "java/util/AbstractMap$1$1")] 5

def k14c0 : Code := { maxStack := 1, maxLocals := 1, code := jdk_71_method_1_code, exceptionTable := #[], attributes := #[] }
def k14m0 : Method := { name := "<init>", desc := "()V", sig := { parameters := [], returnType := none }, accessFlags := 4, code := some k14c0 }
/-- java/util/AbstractMap -/
def k14 : Class := { plain "java/util/AbstractMap" (some 0) with
  accessFlags := 1057
  interfaces := #[13]
  cf := some (fileOf pool14 8 #[.nestMembers #[181, 183, 185, 75, 187, 66, 189]] #[{ accessFlags := 4, nameIndex := 5, descriptorIndex := 6, attributes := #[] }] 1057 2 #[53] #[{ accessFlags := 128, nameIndex := 64, descriptorIndex := 65, attributes := #[] }, { accessFlags := 128, nameIndex := 73, descriptorIndex := 74, attributes := #[] }])
  fields := #[{ name := "keySet", type := (.object "java/util/Set"), accessFlags := 128, slot := 0, constantValue := 0 }, { name := "values", type := (.object "java/util/Collection"), accessFlags := 128, slot := 1, constantValue := 0 }]
  methods := #[k14m0]
  instanceTypes := #[(.object "java/util/Set"), (.object "java/util/Collection")]
  staticTypes := #[]
  resolved := Array.replicate 196 none
  statics := none }

def pool15 : Array CpInfo := pool [(1, .class_ 2), (0, u "java/lang/Cloneable"), (0, .class_ 4), (0, u "java/lang/Object")] 2

/-- java/lang/Cloneable -/
def k15 : Class := { plain "java/lang/Cloneable" (some 0) with
  accessFlags := 1537
  interfaces := #[]
  cf := some (fileOf pool15 1 #[] #[] 1537 3 #[] #[])
  fields := #[]
  methods := #[]
  instanceTypes := #[]
  staticTypes := #[]
  resolved := Array.replicate 7 none
  statics := none }

def pool16 : Array CpInfo := pool [(40, .class_ 41), (0, u "java/util/HashMap"), (1, .methodref 44 45), (0, .class_ 46), (0, .nameAndType 47 48), (0, u "java/util/AbstractMap"), (0, u "<init>"), (0, u "()V"), (32, .fieldref 40 82), (0, .nameAndType 83 84), (0, u "loadFactor"), (0, u "F"), (5, u "threshold"), (0, u "I"), (0, .float 1061158912), (8, .class_ 103), (1, u "java/util/Map"), (0, u "size"), (2, u "table"), (0, u "[Ljava/util/HashMap$Node;"), (14, u "entrySet"), (39, .class_ 165), (1, u "java/util/HashMap$Node"), (14, .class_ 181), (0, u "java/util/HashMap$TreeNode"), (22, u "modCount"), (37, u "Ljava/util/Set;"), (0, .class_ 244), (0, u "java/util/HashMap$KeySet"), (18, .class_ 264), (0, u "java/util/HashMap$Values"), (3, .class_ 269), (0, u "java/util/HashMap$EntrySet"), (76, .class_ 348), (1, u "java/util/HashMap$UnsafeHolder"), (43, .class_ 393), (0, u "java/lang/Cloneable"), (0, .class_ 395), (0, u "java/io/Serializable"), (0, u "serialVersionUID"), (0, u "J"), (3, u "DEFAULT_INITIAL_CAPACITY"), (1, u "MAXIMUM_CAPACITY"), (0, u "DEFAULT_LOAD_FACTOR"), (0, u "TREEIFY_THRESHOLD"), (1, u "UNTREEIFY_THRESHOLD"), (1, u "MIN_TREEIFY_CAPACITY"), (186, .class_ 597), (0, u "java/util/HashMap$EntrySpliterator"), (0, .class_ 599), (0, u "java/util/HashMap$ValueSpliterator"), (0, .class_ 601), (0, u "java/util/HashMap$KeySpliterator"), (0, .class_ 603), (0, u "java/util/HashMap$HashMapSpliterator"), (0, .class_ 605), (0, u "java/util/HashMap$EntryIterator"), (0, .class_ 607), (0, u "java/util/HashMap$ValueIterator"), (0, .class_ 609), (0, u "java/util/HashMap$KeyIterator"), (0, .class_ 611), (0, u "java/util/HashMap$HashIterator")] 17

def k16c0 : Code := { maxStack := 2, maxLocals := 1, code := jdk_69_method_7_code, exceptionTable := #[], attributes := #[] }
def k16m0 : Method := { name := "<init>", desc := "()V", sig := { parameters := [], returnType := none }, accessFlags := 1, code := some k16c0 }
/-- java/util/HashMap -/
def k16 : Class := { plain "java/util/HashMap" (some 14) with
  accessFlags := 33
  interfaces := #[13, 15, 2]
  cf := some (fileOf pool16 40 #[.nestMembers #[180, 596, 598, 600, 602, 604, 606, 608, 610, 346, 268, 263, 243, 163]] #[{ accessFlags := 1, nameIndex := 47, descriptorIndex := 48, attributes := #[] }] 33 44 #[101, 392, 394] #[{ accessFlags := 26, nameIndex := 396, descriptorIndex := 397, attributes := #[] }, { accessFlags := 24, nameIndex := 401, descriptorIndex := 91, attributes := #[] }, { accessFlags := 24, nameIndex := 403, descriptorIndex := 91, attributes := #[] }, { accessFlags := 24, nameIndex := 404, descriptorIndex := 84, attributes := #[] }, { accessFlags := 24, nameIndex := 405, descriptorIndex := 91, attributes := #[] }, { accessFlags := 24, nameIndex := 407, descriptorIndex := 91, attributes := #[] }, { accessFlags := 24, nameIndex := 409, descriptorIndex := 91, attributes := #[] }, { accessFlags := 128, nameIndex := 107, descriptorIndex := 108, attributes := #[] }, { accessFlags := 128, nameIndex := 123, descriptorIndex := 242, attributes := #[] }, { accessFlags := 128, nameIndex := 104, descriptorIndex := 91, attributes := #[] }, { accessFlags := 128, nameIndex := 204, descriptorIndex := 91, attributes := #[] }, { accessFlags := 0, nameIndex := 90, descriptorIndex := 91, attributes := #[] }, { accessFlags := 16, nameIndex := 83, descriptorIndex := 84, attributes := #[] }])
  fields := #[{ name := "serialVersionUID", type := .long, accessFlags := 26, slot := 0, constantValue := 0 }, { name := "DEFAULT_INITIAL_CAPACITY", type := .int, accessFlags := 24, slot := 1, constantValue := 0 }, { name := "MAXIMUM_CAPACITY", type := .int, accessFlags := 24, slot := 2, constantValue := 0 }, { name := "DEFAULT_LOAD_FACTOR", type := .float, accessFlags := 24, slot := 3, constantValue := 0 }, { name := "TREEIFY_THRESHOLD", type := .int, accessFlags := 24, slot := 4, constantValue := 0 }, { name := "UNTREEIFY_THRESHOLD", type := .int, accessFlags := 24, slot := 5, constantValue := 0 }, { name := "MIN_TREEIFY_CAPACITY", type := .int, accessFlags := 24, slot := 6, constantValue := 0 }, { name := "table", type := (.array (.object "java/util/HashMap$Node")), accessFlags := 128, slot := 2, constantValue := 0 }, { name := "entrySet", type := (.object "java/util/Set"), accessFlags := 128, slot := 3, constantValue := 0 }, { name := "size", type := .int, accessFlags := 128, slot := 4, constantValue := 0 }, { name := "modCount", type := .int, accessFlags := 128, slot := 5, constantValue := 0 }, { name := "threshold", type := .int, accessFlags := 0, slot := 6, constantValue := 0 }, { name := "loadFactor", type := .float, accessFlags := 16, slot := 7, constantValue := 0 }]
  methods := #[k16m0]
  instanceTypes := #[(.object "java/util/Set"), (.object "java/util/Collection"), (.array (.object "java/util/HashMap$Node")), (.object "java/util/Set"), .int, .int, .int, .float]
  staticTypes := #[.long, .int, .int, .float, .int, .int, .int]
  resolved := Array.replicate 629 none
  statics := none }

def pool17 : Array CpInfo := pool [(2, .class_ 4), (1, u "java/util/SequencedMap"), (38, .class_ 44), (0, u "java/util/SequencedMap$1SeqKeySet"), (3, .class_ 49), (0, u "java/util/SequencedMap$1SeqValues"), (1, .class_ 52), (0, u "java/util/SequencedMap$1SeqEntrySet"), (1, .class_ 55), (0, u "java/lang/Object"), (0, .class_ 57), (0, u "java/util/Map")] 48

/-- java/util/SequencedMap -/
def k17 : Class := { plain "java/util/SequencedMap" (some 0) with
  accessFlags := 1537
  interfaces := #[13]
  cf := some (fileOf pool17 2 #[.nestMembers #[51, 48, 43]] #[] 1537 54 #[56] #[])
  fields := #[]
  methods := #[]
  instanceTypes := #[]
  staticTypes := #[]
  resolved := Array.replicate 106 none
  statics := none }

def pool18 : Array CpInfo := pool [(1, .fieldref 2 3), (0, .class_ 4), (0, .nameAndType 5 6), (0, u "java/util/LinkedHashMap"), (0, u "putMode"), (0, u "I"), (2, u "head"), (0, u "Ljava/util/LinkedHashMap$Entry;"), (2, u "tail"), (1, .class_ 17), (1, u "java/util/LinkedHashMap$Entry"), (5, .class_ 25), (1, u "java/util/HashMap"), (1, u "()V"), (2, u "<init>"), (33, .fieldref 2 65), (0, .nameAndType 66 67), (0, u "accessOrder"), (0, u "Z"), (19, .methodref 23 88), (0, .nameAndType 30 27), (32, .class_ 122), (0, u "java/util/LinkedHashMap$LinkedKeySet"), (20, .class_ 144), (0, u "java/util/LinkedHashMap$LinkedValues"), (9, .class_ 155), (0, u "java/util/LinkedHashMap$LinkedEntrySet"), (44, .class_ 201), (0, u "java/util/LinkedHashMap$ReversedLinkedHashMapView"), (3, .class_ 206), (0, u "java/util/SequencedMap"), (0, u "serialVersionUID"), (0, u "J"), (5, u "PUT_NORM"), (1, u "PUT_FIRST"), (1, u "PUT_LAST"), (143, .class_ 363), (0, u "java/util/LinkedHashMap$LinkedEntryIterator"), (0, .class_ 365), (0, u "java/util/LinkedHashMap$LinkedValueIterator"), (0, .class_ 367), (0, u "java/util/LinkedHashMap$LinkedKeyIterator"), (0, .class_ 369), (0, u "java/util/LinkedHashMap$LinkedHashIterator")] 16

def k18c0 : Code := { maxStack := 2, maxLocals := 1, code := jdk_94_method_16_code, exceptionTable := #[], attributes := #[] }
def k18m0 : Method := { name := "<init>", desc := "()V", sig := { parameters := [], returnType := none }, accessFlags := 1, code := some k18c0 }
/-- java/util/LinkedHashMap -/
def k18 : Class := { plain "java/util/LinkedHashMap" (some 16) with
  accessFlags := 33
  interfaces := #[17]
  cf := some (fileOf pool18 2 #[.nestMembers #[200, 362, 364, 366, 368, 154, 143, 121, 15]] #[{ accessFlags := 1, nameIndex := 30, descriptorIndex := 27, attributes := #[] }] 33 23 #[205] #[{ accessFlags := 26, nameIndex := 207, descriptorIndex := 208, attributes := #[] }, { accessFlags := 128, nameIndex := 9, descriptorIndex := 10, attributes := #[] }, { accessFlags := 128, nameIndex := 13, descriptorIndex := 10, attributes := #[] }, { accessFlags := 16, nameIndex := 66, descriptorIndex := 67, attributes := #[] }, { accessFlags := 24, nameIndex := 214, descriptorIndex := 6, attributes := #[] }, { accessFlags := 24, nameIndex := 216, descriptorIndex := 6, attributes := #[] }, { accessFlags := 24, nameIndex := 218, descriptorIndex := 6, attributes := #[] }, { accessFlags := 128, nameIndex := 5, descriptorIndex := 6, attributes := #[] }])
  fields := #[{ name := "serialVersionUID", type := .long, accessFlags := 26, slot := 0, constantValue := 0 }, { name := "head", type := (.object "java/util/LinkedHashMap$Entry"), accessFlags := 128, slot := 8, constantValue := 0 }, { name := "tail", type := (.object "java/util/LinkedHashMap$Entry"), accessFlags := 128, slot := 9, constantValue := 0 }, { name := "accessOrder", type := .boolean, accessFlags := 16, slot := 10, constantValue := 0 }, { name := "PUT_NORM", type := .int, accessFlags := 24, slot := 1, constantValue := 0 }, { name := "PUT_FIRST", type := .int, accessFlags := 24, slot := 2, constantValue := 0 }, { name := "PUT_LAST", type := .int, accessFlags := 24, slot := 3, constantValue := 0 }, { name := "putMode", type := .int, accessFlags := 128, slot := 11, constantValue := 0 }]
  methods := #[k18m0]
  instanceTypes := #[(.object "java/util/Set"), (.object "java/util/Collection"), (.array (.object "java/util/HashMap$Node")), (.object "java/util/Set"), .int, .int, .int, .float, (.object "java/util/LinkedHashMap$Entry"), (.object "java/util/LinkedHashMap$Entry"), .boolean, .int]
  staticTypes := #[.long, .int, .int, .int]
  resolved := Array.replicate 386 none
  statics := none }

def pool19 : Array CpInfo := pool [(8, .class_ 10), (1, u "java/lang/Iterable"), (24, .class_ 36), (0, u "java/lang/Object")] 25

/-- java/lang/Iterable -/
def k19 : Class := { plain "java/lang/Iterable" (some 0) with
  accessFlags := 1537
  interfaces := #[]
  cf := some (fileOf pool19 8 #[] #[] 1537 35 #[] #[])
  fields := #[]
  methods := #[]
  instanceTypes := #[]
  staticTypes := #[]
  resolved := Array.replicate 62 none
  statics := none }

def pool20 : Array CpInfo := pool [(10, .class_ 12), (1, u "java/util/Collection"), (47, .class_ 61), (0, u "java/lang/Object"), (0, .class_ 63), (0, u "java/lang/Iterable")] 51

/-- java/util/Collection -/
def k20 : Class := { plain "java/util/Collection" (some 0) with
  accessFlags := 1537
  interfaces := #[19]
  cf := some (fileOf pool20 10 #[] #[] 1537 60 #[62] #[])
  fields := #[]
  methods := #[]
  instanceTypes := #[]
  staticTypes := #[]
  resolved := Array.replicate 115 none
  statics := none }

def pool21 : Array CpInfo := pool [(1, .methodref 2 3), (0, .class_ 4), (0, .nameAndType 5 6), (0, u "java/lang/Object"), (0, u "<init>"), (0, u "()V"), (1, .class_ 10), (1, u "java/util/AbstractCollection"), (66, .class_ 78), (0, u "java/util/Collection")] 81

def k21c0 : Code := { maxStack := 1, maxLocals := 1, code := jdk_22_method_1_code, exceptionTable := #[], attributes := #[] }
def k21m0 : Method := { name := "<init>", desc := "()V", sig := { parameters := [], returnType := none }, accessFlags := 4, code := some k21c0 }
/-- java/util/AbstractCollection -/
def k21 : Class := { plain "java/util/AbstractCollection" (some 0) with
  accessFlags := 1057
  interfaces := #[20]
  cf := some (fileOf pool21 8 #[] #[{ accessFlags := 4, nameIndex := 5, descriptorIndex := 6, attributes := #[] }] 1057 2 #[77] #[])
  fields := #[]
  methods := #[k21m0]
  instanceTypes := #[]
  staticTypes := #[]
  resolved := Array.replicate 160 none
  statics := none }

def pool22 : Array CpInfo := pool [(8, .class_ 10), (1, u "java/util/SequencedCollection"), (15, .class_ 27), (0, u "java/lang/Object"), (0, .class_ 29), (0, u "java/util/Collection")] 27

/-- java/util/SequencedCollection -/
def k22 : Class := { plain "java/util/SequencedCollection" (some 0) with
  accessFlags := 1537
  interfaces := #[20]
  cf := some (fileOf pool22 8 #[] #[] 1537 26 #[28] #[])
  fields := #[]
  methods := #[]
  instanceTypes := #[]
  staticTypes := #[]
  resolved := Array.replicate 57 none
  statics := none }

def pool23 : Array CpInfo := pool [(8, .class_ 10), (1, u "java/util/List"), (49, u "add"), (3, u "(Ljava/lang/Object;)Z"), (10, u "get"), (0, u "(I)Ljava/lang/Object;"), (2, u "size"), (0, u "()I"), (22, .class_ 104), (0, u "java/lang/Object"), (15, .class_ 121), (0, u "java/util/SequencedCollection")] 129

def k23m0 : Method := { name := "size", desc := "()I", sig := { parameters := [], returnType := some .int }, accessFlags := 1025, code := none }
def k23m1 : Method := { name := "add", desc := "(Ljava/lang/Object;)Z", sig := { parameters := [(.object "java/lang/Object")], returnType := some .boolean }, accessFlags := 1025, code := none }
def k23m2 : Method := { name := "get", desc := "(I)Ljava/lang/Object;", sig := { parameters := [.int], returnType := some (.object "java/lang/Object") }, accessFlags := 1025, code := none }
/-- java/util/List -/
def k23 : Class := { plain "java/util/List" (some 0) with
  accessFlags := 1537
  interfaces := #[22]
  cf := some (fileOf pool23 8 #[] #[{ accessFlags := 1025, nameIndex := 79, descriptorIndex := 80, attributes := #[] }, { accessFlags := 1025, nameIndex := 60, descriptorIndex := 64, attributes := #[] }, { accessFlags := 1025, nameIndex := 75, descriptorIndex := 76, attributes := #[] }] 1537 103 #[120] #[])
  fields := #[]
  methods := #[k23m0, k23m1, k23m2]
  instanceTypes := #[]
  staticTypes := #[]
  resolved := Array.replicate 251 none
  statics := none }

def pool24 : Array CpInfo := pool [(1, .methodref 2 3), (0, .class_ 4), (0, .nameAndType 5 6), (0, u "java/util/AbstractCollection"), (0, u "<init>"), (0, u "()V"), (0, .fieldref 8 9), (0, .class_ 10), (0, .nameAndType 11 12), (0, u "java/util/AbstractList"), (0, u "modCount"), (0, u "I"), (64, .class_ 78), (0, u "java/util/AbstractList$Itr"), (3, .class_ 83), (0, u "java/util/AbstractList$ListItr"), (9, .class_ 94), (0, u "java/util/AbstractList$RandomAccessSubList"), (3, .class_ 99), (0, u "java/util/AbstractList$SubList"), (33, .class_ 134), (0, u "java/util/List"), (73, .class_ 209), (0, u "java/util/AbstractList$SubList$1"), (0, .class_ 211), (0, u "java/util/AbstractList$RandomAccessSpliterator")] 6

def k24c0 : Code := { maxStack := 2, maxLocals := 1, code := jdk_39_method_1_code, exceptionTable := #[], attributes := #[] }
def k24m0 : Method := { name := "<init>", desc := "()V", sig := { parameters := [], returnType := none }, accessFlags := 4, code := some k24c0 }
/-- java/util/AbstractList -/
def k24 : Class := { plain "java/util/AbstractList" (some 21) with
  accessFlags := 1057
  interfaces := #[23]
  cf := some (fileOf pool24 8 #[.nestMembers #[93, 98, 208, 210, 82, 77]] #[{ accessFlags := 4, nameIndex := 5, descriptorIndex := 6, attributes := #[] }] 1057 2 #[133] #[{ accessFlags := 132, nameIndex := 11, descriptorIndex := 12, attributes := #[] }])
  fields := #[{ name := "modCount", type := .int, accessFlags := 132, slot := 0, constantValue := 0 }]
  methods := #[k24m0]
  instanceTypes := #[.int]
  staticTypes := #[]
  resolved := Array.replicate 218 none
  statics := none }

def pool25 : Array CpInfo := pool [(1, .class_ 2), (0, u "java/util/RandomAccess"), (0, .class_ 4), (0, u "java/lang/Object")] 2

/-- java/util/RandomAccess -/
def k25 : Class := { plain "java/util/RandomAccess" (some 0) with
  accessFlags := 1537
  interfaces := #[]
  cf := some (fileOf pool25 1 #[] #[] 1537 3 #[] #[])
  fields := #[]
  methods := #[]
  instanceTypes := #[]
  staticTypes := #[]
  resolved := Array.replicate 7 none
  statics := none }

def pool26 : Array CpInfo := pool [(1, .methodref 2 3), (0, .class_ 4), (0, .nameAndType 5 6), (0, u "java/util/AbstractList"), (0, u "<init>"), (0, u "()V"), (0, .class_ 8), (0, u "java/lang/Object"), (0, .fieldref 10 11), (0, .class_ 12), (0, .nameAndType 13 14), (0, u "java/util/ArrayList"), (0, u "elementData"), (0, u "[Ljava/lang/Object;"), (2, u "EMPTY_ELEMENTDATA"), (21, .fieldref 10 40), (0, .nameAndType 41 14), (0, u "DEFAULTCAPACITY_EMPTY_ELEMENTDATA"), (5, u "()[Ljava/lang/Object;"), (0, .fieldref 10 49), (0, .nameAndType 50 51), (0, u "size"), (0, u "I"), (11, .fieldref 10 64), (0, .nameAndType 65 51), (0, u "modCount"), (3, .methodref 10 70), (0, .nameAndType 71 72), (0, u "grow"), (0, u "(I)[Ljava/lang/Object;"), (6, .methodref 80 81), (0, .class_ 82), (0, .nameAndType 83 84), (0, u "java/lang/Math"), (0, u "max"), (0, u "(II)I"), (11, u "(Ljava/lang/Object;)Z"), (21, .methodref 119 120), (0, .class_ 121), (0, .nameAndType 122 84), (0, u "java/util/Objects"), (0, u "checkIndex"), (0, .methodref 10 124), (0, .nameAndType 13 125), (0, u "(I)Ljava/lang/Object;"), (3, .methodref 10 130), (0, .nameAndType 71 47), (0, .methodref 10 132), (0, .nameAndType 133 134), (0, u "add"), (0, u "(Ljava/lang/Object;[Ljava/lang/Object;I)V"), (13, .class_ 149), (0, u "java/util/List"), (36, u "()I"), (75, .class_ 263), (0, u "java/util/ArrayList$ListItr"), (3, .class_ 268), (0, u "java/util/ArrayList$Itr"), (7, .class_ 277), (0, u "java/util/ArrayList$SubList"), (12, .class_ 291), (0, u "java/util/ArrayList$ArrayListSpliterator"), (37, .class_ 330), (0, u "java/util/RandomAccess"), (0, .class_ 332), (0, u "java/lang/Cloneable"), (0, .class_ 334), (0, u "java/io/Serializable"), (0, u "serialVersionUID"), (0, u "J"), (3, u "DEFAULT_CAPACITY"), (40, u "get"), (118, .class_ 501), (0, u "java/util/ArrayList$SubList$2"), (0, .class_ 503), (0, u "java/util/ArrayList$SubList$1")] 5

def k26c0 : Code := { maxStack := 2, maxLocals := 1, code := jdk_38_method_2_code, exceptionTable := #[], attributes := #[] }
def k26m0 : Method := { name := "<init>", desc := "()V", sig := { parameters := [], returnType := none }, accessFlags := 1, code := some k26c0 }
def k26c1 : Code := { maxStack := 4, maxLocals := 4, code := jdk_38_method_6_code, exceptionTable := #[], attributes := #[] }
def k26m1 : Method := { name := "grow", desc := "(I)[Ljava/lang/Object;", sig := { parameters := [.int], returnType := some (.array (.object "java/lang/Object")) }, accessFlags := 2, code := some k26c1 }
def k26c2 : Code := { maxStack := 3, maxLocals := 1, code := jdk_38_method_7_code, exceptionTable := #[], attributes := #[] }
def k26m2 : Method := { name := "grow", desc := "()[Ljava/lang/Object;", sig := { parameters := [], returnType := some (.array (.object "java/lang/Object")) }, accessFlags := 2, code := some k26c2 }
def k26c3 : Code := { maxStack := 1, maxLocals := 1, code := jdk_38_method_8_code, exceptionTable := #[], attributes := #[] }
def k26m3 : Method := { name := "size", desc := "()I", sig := { parameters := [], returnType := some .int }, accessFlags := 1, code := some k26c3 }
def k26c4 : Code := { maxStack := 2, maxLocals := 2, code := jdk_38_method_18_code, exceptionTable := #[], attributes := #[] }
def k26m4 : Method := { name := "elementData", desc := "(I)Ljava/lang/Object;", sig := { parameters := [.int], returnType := some (.object "java/lang/Object") }, accessFlags := 0, code := some k26c4 }
def k26c5 : Code := { maxStack := 2, maxLocals := 2, code := jdk_38_method_20_code, exceptionTable := #[], attributes := #[] }
def k26m5 : Method := { name := "get", desc := "(I)Ljava/lang/Object;", sig := { parameters := [.int], returnType := some (.object "java/lang/Object") }, accessFlags := 1, code := some k26c5 }
def k26c6 : Code := { maxStack := 3, maxLocals := 4, code := jdk_38_method_24_code, exceptionTable := #[], attributes := #[] }
def k26m6 : Method := { name := "add", desc := "(Ljava/lang/Object;[Ljava/lang/Object;I)V", sig := { parameters := [(.object "java/lang/Object"), (.array (.object "java/lang/Object")), .int], returnType := none }, accessFlags := 2, code := some k26c6 }
def k26c7 : Code := { maxStack := 4, maxLocals := 2, code := jdk_38_method_25_code, exceptionTable := #[], attributes := #[] }
def k26m7 : Method := { name := "add", desc := "(Ljava/lang/Object;)Z", sig := { parameters := [(.object "java/lang/Object")], returnType := some .boolean }, accessFlags := 1, code := some k26c7 }
/-- java/util/ArrayList -/
def k26 : Class := { plain "java/util/ArrayList" (some 24) with
  accessFlags := 33
  interfaces := #[23, 25, 15, 2]
  cf := some (fileOf pool26 10 #[.nestMembers #[290, 276, 500, 502, 262, 267]] #[{ accessFlags := 1, nameIndex := 5, descriptorIndex := 6, attributes := #[] }, { accessFlags := 2, nameIndex := 71, descriptorIndex := 72, attributes := #[] }, { accessFlags := 2, nameIndex := 71, descriptorIndex := 47, attributes := #[] }, { accessFlags := 1, nameIndex := 50, descriptorIndex := 186, attributes := #[] }, { accessFlags := 0, nameIndex := 13, descriptorIndex := 125, attributes := #[] }, { accessFlags := 1, nameIndex := 381, descriptorIndex := 125, attributes := #[] }, { accessFlags := 2, nameIndex := 133, descriptorIndex := 134, attributes := #[] }, { accessFlags := 1, nameIndex := 133, descriptorIndex := 96, attributes := #[] }] 33 2 #[148, 329, 331, 333] #[{ accessFlags := 26, nameIndex := 335, descriptorIndex := 336, attributes := #[] }, { accessFlags := 26, nameIndex := 340, descriptorIndex := 51, attributes := #[] }, { accessFlags := 26, nameIndex := 17, descriptorIndex := 14, attributes := #[] }, { accessFlags := 26, nameIndex := 41, descriptorIndex := 14, attributes := #[] }, { accessFlags := 128, nameIndex := 13, descriptorIndex := 14, attributes := #[] }, { accessFlags := 2, nameIndex := 50, descriptorIndex := 51, attributes := #[] }])
  fields := #[{ name := "serialVersionUID", type := .long, accessFlags := 26, slot := 0, constantValue := 0 }, { name := "DEFAULT_CAPACITY", type := .int, accessFlags := 26, slot := 1, constantValue := 0 }, { name := "EMPTY_ELEMENTDATA", type := (.array (.object "java/lang/Object")), accessFlags := 26, slot := 2, constantValue := 0 }, { name := "DEFAULTCAPACITY_EMPTY_ELEMENTDATA", type := (.array (.object "java/lang/Object")), accessFlags := 26, slot := 3, constantValue := 0 }, { name := "elementData", type := (.array (.object "java/lang/Object")), accessFlags := 128, slot := 1, constantValue := 0 }, { name := "size", type := .int, accessFlags := 2, slot := 2, constantValue := 0 }]
  methods := #[k26m0, k26m1, k26m2, k26m3, k26m4, k26m5, k26m6, k26m7]
  instanceTypes := #[.int, (.array (.object "java/lang/Object")), .int]
  staticTypes := #[.long, .int, (.array (.object "java/lang/Object")), (.array (.object "java/lang/Object"))]
  resolved := Array.replicate 509 none
  statics := some 2 }

def pool27 : Array CpInfo := pool [(2, .class_ 4), (1, u "java/lang/Object"), (0, u "<init>"), (0, u "()V"), (35, .class_ 44), (1, u "java/util/Objects"), (60, .methodref 106 107), (0, .class_ 108), (0, .nameAndType 109 110), (0, u "jdk/internal/util/Preconditions"), (0, u "checkIndex"), (0, u "(IILjava/util/function/BiFunction;)I"), (60, u "(II)I")] 12

def k27m0 : Method := { name := "<init>", desc := "()V", sig := { parameters := [], returnType := none }, accessFlags := 2, code := none }
def k27c1 : Code := { maxStack := 3, maxLocals := 2, code := jdk_31_method_17_code, exceptionTable := #[], attributes := #[] }
def k27m1 : Method := { name := "checkIndex", desc := "(II)I", sig := { parameters := [.int, .int], returnType := some .int }, accessFlags := 9, code := some k27c1 }
/-- java/util/Objects -/
def k27 : Class := { plain "java/util/Objects" (some 0) with
  accessFlags := 49
  interfaces := #[]
  cf := some (fileOf pool27 42 #[] #[{ accessFlags := 2, nameIndex := 5, descriptorIndex := 6, attributes := #[] }, { accessFlags := 9, nameIndex := 109, descriptorIndex := 171, attributes := #[] }] 49 2 #[] #[])
  fields := #[]
  methods := #[k27m0, k27m1]
  instanceTypes := #[]
  staticTypes := #[]
  resolved := Array.replicate 184 none
  statics := none }

def pool28 : Array CpInfo := pool [(1, .methodref 2 3), (0, .class_ 4), (0, .nameAndType 5 6), (0, u "java/lang/Object"), (0, u "<init>"), (0, u "()V"), (1, .class_ 10), (1, u "java/lang/Number"), (2, .class_ 14), (0, u "java/io/Serializable"), (0, u "serialVersionUID"), (0, u "J")] 20

def k28c0 : Code := { maxStack := 1, maxLocals := 1, code := jdk_18_method_1_code, exceptionTable := #[], attributes := #[] }
def k28m0 : Method := { name := "<init>", desc := "()V", sig := { parameters := [], returnType := none }, accessFlags := 1, code := some k28c0 }
/-- java/lang/Number -/
def k28 : Class := { plain "java/lang/Number" (some 0) with
  accessFlags := 1057
  interfaces := #[2]
  cf := some (fileOf pool28 8 #[] #[{ accessFlags := 1, nameIndex := 5, descriptorIndex := 6, attributes := #[] }] 1057 2 #[13] #[{ accessFlags := 26, nameIndex := 15, descriptorIndex := 16, attributes := #[] }])
  fields := #[{ name := "serialVersionUID", type := .long, accessFlags := 26, slot := 0, constantValue := 0 }]
  methods := #[k28m0]
  instanceTypes := #[]
  staticTypes := #[.long]
  resolved := Array.replicate 37 none
  statics := none }

def pool29 : Array CpInfo := pool [(1, .class_ 2), (0, u "java/lang/Integer"), (16, u "digits"), (0, u "[C"), (46, u "<init>"), (17, u "DigitOnes"), (0, u "[B"), (2, u "DigitTens"), (10, .nameAndType 67 101), (0, u "()V"), (85, u "valueOf"), (0, u "(I)Ljava/lang/Integer;"), (0, .class_ 190), (0, u "java/lang/Integer$IntegerCache"), (0, .fieldref 189 192), (0, .nameAndType 193 194), (0, u "high"), (0, u "I"), (0, .fieldref 189 196), (0, .nameAndType 197 198), (0, u "cache"), (0, u "[Ljava/lang/Integer;"), (0, .methodref 1 200), (0, .nameAndType 67 201), (0, u "(I)V"), (0, .methodref 203 100), (0, .class_ 204), (0, u "java/lang/Number"), (0, .fieldref 1 206), (0, .nameAndType 207 194), (0, u "value"), (94, u "TYPE"), (0, u "Ljava/lang/Class;"), (0, .class_ 305), (0, u "java/lang/Comparable"), (0, .class_ 307), (0, u "java/lang/constant/Constable"), (0, .class_ 309), (0, u "java/lang/constant/ConstantDesc"), (0, u "MIN_VALUE"), (1, u "MAX_VALUE"), (3, u "SIZE"), (1, u "BYTES"), (1, u "serialVersionUID"), (0, u "J")] 131

def k29c0 : Code := { maxStack := 3, maxLocals := 1, code := jdk_33_method_22_code, exceptionTable := #[], attributes := #[] }
def k29m0 : Method := { name := "valueOf", desc := "(I)Ljava/lang/Integer;", sig := { parameters := [.int], returnType := some (.object "java/lang/Integer") }, accessFlags := 9, code := some k29c0 }
def k29c1 : Code := { maxStack := 2, maxLocals := 2, code := jdk_33_method_23_code, exceptionTable := #[], attributes := #[] }
def k29m1 : Method := { name := "<init>", desc := "(I)V", sig := { parameters := [.int], returnType := none }, accessFlags := 1, code := some k29c1 }
/-- java/lang/Integer -/
def k29 : Class := { plain "java/lang/Integer" (some 28) with
  accessFlags := 49
  interfaces := #[3, 5, 6]
  cf := some (fileOf pool29 1 #[.nestMembers #[189]] #[{ accessFlags := 9, nameIndex := 187, descriptorIndex := 188, attributes := #[] }, { accessFlags := 1, nameIndex := 67, descriptorIndex := 201, attributes := #[] }] 49 203 #[304, 306, 308] #[{ accessFlags := 25, nameIndex := 310, descriptorIndex := 194, attributes := #[] }, { accessFlags := 25, nameIndex := 312, descriptorIndex := 194, attributes := #[] }, { accessFlags := 25, nameIndex := 302, descriptorIndex := 303, attributes := #[] }, { accessFlags := 24, nameIndex := 19, descriptorIndex := 20, attributes := #[] }, { accessFlags := 24, nameIndex := 89, descriptorIndex := 86, attributes := #[] }, { accessFlags := 24, nameIndex := 85, descriptorIndex := 86, attributes := #[] }, { accessFlags := 18, nameIndex := 207, descriptorIndex := 194, attributes := #[] }, { accessFlags := 25, nameIndex := 316, descriptorIndex := 194, attributes := #[] }, { accessFlags := 25, nameIndex := 318, descriptorIndex := 194, attributes := #[] }, { accessFlags := 26, nameIndex := 320, descriptorIndex := 321, attributes := #[] }])
  fields := #[{ name := "MIN_VALUE", type := .int, accessFlags := 25, slot := 0, constantValue := 0 }, { name := "MAX_VALUE", type := .int, accessFlags := 25, slot := 1, constantValue := 0 }, { name := "TYPE", type := (.object "java/lang/Class"), accessFlags := 25, slot := 2, constantValue := 0 }, { name := "digits", type := (.array .char), accessFlags := 24, slot := 3, constantValue := 0 }, { name := "DigitTens", type := (.array .byte), accessFlags := 24, slot := 4, constantValue := 0 }, { name := "DigitOnes", type := (.array .byte), accessFlags := 24, slot := 5, constantValue := 0 }, { name := "value", type := .int, accessFlags := 18, slot := 0, constantValue := 0 }, { name := "SIZE", type := .int, accessFlags := 25, slot := 6, constantValue := 0 }, { name := "BYTES", type := .int, accessFlags := 25, slot := 7, constantValue := 0 }, { name := "serialVersionUID", type := .long, accessFlags := 26, slot := 8, constantValue := 0 }]
  methods := #[k29m0, k29m1]
  instanceTypes := #[.int]
  staticTypes := #[.int, .int, (.object "java/lang/Class"), (.array .char), (.array .byte), (.array .byte), .int, .int, .long]
  resolved := Array.replicate 453 none
  statics := none }

def pool30 : Array CpInfo := pool [(2, .class_ 4), (1, u "java/lang/Object"), (0, u "<init>"), (0, u "()V"), (0, .class_ 8), (0, u "java/lang/Integer"), (7, .class_ 18), (1, u "java/lang/Integer$IntegerCache"), (0, u "$assertionsDisabled"), (0, u "Z"), (26, u "high"), (0, u "I"), (8, u "archivedCache"), (0, u "[Ljava/lang/Integer;"), (12, u "cache"), (0, u "low")] 27

def k30m0 : Method := { name := "<init>", desc := "()V", sig := { parameters := [], returnType := none }, accessFlags := 2, code := none }
/-- java/lang/Integer$IntegerCache -/
def k30 : Class := { plain "java/lang/Integer$IntegerCache" (some 0) with
  accessFlags := 48
  interfaces := #[]
  cf := some (fileOf pool30 16 #[.nestHost 7] #[{ accessFlags := 2, nameIndex := 5, descriptorIndex := 6, attributes := #[] }] 48 2 #[] #[{ accessFlags := 24, nameIndex := 72, descriptorIndex := 48, attributes := #[] }, { accessFlags := 24, nameIndex := 47, descriptorIndex := 48, attributes := #[] }, { accessFlags := 24, nameIndex := 71, descriptorIndex := 58, attributes := #[] }, { accessFlags := 8, nameIndex := 57, descriptorIndex := 58, attributes := #[] }, { accessFlags := 4120, nameIndex := 19, descriptorIndex := 20, attributes := #[] }])
  fields := #[{ name := "low", type := .int, accessFlags := 24, slot := 0, constantValue := 0 }, { name := "high", type := .int, accessFlags := 24, slot := 1, constantValue := 0 }, { name := "cache", type := (.array (.object "java/lang/Integer")), accessFlags := 24, slot := 2, constantValue := 0 }, { name := "archivedCache", type := (.array (.object "java/lang/Integer")), accessFlags := 8, slot := 3, constantValue := 0 }, { name := "$assertionsDisabled", type := .boolean, accessFlags := 4120, slot := 4, constantValue := 0 }]
  methods := #[k30m0]
  instanceTypes := #[]
  staticTypes := #[.int, .int, (.array (.object "java/lang/Integer")), (.array (.object "java/lang/Integer")), .boolean]
  resolved := Array.replicate 100 none
  statics := some 3 }

def pool31 : Array CpInfo := pool [(9, u "<init>"), (6, .class_ 18), (1, u "java/lang/Object"), (0, u "()V"), (1, .class_ 23), (1, u "jdk/internal/util/ArraysSupport"), (0, u "LOG2_ARRAY_LONG_INDEX_SCALE"), (0, u "I"), (2, u "U"), (0, u "Ljdk/internal/misc/Unsafe;"), (8, u "BIG_ENDIAN"), (0, u "Z"), (8, u "LOG2_BYTE_BIT_SIZE"), (4, u "LOG2_ARRAY_INT_INDEX_SCALE"), (54, u "JLA"), (0, u "Ljdk/internal/access/JavaLangAccess;"), (11, u "LOG2_ARRAY_BOOLEAN_INDEX_SCALE"), (9, u "LOG2_ARRAY_BYTE_INDEX_SCALE"), (5, u "LOG2_ARRAY_CHAR_INDEX_SCALE"), (5, u "LOG2_ARRAY_SHORT_INDEX_SCALE"), (18, u "LOG2_ARRAY_FLOAT_INDEX_SCALE"), (24, u "LOG2_ARRAY_DOUBLE_INDEX_SCALE"), (89, u "T_BOOLEAN"), (2, u "T_CHAR"), (1, u "T_FLOAT"), (1, u "T_DOUBLE"), (1, u "T_BYTE"), (1, u "T_SHORT"), (1, u "T_INT"), (1, u "T_LONG"), (1, u "SOFT_MAX_ARRAY_LENGTH")] 83

def k31m0 : Method := { name := "<init>", desc := "()V", sig := { parameters := [], returnType := none }, accessFlags := 2, code := none }
/-- jdk/internal/util/ArraysSupport -/
def k31 : Class := { plain "jdk/internal/util/ArraysSupport" (some 0) with
  accessFlags := 33
  interfaces := #[]
  cf := some (fileOf pool31 21 #[] #[{ accessFlags := 2, nameIndex := 9, descriptorIndex := 19, attributes := #[] }] 33 16 #[] #[{ accessFlags := 24, nameIndex := 28, descriptorIndex := 29, attributes := #[] }, { accessFlags := 26, nameIndex := 38, descriptorIndex := 39, attributes := #[] }, { accessFlags := 25, nameIndex := 121, descriptorIndex := 25, attributes := #[] }, { accessFlags := 25, nameIndex := 131, descriptorIndex := 25, attributes := #[] }, { accessFlags := 25, nameIndex := 137, descriptorIndex := 25, attributes := #[] }, { accessFlags := 25, nameIndex := 143, descriptorIndex := 25, attributes := #[] }, { accessFlags := 25, nameIndex := 53, descriptorIndex := 25, attributes := #[] }, { accessFlags := 25, nameIndex := 24, descriptorIndex := 25, attributes := #[] }, { accessFlags := 25, nameIndex := 162, descriptorIndex := 25, attributes := #[] }, { accessFlags := 25, nameIndex := 187, descriptorIndex := 25, attributes := #[] }, { accessFlags := 26, nameIndex := 48, descriptorIndex := 25, attributes := #[] }, { accessFlags := 25, nameIndex := 277, descriptorIndex := 25, attributes := #[] }, { accessFlags := 25, nameIndex := 280, descriptorIndex := 25, attributes := #[] }, { accessFlags := 25, nameIndex := 282, descriptorIndex := 25, attributes := #[] }, { accessFlags := 25, nameIndex := 284, descriptorIndex := 25, attributes := #[] }, { accessFlags := 25, nameIndex := 286, descriptorIndex := 25, attributes := #[] }, { accessFlags := 25, nameIndex := 288, descriptorIndex := 25, attributes := #[] }, { accessFlags := 25, nameIndex := 290, descriptorIndex := 25, attributes := #[] }, { accessFlags := 25, nameIndex := 292, descriptorIndex := 25, attributes := #[] }, { accessFlags := 26, nameIndex := 108, descriptorIndex := 109, attributes := #[] }, { accessFlags := 25, nameIndex := 294, descriptorIndex := 25, attributes := #[] }])
  fields := #[{ name := "U", type := (.object "jdk/internal/misc/Unsafe"), accessFlags := 24, slot := 0, constantValue := 0 }, { name := "BIG_ENDIAN", type := .boolean, accessFlags := 26, slot := 1, constantValue := 0 }, { name := "LOG2_ARRAY_BOOLEAN_INDEX_SCALE", type := .int, accessFlags := 25, slot := 2, constantValue := 0 }, { name := "LOG2_ARRAY_BYTE_INDEX_SCALE", type := .int, accessFlags := 25, slot := 3, constantValue := 0 }, { name := "LOG2_ARRAY_CHAR_INDEX_SCALE", type := .int, accessFlags := 25, slot := 4, constantValue := 0 }, { name := "LOG2_ARRAY_SHORT_INDEX_SCALE", type := .int, accessFlags := 25, slot := 5, constantValue := 0 }, { name := "LOG2_ARRAY_INT_INDEX_SCALE", type := .int, accessFlags := 25, slot := 6, constantValue := 0 }, { name := "LOG2_ARRAY_LONG_INDEX_SCALE", type := .int, accessFlags := 25, slot := 7, constantValue := 0 }, { name := "LOG2_ARRAY_FLOAT_INDEX_SCALE", type := .int, accessFlags := 25, slot := 8, constantValue := 0 }, { name := "LOG2_ARRAY_DOUBLE_INDEX_SCALE", type := .int, accessFlags := 25, slot := 9, constantValue := 0 }, { name := "LOG2_BYTE_BIT_SIZE", type := .int, accessFlags := 26, slot := 10, constantValue := 0 }, { name := "T_BOOLEAN", type := .int, accessFlags := 25, slot := 11, constantValue := 0 }, { name := "T_CHAR", type := .int, accessFlags := 25, slot := 12, constantValue := 0 }, { name := "T_FLOAT", type := .int, accessFlags := 25, slot := 13, constantValue := 0 }, { name := "T_DOUBLE", type := .int, accessFlags := 25, slot := 14, constantValue := 0 }, { name := "T_BYTE", type := .int, accessFlags := 25, slot := 15, constantValue := 0 }, { name := "T_SHORT", type := .int, accessFlags := 25, slot := 16, constantValue := 0 }, { name := "T_INT", type := .int, accessFlags := 25, slot := 17, constantValue := 0 }, { name := "T_LONG", type := .int, accessFlags := 25, slot := 18, constantValue := 0 }, { name := "JLA", type := (.object "jdk/internal/access/JavaLangAccess"), accessFlags := 26, slot := 19, constantValue := 0 }, { name := "SOFT_MAX_ARRAY_LENGTH", type := .int, accessFlags := 25, slot := 20, constantValue := 0 }]
  methods := #[k31m0]
  instanceTypes := #[]
  staticTypes := #[(.object "jdk/internal/misc/Unsafe"), .boolean, .int, .int, .int, .int, .int, .int, .int, .int, .int, .int, .int, .int, .int, .int, .int, .int, .int, (.object "jdk/internal/access/JavaLangAccess"), .int]
  resolved := Array.replicate 378 none
  statics := none }

/-- the primitive byte -/
def k32 : Class := { plain "byte" none with kind := .primitive 'B', accessFlags := 0x411 }
/-- [B -/
def k33 : Class := { plain "[B" (some 0) with kind := .array 32 .byte, interfaces := #[15, 2], accessFlags := 1041 }

/-- [Ljava/lang/Integer; -/
def k34 : Class := { plain "[Ljava/lang/Integer;" (some 0) with kind := .array 29 (.object "java/lang/Integer"), interfaces := #[15, 2], accessFlags := 1041 }

/-- [Ljava/lang/Object; -/
def k35 : Class := { plain "[Ljava/lang/Object;" (some 0) with kind := .array 0 (.object "java/lang/Object"), interfaces := #[15, 2], accessFlags := 1041 }

def heap : Heap := #[{ cls := 7, slots := #[.long 0, .int 1, .null, .int 0, .null, .int 0, .int 0], vm := .statics 7 },
  { cls := 11, slots := #[.null, .null, .null], vm := .statics 11 },
  { cls := 26, slots := #[.long 0, .int 0, .ref 5, .ref 4], vm := .statics 26 },
  { cls := 30, slots := #[.int 0, .int 127, .ref 6, .null, .int 0], vm := .statics 30 },
  { cls := 35, slots := #[], vm := .none },
  { cls := 35, slots := #[], vm := .none },
  { cls := 34, slots := #[.ref 7, .ref 8, .ref 9, .ref 10, .ref 11, .ref 12, .ref 13, .ref 14, .ref 15, .ref 16, .ref 17, .ref 18, .ref 19, .ref 20, .ref 21, .ref 22, .ref 23, .ref 24, .ref 25, .ref 26, .ref 27, .ref 28, .ref 29, .ref 30, .ref 31, .ref 32, .ref 33, .ref 34, .ref 35, .ref 36, .ref 37, .ref 38, .ref 39, .ref 40, .ref 41, .ref 42, .ref 43, .ref 44, .ref 45, .ref 46, .ref 47, .ref 48, .ref 49, .ref 50, .ref 51, .ref 52, .ref 53, .ref 54, .ref 55, .ref 56, .ref 57, .ref 58, .ref 59, .ref 60, .ref 61, .ref 62, .ref 63, .ref 64, .ref 65, .ref 66, .ref 67, .ref 68, .ref 69, .ref 70, .ref 71, .ref 72, .ref 73, .ref 74, .ref 75, .ref 76, .ref 77, .ref 78, .ref 79, .ref 80, .ref 81, .ref 82, .ref 83, .ref 84, .ref 85, .ref 86, .ref 87, .ref 88, .ref 89, .ref 90, .ref 91, .ref 92, .ref 93, .ref 94, .ref 95, .ref 96, .ref 97, .ref 98, .ref 99, .ref 100, .ref 101, .ref 102, .ref 103, .ref 104, .ref 105, .ref 106, .ref 107, .ref 108, .ref 109, .ref 110, .ref 111, .ref 112, .ref 113, .ref 114, .ref 115, .ref 116, .ref 117, .ref 118, .ref 119, .ref 120, .ref 121, .ref 122, .ref 123, .ref 124, .ref 125, .ref 126, .ref 127, .ref 128, .ref 129, .ref 130, .ref 131, .ref 132, .ref 133, .ref 134, .ref 135, .ref 136, .ref 137, .ref 138, .ref 139, .ref 140, .ref 141, .ref 142, .ref 143, .ref 144, .ref 145, .ref 146, .ref 147, .ref 148, .ref 149, .ref 150, .ref 151, .ref 152, .ref 153, .ref 154, .ref 155, .ref 156, .ref 157, .ref 158, .ref 159, .ref 160, .ref 161, .ref 162, .ref 163, .ref 164, .ref 165, .ref 166, .ref 167, .ref 168, .ref 169, .ref 170, .ref 171, .ref 172, .ref 173, .ref 174, .ref 175, .ref 176, .ref 177, .ref 178, .ref 179, .ref 180, .ref 181, .ref 182, .ref 183, .ref 184, .ref 185, .ref 186, .ref 187, .ref 188, .ref 189, .ref 190, .ref 191, .ref 192, .ref 193, .ref 194, .ref 195, .ref 196, .ref 197, .ref 198, .ref 199, .ref 200, .ref 201, .ref 202, .ref 203, .ref 204, .ref 205, .ref 206, .ref 207, .ref 208, .ref 209, .ref 210, .ref 211, .ref 212, .ref 213, .ref 214, .ref 215, .ref 216, .ref 217, .ref 218, .ref 219, .ref 220, .ref 221, .ref 222, .ref 223, .ref 224, .ref 225, .ref 226, .ref 227, .ref 228, .ref 229, .ref 230, .ref 231, .ref 232, .ref 233, .ref 234, .ref 235, .ref 236, .ref 237, .ref 238, .ref 239, .ref 240, .ref 241, .ref 242, .ref 243, .ref 244, .ref 245, .ref 246, .ref 247, .ref 248, .ref 249, .ref 250, .ref 251, .ref 252, .ref 253, .ref 254, .ref 255, .ref 256, .ref 257, .ref 258, .ref 259, .ref 260, .ref 261, .ref 262], vm := .none },
  { cls := 29, slots := #[.int (-128)], vm := .none },
  { cls := 29, slots := #[.int (-127)], vm := .none },
  { cls := 29, slots := #[.int (-126)], vm := .none },
  { cls := 29, slots := #[.int (-125)], vm := .none },
  { cls := 29, slots := #[.int (-124)], vm := .none },
  { cls := 29, slots := #[.int (-123)], vm := .none },
  { cls := 29, slots := #[.int (-122)], vm := .none },
  { cls := 29, slots := #[.int (-121)], vm := .none },
  { cls := 29, slots := #[.int (-120)], vm := .none },
  { cls := 29, slots := #[.int (-119)], vm := .none },
  { cls := 29, slots := #[.int (-118)], vm := .none },
  { cls := 29, slots := #[.int (-117)], vm := .none },
  { cls := 29, slots := #[.int (-116)], vm := .none },
  { cls := 29, slots := #[.int (-115)], vm := .none },
  { cls := 29, slots := #[.int (-114)], vm := .none },
  { cls := 29, slots := #[.int (-113)], vm := .none },
  { cls := 29, slots := #[.int (-112)], vm := .none },
  { cls := 29, slots := #[.int (-111)], vm := .none },
  { cls := 29, slots := #[.int (-110)], vm := .none },
  { cls := 29, slots := #[.int (-109)], vm := .none },
  { cls := 29, slots := #[.int (-108)], vm := .none },
  { cls := 29, slots := #[.int (-107)], vm := .none },
  { cls := 29, slots := #[.int (-106)], vm := .none },
  { cls := 29, slots := #[.int (-105)], vm := .none },
  { cls := 29, slots := #[.int (-104)], vm := .none },
  { cls := 29, slots := #[.int (-103)], vm := .none },
  { cls := 29, slots := #[.int (-102)], vm := .none },
  { cls := 29, slots := #[.int (-101)], vm := .none },
  { cls := 29, slots := #[.int (-100)], vm := .none },
  { cls := 29, slots := #[.int (-99)], vm := .none },
  { cls := 29, slots := #[.int (-98)], vm := .none },
  { cls := 29, slots := #[.int (-97)], vm := .none },
  { cls := 29, slots := #[.int (-96)], vm := .none },
  { cls := 29, slots := #[.int (-95)], vm := .none },
  { cls := 29, slots := #[.int (-94)], vm := .none },
  { cls := 29, slots := #[.int (-93)], vm := .none },
  { cls := 29, slots := #[.int (-92)], vm := .none },
  { cls := 29, slots := #[.int (-91)], vm := .none },
  { cls := 29, slots := #[.int (-90)], vm := .none },
  { cls := 29, slots := #[.int (-89)], vm := .none },
  { cls := 29, slots := #[.int (-88)], vm := .none },
  { cls := 29, slots := #[.int (-87)], vm := .none },
  { cls := 29, slots := #[.int (-86)], vm := .none },
  { cls := 29, slots := #[.int (-85)], vm := .none },
  { cls := 29, slots := #[.int (-84)], vm := .none },
  { cls := 29, slots := #[.int (-83)], vm := .none },
  { cls := 29, slots := #[.int (-82)], vm := .none },
  { cls := 29, slots := #[.int (-81)], vm := .none },
  { cls := 29, slots := #[.int (-80)], vm := .none },
  { cls := 29, slots := #[.int (-79)], vm := .none },
  { cls := 29, slots := #[.int (-78)], vm := .none },
  { cls := 29, slots := #[.int (-77)], vm := .none },
  { cls := 29, slots := #[.int (-76)], vm := .none },
  { cls := 29, slots := #[.int (-75)], vm := .none },
  { cls := 29, slots := #[.int (-74)], vm := .none },
  { cls := 29, slots := #[.int (-73)], vm := .none },
  { cls := 29, slots := #[.int (-72)], vm := .none },
  { cls := 29, slots := #[.int (-71)], vm := .none },
  { cls := 29, slots := #[.int (-70)], vm := .none },
  { cls := 29, slots := #[.int (-69)], vm := .none },
  { cls := 29, slots := #[.int (-68)], vm := .none },
  { cls := 29, slots := #[.int (-67)], vm := .none },
  { cls := 29, slots := #[.int (-66)], vm := .none },
  { cls := 29, slots := #[.int (-65)], vm := .none },
  { cls := 29, slots := #[.int (-64)], vm := .none },
  { cls := 29, slots := #[.int (-63)], vm := .none },
  { cls := 29, slots := #[.int (-62)], vm := .none },
  { cls := 29, slots := #[.int (-61)], vm := .none },
  { cls := 29, slots := #[.int (-60)], vm := .none },
  { cls := 29, slots := #[.int (-59)], vm := .none },
  { cls := 29, slots := #[.int (-58)], vm := .none },
  { cls := 29, slots := #[.int (-57)], vm := .none },
  { cls := 29, slots := #[.int (-56)], vm := .none },
  { cls := 29, slots := #[.int (-55)], vm := .none },
  { cls := 29, slots := #[.int (-54)], vm := .none },
  { cls := 29, slots := #[.int (-53)], vm := .none },
  { cls := 29, slots := #[.int (-52)], vm := .none },
  { cls := 29, slots := #[.int (-51)], vm := .none },
  { cls := 29, slots := #[.int (-50)], vm := .none },
  { cls := 29, slots := #[.int (-49)], vm := .none },
  { cls := 29, slots := #[.int (-48)], vm := .none },
  { cls := 29, slots := #[.int (-47)], vm := .none },
  { cls := 29, slots := #[.int (-46)], vm := .none },
  { cls := 29, slots := #[.int (-45)], vm := .none },
  { cls := 29, slots := #[.int (-44)], vm := .none },
  { cls := 29, slots := #[.int (-43)], vm := .none },
  { cls := 29, slots := #[.int (-42)], vm := .none },
  { cls := 29, slots := #[.int (-41)], vm := .none },
  { cls := 29, slots := #[.int (-40)], vm := .none },
  { cls := 29, slots := #[.int (-39)], vm := .none },
  { cls := 29, slots := #[.int (-38)], vm := .none },
  { cls := 29, slots := #[.int (-37)], vm := .none },
  { cls := 29, slots := #[.int (-36)], vm := .none },
  { cls := 29, slots := #[.int (-35)], vm := .none },
  { cls := 29, slots := #[.int (-34)], vm := .none },
  { cls := 29, slots := #[.int (-33)], vm := .none },
  { cls := 29, slots := #[.int (-32)], vm := .none },
  { cls := 29, slots := #[.int (-31)], vm := .none },
  { cls := 29, slots := #[.int (-30)], vm := .none },
  { cls := 29, slots := #[.int (-29)], vm := .none },
  { cls := 29, slots := #[.int (-28)], vm := .none },
  { cls := 29, slots := #[.int (-27)], vm := .none },
  { cls := 29, slots := #[.int (-26)], vm := .none },
  { cls := 29, slots := #[.int (-25)], vm := .none },
  { cls := 29, slots := #[.int (-24)], vm := .none },
  { cls := 29, slots := #[.int (-23)], vm := .none },
  { cls := 29, slots := #[.int (-22)], vm := .none },
  { cls := 29, slots := #[.int (-21)], vm := .none },
  { cls := 29, slots := #[.int (-20)], vm := .none },
  { cls := 29, slots := #[.int (-19)], vm := .none },
  { cls := 29, slots := #[.int (-18)], vm := .none },
  { cls := 29, slots := #[.int (-17)], vm := .none },
  { cls := 29, slots := #[.int (-16)], vm := .none },
  { cls := 29, slots := #[.int (-15)], vm := .none },
  { cls := 29, slots := #[.int (-14)], vm := .none },
  { cls := 29, slots := #[.int (-13)], vm := .none },
  { cls := 29, slots := #[.int (-12)], vm := .none },
  { cls := 29, slots := #[.int (-11)], vm := .none },
  { cls := 29, slots := #[.int (-10)], vm := .none },
  { cls := 29, slots := #[.int (-9)], vm := .none },
  { cls := 29, slots := #[.int (-8)], vm := .none },
  { cls := 29, slots := #[.int (-7)], vm := .none },
  { cls := 29, slots := #[.int (-6)], vm := .none },
  { cls := 29, slots := #[.int (-5)], vm := .none },
  { cls := 29, slots := #[.int (-4)], vm := .none },
  { cls := 29, slots := #[.int (-3)], vm := .none },
  { cls := 29, slots := #[.int (-2)], vm := .none },
  { cls := 29, slots := #[.int (-1)], vm := .none },
  { cls := 29, slots := #[.int 0], vm := .none },
  { cls := 29, slots := #[.int 1], vm := .none },
  { cls := 29, slots := #[.int 2], vm := .none },
  { cls := 29, slots := #[.int 3], vm := .none },
  { cls := 29, slots := #[.int 4], vm := .none },
  { cls := 29, slots := #[.int 5], vm := .none },
  { cls := 29, slots := #[.int 6], vm := .none },
  { cls := 29, slots := #[.int 7], vm := .none },
  { cls := 29, slots := #[.int 8], vm := .none },
  { cls := 29, slots := #[.int 9], vm := .none },
  { cls := 29, slots := #[.int 10], vm := .none },
  { cls := 29, slots := #[.int 11], vm := .none },
  { cls := 29, slots := #[.int 12], vm := .none },
  { cls := 29, slots := #[.int 13], vm := .none },
  { cls := 29, slots := #[.int 14], vm := .none },
  { cls := 29, slots := #[.int 15], vm := .none },
  { cls := 29, slots := #[.int 16], vm := .none },
  { cls := 29, slots := #[.int 17], vm := .none },
  { cls := 29, slots := #[.int 18], vm := .none },
  { cls := 29, slots := #[.int 19], vm := .none },
  { cls := 29, slots := #[.int 20], vm := .none },
  { cls := 29, slots := #[.int 21], vm := .none },
  { cls := 29, slots := #[.int 22], vm := .none },
  { cls := 29, slots := #[.int 23], vm := .none },
  { cls := 29, slots := #[.int 24], vm := .none },
  { cls := 29, slots := #[.int 25], vm := .none },
  { cls := 29, slots := #[.int 26], vm := .none },
  { cls := 29, slots := #[.int 27], vm := .none },
  { cls := 29, slots := #[.int 28], vm := .none },
  { cls := 29, slots := #[.int 29], vm := .none },
  { cls := 29, slots := #[.int 30], vm := .none },
  { cls := 29, slots := #[.int 31], vm := .none },
  { cls := 29, slots := #[.int 32], vm := .none },
  { cls := 29, slots := #[.int 33], vm := .none },
  { cls := 29, slots := #[.int 34], vm := .none },
  { cls := 29, slots := #[.int 35], vm := .none },
  { cls := 29, slots := #[.int 36], vm := .none },
  { cls := 29, slots := #[.int 37], vm := .none },
  { cls := 29, slots := #[.int 38], vm := .none },
  { cls := 29, slots := #[.int 39], vm := .none },
  { cls := 29, slots := #[.int 40], vm := .none },
  { cls := 29, slots := #[.int 41], vm := .none },
  { cls := 29, slots := #[.int 42], vm := .none },
  { cls := 29, slots := #[.int 43], vm := .none },
  { cls := 29, slots := #[.int 44], vm := .none },
  { cls := 29, slots := #[.int 45], vm := .none },
  { cls := 29, slots := #[.int 46], vm := .none },
  { cls := 29, slots := #[.int 47], vm := .none },
  { cls := 29, slots := #[.int 48], vm := .none },
  { cls := 29, slots := #[.int 49], vm := .none },
  { cls := 29, slots := #[.int 50], vm := .none },
  { cls := 29, slots := #[.int 51], vm := .none },
  { cls := 29, slots := #[.int 52], vm := .none },
  { cls := 29, slots := #[.int 53], vm := .none },
  { cls := 29, slots := #[.int 54], vm := .none },
  { cls := 29, slots := #[.int 55], vm := .none },
  { cls := 29, slots := #[.int 56], vm := .none },
  { cls := 29, slots := #[.int 57], vm := .none },
  { cls := 29, slots := #[.int 58], vm := .none },
  { cls := 29, slots := #[.int 59], vm := .none },
  { cls := 29, slots := #[.int 60], vm := .none },
  { cls := 29, slots := #[.int 61], vm := .none },
  { cls := 29, slots := #[.int 62], vm := .none },
  { cls := 29, slots := #[.int 63], vm := .none },
  { cls := 29, slots := #[.int 64], vm := .none },
  { cls := 29, slots := #[.int 65], vm := .none },
  { cls := 29, slots := #[.int 66], vm := .none },
  { cls := 29, slots := #[.int 67], vm := .none },
  { cls := 29, slots := #[.int 68], vm := .none },
  { cls := 29, slots := #[.int 69], vm := .none },
  { cls := 29, slots := #[.int 70], vm := .none },
  { cls := 29, slots := #[.int 71], vm := .none },
  { cls := 29, slots := #[.int 72], vm := .none },
  { cls := 29, slots := #[.int 73], vm := .none },
  { cls := 29, slots := #[.int 74], vm := .none },
  { cls := 29, slots := #[.int 75], vm := .none },
  { cls := 29, slots := #[.int 76], vm := .none },
  { cls := 29, slots := #[.int 77], vm := .none },
  { cls := 29, slots := #[.int 78], vm := .none },
  { cls := 29, slots := #[.int 79], vm := .none },
  { cls := 29, slots := #[.int 80], vm := .none },
  { cls := 29, slots := #[.int 81], vm := .none },
  { cls := 29, slots := #[.int 82], vm := .none },
  { cls := 29, slots := #[.int 83], vm := .none },
  { cls := 29, slots := #[.int 84], vm := .none },
  { cls := 29, slots := #[.int 85], vm := .none },
  { cls := 29, slots := #[.int 86], vm := .none },
  { cls := 29, slots := #[.int 87], vm := .none },
  { cls := 29, slots := #[.int 88], vm := .none },
  { cls := 29, slots := #[.int 89], vm := .none },
  { cls := 29, slots := #[.int 90], vm := .none },
  { cls := 29, slots := #[.int 91], vm := .none },
  { cls := 29, slots := #[.int 92], vm := .none },
  { cls := 29, slots := #[.int 93], vm := .none },
  { cls := 29, slots := #[.int 94], vm := .none },
  { cls := 29, slots := #[.int 95], vm := .none },
  { cls := 29, slots := #[.int 96], vm := .none },
  { cls := 29, slots := #[.int 97], vm := .none },
  { cls := 29, slots := #[.int 98], vm := .none },
  { cls := 29, slots := #[.int 99], vm := .none },
  { cls := 29, slots := #[.int 100], vm := .none },
  { cls := 29, slots := #[.int 101], vm := .none },
  { cls := 29, slots := #[.int 102], vm := .none },
  { cls := 29, slots := #[.int 103], vm := .none },
  { cls := 29, slots := #[.int 104], vm := .none },
  { cls := 29, slots := #[.int 105], vm := .none },
  { cls := 29, slots := #[.int 106], vm := .none },
  { cls := 29, slots := #[.int 107], vm := .none },
  { cls := 29, slots := #[.int 108], vm := .none },
  { cls := 29, slots := #[.int 109], vm := .none },
  { cls := 29, slots := #[.int 110], vm := .none },
  { cls := 29, slots := #[.int 111], vm := .none },
  { cls := 29, slots := #[.int 112], vm := .none },
  { cls := 29, slots := #[.int 113], vm := .none },
  { cls := 29, slots := #[.int 114], vm := .none },
  { cls := 29, slots := #[.int 115], vm := .none },
  { cls := 29, slots := #[.int 116], vm := .none },
  { cls := 29, slots := #[.int 117], vm := .none },
  { cls := 29, slots := #[.int 118], vm := .none },
  { cls := 29, slots := #[.int 119], vm := .none },
  { cls := 29, slots := #[.int 120], vm := .none },
  { cls := 29, slots := #[.int 121], vm := .none },
  { cls := 29, slots := #[.int 122], vm := .none },
  { cls := 29, slots := #[.int 123], vm := .none },
  { cls := 29, slots := #[.int 124], vm := .none },
  { cls := 29, slots := #[.int 125], vm := .none },
  { cls := 29, slots := #[.int 126], vm := .none },
  { cls := 29, slots := #[.int 127], vm := .none }]
def classes : Array Class := #[k0, k1, k2, k3, k4, k5, k6, k7, k8, k9, k10, k11, k12, k13, k14, k15, k16, k17, k18, k19, k20, k21, k22, k23, k24, k25, k26, k27, k28, k29, k30, k31, k32, k33, k34, k35]
def interned : List (Array UInt16 × Addr) := []
def slotsUsed : Nat := 531
def theMethod : MethodId := ⟨1, 1⟩
def args0 : Array Value := #[.int 5, .int 5, .int 5, .int 5]
def aboutOver (below : List Frame) : State where
  vm := { classes := classes, interned := interned.toArray }
  heap := heap
  slotsUsed := slotsUsed
  threads := #[{ frames := .invoking theMethod args0 :: below }]
def below0 : List Frame := [.native { method := ⟨0, 0⟩, args := #[] }]
def about1 : State := aboutOver below0
def p0 : Program := .bare "" "" ""
def e0 : Env := launch0.env 0 0 0
theorem w_frames : about1.frames = Frame.invoking theMethod args0 :: below0 := rfl
set_option maxRecDepth 65536 in
theorem w_args : argsFit about1.vm theMethod args0 = true := by decide +kernel
set_option maxRecDepth 65536 in
theorem w_heap : heapFits about1 = true := by decide +kernel
set_option maxRecDepth 65536 in
theorem w_runnable : about1.curStatus? = some .runnable := by decide +kernel
set_option maxRecDepth 65536 in
theorem w_alone : about1.alone = true := by decide +kernel
set_option maxRecDepth 65536 in
theorem w_named : about1.methodNamed? x = some theMethod := by decide +kernel
set_option maxRecDepth 65536 in
theorem w_hears : about1.hears theMethod below0 = true := by decide +kernel
set_option maxRecDepth 65536 in
theorem w_ripe : about1.ripe theMethod args0 below0 = true := by decide +kernel
theorem w_running : about1.status = .running := rfl
set_option maxRecDepth 65536 in
theorem w_room : about1.hasRoom e0.platform room_1 = true :=
  launch0.hasRoom_least _ room_1 (by decide +kernel) (by decide +kernel) (by decide +kernel) (by decide +kernel) (by decide +kernel) (by decide +kernel)
theorem allAtoms_all (ts : List Jvm.Cond) (a : Array Jvm.Value) (st : Jvm.State) : (allAtoms ts).before a st = ts.all (fun c => c.before a st) := by
  induction ts with
  | nil => rfl
  | cons c t ih =>
    show (Jvm.Cond.and c (allAtoms t)).before a st = _
    rw [Jvm.Cond.before_and, ih, List.all_cons]
def words1 : List Jvm.Cond := Jvm.Cond.code x code maxLocals ret :: tables_1
/-- a 'code' word, met by the world's own term for the bytes: nothing is compared byte by byte -/
theorem code_word {y : MethodName} {bytes : ByteArray} {mx : Nat} {rt : Option FieldType} {a : Array Value} {s : State} {m : MethodId} {meth : Method} {c : Code} (h1 : s.methodNamed? y = some m) (h2 : s.vm.method? m = some meth) (h3 : meth.code = some c) (h4 : c.code = bytes)
    (h5 : (c.maxLocals == mx && c.exceptionTable.isEmpty && decide (c.maxStack ≤ mostOperands) && decide (meth.sig.returnType = rt) && !meth.locks && decide (parseMethodDescriptor y.desc = some meth.sig)) = true) : (Jvm.Cond.code y bytes mx rt).before a s = true := by
  simp only [Bool.and_eq_true, beq_iff_eq, Bool.not_eq_true', decide_eq_true_eq] at h5
  obtain ⟨⟨⟨⟨⟨g1, g2⟩, g3⟩, g4⟩, g5⟩, g6⟩ := h5
  simp [Cond.before, Cond.holds, Cond.value, h1, h2, h3, h4, g1, g2, g3, g4, g5, g6]
def isCode : Jvm.Cond → Bool
  | .code _ _ _ _ => true
  | _ => false
theorem all_split {L : List Jvm.Cond} {P : Jvm.Cond → Bool} (h1 : L.all (fun c => isCode c || P c) = true) (h2 : ∀ c ∈ L.filter isCode, P c = true) : L.all P = true := by
  refine List.all_eq_true.mpr fun c hc => ?_
  have h := List.all_eq_true.mp h1 c hc
  rcases Bool.eq_false_or_eq_true (isCode c) with hi | hi
  · exact h2 c (List.mem_filter.mpr ⟨hc, hi⟩)
  · simpa [hi] using h
set_option maxRecDepth 65536 in
theorem w_c0 : (Jvm.Cond.code x code maxLocals ret).before args0 about1 = true := code_word (m := ⟨1, 1⟩) (meth := k1m1) (c := k1c1) (by decide +kernel) rfl rfl rfl (by decide +kernel)
set_option maxRecDepth 65536 in
theorem w_c1 : (Jvm.Cond.code ({ cls := "com/example/latchwork/latchwork/etcd/Json", name := "parseObject", desc := "(Ljava/lang/String;)Ljava/util/Map;" } : Jvm.MethodName) prog_16_method_2_code (3 : Nat) (Option.some (Jvm.ClassFile.FieldType.object "java/util/Map"))).before args0 about1 = true := code_word (m := ⟨8, 1⟩) (meth := k8m1) (c := k8c1) (by decide +kernel) rfl rfl rfl (by decide +kernel)
set_option maxRecDepth 65536 in
theorem w_c2 : (Jvm.Cond.code ({ cls := "com/example/latchwork/latchwork/etcd/Json$Reader", name := "<init>", desc := "(Ljava/lang/String;)V" } : Jvm.MethodName) prog_17_method_1_code (2 : Nat) (Option.none : Option Jvm.ClassFile.FieldType)).before args0 about1 = true := code_word (m := ⟨9, 0⟩) (meth := k9m0) (c := k9c0) (by decide +kernel) rfl rfl rfl (by decide +kernel)
set_option maxRecDepth 65536 in
theorem w_c3 : (Jvm.Cond.code ({ cls := "java/lang/Object", name := "<init>", desc := "()V" } : Jvm.MethodName) object_method_1_code (1 : Nat) (Option.none : Option Jvm.ClassFile.FieldType)).before args0 about1 = true := code_word (m := ⟨0, 0⟩) (meth := k0m0) (c := k0c0) (by decide +kernel) rfl rfl rfl (by decide +kernel)
set_option maxRecDepth 65536 in
theorem w_c4 : (Jvm.Cond.code ({ cls := "com/example/latchwork/latchwork/etcd/Json$Reader", name := "value", desc := "(I)Ljava/lang/Object;" } : Jvm.MethodName) prog_17_method_2_code (4 : Nat) (Option.some (Jvm.ClassFile.FieldType.object "java/lang/Object"))).before args0 about1 = true := code_word (m := ⟨9, 1⟩) (meth := k9m1) (c := k9c1) (by decide +kernel) rfl rfl rfl (by decide +kernel)
set_option maxRecDepth 65536 in
theorem w_c5 : (Jvm.Cond.code ({ cls := "com/example/latchwork/latchwork/etcd/Json$Reader", name := "skipSpace", desc := "()V" } : Jvm.MethodName) prog_17_method_11_code (1 : Nat) (Option.none : Option Jvm.ClassFile.FieldType)).before args0 about1 = true := code_word (m := ⟨9, 4⟩) (meth := k9m4) (c := k9c4) (by decide +kernel) rfl rfl rfl (by decide +kernel)
set_option maxRecDepth 65536 in
theorem w_c6 : (Jvm.Cond.code ({ cls := "java/lang/String", name := "length", desc := "()I" } : Jvm.MethodName) jdk_42_method_54_code (1 : Nat) (Option.some Jvm.ClassFile.FieldType.int)).before args0 about1 = true := code_word (m := ⟨7, 1⟩) (meth := k7m1) (c := k7c1) (by decide +kernel) rfl rfl rfl (by decide +kernel)
set_option maxRecDepth 65536 in
theorem w_c7 : (Jvm.Cond.code ({ cls := "java/lang/String", name := "coder", desc := "()B" } : Jvm.MethodName) jdk_42_method_152_code (1 : Nat) (Option.some Jvm.ClassFile.FieldType.byte)).before args0 about1 = true := code_word (m := ⟨7, 5⟩) (meth := k7m5) (c := k7c5) (by decide +kernel) rfl rfl rfl (by decide +kernel)
set_option maxRecDepth 65536 in
theorem w_c8 : (Jvm.Cond.code ({ cls := "java/lang/String", name := "charAt", desc := "(I)C" } : Jvm.MethodName) jdk_42_method_56_code (2 : Nat) (Option.some Jvm.ClassFile.FieldType.char)).before args0 about1 = true := code_word (m := ⟨7, 2⟩) (meth := k7m2) (c := k7c2) (by decide +kernel) rfl rfl rfl (by decide +kernel)
set_option maxRecDepth 65536 in
theorem w_c9 : (Jvm.Cond.code ({ cls := "java/lang/String", name := "isLatin1", desc := "()Z" } : Jvm.MethodName) jdk_42_method_154_code (1 : Nat) (Option.some Jvm.ClassFile.FieldType.boolean)).before args0 about1 = true := code_word (m := ⟨7, 6⟩) (meth := k7m6) (c := k7c6) (by decide +kernel) rfl rfl rfl (by decide +kernel)
set_option maxRecDepth 65536 in
theorem w_c10 : (Jvm.Cond.code ({ cls := "java/lang/StringLatin1", name := "charAt", desc := "([BI)C" } : Jvm.MethodName) jdk_43_method_2_code (2 : Nat) (Option.some Jvm.ClassFile.FieldType.char)).before args0 about1 = true := code_word (m := ⟨10, 1⟩) (meth := k10m1) (c := k10c1) (by decide +kernel) rfl rfl rfl (by decide +kernel)
set_option maxRecDepth 65536 in
theorem w_c11 : (Jvm.Cond.code ({ cls := "java/lang/String", name := "checkIndex", desc := "(II)V" } : Jvm.MethodName) jdk_42_method_155_code (2 : Nat) (Option.none : Option Jvm.ClassFile.FieldType)).before args0 about1 = true := code_word (m := ⟨7, 7⟩) (meth := k7m7) (c := k7c7) (by decide +kernel) rfl rfl rfl (by decide +kernel)
set_option maxRecDepth 65536 in
theorem w_c12 : (Jvm.Cond.code ({ cls := "jdk/internal/util/Preconditions", name := "checkIndex", desc := "(IILjava/util/function/BiFunction;)I" } : Jvm.MethodName) jdk_41_method_11_code (3 : Nat) (Option.some Jvm.ClassFile.FieldType.int)).before args0 about1 = true := code_word (m := ⟨11, 1⟩) (meth := k11m1) (c := k11c1) (by decide +kernel) rfl rfl rfl (by decide +kernel)
set_option maxRecDepth 65536 in
theorem w_c13 : (Jvm.Cond.code ({ cls := "java/lang/String", name := "indexOf", desc := "(I)I" } : Jvm.MethodName) jdk_42_method_79_code (2 : Nat) (Option.some Jvm.ClassFile.FieldType.int)).before args0 about1 = true := code_word (m := ⟨7, 3⟩) (meth := k7m3) (c := k7c3) (by decide +kernel) rfl rfl rfl (by decide +kernel)
set_option maxRecDepth 65536 in
theorem w_c14 : (Jvm.Cond.code ({ cls := "java/lang/String", name := "indexOf", desc := "(II)I" } : Jvm.MethodName) jdk_42_method_80_code (3 : Nat) (Option.some Jvm.ClassFile.FieldType.int)).before args0 about1 = true := code_word (m := ⟨7, 4⟩) (meth := k7m4) (c := k7c4) (by decide +kernel) rfl rfl rfl (by decide +kernel)
set_option maxRecDepth 65536 in
theorem w_c15 : (Jvm.Cond.code ({ cls := "java/lang/StringLatin1", name := "indexOf", desc := "([BIII)I" } : Jvm.MethodName) jdk_43_method_22_code (4 : Nat) (Option.some Jvm.ClassFile.FieldType.int)).before args0 about1 = true := code_word (m := ⟨10, 3⟩) (meth := k10m3) (c := k10c3) (by decide +kernel) rfl rfl rfl (by decide +kernel)
set_option maxRecDepth 65536 in
theorem w_c16 : (Jvm.Cond.code ({ cls := "java/lang/StringLatin1", name := "canEncode", desc := "(I)Z" } : Jvm.MethodName) jdk_43_method_4_code (1 : Nat) (Option.some Jvm.ClassFile.FieldType.boolean)).before args0 about1 = true := code_word (m := ⟨10, 2⟩) (meth := k10m2) (c := k10c2) (by decide +kernel) rfl rfl rfl (by decide +kernel)
set_option maxRecDepth 65536 in
theorem w_c17 : (Jvm.Cond.code ({ cls := "java/lang/Math", name := "max", desc := "(II)I" } : Jvm.MethodName) jdk_29_method_65_code (2 : Nat) (Option.some Jvm.ClassFile.FieldType.int)).before args0 about1 = true := code_word (m := ⟨12, 1⟩) (meth := k12m1) (c := k12c1) (by decide +kernel) rfl rfl rfl (by decide +kernel)
set_option maxRecDepth 65536 in
theorem w_c18 : (Jvm.Cond.code ({ cls := "java/lang/Math", name := "min", desc := "(II)I" } : Jvm.MethodName) jdk_29_method_69_code (2 : Nat) (Option.some Jvm.ClassFile.FieldType.int)).before args0 about1 = true := code_word (m := ⟨12, 2⟩) (meth := k12m2) (c := k12c2) (by decide +kernel) rfl rfl rfl (by decide +kernel)
set_option maxRecDepth 65536 in
theorem w_c19 : (Jvm.Cond.code ({ cls := "java/lang/StringLatin1", name := "indexOfChar", desc := "([BIII)I" } : Jvm.MethodName) jdk_43_method_23_code (6 : Nat) (Option.some Jvm.ClassFile.FieldType.int)).before args0 about1 = true := code_word (m := ⟨10, 4⟩) (meth := k10m4) (c := k10c4) (by decide +kernel) rfl rfl rfl (by decide +kernel)
set_option maxRecDepth 65536 in
theorem w_c20 : (Jvm.Cond.code ({ cls := "com/example/latchwork/latchwork/etcd/Json$Reader", name := "object", desc := "(I)Ljava/util/Map;" } : Jvm.MethodName) prog_17_method_3_code (4 : Nat) (Option.some (Jvm.ClassFile.FieldType.object "java/util/Map"))).before args0 about1 = true := code_word (m := ⟨9, 2⟩) (meth := k9m2) (c := k9c2) (by decide +kernel) rfl rfl rfl (by decide +kernel)
set_option maxRecDepth 65536 in
theorem w_c21 : (Jvm.Cond.code ({ cls := "java/util/LinkedHashMap", name := "<init>", desc := "()V" } : Jvm.MethodName) jdk_94_method_16_code (1 : Nat) (Option.none : Option Jvm.ClassFile.FieldType)).before args0 about1 = true := code_word (m := ⟨18, 0⟩) (meth := k18m0) (c := k18c0) (by decide +kernel) rfl rfl rfl (by decide +kernel)
set_option maxRecDepth 65536 in
theorem w_c22 : (Jvm.Cond.code ({ cls := "java/util/HashMap", name := "<init>", desc := "()V" } : Jvm.MethodName) jdk_69_method_7_code (1 : Nat) (Option.none : Option Jvm.ClassFile.FieldType)).before args0 about1 = true := code_word (m := ⟨16, 0⟩) (meth := k16m0) (c := k16c0) (by decide +kernel) rfl rfl rfl (by decide +kernel)
set_option maxRecDepth 65536 in
theorem w_c23 : (Jvm.Cond.code ({ cls := "java/util/AbstractMap", name := "<init>", desc := "()V" } : Jvm.MethodName) jdk_71_method_1_code (1 : Nat) (Option.none : Option Jvm.ClassFile.FieldType)).before args0 about1 = true := code_word (m := ⟨14, 0⟩) (meth := k14m0) (c := k14c0) (by decide +kernel) rfl rfl rfl (by decide +kernel)
set_option maxRecDepth 65536 in
theorem w_c24 : (Jvm.Cond.code ({ cls := "com/example/latchwork/latchwork/etcd/Json$Reader", name := "take", desc := "(C)Z" } : Jvm.MethodName) prog_17_method_10_code (3 : Nat) (Option.some Jvm.ClassFile.FieldType.boolean)).before args0 about1 = true := code_word (m := ⟨9, 3⟩) (meth := k9m3) (c := k9c3) (by decide +kernel) rfl rfl rfl (by decide +kernel)
set_option maxRecDepth 65536 in
theorem w_c25 : (Jvm.Cond.code ({ cls := "com/example/latchwork/latchwork/etcd/Json", name := "asObject", desc := "(Ljava/lang/Object;)Ljava/util/Map;" } : Jvm.MethodName) prog_16_method_10_code (1 : Nat) (Option.some (Jvm.ClassFile.FieldType.object "java/util/Map"))).before args0 about1 = true := code_word (m := ⟨8, 3⟩) (meth := k8m3) (c := k8c3) (by decide +kernel) rfl rfl rfl (by decide +kernel)
set_option maxRecDepth 65536 in
theorem w_c26 : (Jvm.Cond.code ({ cls := "java/util/ArrayList", name := "<init>", desc := "()V" } : Jvm.MethodName) jdk_38_method_2_code (1 : Nat) (Option.none : Option Jvm.ClassFile.FieldType)).before args0 about1 = true := code_word (m := ⟨26, 0⟩) (meth := k26m0) (c := k26c0) (by decide +kernel) rfl rfl rfl (by decide +kernel)
set_option maxRecDepth 65536 in
theorem w_c27 : (Jvm.Cond.code ({ cls := "java/util/AbstractList", name := "<init>", desc := "()V" } : Jvm.MethodName) jdk_39_method_1_code (1 : Nat) (Option.none : Option Jvm.ClassFile.FieldType)).before args0 about1 = true := code_word (m := ⟨24, 0⟩) (meth := k24m0) (c := k24c0) (by decide +kernel) rfl rfl rfl (by decide +kernel)
set_option maxRecDepth 65536 in
theorem w_c28 : (Jvm.Cond.code ({ cls := "java/util/AbstractCollection", name := "<init>", desc := "()V" } : Jvm.MethodName) jdk_22_method_1_code (1 : Nat) (Option.none : Option Jvm.ClassFile.FieldType)).before args0 about1 = true := code_word (m := ⟨21, 0⟩) (meth := k21m0) (c := k21c0) (by decide +kernel) rfl rfl rfl (by decide +kernel)
set_option maxRecDepth 65536 in
theorem w_c29 : (Jvm.Cond.code ({ cls := "com/example/latchwork/latchwork/etcd/JsonElementPinLaw", name := "slot", desc := "(IIIILjava/util/Map;)Ljava/lang/Object;" } : Jvm.MethodName) method_3_code (6 : Nat) (Option.some (Jvm.ClassFile.FieldType.object "java/lang/Object"))).before args0 about1 = true := code_word (m := ⟨1, 2⟩) (meth := k1m2) (c := k1c2) (by decide +kernel) rfl rfl rfl (by decide +kernel)
set_option maxRecDepth 65536 in
theorem w_c30 : (Jvm.Cond.code ({ cls := "java/util/ArrayList", name := "add", desc := "(Ljava/lang/Object;)Z" } : Jvm.MethodName) jdk_38_method_25_code (2 : Nat) (Option.some Jvm.ClassFile.FieldType.boolean)).before args0 about1 = true := code_word (m := ⟨26, 7⟩) (meth := k26m7) (c := k26c7) (by decide +kernel) rfl rfl rfl (by decide +kernel)
set_option maxRecDepth 65536 in
theorem w_c31 : (Jvm.Cond.code ({ cls := "java/util/ArrayList", name := "add", desc := "(Ljava/lang/Object;[Ljava/lang/Object;I)V" } : Jvm.MethodName) jdk_38_method_24_code (4 : Nat) (Option.none : Option Jvm.ClassFile.FieldType)).before args0 about1 = true := code_word (m := ⟨26, 6⟩) (meth := k26m6) (c := k26c6) (by decide +kernel) rfl rfl rfl (by decide +kernel)
set_option maxRecDepth 65536 in
theorem w_c32 : (Jvm.Cond.code ({ cls := "java/util/ArrayList", name := "grow", desc := "()[Ljava/lang/Object;" } : Jvm.MethodName) jdk_38_method_7_code (1 : Nat) (Option.some (Jvm.ClassFile.FieldType.array (Jvm.ClassFile.FieldType.object "java/lang/Object")))).before args0 about1 = true := code_word (m := ⟨26, 2⟩) (meth := k26m2) (c := k26c2) (by decide +kernel) rfl rfl rfl (by decide +kernel)
set_option maxRecDepth 65536 in
theorem w_c33 : (Jvm.Cond.code ({ cls := "java/util/ArrayList", name := "grow", desc := "(I)[Ljava/lang/Object;" } : Jvm.MethodName) jdk_38_method_6_code (4 : Nat) (Option.some (Jvm.ClassFile.FieldType.array (Jvm.ClassFile.FieldType.object "java/lang/Object")))).before args0 about1 = true := code_word (m := ⟨26, 1⟩) (meth := k26m1) (c := k26c1) (by decide +kernel) rfl rfl rfl (by decide +kernel)
set_option maxRecDepth 65536 in
theorem w_c34 : (Jvm.Cond.code ({ cls := "com/example/latchwork/latchwork/etcd/Json", name := "element", desc := "(Ljava/util/List;I)Ljava/util/Map;" } : Jvm.MethodName) prog_16_method_9_code (3 : Nat) (Option.some (Jvm.ClassFile.FieldType.object "java/util/Map"))).before args0 about1 = true := code_word (m := ⟨8, 2⟩) (meth := k8m2) (c := k8c2) (by decide +kernel) rfl rfl rfl (by decide +kernel)
set_option maxRecDepth 65536 in
theorem w_c35 : (Jvm.Cond.code ({ cls := "java/util/ArrayList", name := "size", desc := "()I" } : Jvm.MethodName) jdk_38_method_8_code (1 : Nat) (Option.some Jvm.ClassFile.FieldType.int)).before args0 about1 = true := code_word (m := ⟨26, 3⟩) (meth := k26m3) (c := k26c3) (by decide +kernel) rfl rfl rfl (by decide +kernel)
set_option maxRecDepth 65536 in
theorem w_c36 : (Jvm.Cond.code ({ cls := "java/util/ArrayList", name := "get", desc := "(I)Ljava/lang/Object;" } : Jvm.MethodName) jdk_38_method_20_code (2 : Nat) (Option.some (Jvm.ClassFile.FieldType.object "java/lang/Object"))).before args0 about1 = true := code_word (m := ⟨26, 5⟩) (meth := k26m5) (c := k26c5) (by decide +kernel) rfl rfl rfl (by decide +kernel)
set_option maxRecDepth 65536 in
theorem w_c37 : (Jvm.Cond.code ({ cls := "java/util/Objects", name := "checkIndex", desc := "(II)I" } : Jvm.MethodName) jdk_31_method_17_code (2 : Nat) (Option.some Jvm.ClassFile.FieldType.int)).before args0 about1 = true := code_word (m := ⟨27, 1⟩) (meth := k27m1) (c := k27c1) (by decide +kernel) rfl rfl rfl (by decide +kernel)
set_option maxRecDepth 65536 in
theorem w_c38 : (Jvm.Cond.code ({ cls := "java/util/ArrayList", name := "elementData", desc := "(I)Ljava/lang/Object;" } : Jvm.MethodName) jdk_38_method_18_code (2 : Nat) (Option.some (Jvm.ClassFile.FieldType.object "java/lang/Object"))).before args0 about1 = true := code_word (m := ⟨26, 4⟩) (meth := k26m4) (c := k26c4) (by decide +kernel) rfl rfl rfl (by decide +kernel)
set_option maxRecDepth 65536 in
theorem w_c39 : (Jvm.Cond.code ({ cls := "java/lang/Integer", name := "valueOf", desc := "(I)Ljava/lang/Integer;" } : Jvm.MethodName) jdk_33_method_22_code (1 : Nat) (Option.some (Jvm.ClassFile.FieldType.object "java/lang/Integer"))).before args0 about1 = true := code_word (m := ⟨29, 0⟩) (meth := k29m0) (c := k29c0) (by decide +kernel) rfl rfl rfl (by decide +kernel)
set_option maxRecDepth 65536 in
theorem w_c40 : (Jvm.Cond.code ({ cls := "java/lang/Integer", name := "<init>", desc := "(I)V" } : Jvm.MethodName) jdk_33_method_23_code (2 : Nat) (Option.none : Option Jvm.ClassFile.FieldType)).before args0 about1 = true := code_word (m := ⟨29, 1⟩) (meth := k29m1) (c := k29c1) (by decide +kernel) rfl rfl rfl (by decide +kernel)
set_option maxRecDepth 65536 in
theorem w_c41 : (Jvm.Cond.code ({ cls := "java/lang/Number", name := "<init>", desc := "()V" } : Jvm.MethodName) jdk_18_method_1_code (1 : Nat) (Option.none : Option Jvm.ClassFile.FieldType)).before args0 about1 = true := code_word (m := ⟨28, 0⟩) (meth := k28m0) (c := k28c0) (by decide +kernel) rfl rfl rfl (by decide +kernel)
def codes1 : List Jvm.Cond := [Jvm.Cond.code x code maxLocals ret, Jvm.Cond.code ({ cls := "com/example/latchwork/latchwork/etcd/Json", name := "parseObject", desc := "(Ljava/lang/String;)Ljava/util/Map;" } : Jvm.MethodName) prog_16_method_2_code (3 : Nat) (Option.some (Jvm.ClassFile.FieldType.object "java/util/Map")), Jvm.Cond.code ({ cls := "com/example/latchwork/latchwork/etcd/Json$Reader", name := "<init>", desc := "(Ljava/lang/String;)V" } : Jvm.MethodName) prog_17_method_1_code (2 : Nat) (Option.none : Option Jvm.ClassFile.FieldType), Jvm.Cond.code ({ cls := "java/lang/Object", name := "<init>", desc := "()V" } : Jvm.MethodName) object_method_1_code (1 : Nat) (Option.none : Option Jvm.ClassFile.FieldType), Jvm.Cond.code ({ cls := "com/example/latchwork/latchwork/etcd/Json$Reader", name := "value", desc := "(I)Ljava/lang/Object;" } : Jvm.MethodName) prog_17_method_2_code (4 : Nat) (Option.some (Jvm.ClassFile.FieldType.object "java/lang/Object")), Jvm.Cond.code ({ cls := "com/example/latchwork/latchwork/etcd/Json$Reader", name := "skipSpace", desc := "()V" } : Jvm.MethodName) prog_17_method_11_code (1 : Nat) (Option.none : Option Jvm.ClassFile.FieldType), Jvm.Cond.code ({ cls := "java/lang/String", name := "length", desc := "()I" } : Jvm.MethodName) jdk_42_method_54_code (1 : Nat) (Option.some Jvm.ClassFile.FieldType.int), Jvm.Cond.code ({ cls := "java/lang/String", name := "coder", desc := "()B" } : Jvm.MethodName) jdk_42_method_152_code (1 : Nat) (Option.some Jvm.ClassFile.FieldType.byte), Jvm.Cond.code ({ cls := "java/lang/String", name := "charAt", desc := "(I)C" } : Jvm.MethodName) jdk_42_method_56_code (2 : Nat) (Option.some Jvm.ClassFile.FieldType.char), Jvm.Cond.code ({ cls := "java/lang/String", name := "isLatin1", desc := "()Z" } : Jvm.MethodName) jdk_42_method_154_code (1 : Nat) (Option.some Jvm.ClassFile.FieldType.boolean), Jvm.Cond.code ({ cls := "java/lang/StringLatin1", name := "charAt", desc := "([BI)C" } : Jvm.MethodName) jdk_43_method_2_code (2 : Nat) (Option.some Jvm.ClassFile.FieldType.char), Jvm.Cond.code ({ cls := "java/lang/String", name := "checkIndex", desc := "(II)V" } : Jvm.MethodName) jdk_42_method_155_code (2 : Nat) (Option.none : Option Jvm.ClassFile.FieldType), Jvm.Cond.code ({ cls := "jdk/internal/util/Preconditions", name := "checkIndex", desc := "(IILjava/util/function/BiFunction;)I" } : Jvm.MethodName) jdk_41_method_11_code (3 : Nat) (Option.some Jvm.ClassFile.FieldType.int), Jvm.Cond.code ({ cls := "java/lang/String", name := "indexOf", desc := "(I)I" } : Jvm.MethodName) jdk_42_method_79_code (2 : Nat) (Option.some Jvm.ClassFile.FieldType.int), Jvm.Cond.code ({ cls := "java/lang/String", name := "indexOf", desc := "(II)I" } : Jvm.MethodName) jdk_42_method_80_code (3 : Nat) (Option.some Jvm.ClassFile.FieldType.int), Jvm.Cond.code ({ cls := "java/lang/StringLatin1", name := "indexOf", desc := "([BIII)I" } : Jvm.MethodName) jdk_43_method_22_code (4 : Nat) (Option.some Jvm.ClassFile.FieldType.int), Jvm.Cond.code ({ cls := "java/lang/StringLatin1", name := "canEncode", desc := "(I)Z" } : Jvm.MethodName) jdk_43_method_4_code (1 : Nat) (Option.some Jvm.ClassFile.FieldType.boolean), Jvm.Cond.code ({ cls := "java/lang/Math", name := "max", desc := "(II)I" } : Jvm.MethodName) jdk_29_method_65_code (2 : Nat) (Option.some Jvm.ClassFile.FieldType.int), Jvm.Cond.code ({ cls := "java/lang/Math", name := "min", desc := "(II)I" } : Jvm.MethodName) jdk_29_method_69_code (2 : Nat) (Option.some Jvm.ClassFile.FieldType.int), Jvm.Cond.code ({ cls := "java/lang/StringLatin1", name := "indexOfChar", desc := "([BIII)I" } : Jvm.MethodName) jdk_43_method_23_code (6 : Nat) (Option.some Jvm.ClassFile.FieldType.int), Jvm.Cond.code ({ cls := "com/example/latchwork/latchwork/etcd/Json$Reader", name := "object", desc := "(I)Ljava/util/Map;" } : Jvm.MethodName) prog_17_method_3_code (4 : Nat) (Option.some (Jvm.ClassFile.FieldType.object "java/util/Map")), Jvm.Cond.code ({ cls := "java/util/LinkedHashMap", name := "<init>", desc := "()V" } : Jvm.MethodName) jdk_94_method_16_code (1 : Nat) (Option.none : Option Jvm.ClassFile.FieldType), Jvm.Cond.code ({ cls := "java/util/HashMap", name := "<init>", desc := "()V" } : Jvm.MethodName) jdk_69_method_7_code (1 : Nat) (Option.none : Option Jvm.ClassFile.FieldType), Jvm.Cond.code ({ cls := "java/util/AbstractMap", name := "<init>", desc := "()V" } : Jvm.MethodName) jdk_71_method_1_code (1 : Nat) (Option.none : Option Jvm.ClassFile.FieldType), Jvm.Cond.code ({ cls := "com/example/latchwork/latchwork/etcd/Json$Reader", name := "take", desc := "(C)Z" } : Jvm.MethodName) prog_17_method_10_code (3 : Nat) (Option.some Jvm.ClassFile.FieldType.boolean), Jvm.Cond.code ({ cls := "com/example/latchwork/latchwork/etcd/Json", name := "asObject", desc := "(Ljava/lang/Object;)Ljava/util/Map;" } : Jvm.MethodName) prog_16_method_10_code (1 : Nat) (Option.some (Jvm.ClassFile.FieldType.object "java/util/Map")), Jvm.Cond.code ({ cls := "java/util/ArrayList", name := "<init>", desc := "()V" } : Jvm.MethodName) jdk_38_method_2_code (1 : Nat) (Option.none : Option Jvm.ClassFile.FieldType), Jvm.Cond.code ({ cls := "java/util/AbstractList", name := "<init>", desc := "()V" } : Jvm.MethodName) jdk_39_method_1_code (1 : Nat) (Option.none : Option Jvm.ClassFile.FieldType), Jvm.Cond.code ({ cls := "java/util/AbstractCollection", name := "<init>", desc := "()V" } : Jvm.MethodName) jdk_22_method_1_code (1 : Nat) (Option.none : Option Jvm.ClassFile.FieldType), Jvm.Cond.code ({ cls := "com/example/latchwork/latchwork/etcd/JsonElementPinLaw", name := "slot", desc := "(IIIILjava/util/Map;)Ljava/lang/Object;" } : Jvm.MethodName) method_3_code (6 : Nat) (Option.some (Jvm.ClassFile.FieldType.object "java/lang/Object")), Jvm.Cond.code ({ cls := "java/util/ArrayList", name := "add", desc := "(Ljava/lang/Object;)Z" } : Jvm.MethodName) jdk_38_method_25_code (2 : Nat) (Option.some Jvm.ClassFile.FieldType.boolean), Jvm.Cond.code ({ cls := "java/util/ArrayList", name := "add", desc := "(Ljava/lang/Object;[Ljava/lang/Object;I)V" } : Jvm.MethodName) jdk_38_method_24_code (4 : Nat) (Option.none : Option Jvm.ClassFile.FieldType), Jvm.Cond.code ({ cls := "java/util/ArrayList", name := "grow", desc := "()[Ljava/lang/Object;" } : Jvm.MethodName) jdk_38_method_7_code (1 : Nat) (Option.some (Jvm.ClassFile.FieldType.array (Jvm.ClassFile.FieldType.object "java/lang/Object"))), Jvm.Cond.code ({ cls := "java/util/ArrayList", name := "grow", desc := "(I)[Ljava/lang/Object;" } : Jvm.MethodName) jdk_38_method_6_code (4 : Nat) (Option.some (Jvm.ClassFile.FieldType.array (Jvm.ClassFile.FieldType.object "java/lang/Object"))), Jvm.Cond.code ({ cls := "com/example/latchwork/latchwork/etcd/Json", name := "element", desc := "(Ljava/util/List;I)Ljava/util/Map;" } : Jvm.MethodName) prog_16_method_9_code (3 : Nat) (Option.some (Jvm.ClassFile.FieldType.object "java/util/Map")), Jvm.Cond.code ({ cls := "java/util/ArrayList", name := "size", desc := "()I" } : Jvm.MethodName) jdk_38_method_8_code (1 : Nat) (Option.some Jvm.ClassFile.FieldType.int), Jvm.Cond.code ({ cls := "java/util/ArrayList", name := "get", desc := "(I)Ljava/lang/Object;" } : Jvm.MethodName) jdk_38_method_20_code (2 : Nat) (Option.some (Jvm.ClassFile.FieldType.object "java/lang/Object")), Jvm.Cond.code ({ cls := "java/util/Objects", name := "checkIndex", desc := "(II)I" } : Jvm.MethodName) jdk_31_method_17_code (2 : Nat) (Option.some Jvm.ClassFile.FieldType.int), Jvm.Cond.code ({ cls := "java/util/ArrayList", name := "elementData", desc := "(I)Ljava/lang/Object;" } : Jvm.MethodName) jdk_38_method_18_code (2 : Nat) (Option.some (Jvm.ClassFile.FieldType.object "java/lang/Object")), Jvm.Cond.code ({ cls := "java/lang/Integer", name := "valueOf", desc := "(I)Ljava/lang/Integer;" } : Jvm.MethodName) jdk_33_method_22_code (1 : Nat) (Option.some (Jvm.ClassFile.FieldType.object "java/lang/Integer")), Jvm.Cond.code ({ cls := "java/lang/Integer", name := "<init>", desc := "(I)V" } : Jvm.MethodName) jdk_33_method_23_code (2 : Nat) (Option.none : Option Jvm.ClassFile.FieldType), Jvm.Cond.code ({ cls := "java/lang/Number", name := "<init>", desc := "()V" } : Jvm.MethodName) jdk_18_method_1_code (1 : Nat) (Option.none : Option Jvm.ClassFile.FieldType)]
set_option maxRecDepth 65536 in
theorem codes_eq : words1.filter isCode = codes1 := rfl
theorem w_codes : ∀ c ∈ words1.filter isCode, c.before args0 about1 = true := by
  rw [codes_eq]
  intro c hc
  simp only [codes1, List.mem_cons, List.not_mem_nil, or_false] at hc
  rcases hc with rfl | rfl | rfl | rfl | rfl | rfl | rfl | rfl | rfl | rfl | rfl | rfl | rfl | rfl | rfl | rfl | rfl | rfl | rfl | rfl | rfl | rfl | rfl | rfl | rfl | rfl | rfl | rfl | rfl | rfl | rfl | rfl | rfl | rfl | rfl | rfl | rfl | rfl | rfl | rfl | rfl | rfl
  · exact w_c0
  · exact w_c1
  · exact w_c2
  · exact w_c3
  · exact w_c4
  · exact w_c5
  · exact w_c6
  · exact w_c7
  · exact w_c8
  · exact w_c9
  · exact w_c10
  · exact w_c11
  · exact w_c12
  · exact w_c13
  · exact w_c14
  · exact w_c15
  · exact w_c16
  · exact w_c17
  · exact w_c18
  · exact w_c19
  · exact w_c20
  · exact w_c21
  · exact w_c22
  · exact w_c23
  · exact w_c24
  · exact w_c25
  · exact w_c26
  · exact w_c27
  · exact w_c28
  · exact w_c29
  · exact w_c30
  · exact w_c31
  · exact w_c32
  · exact w_c33
  · exact w_c34
  · exact w_c35
  · exact w_c36
  · exact w_c37
  · exact w_c38
  · exact w_c39
  · exact w_c40
  · exact w_c41
set_option maxRecDepth 65536 in
theorem w_t1 : (words1.take 24).all (fun c => isCode c || c.before args0 about1) = true := by decide +kernel
set_option maxRecDepth 65536 in
theorem w_t2 : ((words1.drop 24).take 24).all (fun c => isCode c || c.before args0 about1) = true := by decide +kernel
set_option maxRecDepth 65536 in
theorem w_t3 : (((words1.drop 24).drop 24).take 24).all (fun c => isCode c || c.before args0 about1) = true := by decide +kernel
set_option maxRecDepth 65536 in
theorem w_t4 : ((((words1.drop 24).drop 24).drop 24).take 24).all (fun c => isCode c || c.before args0 about1) = true := by decide +kernel
set_option maxRecDepth 65536 in
theorem w_t5 : (((((words1.drop 24).drop 24).drop 24).drop 24).take 24).all (fun c => isCode c || c.before args0 about1) = true := by decide +kernel
set_option maxRecDepth 65536 in
theorem w_t6 : ((((((words1.drop 24).drop 24).drop 24).drop 24).drop 24).take 24).all (fun c => isCode c || c.before args0 about1) = true := by decide +kernel
set_option maxRecDepth 65536 in
theorem w_t7 : (((((((words1.drop 24).drop 24).drop 24).drop 24).drop 24).drop 24).take 24).all (fun c => isCode c || c.before args0 about1) = true := by decide +kernel
set_option maxRecDepth 65536 in
theorem w_t8 : ((((((((words1.drop 24).drop 24).drop 24).drop 24).drop 24).drop 24).drop 24).take 24).all (fun c => isCode c || c.before args0 about1) = true := by decide +kernel
set_option maxRecDepth 65536 in
theorem w_t9 : (((((((((words1.drop 24).drop 24).drop 24).drop 24).drop 24).drop 24).drop 24).drop 24).take 24).all (fun c => isCode c || c.before args0 about1) = true := by decide +kernel
set_option maxRecDepth 65536 in
theorem w_t10 : ((((((((((words1.drop 24).drop 24).drop 24).drop 24).drop 24).drop 24).drop 24).drop 24).drop 24).take 24).all (fun c => isCode c || c.before args0 about1) = true := by decide +kernel
set_option maxRecDepth 65536 in
theorem w_t11 : ((((((((((words1.drop 24).drop 24).drop 24).drop 24).drop 24).drop 24).drop 24).drop 24).drop 24).drop 24).all (fun c => isCode c || c.before args0 about1) = true := by decide +kernel
theorem w_tables : (allAtoms (Jvm.Cond.code x code maxLocals ret :: tables_1)).before args0 about1 = true := by
  rw [allAtoms_all]
  show words1.all (fun c => c.before args0 about1) = true
  refine all_split ?_ w_codes
  rw [← List.take_append_drop 24 words1, List.all_append, w_t1, ← List.take_append_drop 24 (words1.drop 24), List.all_append, w_t2, ← List.take_append_drop 24 ((words1.drop 24).drop 24), List.all_append, w_t3, ← List.take_append_drop 24 (((words1.drop 24).drop 24).drop 24), List.all_append, w_t4, ← List.take_append_drop 24 ((((words1.drop 24).drop 24).drop 24).drop 24), List.all_append, w_t5, ← List.take_append_drop 24 (((((words1.drop 24).drop 24).drop 24).drop 24).drop 24), List.all_append, w_t6, ← List.take_append_drop 24 ((((((words1.drop 24).drop 24).drop 24).drop 24).drop 24).drop 24), List.all_append, w_t7, ← List.take_append_drop 24 (((((((words1.drop 24).drop 24).drop 24).drop 24).drop 24).drop 24).drop 24), List.all_append, w_t8, ← List.take_append_drop 24 ((((((((words1.drop 24).drop 24).drop 24).drop 24).drop 24).drop 24).drop 24).drop 24), List.all_append, w_t9, ← List.take_append_drop 24 (((((((((words1.drop 24).drop 24).drop 24).drop 24).drop 24).drop 24).drop 24).drop 24).drop 24), List.all_append, w_t10, w_t11]
  rfl
set_option maxRecDepth 65536 in
theorem w_rest : rest_1_c.before args0 about1 = true := by decide +kernel
set_option maxRecDepth 65536 in
theorem w_case : (Jvm.Cond.and given_1 narrow_1).before args0 about1 = true := by decide +kernel
set_option maxRecDepth 65536 in
theorem w_consts : constsHeld consts_1 about1 := Jvm.Lit.constsHeldB_iff.mp (by decide +kernel)
theorem w_applies : (headSpec (Jvm.Cond.code x code maxLocals ret :: tables_1) room_1).applies x e0.platform about1 = true :=
  (Spec.applies_iff w_frames).mpr ⟨w_running, w_runnable, w_alone, w_named, w_hears, w_ripe, w_room, w_tables⟩
theorem atStart : AtStart classFile x code maxLocals ret World_1 tables_1 room_1 Calls_1 rest_1 Pre_1 launch0 p0 e0 about1 theMethod args0 below0 :=
  ⟨lists_1, trivial, launch0.admits_env _ _ _, launch0.least_env, fairChoices_fair.cas, fairChoices_fair.clock, w_frames, w_args, w_heap, w_applies, ⟨w_consts, trivial⟩, w_rest, w_case⟩
end start1
theorem witness_1 : WitnessClaimed_1 := ⟨start1.p0, start1.e0, start1.about1, start1.theMethod, start1.args0, start1.below0, start1.atStart⟩
end Jvm.Pilot.@@N@@
