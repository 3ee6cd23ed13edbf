import JvmDerived
import JvmDerived.Pilot.@@N@@Statement
import JvmDerived.Pilot.@@N@@Code
set_option linter.unusedVariables false
set_option linter.unusedSimpArgs false
set_option maxRecDepth 65536
set_option maxHeartbeats 40000000
namespace Jvm.Pilot.@@N@@
open Jvm Jvm.ClassFile Sem Op Lib Jvm.Free Jvm.Stand Jvm.LawKit Jvm.RoadKit Bundle Jvm.Pilot.@@N@@.Jvm.D
abbrev vI (x : Int32) : Value := .int x
abbrev vL (x : Int64) : Value := .long x
abbrev vR (x : Addr) : Value := .ref x
abbrev sI (x : Int32) : Slot := .val (.int x)
abbrev sL (x : Int64) : Slot := .val (.long x)
abbrev sR (x : Addr) : Slot := .val (.ref x)
abbrev sU : Slot := .unset
abbrev sS : Slot := .second
abbrev St (p : Program) (e : Env) (below : List Frame) (T : State) (g : JFrame) (t : State) : Prop := Steps p.tables e below (T.setTop g) t
abbrev Ct (l : Launch) (Z : State) (y : MethodName) (bytes : ByteArray) (maxL : Nat) (ret : Option FieldType) (rm : Room) (as' : Array Value) (h : Heap) (Q : Option Value → Heap → List Loc → Prop) : Prop :=
  MetFree l y (head1 [Jvm.Cond.code y bytes maxL ret] rm) (fun a U => a = as' ∧ Z.Warmed39 U.vm ∧ U.heap = h) (fun _ _ _ _ _ => True) (fun _ U o U' => ∃ v L, o = .returned v ∧ Q v U'.heap L ∧ FrameEnd U o U' L rm.cells rm.slots)
abbrev End (p : Program) (e : Env) (s : State) (below : List Frame) (rm : Room) (Q : Option Value → Heap → List Loc → Prop) (S : State) : Prop :=
  ∃ s₂ o, Steps p.tables e below S s₂ ∧ s₂.status = .running ∧ Ended s₂ below o ∧ ∃ v L, o = .returned v ∧ Q v s₂.heap L ∧ FrameEnd s o s₂ L rm.cells rm.slots
theorem own_bd {l : Launch} {Z : State} {y : MethodName} {bytes : ByteArray} {maxL : Nat} {ret : Option FieldType} {rm : Room} {as' : Array Value} {h0 : Heap} {Q : Option Value → Heap → List Loc → Prop} {L0 : Array Slot} (hp : plainFor y = true) (ef : ∀ m, entryFrame m as' maxL = mkF m 0 L0 [])
    (H : ∀ (p : Program) (e : Env) (s : State) (m : MethodId) (below : List Frame) (meth : Method) (c : Code) (s₁ : State), meth.sig.returnType = ret → meth.locks = false → Z.Warmed39 s.vm → p.tables.exec = Jvm.exec → c.code = bytes → c.maxLocals = maxL → s.vm.findClass y.cls = some m.cls → meth.name = y.name → Stand p l e rm s m as' below meth c s₁ [] 0 0 → s₁.heap = h0 → End p e s below rm Q (s₁.setTop (mkF m 0 L0 []))) : Ct l Z y bytes maxL ret rm as' h0 Q := by
  refine MetFree.of_bodySF hp hisR ?_
  intro p e s m args below meth c s₁ Bd hml hP hK
  obtain ⟨rfl, hZ, hh⟩ := hP
  obtain ⟨s₂, o, h1, r⟩ := H p e s m below meth c s₁ Bd.returns Bd.notSynchronized hZ Bd.exec Bd.bytes hml (findClass_of_methodNamed Bd.named) (name_of_methodNamed Bd.named Bd.method).1 (Stand.of_body Bd) (by rw [← hh, Bd.state]; rfl)
  exact ⟨s₂, o, castTop (ef m) h1, r⟩
theorem own_end {p : Program} {l : Launch} {e : Env} {R : Room} {s : State} {m : MethodId} {args : Array Value} {below : List Frame} {meth : Method} {c : Code} {T : State} {L : List Loc} {cells slots : Nat} (X : Stand p l e R s m args below meth c T L cells slots) (hlk : meth.locks = false) {v : Option Value} (hv : meth.sig.returnType = none → v = none) (hfit : cells ≤ R.cells ∧ slots ≤ R.slots) {Q : Option Value → Heap → List Loc → Prop} (hq : Q v T.heap L) {S : State}
    (hs : ∀ fs, (∀ (f : JFrame) (acts : List Action), f.method = m → f.locked = none → f.entered = [] → (doReturn e (T.setTop f) acts v).1 = T.setFrames fs) → Steps p.tables e below S (T.setFrames fs)) : End p e s below R Q S := by
  obtain ⟨fs, hr, hrun, hended, hW, hsame⟩ := X.leave hv
  exact ⟨_, _, hs fs hr, hrun, hended, _, _, rfl, hq, ⟨_, rfl⟩, hW, hsame.mono hfit.1 hfit.2⟩
section OwnSteps
variable {tb : Tables} [Ours tb] {e : Env} {below : List Frame} {T target : State} {m : MethodId} {c : Code} {g : JFrame} {rest : List Value}
theorem Own.isub (h : At T m c below) (hx : tb.exec = Jvm.exec) (hg : g.method = m) {x : Int32} {y : Int32} {z : Int32} (hd : decode c.code g.pc = .ok (.isub, 1)) (hs : g.stack = .int y :: .int x :: rest) (hz : (x - y) = z)
    (hr : Steps tb e below (T.setTop { g with pc := g.pc + 1, stack := .int z :: rest }) target) : Steps tb e below (T.setTop g) target := XS.isub h hx hg hd hs (by rw [show (x - y) = z from hz]; exact hr)
theorem Own.iand (h : At T m c below) (hx : tb.exec = Jvm.exec) (hg : g.method = m) {x : Int32} {y : Int32} {z : Int32} (hd : decode c.code g.pc = .ok (.iand, 1)) (hs : g.stack = .int y :: .int x :: rest) (hz : (x &&& y) = z)
    (hr : Steps tb e below (T.setTop { g with pc := g.pc + 1, stack := .int z :: rest }) target) : Steps tb e below (T.setTop g) target := XS.iand h hx hg hd hs (by rw [show (x &&& y) = z from hz]; exact hr)
end OwnSteps
section OwnCalls
variable {p : Program} {l : Launch} {e : Env} {R : Room} {s : State} {m : MethodId} {args : Array Value} {below : List Frame} {meth : Method} {c : Code} {T : State} {locs : List Loc} {cells slots : Nat} {Z : State} {a0 : Array Value} {h : Heap}
theorem own_callS (X : Stand p l e R s m args below meth c T locs cells slots) (hx : p.tables.exec = Jvm.exec) (hZ : Z.Warmed39 s.vm) {own : String} {index W maxL : Nat} {y : MethodName} {bytes : ByteArray} {ret : Option FieldType} {rm : Room} {as' : Array Value} {Q : Option Value → Heap → List Loc → Prop}
    (hown : s.vm.findClass own = some m.cls) (w1 : (Jvm.Cond.methodLink own index y).before a0 Z = true) (w2 : (Jvm.Cond.static y).before a0 Z = true) (w3 : (Jvm.Cond.initialized y.cls).before a0 Z = true) (w4 : (Jvm.Cond.code y bytes maxL ret).before a0 Z = true) (hy : y.cls ≠ "java/lang/invoke/MethodHandle" ∧ y.cls ≠ "java/lang/invoke/VarHandle")
    (hM : MetFree l y (head1 [Jvm.Cond.code y bytes maxL ret] rm) (fun a U => a = as' ∧ Z.Warmed39 U.vm ∧ U.heap = h) (fun _ _ _ _ _ => True) (fun _ U o U' => ∃ v L, o = .returned v ∧ Q v U'.heap L ∧ FrameEnd U o U' L rm.cells rm.slots)) (eT : T.heap = h)
    {g : JFrame} (hg : g.method = m) {ml : Nat} (hml : c.maxLocals = ml) (hsz : g.locals.size = ml) {rest : List Value} (hlen : ∀ sig, parseMethodDescriptor y.desc = some sig → (as'.toList).length = sig.parameters.length) (hstack : g.stack = (as'.toList).reverse ++ rest) (has : (as'.toList).toArray = as') (hW : 2 * g.monitorRoom + (rest.map fun v => v.category).sum = W)
    (hdg : decode c.code g.pc = .ok (.invokestatic index, 3)) (hfit : (rm.frames + 1 ≤ R.frames ∧ W + (maxL + 11) + rm.locals ≤ R.locals) ∧ cells + rm.cells ≤ R.cells ∧ slots + rm.slots ≤ R.slots) :
    ∃ (v : Option Value) (T' : State) (L : List Loc), Q v T'.heap L ∧ Stand p l e R s m args below meth c T' (locs ++ L) (cells + rm.cells) (slots + rm.slots) ∧ ∀ target, Steps p.tables e below (T'.setTop { g with pc := g.pc + 3, stack := v.toList ++ rest }) target → Steps p.tables e below (T.setTop g) target := by
  obtain ⟨v, _, ⟨T', L', c', s'⟩, -, X', ⟨L, hq, e1, e2, e3⟩, st⟩ := Jvm.LawKit.callS X hx hown (mvT hZ w1) (mvT hZ w2) (mvT hZ w3) (mvT hZ w4) hy (backOf (W := W) hM hZ w4 w3 hfit.1.1 hfit.1.2) hg (hsz.trans hml.symm) hlen hstack (Nat.le_of_eq hW) hdg (fun _ _ => ⟨has, eT, hfit.2.1, hfit.2.2⟩)
  subst e1 e2 e3
  exact ⟨v, T', L, hq, X', st⟩
theorem own_special (X : Stand p l e R s m args below meth c T locs cells slots) (hx : p.tables.exec = Jvm.exec) (hZ : Z.Warmed39 s.vm) {own : String} {index W maxL : Nat} {y : MethodName} {bytes : ByteArray} {rm : Room} {as' : Array Value} {Q : Option Value → Heap → List Loc → Prop} (hy1 : y.name = "<init>")
    (hown : s.vm.findClass own = some m.cls) (w1 : (Jvm.Cond.methodLink own index y).before a0 Z = true) (w2 : (Jvm.Cond.instanceMethod y).before a0 Z = true) (w3 : (Jvm.Cond.initialized y.cls).before a0 Z = true) (w4 : (Jvm.Cond.code y bytes maxL none).before a0 Z = true) (hy : y.cls ≠ "java/lang/invoke/MethodHandle" ∧ y.cls ≠ "java/lang/invoke/VarHandle")
    (hM : MetFree l y (head1 [Jvm.Cond.code y bytes maxL none] rm) (fun a U => a = as' ∧ Z.Warmed39 U.vm ∧ U.heap = h) (fun _ _ _ _ _ => True) (fun _ U o U' => ∃ v L, o = .returned v ∧ Q v U'.heap L ∧ FrameEnd U o U' L rm.cells rm.slots)) (eT : T.heap = h)
    {g : JFrame} (hg : g.method = m) {ml : Nat} (hml : c.maxLocals = ml) (hsz : g.locals.size = ml) {a : Addr} {rest : List Value} (hlen : ∀ sig, parseMethodDescriptor y.desc = some sig → (as'.toList.tail).length = sig.parameters.length) (hstack : g.stack = (as'.toList.tail).reverse ++ .ref a :: rest) (has : (.ref a :: as'.toList.tail).toArray = as') (hW : 2 * g.monitorRoom + (rest.map fun v => v.category).sum = W)
    (hdg : decode c.code g.pc = .ok (.invokespecial index, 3)) (hfit : (rm.frames + 1 ≤ R.frames ∧ W + (maxL + 11) + rm.locals ≤ R.locals) ∧ cells + rm.cells ≤ R.cells ∧ slots + rm.slots ≤ R.slots) :
    ∃ (v : Option Value) (T' : State) (L : List Loc), Q v T'.heap L ∧ Stand p l e R s m args below meth c T' (locs ++ L) (cells + rm.cells) (slots + rm.slots) ∧ ∀ target, Steps p.tables e below (T'.setTop { g with pc := g.pc + 3, stack := v.toList ++ rest }) target → Steps p.tables e below (T.setTop g) target := by
  obtain ⟨v, _, ⟨T', L', c', s'⟩, -, X', ⟨L, hq, e1, e2, e3⟩, st⟩ := X.specialBack hx hy1 hown (mvT hZ w1) (mvT hZ w2) (mvT hZ w4) hy (backOf (W := W) hM hZ w4 w3 hfit.1.1 hfit.1.2) hg (hsz.trans hml.symm) (Steps.refl _) hlen hstack (Nat.le_of_eq hW) hdg (fun _ _ => ⟨has, eT, hfit.2.1, hfit.2.2⟩)
  subst e1 e2 e3
  exact ⟨v, T', L, hq, X', fun _ k => st.trans k⟩
theorem own_virtual (X : Stand p l e R s m args below meth c T locs cells slots) (hx : p.tables.exec = Jvm.exec) (hZ : Z.Warmed39 s.vm) {own C : String} {index W maxL : Nat} {y z : MethodName} {bytes : ByteArray} {ret : Option FieldType} {rm : Room} {as' : Array Value} {Q : Option Value → Heap → List Loc → Prop}
    (hown : s.vm.findClass own = some m.cls) (w1 : (Jvm.Cond.methodLink own index y).before a0 Z = true) (w2 : (Jvm.Cond.declares y).before a0 Z = true) (nf : NotFace s y) (w5 : (Jvm.Cond.selects C y z).before a0 Z = true) (w6 : (Jvm.Cond.instanceMethod z).before a0 Z = true) (w3 : (Jvm.Cond.initialized z.cls).before a0 Z = true) (w4 : (Jvm.Cond.code z bytes maxL ret).before a0 Z = true) (hy : y.cls ≠ "java/lang/invoke/MethodHandle" ∧ y.cls ≠ "java/lang/invoke/VarHandle")
    (hM : MetFree l z (head1 [Jvm.Cond.code z bytes maxL ret] rm) (fun a U => a = as' ∧ Z.Warmed39 U.vm ∧ U.heap = h) (fun _ _ _ _ _ => True) (fun _ U o U' => ∃ v L, o = .returned v ∧ Q v U'.heap L ∧ FrameEnd U o U' L rm.cells rm.slots)) (eT : T.heap = h) {b : Addr} (E : Exa Z h b C)
    {g : JFrame} (hg : g.method = m) {ml : Nat} (hml : c.maxLocals = ml) (hsz : g.locals.size = ml) {rest : List Value} (hlen : ∀ sig, parseMethodDescriptor y.desc = some sig → (as'.toList.tail).length = sig.parameters.length) (hstack : g.stack = (as'.toList.tail).reverse ++ .ref b :: rest) (has : (.ref b :: as'.toList.tail).toArray = as') (hW : 2 * g.monitorRoom + (rest.map fun v => v.category).sum = W)
    (hdg : decode c.code g.pc = .ok (.invokevirtual index, 3)) (hfit : (rm.frames + 1 ≤ R.frames ∧ W + (maxL + 11) + rm.locals ≤ R.locals) ∧ cells + rm.cells ≤ R.cells ∧ slots + rm.slots ≤ R.slots) :
    ∃ (v : Option Value) (T' : State) (L : List Loc), Q v T'.heap L ∧ Stand p l e R s m args below meth c T' (locs ++ L) (cells + rm.cells) (slots + rm.slots) ∧ ∀ target, Steps p.tables e below (T'.setTop { g with pc := g.pc + 3, stack := v.toList ++ rest }) target → Steps p.tables e below (T.setTop g) target := by
  obtain ⟨cB, kB, qa, qb, qc⟩ := isOf hZ eT E
  obtain ⟨v, _, ⟨T', L', c', s'⟩, -, X', ⟨L, hq, e1, e2, e3⟩, st⟩ := X.virtualBack hx hown (mvT hZ w1) (mvT hZ w2) nf (mvT hZ w5) (mvT hZ w6) hy (backOf (W := W) hM hZ w4 w3 hfit.1.1 hfit.1.2) qa qc hg (hsz.trans hml.symm) (Steps.refl _) hlen hstack (Nat.le_of_eq hW) hdg (fun _ _ => ⟨has, eT, hfit.2.1, hfit.2.2⟩)
  subst e1 e2 e3
  exact ⟨v, T', L, hq, X', fun _ k => st.trans k⟩
end OwnCalls
section OwnHeap
variable {p : Program} {l : Launch} {e : Env} {R : Room} {s : State} {m : MethodId} {args : Array Value} {below : List Frame} {meth : Method} {c : Code} {T : State} {locs : List Loc} {cells slots : Nat} {Z : State} {a0 : Array Value} {h h0 : Heap} {n0 : Nat} {ws : List Addr}
theorem own_newO (X : Stand p l e R s m args below meth c T locs cells slots) (hx : p.tables.exec = Jvm.exec) (hZ : Z.Warmed39 s.vm) {own C : String} {index n : Nat} (hown : s.vm.findClass own = some m.cls) (w : (Jvm.Cond.classLink own index C).before a0 Z = true) (wi : (Jvm.Cond.instantiable C n).before a0 Z = true) (wz : (Jvm.Cond.initialized C).before a0 Z = true) (eT : T.heap = h) (O : Old Z n0 h) (K : Keep h0 h ws)
    {g : JFrame} (hg : g.method = m) (hd : decode c.code g.pc = .ok (.new index, 3)) (hc : cells + 1 ≤ R.cells) (hl : slots + n ≤ R.slots) :
    ∃ (T' : State) (h' : Heap) (b : Addr), Stand p l e R s m args below meth c T' locs (cells + 1) (slots + n) ∧ T'.heap = h' ∧ Ext h h' ∧ Exa Z h' b C ∧ (∀ {O nm d : String} {ty : FieldType}, Laid Z a0 C O nm d → parseFieldDescriptor d = some ty → Fld Z h' b O nm d (defaultValue ty)) ∧ h.size ≤ b ∧ Old Z n0 h' ∧ Keep h0 h' ws ∧
      ∀ target, Steps p.tables e below (T'.setTop { g with pc := g.pc + 3, stack := .ref b :: g.stack }) target → Steps p.tables e below (T.setTop g) target := by
  obtain ⟨T', h', X', e', E', A', D', -, st⟩ := newO X hx hZ hown w wi wz eT hg hd hc hl
  exact ⟨T', h', h.size, X', e', E', A', D', Nat.le_refl _, O.ext E', K.ext E', st⟩
theorem own_put (X : Stand p l e R s m args below meth c T locs cells slots) (hx : p.tables.exec = Jvm.exec) (hZ : Z.Warmed39 s.vm) {own R0 Ow n d host C : String} {index kk : Nat} {ty : FieldType} (hown : s.vm.findClass own = some m.cls) (w : (Jvm.Cond.fieldLink own index R0 n d).before a0 Z = true ∨ (Jvm.Cond.fieldLinkNest own index R0 n d host).before a0 Z = true) (via : Via Z R0 Ow n d)
    (eT : T.heap = h) (O : Old Z n0 h) (K : Keep h0 h ws) (N : Fr n0 locs) {a : Addr} (qn : n0 ≤ a) (qk : a ∈ ws ∨ h0.size ≤ a) {v old : Value} (F : Fld Z h a Ow n d old) (E : Exa Z h a C) (L : (Jvm.Cond.lays C Ow n d).before a0 Z = true ∨ ((Jvm.Cond.laysFinal C Ow n d).before a0 Z = true ∧ own = Ow ∧ meth.name = "<init>")) (wi : (Jvm.Cond.instantiable C kk).before a0 Z = true)
    (hty : parseFieldDescriptor d = some ty) (hn : narrow ty v = v) (hf : fits ty v = true) {g : JFrame} (hg : g.method = m) {rest : List Value} (hs : g.stack = v :: .ref a :: rest) (hd : decode c.code g.pc = .ok (.putfield index, 3)) :
    ∃ (T' : State) (h' : Heap) (L' : List Loc), Stand p l e R s m args below meth c T' L' cells slots ∧ T'.heap = h' ∧ Wr h h' a (Jvm.RoadKit.slotOf Z Ow n d) v ∧ Fld Z h' a Ow n d v ∧ Old Z n0 h' ∧ Keep h0 h' ws ∧ Fr n0 L' ∧ ∀ target, Steps p.tables e below (T'.setTop { g with pc := g.pc + 3, stack := rest }) target → Steps p.tables e below (T.setTop g) target := by
  obtain ⟨T', h', X', e', W', st⟩ := putF X hx hZ hown w via eT F E L wi hty hn hf hg hs hd
  exact ⟨T', h', _, X', e', W', F.same W', O.wr W' qn, K.wr W' qk, Fr.snoc X' N qn, st⟩
end OwnHeap
section OwnWide
variable {p : Program} {l : Launch} {e : Env} {R : Room} {s : State} {m : MethodId} {args : Array Value} {below : List Frame} {meth : Method} {c : Code} {T : State} {locs : List Loc} {cells slots : Nat} {Z : State} {a0 : Array Value} {h : Heap} {vm0 : Vm} {EL : List (String × Nat)} {sx : List Addr}
end OwnWide
section OwnSites
variable {p : Program} {l : Launch} {e : Env} {R : Room} {s : State} {m : MethodId} {args : Array Value} {below : List Frame} {meth : Method} {c : Code} {T : State} {locs : List Loc} {cells slots : Nat} {Z : State} {a0 : Array Value} {h : Heap} {own C : String} {index W maxL : Nat} {y : MethodName} {bytes : ByteArray} {ret : Option FieldType} {ps : List FieldType} {r : Option FieldType} {rm : Room} {as' : Array Value} {Q : Option Value → Heap → List Loc → Prop}
abbrev WS (Z : State) (a0 : Array Value) (own : String) (index : Nat) (y : MethodName) (bytes : ByteArray) (maxL : Nat) (ret : Option FieldType) (ps : List FieldType) (r : Option FieldType) : Prop := (Jvm.Cond.methodLink own index y).before a0 Z = true ∧ (Jvm.Cond.static y).before a0 Z = true ∧ (Jvm.Cond.initialized y.cls).before a0 Z = true ∧ (Jvm.Cond.code y bytes maxL ret).before a0 Z = true ∧ (y.cls ≠ "java/lang/invoke/MethodHandle" ∧ y.cls ≠ "java/lang/invoke/VarHandle") ∧ parseMethodDescriptor y.desc = some ⟨ps, r⟩
abbrev WI (Z : State) (a0 : Array Value) (own : String) (index : Nat) (y : MethodName) (bytes : ByteArray) (maxL : Nat) (ps : List FieldType) : Prop := (Jvm.Cond.methodLink own index y).before a0 Z = true ∧ (Jvm.Cond.instanceMethod y).before a0 Z = true ∧ (Jvm.Cond.initialized y.cls).before a0 Z = true ∧ (Jvm.Cond.code y bytes maxL none).before a0 Z = true ∧ (y.cls ≠ "java/lang/invoke/MethodHandle" ∧ y.cls ≠ "java/lang/invoke/VarHandle") ∧ parseMethodDescriptor y.desc = some ⟨ps, none⟩ ∧ y.name = "<init>"
abbrev WV (Z : State) (a0 : Array Value) (own : String) (index : Nat) (C : String) (y : MethodName) (bytes : ByteArray) (maxL : Nat) (ret : Option FieldType) (ps : List FieldType) (r : Option FieldType) : Prop := (Jvm.Cond.methodLink own index y).before a0 Z = true ∧ (Jvm.Cond.declares y).before a0 Z = true ∧ (Jvm.Cond.selects C y y).before a0 Z = true ∧ (Jvm.Cond.instanceMethod y).before a0 Z = true ∧ (Jvm.Cond.initialized y.cls).before a0 Z = true ∧ (Jvm.Cond.code y bytes maxL ret).before a0 Z = true ∧ (y.cls ≠ "java/lang/invoke/MethodHandle" ∧ y.cls ≠ "java/lang/invoke/VarHandle") ∧ parseMethodDescriptor y.desc = some ⟨ps, r⟩
theorem cS (X : Stand p l e R s m args below meth c T locs cells slots) (hx : p.tables.exec = Jvm.exec) (hZ : Z.Warmed39 s.vm) (hown : s.vm.findClass own = some m.cls) (w : WS Z a0 own index y bytes maxL ret ps r) (hM : Ct l Z y bytes maxL ret rm as' h Q) (eT : T.heap = h) {g : JFrame} (hg : g.method = m) {ml : Nat} (hml : c.maxLocals = ml) (hsz : g.locals.size = ml) {rest : List Value} (hlen : (as'.toList).length = ps.length) (hstack : g.stack = (as'.toList).reverse ++ rest) (has : (as'.toList).toArray = as') (hW : 2 * g.monitorRoom + (rest.map fun v => v.category).sum = W) (hdg : decode c.code g.pc = .ok (.invokestatic index, 3)) (hfit : (rm.frames + 1 ≤ R.frames ∧ W + (maxL + 11) + rm.locals ≤ R.locals) ∧ cells + rm.cells ≤ R.cells ∧ slots + rm.slots ≤ R.slots) :
    ∃ (v : Option Value) (T' : State) (L : List Loc), Q v T'.heap L ∧ Stand p l e R s m args below meth c T' (locs ++ L) (cells + rm.cells) (slots + rm.slots) ∧ ∀ target, Steps p.tables e below (T'.setTop { g with pc := g.pc + 3, stack := v.toList ++ rest }) target → Steps p.tables e below (T.setTop g) target :=
  own_callS X hx hZ hown w.1 w.2.1 w.2.2.1 w.2.2.2.1 w.2.2.2.2.1 hM eT hg hml hsz (lenOf w.2.2.2.2.2 hlen) hstack has hW hdg hfit
theorem cI (X : Stand p l e R s m args below meth c T locs cells slots) (hx : p.tables.exec = Jvm.exec) (hZ : Z.Warmed39 s.vm) (hown : s.vm.findClass own = some m.cls) (w : WI Z a0 own index y bytes maxL ps) (hM : Ct l Z y bytes maxL none rm as' h Q) (eT : T.heap = h) {b : Addr} {g : JFrame} (hg : g.method = m) {ml : Nat} (hml : c.maxLocals = ml) (hsz : g.locals.size = ml) {rest : List Value} (hlen : (as'.toList.tail).length = ps.length) (hstack : g.stack = (as'.toList.tail).reverse ++ .ref b :: rest) (has : (.ref b :: as'.toList.tail).toArray = as') (hW : 2 * g.monitorRoom + (rest.map fun v => v.category).sum = W) (hdg : decode c.code g.pc = .ok (.invokespecial index, 3)) (hfit : (rm.frames + 1 ≤ R.frames ∧ W + (maxL + 11) + rm.locals ≤ R.locals) ∧ cells + rm.cells ≤ R.cells ∧ slots + rm.slots ≤ R.slots) :
    ∃ (v : Option Value) (T' : State) (L : List Loc), Q v T'.heap L ∧ Stand p l e R s m args below meth c T' (locs ++ L) (cells + rm.cells) (slots + rm.slots) ∧ ∀ target, Steps p.tables e below (T'.setTop { g with pc := g.pc + 3, stack := v.toList ++ rest }) target → Steps p.tables e below (T.setTop g) target :=
  own_special X hx hZ w.2.2.2.2.2.2 hown w.1 w.2.1 w.2.2.1 w.2.2.2.1 w.2.2.2.2.1 hM eT hg hml hsz (lenOf w.2.2.2.2.2.1 hlen) hstack has hW hdg hfit
theorem cV (X : Stand p l e R s m args below meth c T locs cells slots) (hx : p.tables.exec = Jvm.exec) (hZ : Z.Warmed39 s.vm) (hown : s.vm.findClass own = some m.cls) (w : WV Z a0 own index C y bytes maxL ret ps r) (hM : Ct l Z y bytes maxL ret rm as' h Q) (eT : T.heap = h) {b : Addr} (E : Exa Z h b C) {g : JFrame} (hg : g.method = m) {ml : Nat} (hml : c.maxLocals = ml) (hsz : g.locals.size = ml) {rest : List Value} (hlen : (as'.toList.tail).length = ps.length) (hstack : g.stack = (as'.toList.tail).reverse ++ .ref b :: rest) (has : (.ref b :: as'.toList.tail).toArray = as') (hW : 2 * g.monitorRoom + (rest.map fun v => v.category).sum = W) (hdg : decode c.code g.pc = .ok (.invokevirtual index, 3)) (hfit : (rm.frames + 1 ≤ R.frames ∧ W + (maxL + 11) + rm.locals ≤ R.locals) ∧ cells + rm.cells ≤ R.cells ∧ slots + rm.slots ≤ R.slots) :
    ∃ (v : Option Value) (T' : State) (L : List Loc), Q v T'.heap L ∧ Stand p l e R s m args below meth c T' (locs ++ L) (cells + rm.cells) (slots + rm.slots) ∧ ∀ target, Steps p.tables e below (T'.setTop { g with pc := g.pc + 3, stack := v.toList ++ rest }) target → Steps p.tables e below (T.setTop g) target :=
  own_virtual X hx hZ hown w.1 w.2.1 (notFace_of_selects (args := #[]) (mvT hZ w.2.2.1)) w.2.2.1 w.2.2.2.1 w.2.2.2.2.1 w.2.2.2.2.2.1 w.2.2.2.2.2.2.1 hM eT E hg hml hsz (lenOf w.2.2.2.2.2.2.2 hlen) hstack has hW hdg hfit
end OwnSites
theorem own_old_le {Z : State} {n0 : Nat} {h : Heap} (O : Old Z n0 h) : n0 ≤ h.size := O.1 ▸ O.2.1
theorem own_rng (x : Int32) : -2147483648 ≤ x.toInt ∧ x.toInt ≤ 2147483647 := by have := rng32 x; omega
theorem own_mask (x m : Int32) {n : Int} (h : m.toInt = n ∧ 0 ≤ n) : 0 ≤ (x &&& m).toInt ∧ (x &&& m).toInt ≤ n := by have := c_and x m (by omega); omega
theorem own_isub (x y : Int32) (d : Int) {lo hi l h : Int} (hy : y.toInt = d) (hx : lo ≤ x.toInt ∧ x.toInt ≤ hi) (q : l = lo - d ∧ h = hi - d ∧ -2147483648 ≤ l ∧ h ≤ 2147483647) : l ≤ (x - y).toInt ∧ (x - y).toInt ≤ h := by have := c_isub x y; have := rng32 (x - y); omega
theorem own_ltF {x y : Int32} (h : ¬ (x.toInt < y.toInt)) : ¬ (x < y) := fun q => h (Int32.lt_iff_toInt_lt.mp q)
theorem own_hv {meth : Method} {t : FieldType} {v : Option Value} (hret : meth.sig.returnType = some t) : meth.sig.returnType = none → v = none := fun h => by rw [hret] at h; cases h
theorem own_rg {x : Int32} {lo hi : Int32} {l h : Int} (h1 : ¬ (x < lo)) (h2 : ¬ (hi < x)) (e : lo.toInt = l ∧ hi.toInt = h) : l ≤ x.toInt ∧ x.toInt ≤ h := by
  have a1 : ¬ (x.toInt < lo.toInt) := fun q => h1 (Int32.lt_iff_toInt_lt.mpr q)
  have a2 : ¬ (hi.toInt < x.toInt) := fun q => h2 (Int32.lt_iff_toInt_lt.mpr q)
  omega
theorem own_ltT' {x y : Int32} (h : x < y) : x.toInt < y.toInt := Int32.lt_iff_toInt_lt.mp h
theorem own_ltF' {x y : Int32} (h : ¬ (x < y)) : ¬ (x.toInt < y.toInt) := fun q => h (Int32.lt_iff_toInt_lt.mpr q)
section OwnDbl
variable {tb : Tables} [Ours tb] {e : Env} {below : List Frame} {T target : State} {m : MethodId} {c : Code} {g : JFrame}
theorem own_dload (h : At T m c below) (hx : tb.exec = Jvm.exec) (hg : g.method = m) {k : Nat} {v : UInt64} (hd : decode c.code g.pc = .ok (.dload k, 2)) (hl : g.locals[k]? = some (.val (.double v)))
    (hr : Steps tb e below (T.setTop { g with pc := g.pc + 2, stack := .double v :: g.stack }) target) : Steps tb e below (T.setTop g) target := by
  subst hg
  jvm_step h [h.top, hx, hd, hl]
  exact hr
theorem own_dloadN (h : At T m c below) (hx : tb.exec = Jvm.exec) (hg : g.method = m) {k : Fin 4} {v : UInt64} (hd : decode c.code g.pc = .ok (.dload_n k, 1)) (hl : g.locals[k.val]? = some (.val (.double v)))
    (hr : Steps tb e below (T.setTop { g with pc := g.pc + 1, stack := .double v :: g.stack }) target) : Steps tb e below (T.setTop g) target := by
  subst hg
  jvm_step h [h.top, hx, hd, hl]
  exact hr
theorem own_dstore (h : At T m c below) (hx : tb.exec = Jvm.exec) (hg : g.method = m) {k : Nat} {x : UInt64} {rest : List Value} {l' : Array Slot} (hd : decode c.code g.pc = .ok (.dstore k, 2)) (hs : g.stack = .double x :: rest) (hl : storeLocals g.locals k (.double x) = some l')
    (hr : Steps tb e below (T.setTop { g with pc := g.pc + 2, stack := rest, locals := l' }) target) : Steps tb e below (T.setTop g) target := by
  subst hg
  jvm_step h [h.top, hx, hd, hs, hl]
  exact hr
theorem own_i2d (h : At T m c below) (hx : tb.exec = Jvm.exec) (hg : g.method = m) {x : Int32} {rest : List Value} (hd : decode c.code g.pc = .ok (.i2d, 1)) (hs : g.stack = .int x :: rest)
    (hr : Steps tb e below (T.setTop { g with pc := g.pc + 1, stack := .double (FP.i2d x) :: rest }) target) : Steps tb e below (T.setTop g) target := by
  subst hg
  jvm_step h [h.top, hx, hd, hs]
  exact hr
theorem own_ddiv (h : At T m c below) (hx : tb.exec = Jvm.exec) (hg : g.method = m) {x y : UInt64} {rest : List Value} (hd : decode c.code g.pc = .ok (.ddiv, 1)) (hs : g.stack = .double y :: .double x :: rest) (hf : FP.ddiv x y &&& 0x7fffffffffffffff ≤ 0x7ff0000000000000)
    (hr : Steps tb e below (T.setTop { g with pc := g.pc + 1, stack := .double (FP.ddiv x y) :: rest }) target) : Steps tb e below (T.setTop g) target := by
  subst hg
  jvm_step h [h.top, hx, hd, hs, ddiv.wp_number (f := g) h.top hs hf]
  exact hr
theorem own_dcmp (h : At T m c below) (hx : tb.exec = Jvm.exec) (hg : g.method = m) {b : CmpOp} {x y : UInt64} {o : Ordering} {z : Int32} {rest : List Value} (hd : decode c.code g.pc = .ok (.dcmp b, 1)) (hs : g.stack = .double y :: .double x :: rest) (hc : FP.dcmp x y = some o) (hz : (match o with | .lt => (-1 : Int32) | .eq => 0 | .gt => 1) = z)
    (hr : Steps tb e below (T.setTop { g with pc := g.pc + 1, stack := .int z :: rest }) target) : Steps tb e below (T.setTop g) target := by
  subst hg hz
  cases o <;> jvm_step h [h.top, hx, hd, hs, hc, dcmp.sem] <;> exact hr
theorem own_h16 : ∀ x y : Fin 16, FP.dcmp (FP.ddiv (FP.i2d (Int32.ofNat x.val - 8)) 4611686018427387904) (FP.ddiv (FP.i2d (Int32.ofNat y.val - 8)) 4611686018427387904) = some (compare x.val y.val) := by decide +kernel
theorem own_f16 : ∀ x : Fin 16, FP.ddiv (FP.i2d (Int32.ofNat x.val - 8)) 4611686018427387904 &&& 0x7fffffffffffffff ≤ 0x7ff0000000000000 := by decide +kernel
theorem own_of16 : ∀ x : Fin 16, (Int32.ofNat x.val - 8).toInt = (x.val : Int) - 8 := by decide +kernel
theorem own_in16 {u : Int32} (hu : -8 ≤ u.toInt ∧ u.toInt ≤ 7) : ∃ x : Fin 16, u = Int32.ofNat x.val - 8 ∧ u.toInt = (x.val : Int) - 8 := by
  refine ⟨⟨(u.toInt + 8).toNat, by omega⟩, ?_, ?_⟩
  · apply Int32.toInt_inj.mp; rw [own_of16]; show u.toInt = ((u.toInt + 8).toNat : Int) - 8; omega
  · show u.toInt = ((u.toInt + 8).toNat : Int) - 8; omega
theorem own_dfin {u : Int32} (hu : -8 ≤ u.toInt ∧ u.toInt ≤ 7) : FP.ddiv (FP.i2d u) 4611686018427387904 &&& 0x7fffffffffffffff ≤ 0x7ff0000000000000 := by
  obtain ⟨x, rfl, -⟩ := own_in16 hu; exact own_f16 x
theorem own_dcH {u v : Int32} (hu : -8 ≤ u.toInt ∧ u.toInt ≤ 7) (hv : -8 ≤ v.toInt ∧ v.toInt ≤ 7) : FP.dcmp (FP.ddiv (FP.i2d u) 4611686018427387904) (FP.ddiv (FP.i2d v) 4611686018427387904) = some (compare u.toInt v.toInt) := by
  obtain ⟨x, e1, q1⟩ := own_in16 hu
  obtain ⟨y, e2, q2⟩ := own_in16 hv
  rw [q1, q2, e1, e2, own_h16]
  congr 1
  rcases Nat.lt_trichotomy x.val y.val with h | h | h
  · rw [Nat.compare_eq_lt.mpr h, Int.compare_eq_lt.mpr (by omega)]
  · rw [Nat.compare_eq_eq.mpr h, Int.compare_eq_eq.mpr (by omega)]
  · rw [Nat.compare_eq_gt.mpr h, Int.compare_eq_gt.mpr (by omega)]
theorem own_dcI (u v : Int32) : FP.dcmp (FP.i2d u) (FP.i2d v) = some (compare u.toInt v.toInt) := Jvm.FP.Core.dcmp_int (Jvm.FP.Core.i2d_int u) (Jvm.FP.Core.i2d_int v)
theorem own_cL {u v : Int32} {a : Option Ordering} (q : a = some (compare u.toInt v.toInt)) (h : u < v) : a = some .lt := by rw [q, Int.compare_eq_lt.mpr (Int32.lt_iff_toInt_lt.mp h)]
theorem own_cG {u v : Int32} {a : Option Ordering} (q : a = some (compare u.toInt v.toInt)) (h : v < u) : a = some .gt := by rw [q, Int.compare_eq_gt.mpr (Int32.lt_iff_toInt_lt.mp h)]
theorem own_cE {u v : Int32} {a : Option Ordering} (q : a = some (compare u.toInt v.toInt)) (h1 : ¬ u < v) (h2 : ¬ v < u) : a = some .eq := by
  rw [Int32.lt_iff_toInt_lt] at h1 h2
  rw [q, Int.compare_eq_eq.mpr (by omega)]
end OwnDbl
theorem own_asym {x y : Int32} (h : x < y) : ¬ (y < x) := fun q => by rw [Int32.lt_iff_toInt_lt] at h q; omega
theorem own_kLT {x y : Int64} (h : x.toInt < y.toInt) : x < y := Int64.lt_iff_toInt_lt.mpr h
theorem own_kLF {x y : Int64} (h : ¬ (x.toInt < y.toInt)) : ¬ (x < y) := fun q => h (Int64.lt_iff_toInt_lt.mp q)
theorem own_key0 (p t n : BitVec 64) (hp : p.toNat < 16) (ht : t.toNat < 16) (hn : n.toNat < 4294967296) : ((p <<< 36) ||| (t <<< 32) ||| n).toNat = p.toNat * 68719476736 + t.toNat * 4294967296 + n.toNat := by
  have e1 : (p <<< 36).toNat = p.toNat <<< 36 := by rw [BitVec.toNat_shiftLeft, Nat.mod_eq_of_lt]; rw [Nat.shiftLeft_eq]; omega
  have e2 : (t <<< 32).toNat = t.toNat <<< 32 := by rw [BitVec.toNat_shiftLeft, Nat.mod_eq_of_lt]; rw [Nat.shiftLeft_eq]; omega
  have h2 : t.toNat <<< 32 < 2 ^ 36 := by rw [Nat.shiftLeft_eq]; omega
  rw [BitVec.toNat_or, BitVec.toNat_or, e1, e2, Nat.or_assoc, ← Nat.shiftLeft_add_eq_or_of_lt (by omega : n.toNat < 2 ^ 32), ← Nat.shiftLeft_add_eq_or_of_lt (by rw [Nat.shiftLeft_eq]; omega), Nat.shiftLeft_eq, Nat.shiftLeft_eq]
  omega
theorem own_n64 {x : Int64} (h : 0 ≤ x.toInt) : (x.toBitVec.toNat : Int) = x.toInt := by
  have e : x.toInt = x.toBitVec.toInt := rfl
  rw [e] at h ⊢
  rw [BitVec.toInt_eq_toNat_cond] at h ⊢
  split at h <;> split <;> omega
theorem own_i64 {x : Int64} {k : Nat} (h : x.toBitVec.toNat = k) (hk : k < 9223372036854775808) : x.toInt = k := by
  have e : x.toInt = x.toBitVec.toInt := rfl
  rw [e, BitVec.toInt_eq_toNat_cond, h]; split <;> omega
theorem own_m15 (a : Int32) : 0 ≤ (a &&& 15).toInt ∧ (a &&& 15).toInt ≤ 15 := own_mask a 15 (n := 15) (by decide)
theorem own_key (a b n : Int32) : (((((a &&& (15 : Int32)).toInt64) <<< ((36 : Int32) &&& 63).toInt64) ||| (((15 : Int64) - ((b &&& (15 : Int32)).toInt64)) <<< ((32 : Int32) &&& 63).toInt64)) ||| ((2147483647 : Int64) - (n.toInt64))).toInt = (a &&& 15).toInt * 68719476736 + (15 - (b &&& 15).toInt) * 4294967296 + (2147483647 - n.toInt) := by
  have ha := own_m15 a; have hb := own_m15 b; have hn := own_rng n
  have ea : (a &&& 15).toInt64.toInt = (a &&& 15).toInt := Int32.toInt_toInt64 _
  have eb : ((15 : Int64) - (b &&& 15).toInt64).toInt = 15 - (b &&& 15).toInt := by
    rw [Int64.toInt_sub, Int32.toInt_toInt64, show (15 : Int64).toInt = 15 by decide]; simp only [Int.bmod]; omega
  have en : ((2147483647 : Int64) - n.toInt64).toInt = 2147483647 - n.toInt := by
    rw [Int64.toInt_sub, Int32.toInt_toInt64, show (2147483647 : Int64).toInt = 2147483647 by decide]; simp only [Int.bmod]; omega
  generalize (a &&& 15).toInt64 = P at *
  generalize (15 : Int64) - (b &&& 15).toInt64 = Q at *
  generalize (2147483647 : Int64) - n.toInt64 = N at *
  have qa := own_n64 (x := P) (by omega); have qb := own_n64 (x := Q) (by omega); have qn := own_n64 (x := N) (by omega)
  have k0 := own_key0 P.toBitVec Q.toBitVec N.toBitVec (by omega) (by omega) (by omega)
  rw [own_i64 (k := P.toBitVec.toNat * 68719476736 + Q.toBitVec.toNat * 4294967296 + N.toBitVec.toNat) ?_ (by omega)]
  · omega
  · rw [← k0]
    rw [show ((36 : Int32) &&& 63).toInt64 = 36 by decide, show ((32 : Int32) &&& 63).toInt64 = 32 by decide, Int64.toBitVec_or, Int64.toBitVec_or, Int64.toBitVec_shiftLeft, Int64.toBitVec_shiftLeft]
    rfl
theorem own_p8 {a x u : Int32} (h : a &&& 15 = x) (h2 : x - 8 = u) : (a &&& 15).toInt = u.toInt + 8 ∧ 0 ≤ (a &&& 15).toInt ∧ (a &&& 15).toInt ≤ 15 := by
  have := own_m15 a
  subst h2; subst h
  refine ⟨?_, this⟩
  have q := own_isub (a &&& 15) 8 8 (lo := 0) (hi := 15) (by decide) this ⟨rfl, rfl, by omega, by omega⟩
  rw [Int32.toInt_sub, show (8 : Int32).toInt = 8 by decide]; simp only [Int.bmod]; omega
section OwnMir
variable {p : Program} {l : Launch} {e : Env} {R : Room} {s Z : State} {m : MethodId} {args a0 : Array Value} {below : List Frame} {meth : Method} {c : Code} {T : State} {locs : List Loc} {cells slots : Nat} {h h0 : Heap} {n0 : Nat} {ws : List Addr}
end OwnMir
section OwnObV
variable {Z : State} {h h' : Heap} {v v' : Value} {a : Addr} {sl : Nat} {ws : List Addr}
end OwnObV
section OwnUpd
end OwnUpd
section OwnSelP
variable {Z : State} {a0 : Array Value}
end OwnSelP
section OwnShort
variable {p : Program} {l : Launch} {e : Env} {R : Room} {s : State} {m : MethodId} {args : Array Value} {below : List Frame} {meth : Method} {c : Code} {T : State} {locs : List Loc} {cells slots : Nat} {g : JFrame} {code : ByteArray} {target : State}
theorem wal (X : Stand p l e R s m args below meth c T locs cells slots) (hx : p.tables.exec = Jvm.exec) (hby : c.code = code) (hg : g.method = m) {k : Fin 4} {v : Value} (hd : decode code g.pc = .ok (.aload_n k, 1)) (hl : g.locals[k.val]? = some (.val v)) (hv : v.isRef = true) (hr : Steps p.tables e below (T.setTop { g with pc := g.pc + 1, stack := v :: g.stack }) target) : Steps p.tables e below (T.setTop g) target := XS.aloadN X.here hx hg (hb hby hd) hl hv hr
theorem waL (X : Stand p l e R s m args below meth c T locs cells slots) (hx : p.tables.exec = Jvm.exec) (hby : c.code = code) (hg : g.method = m) {k : Nat} {v : Value} (hd : decode code g.pc = .ok (.aload k, 2)) (hl : g.locals[k]? = some (.val v)) (hv : v.isRef = true) (hr : Steps p.tables e below (T.setTop { g with pc := g.pc + 2, stack := v :: g.stack }) target) : Steps p.tables e below (T.setTop g) target := XS.aload X.here hx hg (hb hby hd) hl hv hr
theorem wil (X : Stand p l e R s m args below meth c T locs cells slots) (hx : p.tables.exec = Jvm.exec) (hby : c.code = code) (hg : g.method = m) {k : Fin 4} {v : Int32} (hd : decode code g.pc = .ok (.iload_n k, 1)) (hl : g.locals[k.val]? = some (.val (.int v))) (hr : Steps p.tables e below (T.setTop { g with pc := g.pc + 1, stack := .int v :: g.stack }) target) : Steps p.tables e below (T.setTop g) target := XS.iloadN X.here hx hg (hb hby hd) hl hr
theorem wiL (X : Stand p l e R s m args below meth c T locs cells slots) (hx : p.tables.exec = Jvm.exec) (hby : c.code = code) (hg : g.method = m) {k : Nat} {v : Int32} (hd : decode code g.pc = .ok (.iload k, 2)) (hl : g.locals[k]? = some (.val (.int v))) (hr : Steps p.tables e below (T.setTop { g with pc := g.pc + 2, stack := .int v :: g.stack }) target) : Steps p.tables e below (T.setTop g) target := XS.iload X.here hx hg (hb hby hd) hl hr
theorem wic (X : Stand p l e R s m args below meth c T locs cells slots) (hx : p.tables.exec = Jvm.exec) (hby : c.code = code) (hg : g.method = m) {i : Int} (hd : decode code g.pc = .ok (.iconst i, 1)) (hr : Steps p.tables e below (T.setTop { g with pc := g.pc + 1, stack := .int (Int32.ofInt i) :: g.stack }) target) : Steps p.tables e below (T.setTop g) target := XS.iconst X.here hx hg (hb hby hd) hr
theorem wbp (X : Stand p l e R s m args below meth c T locs cells slots) (hx : p.tables.exec = Jvm.exec) (hby : c.code = code) (hg : g.method = m) {i : Int} (hd : decode code g.pc = .ok (.bipush i, 2)) (hr : Steps p.tables e below (T.setTop { g with pc := g.pc + 2, stack := .int (Int8.ofInt i).toInt32 :: g.stack }) target) : Steps p.tables e below (T.setTop g) target := XS.bipush X.here hx hg (hb hby hd) hr
theorem wdu (X : Stand p l e R s m args below meth c T locs cells slots) (hx : p.tables.exec = Jvm.exec) (hby : c.code = code) (hg : g.method = m) {x : Value} {rest : List Value} (hd : decode code g.pc = .ok (.dup, 1)) (hs : g.stack = x :: rest) (hc : x.category = 1) (hr : Steps p.tables e below (T.setTop { g with pc := g.pc + 1, stack := x :: x :: rest }) target) : Steps p.tables e below (T.setTop g) target := XS.dup X.here hx hg (hb hby hd) hs hc hr
theorem waS (X : Stand p l e R s m args below meth c T locs cells slots) (hx : p.tables.exec = Jvm.exec) (hby : c.code = code) (hg : g.method = m) {k : Nat} {x : Value} {rest : List Value} {l' : Array Slot} (hd : decode code g.pc = .ok (.astore k, 2)) (hs : g.stack = x :: rest) (hv : x.isRef = true) (hl : storeLocals g.locals k x = some l') (hr : Steps p.tables e below (T.setTop { g with pc := g.pc + 2, stack := rest, locals := l' }) target) : Steps p.tables e below (T.setTop g) target := XS.astore X.here hx hg (hb hby hd) hs hv hl hr
theorem wis (X : Stand p l e R s m args below meth c T locs cells slots) (hx : p.tables.exec = Jvm.exec) (hby : c.code = code) (hg : g.method = m) {k : Fin 4} {x : Int32} {rest : List Value} {l' : Array Slot} (hd : decode code g.pc = .ok (.istore_n k, 1)) (hs : g.stack = .int x :: rest) (hl : storeLocals g.locals k.val (.int x) = some l') (hr : Steps p.tables e below (T.setTop { g with pc := g.pc + 1, stack := rest, locals := l' }) target) : Steps p.tables e below (T.setTop g) target := XS.istoreN X.here hx hg (hb hby hd) hs hl hr
theorem wiS (X : Stand p l e R s m args below meth c T locs cells slots) (hx : p.tables.exec = Jvm.exec) (hby : c.code = code) (hg : g.method = m) {k : Nat} {x : Int32} {rest : List Value} {l' : Array Slot} (hd : decode code g.pc = .ok (.istore k, 2)) (hs : g.stack = .int x :: rest) (hl : storeLocals g.locals k (.int x) = some l') (hr : Steps p.tables e below (T.setTop { g with pc := g.pc + 2, stack := rest, locals := l' }) target) : Steps p.tables e below (T.setTop g) target := XS.istore X.here hx hg (hb hby hd) hs hl hr
theorem wgt (X : Stand p l e R s m args below meth c T locs cells slots) (hx : p.tables.exec = Jvm.exec) (hby : c.code = code) (hg : g.method = m) {o : Int} {pc0 pc' : Nat} (hpc : g.pc = pc0) (hd : decode code g.pc = .ok (.goto o, 3)) (ho : 0 ≤ (pc0 : Int) + o) (hp : ((pc0 : Int) + o).toNat = pc') (hr : Steps p.tables e below (T.setTop { g with pc := pc' }) target) : Steps p.tables e below (T.setTop g) target := XS.goto X.here hx hg hpc (hb hby hd) ho hp hr
theorem wfy (X : Stand p l e R s m args below meth c T locs cells slots) (hx : p.tables.exec = Jvm.exec) (hby : c.code = code) (hg : g.method = m) {cd : ClassFile.Cond} {x : Int32} {rest : List Value} {o : Int} {pc0 pc' : Nat} (hpc : g.pc = pc0) (hd : decode code g.pc = .ok (.ifCond cd o, 3)) (hs : g.stack = .int x :: rest) (hc : ifCond.holds cd x = true) (ho : 0 ≤ (pc0 : Int) + o) (hp : ((pc0 : Int) + o).toNat = pc') (hr : Steps p.tables e below (T.setTop { g with pc := pc', stack := rest }) target) : Steps p.tables e below (T.setTop g) target := XS.ifYes X.here hx hg hpc (hb hby hd) hs hc ho hp hr
theorem wfn (X : Stand p l e R s m args below meth c T locs cells slots) (hx : p.tables.exec = Jvm.exec) (hby : c.code = code) (hg : g.method = m) {cd : ClassFile.Cond} {o : Int} {x : Int32} {rest : List Value} (hd : decode code g.pc = .ok (.ifCond cd o, 3)) (hs : g.stack = .int x :: rest) (hc : ifCond.holds cd x = false) (hr : Steps p.tables e below (T.setTop { g with pc := g.pc + 3, stack := rest }) target) : Steps p.tables e below (T.setTop g) target := XS.ifNo X.here hx hg (hb hby hd) hs hc hr
theorem wcy (X : Stand p l e R s m args below meth c T locs cells slots) (hx : p.tables.exec = Jvm.exec) (hby : c.code = code) (hg : g.method = m) {cd : ClassFile.Cond} {x y : Int32} {rest : List Value} {o : Int} {pc0 pc' : Nat} (hpc : g.pc = pc0) (hd : decode code g.pc = .ok (.if_icmp cd o, 3)) (hs : g.stack = .int y :: .int x :: rest) (hc : if_icmp.holds cd x y = true) (ho : 0 ≤ (pc0 : Int) + o) (hp : ((pc0 : Int) + o).toNat = pc') (hr : Steps p.tables e below (T.setTop { g with pc := pc', stack := rest }) target) : Steps p.tables e below (T.setTop g) target := XS.icmpYes X.here hx hg hpc (hb hby hd) hs hc ho hp hr
theorem wcn (X : Stand p l e R s m args below meth c T locs cells slots) (hx : p.tables.exec = Jvm.exec) (hby : c.code = code) (hg : g.method = m) {cd : ClassFile.Cond} {o : Int} {x y : Int32} {rest : List Value} (hd : decode code g.pc = .ok (.if_icmp cd o, 3)) (hs : g.stack = .int y :: .int x :: rest) (hc : if_icmp.holds cd x y = false) (hr : Steps p.tables e below (T.setTop { g with pc := g.pc + 3, stack := rest }) target) : Steps p.tables e below (T.setTop g) target := XS.icmpNo X.here hx hg (hb hby hd) hs hc hr
end OwnShort
abbrev z0 : String := "com/example/roam_mutex/roammutex/engine/Rank"
abbrev z1 : String := "com/example/roam_mutex/roammutex/engine/RankOutranksPinLaw"
abbrev z2 : String := "(Lcom/example/roam_mutex/roammutex/engine/Rank;)Z"
theorem m0 : (Jvm.Cond.constantDouble z1 (13 : Nat) (4611686018427387904 : UInt64)) ∈ tables_1 := List.mem_of_getElem? (i := 0) rfl
theorem m1 : (Jvm.Cond.classLink z1 (15 : Nat) z0) ∈ tables_1 := List.mem_of_getElem? (i := 1) rfl
theorem m2 : (Jvm.Cond.instantiable z0 (3 : Nat)) ∈ tables_1 := List.mem_of_getElem? (i := 2) rfl
theorem m3 : (Jvm.Cond.initialized z0) ∈ tables_1 := List.mem_of_getElem? (i := 3) rfl
theorem m16 : (Jvm.Cond.laysFinal z0 z0 "priority" "D") ∈ tables_1 := List.mem_of_getElem? (i := 16) rfl
theorem m18 : (Jvm.Cond.laysFinal z0 z0 "time" "D") ∈ tables_1 := List.mem_of_getElem? (i := 18) rfl
theorem m20 : (Jvm.Cond.laysFinal z0 z0 "node" "I") ∈ tables_1 := List.mem_of_getElem? (i := 20) rfl
theorem m4 : (Jvm.Cond.methodLink z1 (17 : Nat) (⟨z0, "<init>", "(DDI)V"⟩ : MethodName)) ∈ tables_1 := List.mem_of_getElem? (i := 4) rfl
theorem d1_0 : decode prog_13_method_1_code 0 = .ok (.aload_n 0, 1) := by decide +kernel
theorem d1_1 : decode prog_13_method_1_code 1 = .ok (.invokespecial 1, 3) := by decide +kernel
theorem m7 : (Jvm.Cond.methodLink z0 (1 : Nat) (⟨"java/lang/Record", "<init>", "()V"⟩ : MethodName)) ∈ tables_1 := List.mem_of_getElem? (i := 7) rfl
theorem d2_0 : decode jdk_30_method_1_code 0 = .ok (.aload_n 0, 1) := by decide +kernel
theorem d2_1 : decode jdk_30_method_1_code 1 = .ok (.invokespecial 1, 3) := by decide +kernel
theorem m12 : (Jvm.Cond.methodLink "java/lang/Record" (1 : Nat) (⟨"java/lang/Object", "<init>", "()V"⟩ : MethodName)) ∈ tables_1 := List.mem_of_getElem? (i := 12) rfl
theorem m14 : (Jvm.Cond.code (⟨"java/lang/Object", "<init>", "()V"⟩ : MethodName) object_method_1_code (1 : Nat) (Option.none : Option Jvm.ClassFile.FieldType)) ∈ tables_1 := List.mem_of_getElem? (i := 14) rfl
theorem m13 : (Jvm.Cond.instanceMethod (⟨"java/lang/Object", "<init>", "()V"⟩ : MethodName)) ∈ tables_1 := List.mem_of_getElem? (i := 13) rfl
theorem d2_4 : decode jdk_30_method_1_code 4 = .ok (.return_, 1) := by decide +kernel
theorem ef17 (m : MethodId) (x0 : Addr) : entryFrame m #[(.ref x0)] 1 = mkF m 0 #[.val (.ref x0)] [] := by first | (simp [entryFrame, mkF, argsToLocals, Value.category]; done) | rfl
theorem pn18 : plainName "java/lang/Record" = true := by first | (simp [plainName, overriddenIn]; done) | decide +kernel
theorem m11 : (Jvm.Cond.code (⟨"java/lang/Record", "<init>", "()V"⟩ : MethodName) jdk_30_method_1_code (1 : Nat) (Option.none : Option Jvm.ClassFile.FieldType)) ∈ tables_1 := List.mem_of_getElem? (i := 11) rfl
theorem m10 : (Jvm.Cond.initialized "java/lang/Record") ∈ tables_1 := List.mem_of_getElem? (i := 10) rfl
theorem pd21 : parseMethodDescriptor "()V" = some ⟨[], none⟩ := by decide +kernel
theorem m8 : (Jvm.Cond.instanceMethod (⟨"java/lang/Record", "<init>", "()V"⟩ : MethodName)) ∈ tables_1 := List.mem_of_getElem? (i := 8) rfl
theorem d1_4 : decode prog_13_method_1_code 4 = .ok (.aload_n 0, 1) := by decide +kernel
theorem d1_5 : decode prog_13_method_1_code 5 = .ok (.dload_n 1, 1) := by decide +kernel
theorem d1_6 : decode prog_13_method_1_code 6 = .ok (.putfield 7, 3) := by decide +kernel
theorem m15 : (Jvm.Cond.fieldLink z0 (7 : Nat) z0 "priority" "D") ∈ tables_1 := List.mem_of_getElem? (i := 15) rfl
theorem d1_9 : decode prog_13_method_1_code 9 = .ok (.aload_n 0, 1) := by decide +kernel
theorem d1_10 : decode prog_13_method_1_code 10 = .ok (.dload_n 3, 1) := by decide +kernel
theorem d1_11 : decode prog_13_method_1_code 11 = .ok (.putfield 13, 3) := by decide +kernel
theorem m17 : (Jvm.Cond.fieldLink z0 (13 : Nat) z0 "time" "D") ∈ tables_1 := List.mem_of_getElem? (i := 17) rfl
theorem d1_14 : decode prog_13_method_1_code 14 = .ok (.aload_n 0, 1) := by decide +kernel
theorem d1_15 : decode prog_13_method_1_code 15 = .ok (.iload 5, 2) := by decide +kernel
theorem d1_17 : decode prog_13_method_1_code 17 = .ok (.putfield 16, 3) := by decide +kernel
theorem m19 : (Jvm.Cond.fieldLink z0 (16 : Nat) z0 "node" "I") ∈ tables_1 := List.mem_of_getElem? (i := 19) rfl
theorem d1_20 : decode prog_13_method_1_code 20 = .ok (.return_, 1) := by decide +kernel
theorem ef36 (m : MethodId) (x0 : Addr) (x1 : UInt64) (x2 : UInt64) (x3 : Int32) : entryFrame m #[(.ref x0), (.double x1), (.double x2), (.int x3)] 6 = mkF m 0 #[.val (.ref x0), .val (.double x1), .second, .val (.double x2), .second, .val (.int x3)] [] := by first | (simp [entryFrame, mkF, argsToLocals, Value.category]; done) | rfl
theorem pn37 : plainName z0 = true := by first | (simp [plainName, overriddenIn]; done) | decide +kernel
theorem m6 : (Jvm.Cond.code (⟨z0, "<init>", "(DDI)V"⟩ : MethodName) prog_13_method_1_code (6 : Nat) (Option.none : Option Jvm.ClassFile.FieldType)) ∈ tables_1 := List.mem_of_getElem? (i := 6) rfl
theorem pd39 : parseMethodDescriptor "(DDI)V" = some ⟨[.double, .double, .int], none⟩ := by decide +kernel
theorem m5 : (Jvm.Cond.instanceMethod (⟨z0, "<init>", "(DDI)V"⟩ : MethodName)) ∈ tables_1 := List.mem_of_getElem? (i := 5) rfl
theorem m21 : (Jvm.Cond.methodLink z1 (20 : Nat) (⟨z1, "key", "(III)J"⟩ : MethodName)) ∈ tables_1 := List.mem_of_getElem? (i := 21) rfl
theorem d4_0 : decode method_2_code 0 = .ok (.iload_n 0, 1) := by decide +kernel
theorem d4_1 : decode method_2_code 1 = .ok (.bipush 15, 2) := by decide +kernel
theorem d4_3 : decode method_2_code 3 = .ok (.iand, 1) := by decide +kernel
theorem d4_4 : decode method_2_code 4 = .ok (.i2l, 1) := by decide +kernel
theorem d4_5 : decode method_2_code 5 = .ok (.lstore_n 3, 1) := by decide +kernel
theorem d4_6 : decode method_2_code 6 = .ok (.ldc2_w 7, 3) := by decide +kernel
theorem m25 : (Jvm.Cond.constantLong z1 (7 : Nat) (15 : Int64)) ∈ tables_1 := List.mem_of_getElem? (i := 25) rfl
theorem d4_9 : decode method_2_code 9 = .ok (.iload_n 1, 1) := by decide +kernel
theorem d4_10 : decode method_2_code 10 = .ok (.bipush 15, 2) := by decide +kernel
theorem d4_12 : decode method_2_code 12 = .ok (.iand, 1) := by decide +kernel
theorem d4_13 : decode method_2_code 13 = .ok (.i2l, 1) := by decide +kernel
theorem d4_14 : decode method_2_code 14 = .ok (.lsub, 1) := by decide +kernel
theorem d4_15 : decode method_2_code 15 = .ok (.lstore 5, 2) := by decide +kernel
theorem d4_17 : decode method_2_code 17 = .ok (.ldc2_w 11, 3) := by decide +kernel
theorem m26 : (Jvm.Cond.constantLong z1 (11 : Nat) (2147483647 : Int64)) ∈ tables_1 := List.mem_of_getElem? (i := 26) rfl
theorem d4_20 : decode method_2_code 20 = .ok (.iload_n 2, 1) := by decide +kernel
theorem d4_21 : decode method_2_code 21 = .ok (.i2l, 1) := by decide +kernel
theorem d4_22 : decode method_2_code 22 = .ok (.lsub, 1) := by decide +kernel
theorem d4_23 : decode method_2_code 23 = .ok (.lstore 7, 2) := by decide +kernel
theorem d4_25 : decode method_2_code 25 = .ok (.lload_n 3, 1) := by decide +kernel
theorem d4_26 : decode method_2_code 26 = .ok (.bipush 36, 2) := by decide +kernel
theorem d4_28 : decode method_2_code 28 = .ok (.lshl, 1) := by decide +kernel
theorem d4_29 : decode method_2_code 29 = .ok (.lload 5, 2) := by decide +kernel
theorem d4_31 : decode method_2_code 31 = .ok (.bipush 32, 2) := by decide +kernel
theorem d4_33 : decode method_2_code 33 = .ok (.lshl, 1) := by decide +kernel
theorem d4_34 : decode method_2_code 34 = .ok (.lor, 1) := by decide +kernel
theorem d4_35 : decode method_2_code 35 = .ok (.lload 7, 2) := by decide +kernel
theorem d4_37 : decode method_2_code 37 = .ok (.lor, 1) := by decide +kernel
theorem d4_38 : decode method_2_code 38 = .ok (.lreturn, 1) := by decide +kernel
theorem ef71 (m : MethodId) (x0 : Int32) (x1 : Int32) (x2 : Int32) : entryFrame m #[(.int x0), (.int x1), (.int x2)] 9 = mkF m 0 #[.val (.int x0), .val (.int x1), .val (.int x2), .unset, .unset, .unset, .unset, .unset, .unset] [] := by first | (simp [entryFrame, mkF, argsToLocals, Value.category]; done) | rfl
theorem pn72 : plainName z1 = true := by first | (simp [plainName, overriddenIn]; done) | decide +kernel
theorem m24 : (Jvm.Cond.code (⟨z1, "key", "(III)J"⟩ : MethodName) method_2_code (9 : Nat) (Option.some FieldType.long)) ∈ tables_1 := List.mem_of_getElem? (i := 24) rfl
theorem m23 : (Jvm.Cond.initialized z1) ∈ tables_1 := List.mem_of_getElem? (i := 23) rfl
theorem pd75 : parseMethodDescriptor "(III)J" = some ⟨[.int, .int, .int], some .long⟩ := by decide +kernel
theorem m22 : (Jvm.Cond.static (⟨z1, "key", "(III)J"⟩ : MethodName)) ∈ tables_1 := List.mem_of_getElem? (i := 22) rfl
theorem m27 : (Jvm.Cond.methodLink z1 (26 : Nat) (⟨z0, "outranks", z2⟩ : MethodName)) ∈ tables_1 := List.mem_of_getElem? (i := 27) rfl
theorem m30 : (Jvm.Cond.selects z0 (⟨z0, "outranks", z2⟩ : MethodName) (⟨z0, "outranks", z2⟩ : MethodName)) ∈ tables_1 := List.mem_of_getElem? (i := 30) rfl
theorem d5_0 : decode prog_13_method_2_code 0 = .ok (.aload_n 0, 1) := by decide +kernel
theorem d5_1 : decode prog_13_method_2_code 1 = .ok (.getfield 7, 3) := by decide +kernel
theorem d5_4 : decode prog_13_method_2_code 4 = .ok (.aload_n 1, 1) := by decide +kernel
theorem d5_5 : decode prog_13_method_2_code 5 = .ok (.getfield 7, 3) := by decide +kernel
theorem d5_8 : decode prog_13_method_2_code 8 = .ok (.dcmp .l, 1) := by decide +kernel
theorem d5_9 : decode prog_13_method_2_code 9 = .ok (.ifCond .eq 24, 3) := by decide +kernel
theorem d5_12 : decode prog_13_method_2_code 12 = .ok (.aload_n 0, 1) := by decide +kernel
theorem d5_13 : decode prog_13_method_2_code 13 = .ok (.getfield 7, 3) := by decide +kernel
theorem d5_16 : decode prog_13_method_2_code 16 = .ok (.aload_n 1, 1) := by decide +kernel
theorem d5_17 : decode prog_13_method_2_code 17 = .ok (.getfield 7, 3) := by decide +kernel
theorem d5_20 : decode prog_13_method_2_code 20 = .ok (.dcmp .l, 1) := by decide +kernel
theorem d5_21 : decode prog_13_method_2_code 21 = .ok (.ifCond .le 7, 3) := by decide +kernel
theorem d5_28 : decode prog_13_method_2_code 28 = .ok (.iconst 0, 1) := by decide +kernel
theorem d5_29 : decode prog_13_method_2_code 29 = .ok (.istore_n 2, 1) := by decide +kernel
theorem d5_30 : decode prog_13_method_2_code 30 = .ok (.goto 53, 3) := by decide +kernel
theorem d5_83 : decode prog_13_method_2_code 83 = .ok (.iload_n 2, 1) := by decide +kernel
theorem d5_84 : decode prog_13_method_2_code 84 = .ok (.ireturn, 1) := by decide +kernel
theorem ef96 (m : MethodId) (x0 : Addr) (x1 : Addr) : entryFrame m #[(.ref x0), (.ref x1)] 3 = mkF m 0 #[.val (.ref x0), .val (.ref x1), .unset] [] := by first | (simp [entryFrame, mkF, argsToLocals, Value.category]; done) | rfl
theorem m31 : (Jvm.Cond.code (⟨z0, "outranks", z2⟩ : MethodName) prog_13_method_2_code (3 : Nat) (Option.some FieldType.boolean)) ∈ tables_1 := List.mem_of_getElem? (i := 31) rfl
theorem pd98 : parseMethodDescriptor z2 = some ⟨[(.object z0)], some .boolean⟩ := by decide +kernel
theorem m28 : (Jvm.Cond.declares (⟨z0, "outranks", z2⟩ : MethodName)) ∈ tables_1 := List.mem_of_getElem? (i := 28) rfl
theorem m29 : (Jvm.Cond.instanceMethod (⟨z0, "outranks", z2⟩ : MethodName)) ∈ tables_1 := List.mem_of_getElem? (i := 29) rfl
theorem d5_24 : decode prog_13_method_2_code 24 = .ok (.iconst 1, 1) := by decide +kernel
theorem d5_25 : decode prog_13_method_2_code 25 = .ok (.goto 4, 3) := by decide +kernel
theorem d5_33 : decode prog_13_method_2_code 33 = .ok (.aload_n 0, 1) := by decide +kernel
theorem d5_34 : decode prog_13_method_2_code 34 = .ok (.getfield 13, 3) := by decide +kernel
theorem d5_37 : decode prog_13_method_2_code 37 = .ok (.aload_n 1, 1) := by decide +kernel
theorem d5_38 : decode prog_13_method_2_code 38 = .ok (.getfield 13, 3) := by decide +kernel
theorem d5_41 : decode prog_13_method_2_code 41 = .ok (.dcmp .l, 1) := by decide +kernel
theorem d5_42 : decode prog_13_method_2_code 42 = .ok (.ifCond .eq 24, 3) := by decide +kernel
theorem d5_45 : decode prog_13_method_2_code 45 = .ok (.aload_n 0, 1) := by decide +kernel
theorem d5_46 : decode prog_13_method_2_code 46 = .ok (.getfield 13, 3) := by decide +kernel
theorem d5_49 : decode prog_13_method_2_code 49 = .ok (.aload_n 1, 1) := by decide +kernel
theorem d5_50 : decode prog_13_method_2_code 50 = .ok (.getfield 13, 3) := by decide +kernel
theorem d5_53 : decode prog_13_method_2_code 53 = .ok (.dcmp .g, 1) := by decide +kernel
theorem d5_54 : decode prog_13_method_2_code 54 = .ok (.ifCond .ge 7, 3) := by decide +kernel
theorem d5_57 : decode prog_13_method_2_code 57 = .ok (.iconst 1, 1) := by decide +kernel
theorem d5_58 : decode prog_13_method_2_code 58 = .ok (.goto 4, 3) := by decide +kernel
theorem d5_62 : decode prog_13_method_2_code 62 = .ok (.istore_n 2, 1) := by decide +kernel
theorem d5_63 : decode prog_13_method_2_code 63 = .ok (.goto 20, 3) := by decide +kernel
theorem d5_61 : decode prog_13_method_2_code 61 = .ok (.iconst 0, 1) := by decide +kernel
theorem d5_66 : decode prog_13_method_2_code 66 = .ok (.aload_n 0, 1) := by decide +kernel
theorem d5_67 : decode prog_13_method_2_code 67 = .ok (.getfield 16, 3) := by decide +kernel
theorem d5_70 : decode prog_13_method_2_code 70 = .ok (.aload_n 1, 1) := by decide +kernel
theorem d5_71 : decode prog_13_method_2_code 71 = .ok (.getfield 16, 3) := by decide +kernel
theorem d5_74 : decode prog_13_method_2_code 74 = .ok (.if_icmp .ge 7, 3) := by decide +kernel
theorem d5_77 : decode prog_13_method_2_code 77 = .ok (.iconst 1, 1) := by decide +kernel
theorem d5_78 : decode prog_13_method_2_code 78 = .ok (.goto 4, 3) := by decide +kernel
theorem d5_82 : decode prog_13_method_2_code 82 = .ok (.istore_n 2, 1) := by decide +kernel
theorem d5_81 : decode prog_13_method_2_code 81 = .ok (.iconst 0, 1) := by decide +kernel
theorem ef129 (m : MethodId) (x0 : Int32) (x1 : Int32) (x2 : Int32) (x3 : Int32) (x4 : Int32) (x5 : Int32) : entryFrame m #[(.int x0), (.int x1), (.int x2), (.int x3), (.int x4), (.int x5)] maxLocals = mkF m 0 #[.val (.int x0), .val (.int x1), .val (.int x2), .val (.int x3), .val (.int x4), .val (.int x5), .unset, .unset, .unset, .unset, .unset, .unset, .unset, .unset, .unset, .unset, .unset, .unset, .unset, .unset, .unset, .unset] [] := by first | (simp [entryFrame, mkF, argsToLocals, Value.category, maxLocals]; done) | rfl
def Cx (Z : State) (a0 : Array Value) : Prop := (∀ d ∈ tables_1, d.before a0 Z = true) ∧ True ∧ True
variable {l : Launch} {Z : State} {a0 : Array Value} {h0 : Heap} {n0 : Nat}
theorem cw0 (cx : Cx Z a0) : WI Z a0 z0 1 ⟨"java/lang/Record", "<init>", "()V"⟩ jdk_30_method_1_code 1 [] := ⟨(cx.1 _ m7), (cx.1 _ m8), (cx.1 _ m10), (cx.1 _ m11), by decide, pd21, rfl⟩
theorem cw1 (cx : Cx Z a0) : WI Z a0 z1 17 ⟨z0, "<init>", "(DDI)V"⟩ prog_13_method_1_code 6 [.double, .double, .int] := ⟨(cx.1 _ m4), (cx.1 _ m5), (cx.1 _ m3), (cx.1 _ m6), by decide, pd39, rfl⟩
theorem cw2 (cx : Cx Z a0) : WS Z a0 z1 20 ⟨z1, "key", "(III)J"⟩ method_2_code 9 (some .long) [.int, .int, .int] (some .long) := ⟨(cx.1 _ m21), (cx.1 _ m22), (cx.1 _ m23), (cx.1 _ m24), by decide, pd75⟩
theorem cw3 (cx : Cx Z a0) : WV Z a0 z1 26 z0 ⟨z0, "outranks", z2⟩ prog_13_method_2_code 3 (some .boolean) [(.object z0)] (some .boolean) := ⟨(cx.1 _ m27), (cx.1 _ m28), (cx.1 _ m30), (cx.1 _ m29), (cx.1 _ m3), (cx.1 _ m31), by decide, pd98⟩
def Qrm1 (Z : State) (h0 : Heap) (n0 : Nat) (v : Option Value) (h : Heap) (L : List Loc) : Prop := v = none ∧ Fr n0 L ∧ h = h0
theorem rm1 (cx : Cx Z a0) (a1 : Addr) (O0 : Old Z n0 h0) : Ct l Z ⟨"java/lang/Record", "<init>", "()V"⟩ jdk_30_method_1_code 1 none ⟨1, 0, 0, 12⟩ #[(vR a1)] h0 (Qrm1 Z h0 n0) := by
  obtain ⟨hw, hj, hS⟩ := id cx
  refine own_bd (plainFor_of_name pn18) (fun m => ef17 m a1) fun p e s m below meth c s₁ hret hlk hZ hx hby hml hown hnm X0 e0 => ?_
  have N0 := Fr.nil n0
  obtain ⟨T1, X1, e1, st1⟩ := initO X0 hx hZ hown (hw _ m12) (hw _ m13) (hw _ m14) e0 (g := (mkF m 1 #[sR a1] [(vR a1)])) rfl (by rw [hml]; rfl) rfl (hb hby d2_1) (by decide) (W := 0) (Nat.le_of_eq rfl) (by decide)
  refine own_end X1 hlk (v := none) (fun _ => rfl) (by decide) (by rw [e1]; exact ⟨rfl, N0, rfl⟩) fun fs hr => ?_
  show St p e below s₁ (mkF m 0 #[sR a1] []) _
  refine wal X0 hx hby rfl d2_0 rfl rfl ?_
  refine st1 _ ?_
  exact X1.returnOut hx hret (hb hby d2_4) hr
def Qrm2 (Z : State) (y1 : UInt64) (y2 : UInt64) (p3 : Int32) (a4 : Addr) (h0 : Heap) (n0 : Nat) (v : Option Value) (h : Heap) (L : List Loc) : Prop := v = none ∧ Fr n0 L ∧ Keep h0 h [a4] ∧ Fld Z h a4 z0 "priority" "D" (.double y1) ∧ Fld Z h a4 z0 "time" "D" (.double y2) ∧ Fld Z h a4 z0 "node" "I" (vI p3)
theorem rm2 (cx : Cx Z a0) (y1 : UInt64) (y2 : UInt64) (p3 : Int32) (a4 : Addr) (O0 : Old Z n0 h0) (PE1 : Exa Z h0 a4 z0) (PF2 : Fld Z h0 a4 z0 "priority" "D" (.double (0 : UInt64))) (PF3 : Fld Z h0 a4 z0 "time" "D" (.double (0 : UInt64))) (PF4 : Fld Z h0 a4 z0 "node" "I" (vI 0)) (gn5 : n0 ≤ a4) : Ct l Z ⟨z0, "<init>", "(DDI)V"⟩ prog_13_method_1_code 6 none ⟨2, 0, 0, 24⟩ #[(vR a4), (.double y1), (.double y2), (vI p3)] h0 (Qrm2 Z y1 y2 p3 a4 h0 n0) := by
  obtain ⟨hw, hj, hS⟩ := id cx
  refine own_bd (plainFor_of_name pn37) (fun m => ef36 m a4 y1 y2 p3) fun p e s m below meth c s₁ hret hlk hZ hx hby hml hown hnm X0 e0 => ?_
  have N0 := Fr.nil n0
  obtain ⟨_, T1, L1, ⟨rfl, N1q, e1⟩, X1, st1⟩ := cI X0 hx hZ (W := 0) hown (cw0 cx) (rm1 cx a4 O0) e0 (g := (mkF m 1 #[sR a4, .val (.double y1), sS, .val (.double y2), sS, sI p3] [(vR a4)])) rfl hml rfl (rest := []) rfl rfl rfl rfl (hb hby d1_1) (by decide)
  obtain ⟨T2, h2, L'2, X2, e2, W2, Fw2, O2, K2, N2, st2⟩ := own_put X1 hx hZ hown (host := "") (Or.inl (hw _ m15)) Via.refl e1 O0 (Keep.refl h0 [a4]) (Fr.app N0 N1q) gn5 (Or.inl (List.mem_of_getElem? (i := 0) rfl)) PF2 PE1 (Or.inr ⟨(hw _ m16), rfl, hnm⟩) (hw _ m2) (ty := .double) (by decide) rfl rfl (g := (mkF m 6 #[sR a4, .val (.double y1), sS, .val (.double y2), sS, sI p3] [(.double y1), (vR a4)])) rfl rfl (hb hby d1_6)
  have f3 : Fld Z h2 a4 z0 "time" "D" (.double (0 : UInt64)) := (PF3.other W2 (Or.inr (slot_ne (Or.inr (hw _ m18)) (Or.inr (hw _ m16)) (by decide) (t := .double) (t' := .double) (by decide) (by decide))))
  have f4 : Exa Z h2 a4 z0 := (PE1.wr W2)
  obtain ⟨T5, h5, L'5, X5, e5, W5, Fw5, O5, K5, N5, st5⟩ := own_put X2 hx hZ hown (host := "") (Or.inl (hw _ m17)) Via.refl e2 O2 K2 N2 gn5 (Or.inl (List.mem_of_getElem? (i := 0) rfl)) f3 f4 (Or.inr ⟨(hw _ m18), rfl, hnm⟩) (hw _ m2) (ty := .double) (by decide) rfl rfl (g := (mkF m 11 #[sR a4, .val (.double y1), sS, .val (.double y2), sS, sI p3] [(.double y2), (vR a4)])) rfl rfl (hb hby d1_11)
  have f6 : Fld Z h5 a4 z0 "node" "I" (vI 0) := ((PF4.other W2 (Or.inr (slot_ne (Or.inr (hw _ m20)) (Or.inr (hw _ m16)) (by decide) (t := .int) (t' := .double) (by decide) (by decide)))).other W5 (Or.inr (slot_ne (Or.inr (hw _ m20)) (Or.inr (hw _ m18)) (by decide) (t := .int) (t' := .double) (by decide) (by decide))))
  have f7 : Exa Z h5 a4 z0 := (f4.wr W5)
  obtain ⟨T8, h8, L'8, X8, e8, W8, Fw8, O8, K8, N8, st8⟩ := own_put X5 hx hZ hown (host := "") (Or.inl (hw _ m19)) Via.refl e5 O5 K5 N5 gn5 (Or.inl (List.mem_of_getElem? (i := 0) rfl)) f6 f7 (Or.inr ⟨(hw _ m20), rfl, hnm⟩) (hw _ m2) (ty := .int) (by decide) rfl rfl (g := (mkF m 17 #[sR a4, .val (.double y1), sS, .val (.double y2), sS, sI p3] [(vI p3), (vR a4)])) rfl rfl (hb hby d1_17)
  have f9 : Fld Z h8 a4 z0 "priority" "D" (.double y1) := ((Fw2.other W5 (Or.inr (slot_ne (Or.inr (hw _ m16)) (Or.inr (hw _ m18)) (by decide) (t := .double) (t' := .double) (by decide) (by decide)))).other W8 (Or.inr (slot_ne (Or.inr (hw _ m16)) (Or.inr (hw _ m20)) (by decide) (t := .double) (t' := .int) (by decide) (by decide))))
  have f10 : Fld Z h8 a4 z0 "time" "D" (.double y2) := (Fw5.other W8 (Or.inr (slot_ne (Or.inr (hw _ m18)) (Or.inr (hw _ m20)) (by decide) (t := .double) (t' := .int) (by decide) (by decide))))
  refine own_end X8 hlk (v := none) (fun _ => rfl) (by decide) (by rw [e8]; exact ⟨rfl, N8, K8, f9, f10, Fw8⟩) fun fs hr => ?_
  show St p e below s₁ (mkF m 0 #[sR a4, .val (.double y1), sS, .val (.double y2), sS, sI p3] []) _
  refine wal X0 hx hby rfl d1_0 rfl rfl ?_
  refine st1 _ ?_
  refine wal X1 hx hby rfl d1_4 rfl rfl ?_
  refine own_dloadN X1.here hx rfl (hb hby d1_5) rfl ?_
  refine st2 _ ?_
  refine wal X2 hx hby rfl d1_9 rfl rfl ?_
  refine own_dloadN X2.here hx rfl (hb hby d1_10) rfl ?_
  refine st5 _ ?_
  refine wal X5 hx hby rfl d1_14 rfl rfl ?_
  refine wiL X5 hx hby rfl d1_15 rfl ?_
  refine st8 _ ?_
  exact X8.returnOut hx hret (hb hby d1_20) hr
def Qrm3 (Z : State) (p1 : Int32) (p2 : Int32) (p3 : Int32) (h0 : Heap) (n0 : Nat) (v : Option Value) (h : Heap) (L : List Loc) : Prop := v = some (vL (((((p1 &&& (15 : Int32)).toInt64) <<< ((36 : Int32) &&& 63).toInt64) ||| (((15 : Int64) - ((p2 &&& (15 : Int32)).toInt64)) <<< ((32 : Int32) &&& 63).toInt64)) ||| ((2147483647 : Int64) - (p3.toInt64)))) ∧ Fr n0 L ∧ h = h0
theorem rm3 (cx : Cx Z a0) (p1 : Int32) (p2 : Int32) (p3 : Int32) (O0 : Old Z n0 h0) : Ct l Z ⟨z1, "key", "(III)J"⟩ method_2_code 9 (some .long) ⟨0, 0, 0, 0⟩ #[(vI p1), (vI p2), (vI p3)] h0 (Qrm3 Z p1 p2 p3 h0 n0) := by
  obtain ⟨hw, hj, hS⟩ := id cx
  refine own_bd (plainFor_of_name pn72) (fun m => ef71 m p1 p2 p3) fun p e s m below meth c s₁ hret hlk hZ hx hby hml hown hnm X0 e0 => ?_
  have N0 := Fr.nil n0
  refine own_end X0 hlk (v := some (vL (((((p1 &&& (15 : Int32)).toInt64) <<< ((36 : Int32) &&& 63).toInt64) ||| (((15 : Int64) - ((p2 &&& (15 : Int32)).toInt64)) <<< ((32 : Int32) &&& 63).toInt64)) ||| ((2147483647 : Int64) - (p3.toInt64))))) (own_hv hret) (by decide) (by rw [e0]; exact ⟨rfl, N0, rfl⟩) fun fs hr => ?_
  show St p e below s₁ (mkF m 0 #[sI p1, sI p2, sI p3, sU, sU, sU, sU, sU, sU] []) _
  refine wil X0 hx hby rfl d4_0 rfl ?_
  refine wbp X0 hx hby rfl d4_1 ?_
  refine XS.iand X0.here hx rfl (hb hby d4_3) rfl ?_
  refine XS.i2l X0.here hx rfl (hb hby d4_4) rfl ?_
  refine XS.lstoreN X0.here hx rfl (hb hby d4_5) rfl (l' := #[sI p1, sI p2, sI p3, sL ((p1 &&& (15 : Int32)).toInt64), sS, sU, sU, sU, sU]) rfl ?_
  refine X0.ldc2Long hx hown (mvT hZ (hw _ m25)) (g := (mkF m 6 #[sI p1, sI p2, sI p3, sL ((p1 &&& (15 : Int32)).toInt64), sS, sU, sU, sU, sU] [])) rfl (hb hby d4_6) _ ?_
  refine wil X0 hx hby rfl d4_9 rfl ?_
  refine wbp X0 hx hby rfl d4_10 ?_
  refine XS.iand X0.here hx rfl (hb hby d4_12) rfl ?_
  refine XS.i2l X0.here hx rfl (hb hby d4_13) rfl ?_
  refine XS.lsub X0.here hx rfl (hb hby d4_14) rfl ?_
  refine XS.lstore X0.here hx rfl (hb hby d4_15) rfl (l' := #[sI p1, sI p2, sI p3, sL ((p1 &&& (15 : Int32)).toInt64), sS, sL ((15 : Int64) - ((p2 &&& (15 : Int32)).toInt64)), sS, sU, sU]) rfl ?_
  refine X0.ldc2Long hx hown (mvT hZ (hw _ m26)) (g := (mkF m 17 #[sI p1, sI p2, sI p3, sL ((p1 &&& (15 : Int32)).toInt64), sS, sL ((15 : Int64) - ((p2 &&& (15 : Int32)).toInt64)), sS, sU, sU] [])) rfl (hb hby d4_17) _ ?_
  refine wil X0 hx hby rfl d4_20 rfl ?_
  refine XS.i2l X0.here hx rfl (hb hby d4_21) rfl ?_
  refine XS.lsub X0.here hx rfl (hb hby d4_22) rfl ?_
  show St p e below s₁ (mkF m 23 #[sI p1, sI p2, sI p3, sL ((p1 &&& (15 : Int32)).toInt64), sS, sL ((15 : Int64) - ((p2 &&& (15 : Int32)).toInt64)), sS, sU, sU] [(vL ((2147483647 : Int64) - (p3.toInt64)))]) _
  refine XS.lstore X0.here hx rfl (hb hby d4_23) rfl (l' := #[sI p1, sI p2, sI p3, sL ((p1 &&& (15 : Int32)).toInt64), sS, sL ((15 : Int64) - ((p2 &&& (15 : Int32)).toInt64)), sS, sL ((2147483647 : Int64) - (p3.toInt64)), sS]) rfl ?_
  refine XS.lloadN X0.here hx rfl (hb hby d4_25) rfl ?_
  refine wbp X0 hx hby rfl d4_26 ?_
  refine XS.lshl X0.here hx rfl (hb hby d4_28) rfl ?_
  refine XS.lload X0.here hx rfl (hb hby d4_29) rfl ?_
  refine wbp X0 hx hby rfl d4_31 ?_
  refine XS.lshl X0.here hx rfl (hb hby d4_33) rfl ?_
  refine XS.lor X0.here hx rfl (hb hby d4_34) rfl ?_
  refine XS.lload X0.here hx rfl (hb hby d4_35) rfl ?_
  refine XS.lor X0.here hx rfl (hb hby d4_37) rfl ?_
  exact retOut X0 hx hret rfl (Or.inr (Or.inl ⟨rfl, rfl, _, rfl⟩)) (hb hby d4_38) hr
def Qrm4 (Z : State) (h0 : Heap) (n0 : Nat) (v : Option Value) (h : Heap) (L : List Loc) : Prop := v = some (vI 0) ∧ Fr n0 L ∧ h = h0
theorem rm4 (cx : Cx Z a0) (a1 : Addr) (a2 : Addr) (y3 : UInt64) (y4 : UInt64) (O0 : Old Z n0 h0) (PF1 : Fld Z h0 a1 z0 "priority" "D" (.double y3)) (PF2 : Fld Z h0 a2 z0 "priority" "D" (.double y4)) (hc3 : FP.dcmp y3 y4 = some .lt) : Ct l Z ⟨z0, "outranks", z2⟩ prog_13_method_2_code 3 (some .boolean) ⟨0, 0, 0, 0⟩ #[(vR a1), (vR a2)] h0 (Qrm4 Z h0 n0) := by
  obtain ⟨hw, hj, hS⟩ := id cx
  refine own_bd (plainFor_of_name pn37) (fun m => ef96 m a1 a2) fun p e s m below meth c s₁ hret hlk hZ hx hby hml hown hnm X0 e0 => ?_
  have N0 := Fr.nil n0
  obtain ⟨T1, X1, e1, st1⟩ := getF X0 hx hZ hown (host := "") (Or.inl (hw _ m15)) Via.refl e0 PF1 (g := (mkF m 1 #[sR a1, sR a2, sU] [(vR a1)])) rfl rfl (hb hby d5_1)
  obtain ⟨T2, X2, e2, st2⟩ := getF X1 hx hZ hown (host := "") (Or.inl (hw _ m15)) Via.refl e1 PF2 (g := (mkF m 5 #[sR a1, sR a2, sU] [(vR a2), (.double y3)])) rfl rfl (hb hby d5_5)
  obtain ⟨T3, X3, e3, st3⟩ := getF X2 hx hZ hown (host := "") (Or.inl (hw _ m15)) Via.refl e2 PF1 (g := (mkF m 13 #[sR a1, sR a2, sU] [(vR a1)])) rfl rfl (hb hby d5_13)
  obtain ⟨T4, X4, e4, st4⟩ := getF X3 hx hZ hown (host := "") (Or.inl (hw _ m15)) Via.refl e3 PF2 (g := (mkF m 17 #[sR a1, sR a2, sU] [(vR a2), (.double y3)])) rfl rfl (hb hby d5_17)
  refine own_end X4 hlk (v := some (vI 0)) (own_hv hret) (by decide) (by rw [e4]; exact ⟨rfl, N0, rfl⟩) fun fs hr => ?_
  show St p e below s₁ (mkF m 0 #[sR a1, sR a2, sU] []) _
  refine wal X0 hx hby rfl d5_0 rfl rfl ?_
  refine st1 _ ?_
  refine wal X1 hx hby rfl d5_4 rfl rfl ?_
  refine st2 _ ?_
  refine own_dcmp X2.here hx rfl (hb hby d5_8) rfl hc3 rfl ?_
  refine wfn X2 hx hby rfl d5_9 rfl ((if0 _ _).trans (feq (by decide : ¬ ((-1 : Int32) = (0 : Int32)))).1) ?_
  refine wal X2 hx hby rfl d5_12 rfl rfl ?_
  refine st3 _ ?_
  refine wal X3 hx hby rfl d5_16 rfl rfl ?_
  refine st4 _ ?_
  refine own_dcmp X4.here hx rfl (hb hby d5_20) rfl hc3 rfl ?_
  refine wfy X4 hx hby rfl (pc0 := 21) (pc' := 28) rfl d5_21 rfl ((if0 _ _).trans (flt (by decide : ¬ ((0 : Int32) < (-1 : Int32)))).2.2.2) (by decide) (by decide) ?_
  refine wic X4 hx hby rfl d5_28 ?_
  refine wis X4 hx hby rfl d5_29 rfl (l' := #[sR a1, sR a2, sI 0]) rfl ?_
  refine wgt X4 hx hby rfl (pc0 := 30) (pc' := 83) rfl d5_30 (by decide) (by decide) ?_
  refine wil X4 hx hby rfl d5_83 rfl ?_
  show St p e below T4 (mkF m 84 #[sR a1, sR a2, sI 0] [(vI 0)]) _
  exact retN X4 hx (t := .boolean) hret (by simp) (hb hby d5_84) hr
def Qrm5 (Z : State) (h0 : Heap) (n0 : Nat) (v : Option Value) (h : Heap) (L : List Loc) : Prop := v = some (vI 1) ∧ Fr n0 L ∧ h = h0
theorem rm5 (cx : Cx Z a0) (a1 : Addr) (a2 : Addr) (y3 : UInt64) (y4 : UInt64) (O0 : Old Z n0 h0) (PF1 : Fld Z h0 a1 z0 "priority" "D" (.double y3)) (PF2 : Fld Z h0 a2 z0 "priority" "D" (.double y4)) (hc3 : FP.dcmp y3 y4 = some .gt) : Ct l Z ⟨z0, "outranks", z2⟩ prog_13_method_2_code 3 (some .boolean) ⟨0, 0, 0, 0⟩ #[(vR a1), (vR a2)] h0 (Qrm5 Z h0 n0) := by
  obtain ⟨hw, hj, hS⟩ := id cx
  refine own_bd (plainFor_of_name pn37) (fun m => ef96 m a1 a2) fun p e s m below meth c s₁ hret hlk hZ hx hby hml hown hnm X0 e0 => ?_
  have N0 := Fr.nil n0
  obtain ⟨T1, X1, e1, st1⟩ := getF X0 hx hZ hown (host := "") (Or.inl (hw _ m15)) Via.refl e0 PF1 (g := (mkF m 1 #[sR a1, sR a2, sU] [(vR a1)])) rfl rfl (hb hby d5_1)
  obtain ⟨T2, X2, e2, st2⟩ := getF X1 hx hZ hown (host := "") (Or.inl (hw _ m15)) Via.refl e1 PF2 (g := (mkF m 5 #[sR a1, sR a2, sU] [(vR a2), (.double y3)])) rfl rfl (hb hby d5_5)
  obtain ⟨T3, X3, e3, st3⟩ := getF X2 hx hZ hown (host := "") (Or.inl (hw _ m15)) Via.refl e2 PF1 (g := (mkF m 13 #[sR a1, sR a2, sU] [(vR a1)])) rfl rfl (hb hby d5_13)
  obtain ⟨T4, X4, e4, st4⟩ := getF X3 hx hZ hown (host := "") (Or.inl (hw _ m15)) Via.refl e3 PF2 (g := (mkF m 17 #[sR a1, sR a2, sU] [(vR a2), (.double y3)])) rfl rfl (hb hby d5_17)
  refine own_end X4 hlk (v := some (vI 1)) (own_hv hret) (by decide) (by rw [e4]; exact ⟨rfl, N0, rfl⟩) fun fs hr => ?_
  show St p e below s₁ (mkF m 0 #[sR a1, sR a2, sU] []) _
  refine wal X0 hx hby rfl d5_0 rfl rfl ?_
  refine st1 _ ?_
  refine wal X1 hx hby rfl d5_4 rfl rfl ?_
  refine st2 _ ?_
  refine own_dcmp X2.here hx rfl (hb hby d5_8) rfl hc3 rfl ?_
  refine wfn X2 hx hby rfl d5_9 rfl ((if0 _ _).trans (feq (by decide : ¬ ((1 : Int32) = (0 : Int32)))).1) ?_
  refine wal X2 hx hby rfl d5_12 rfl rfl ?_
  refine st3 _ ?_
  refine wal X3 hx hby rfl d5_16 rfl rfl ?_
  refine st4 _ ?_
  refine own_dcmp X4.here hx rfl (hb hby d5_20) rfl hc3 rfl ?_
  refine wfn X4 hx hby rfl d5_21 rfl ((if0 _ _).trans (tlt (by decide : (0 : Int32) < (1 : Int32))).2.2.2) ?_
  refine wic X4 hx hby rfl d5_24 ?_
  refine wgt X4 hx hby rfl (pc0 := 25) (pc' := 29) rfl d5_25 (by decide) (by decide) ?_
  refine wis X4 hx hby rfl d5_29 rfl (l' := #[sR a1, sR a2, sI 1]) rfl ?_
  refine wgt X4 hx hby rfl (pc0 := 30) (pc' := 83) rfl d5_30 (by decide) (by decide) ?_
  show St p e below T4 (mkF m 83 #[sR a1, sR a2, sI 1] []) _
  refine wil X4 hx hby rfl d5_83 rfl ?_
  exact retN X4 hx (t := .boolean) hret (by simp) (hb hby d5_84) hr
def Qrm6 (Z : State) (h0 : Heap) (n0 : Nat) (v : Option Value) (h : Heap) (L : List Loc) : Prop := v = some (vI 1) ∧ Fr n0 L ∧ h = h0
theorem rm6 (cx : Cx Z a0) (a1 : Addr) (a2 : Addr) (y3 : UInt64) (y4 : UInt64) (y5 : UInt64) (y6 : UInt64) (O0 : Old Z n0 h0) (PF1 : Fld Z h0 a1 z0 "priority" "D" (.double y3)) (PF2 : Fld Z h0 a2 z0 "priority" "D" (.double y4)) (hc3 : FP.dcmp y3 y4 = some .eq) (PF4 : Fld Z h0 a1 z0 "time" "D" (.double y5)) (PF5 : Fld Z h0 a2 z0 "time" "D" (.double y6)) (hc6 : FP.dcmp y5 y6 = some .lt) : Ct l Z ⟨z0, "outranks", z2⟩ prog_13_method_2_code 3 (some .boolean) ⟨0, 0, 0, 0⟩ #[(vR a1), (vR a2)] h0 (Qrm6 Z h0 n0) := by
  obtain ⟨hw, hj, hS⟩ := id cx
  refine own_bd (plainFor_of_name pn37) (fun m => ef96 m a1 a2) fun p e s m below meth c s₁ hret hlk hZ hx hby hml hown hnm X0 e0 => ?_
  have N0 := Fr.nil n0
  obtain ⟨T1, X1, e1, st1⟩ := getF X0 hx hZ hown (host := "") (Or.inl (hw _ m15)) Via.refl e0 PF1 (g := (mkF m 1 #[sR a1, sR a2, sU] [(vR a1)])) rfl rfl (hb hby d5_1)
  obtain ⟨T2, X2, e2, st2⟩ := getF X1 hx hZ hown (host := "") (Or.inl (hw _ m15)) Via.refl e1 PF2 (g := (mkF m 5 #[sR a1, sR a2, sU] [(vR a2), (.double y3)])) rfl rfl (hb hby d5_5)
  obtain ⟨T3, X3, e3, st3⟩ := getF X2 hx hZ hown (host := "") (Or.inl (hw _ m17)) Via.refl e2 PF4 (g := (mkF m 34 #[sR a1, sR a2, sU] [(vR a1)])) rfl rfl (hb hby d5_34)
  obtain ⟨T4, X4, e4, st4⟩ := getF X3 hx hZ hown (host := "") (Or.inl (hw _ m17)) Via.refl e3 PF5 (g := (mkF m 38 #[sR a1, sR a2, sU] [(vR a2), (.double y5)])) rfl rfl (hb hby d5_38)
  obtain ⟨T5, X5, e5, st5⟩ := getF X4 hx hZ hown (host := "") (Or.inl (hw _ m17)) Via.refl e4 PF4 (g := (mkF m 46 #[sR a1, sR a2, sU] [(vR a1)])) rfl rfl (hb hby d5_46)
  obtain ⟨T6, X6, e6, st6⟩ := getF X5 hx hZ hown (host := "") (Or.inl (hw _ m17)) Via.refl e5 PF5 (g := (mkF m 50 #[sR a1, sR a2, sU] [(vR a2), (.double y5)])) rfl rfl (hb hby d5_50)
  refine own_end X6 hlk (v := some (vI 1)) (own_hv hret) (by decide) (by rw [e6]; exact ⟨rfl, N0, rfl⟩) fun fs hr => ?_
  show St p e below s₁ (mkF m 0 #[sR a1, sR a2, sU] []) _
  refine wal X0 hx hby rfl d5_0 rfl rfl ?_
  refine st1 _ ?_
  refine wal X1 hx hby rfl d5_4 rfl rfl ?_
  refine st2 _ ?_
  refine own_dcmp X2.here hx rfl (hb hby d5_8) rfl hc3 rfl ?_
  refine wfy X2 hx hby rfl (pc0 := 9) (pc' := 33) rfl d5_9 rfl ((if0 _ _).trans (teq (by decide : (0 : Int32) = (0 : Int32))).1) (by decide) (by decide) ?_
  refine wal X2 hx hby rfl d5_33 rfl rfl ?_
  refine st3 _ ?_
  refine wal X3 hx hby rfl d5_37 rfl rfl ?_
  refine st4 _ ?_
  refine own_dcmp X4.here hx rfl (hb hby d5_41) rfl hc6 rfl ?_
  refine wfn X4 hx hby rfl d5_42 rfl ((if0 _ _).trans (feq (by decide : ¬ ((-1 : Int32) = (0 : Int32)))).1) ?_
  refine wal X4 hx hby rfl d5_45 rfl rfl ?_
  refine st5 _ ?_
  refine wal X5 hx hby rfl d5_49 rfl rfl ?_
  refine st6 _ ?_
  show St p e below T6 (mkF m 53 #[sR a1, sR a2, sU] [(.double y6), (.double y5)]) _
  refine own_dcmp X6.here hx rfl (hb hby d5_53) rfl hc6 rfl ?_
  refine wfn X6 hx hby rfl d5_54 rfl ((if0 _ _).trans (tlt (by decide : (-1 : Int32) < (0 : Int32))).2.1) ?_
  refine wic X6 hx hby rfl d5_57 ?_
  refine wgt X6 hx hby rfl (pc0 := 58) (pc' := 62) rfl d5_58 (by decide) (by decide) ?_
  refine wis X6 hx hby rfl d5_62 rfl (l' := #[sR a1, sR a2, sI 1]) rfl ?_
  refine wgt X6 hx hby rfl (pc0 := 63) (pc' := 83) rfl d5_63 (by decide) (by decide) ?_
  refine wil X6 hx hby rfl d5_83 rfl ?_
  exact retN X6 hx (t := .boolean) hret (by simp) (hb hby d5_84) hr
def Qrm7 (Z : State) (h0 : Heap) (n0 : Nat) (v : Option Value) (h : Heap) (L : List Loc) : Prop := v = some (vI 0) ∧ Fr n0 L ∧ h = h0
theorem rm7 (cx : Cx Z a0) (a1 : Addr) (a2 : Addr) (y3 : UInt64) (y4 : UInt64) (y5 : UInt64) (y6 : UInt64) (O0 : Old Z n0 h0) (PF1 : Fld Z h0 a1 z0 "priority" "D" (.double y3)) (PF2 : Fld Z h0 a2 z0 "priority" "D" (.double y4)) (hc3 : FP.dcmp y3 y4 = some .eq) (PF4 : Fld Z h0 a1 z0 "time" "D" (.double y5)) (PF5 : Fld Z h0 a2 z0 "time" "D" (.double y6)) (hc6 : FP.dcmp y5 y6 = some .gt) : Ct l Z ⟨z0, "outranks", z2⟩ prog_13_method_2_code 3 (some .boolean) ⟨0, 0, 0, 0⟩ #[(vR a1), (vR a2)] h0 (Qrm7 Z h0 n0) := by
  obtain ⟨hw, hj, hS⟩ := id cx
  refine own_bd (plainFor_of_name pn37) (fun m => ef96 m a1 a2) fun p e s m below meth c s₁ hret hlk hZ hx hby hml hown hnm X0 e0 => ?_
  have N0 := Fr.nil n0
  obtain ⟨T1, X1, e1, st1⟩ := getF X0 hx hZ hown (host := "") (Or.inl (hw _ m15)) Via.refl e0 PF1 (g := (mkF m 1 #[sR a1, sR a2, sU] [(vR a1)])) rfl rfl (hb hby d5_1)
  obtain ⟨T2, X2, e2, st2⟩ := getF X1 hx hZ hown (host := "") (Or.inl (hw _ m15)) Via.refl e1 PF2 (g := (mkF m 5 #[sR a1, sR a2, sU] [(vR a2), (.double y3)])) rfl rfl (hb hby d5_5)
  obtain ⟨T3, X3, e3, st3⟩ := getF X2 hx hZ hown (host := "") (Or.inl (hw _ m17)) Via.refl e2 PF4 (g := (mkF m 34 #[sR a1, sR a2, sU] [(vR a1)])) rfl rfl (hb hby d5_34)
  obtain ⟨T4, X4, e4, st4⟩ := getF X3 hx hZ hown (host := "") (Or.inl (hw _ m17)) Via.refl e3 PF5 (g := (mkF m 38 #[sR a1, sR a2, sU] [(vR a2), (.double y5)])) rfl rfl (hb hby d5_38)
  obtain ⟨T5, X5, e5, st5⟩ := getF X4 hx hZ hown (host := "") (Or.inl (hw _ m17)) Via.refl e4 PF4 (g := (mkF m 46 #[sR a1, sR a2, sU] [(vR a1)])) rfl rfl (hb hby d5_46)
  obtain ⟨T6, X6, e6, st6⟩ := getF X5 hx hZ hown (host := "") (Or.inl (hw _ m17)) Via.refl e5 PF5 (g := (mkF m 50 #[sR a1, sR a2, sU] [(vR a2), (.double y5)])) rfl rfl (hb hby d5_50)
  refine own_end X6 hlk (v := some (vI 0)) (own_hv hret) (by decide) (by rw [e6]; exact ⟨rfl, N0, rfl⟩) fun fs hr => ?_
  show St p e below s₁ (mkF m 0 #[sR a1, sR a2, sU] []) _
  refine wal X0 hx hby rfl d5_0 rfl rfl ?_
  refine st1 _ ?_
  refine wal X1 hx hby rfl d5_4 rfl rfl ?_
  refine st2 _ ?_
  refine own_dcmp X2.here hx rfl (hb hby d5_8) rfl hc3 rfl ?_
  refine wfy X2 hx hby rfl (pc0 := 9) (pc' := 33) rfl d5_9 rfl ((if0 _ _).trans (teq (by decide : (0 : Int32) = (0 : Int32))).1) (by decide) (by decide) ?_
  refine wal X2 hx hby rfl d5_33 rfl rfl ?_
  refine st3 _ ?_
  refine wal X3 hx hby rfl d5_37 rfl rfl ?_
  refine st4 _ ?_
  refine own_dcmp X4.here hx rfl (hb hby d5_41) rfl hc6 rfl ?_
  refine wfn X4 hx hby rfl d5_42 rfl ((if0 _ _).trans (feq (by decide : ¬ ((1 : Int32) = (0 : Int32)))).1) ?_
  refine wal X4 hx hby rfl d5_45 rfl rfl ?_
  refine st5 _ ?_
  refine wal X5 hx hby rfl d5_49 rfl rfl ?_
  refine st6 _ ?_
  show St p e below T6 (mkF m 53 #[sR a1, sR a2, sU] [(.double y6), (.double y5)]) _
  refine own_dcmp X6.here hx rfl (hb hby d5_53) rfl hc6 rfl ?_
  refine wfy X6 hx hby rfl (pc0 := 54) (pc' := 61) rfl d5_54 rfl ((if0 _ _).trans (flt (by decide : ¬ ((1 : Int32) < (0 : Int32)))).2.1) (by decide) (by decide) ?_
  refine wic X6 hx hby rfl d5_61 ?_
  refine wis X6 hx hby rfl d5_62 rfl (l' := #[sR a1, sR a2, sI 0]) rfl ?_
  refine wgt X6 hx hby rfl (pc0 := 63) (pc' := 83) rfl d5_63 (by decide) (by decide) ?_
  refine wil X6 hx hby rfl d5_83 rfl ?_
  exact retN X6 hx (t := .boolean) hret (by simp) (hb hby d5_84) hr
def Qrm8 (Z : State) (h0 : Heap) (n0 : Nat) (v : Option Value) (h : Heap) (L : List Loc) : Prop := v = some (vI 1) ∧ Fr n0 L ∧ h = h0
theorem rm8 (cx : Cx Z a0) (a1 : Addr) (a2 : Addr) (y3 : UInt64) (y4 : UInt64) (y5 : UInt64) (y6 : UInt64) (p7 : Int32) (p8 : Int32) (O0 : Old Z n0 h0) (PF1 : Fld Z h0 a1 z0 "priority" "D" (.double y3)) (PF2 : Fld Z h0 a2 z0 "priority" "D" (.double y4)) (hc3 : FP.dcmp y3 y4 = some .eq) (PF4 : Fld Z h0 a1 z0 "time" "D" (.double y5)) (PF5 : Fld Z h0 a2 z0 "time" "D" (.double y6)) (hc6 : FP.dcmp y5 y6 = some .eq) (PF7 : Fld Z h0 a1 z0 "node" "I" (vI p7)) (PF8 : Fld Z h0 a2 z0 "node" "I" (vI p8)) (hc9 : p7 < p8) : Ct l Z ⟨z0, "outranks", z2⟩ prog_13_method_2_code 3 (some .boolean) ⟨0, 0, 0, 0⟩ #[(vR a1), (vR a2)] h0 (Qrm8 Z h0 n0) := by
  obtain ⟨hw, hj, hS⟩ := id cx
  refine own_bd (plainFor_of_name pn37) (fun m => ef96 m a1 a2) fun p e s m below meth c s₁ hret hlk hZ hx hby hml hown hnm X0 e0 => ?_
  have N0 := Fr.nil n0
  obtain ⟨T1, X1, e1, st1⟩ := getF X0 hx hZ hown (host := "") (Or.inl (hw _ m15)) Via.refl e0 PF1 (g := (mkF m 1 #[sR a1, sR a2, sU] [(vR a1)])) rfl rfl (hb hby d5_1)
  obtain ⟨T2, X2, e2, st2⟩ := getF X1 hx hZ hown (host := "") (Or.inl (hw _ m15)) Via.refl e1 PF2 (g := (mkF m 5 #[sR a1, sR a2, sU] [(vR a2), (.double y3)])) rfl rfl (hb hby d5_5)
  obtain ⟨T3, X3, e3, st3⟩ := getF X2 hx hZ hown (host := "") (Or.inl (hw _ m17)) Via.refl e2 PF4 (g := (mkF m 34 #[sR a1, sR a2, sU] [(vR a1)])) rfl rfl (hb hby d5_34)
  obtain ⟨T4, X4, e4, st4⟩ := getF X3 hx hZ hown (host := "") (Or.inl (hw _ m17)) Via.refl e3 PF5 (g := (mkF m 38 #[sR a1, sR a2, sU] [(vR a2), (.double y5)])) rfl rfl (hb hby d5_38)
  obtain ⟨T5, X5, e5, st5⟩ := getF X4 hx hZ hown (host := "") (Or.inl (hw _ m19)) Via.refl e4 PF7 (g := (mkF m 67 #[sR a1, sR a2, sU] [(vR a1)])) rfl rfl (hb hby d5_67)
  obtain ⟨T6, X6, e6, st6⟩ := getF X5 hx hZ hown (host := "") (Or.inl (hw _ m19)) Via.refl e5 PF8 (g := (mkF m 71 #[sR a1, sR a2, sU] [(vR a2), (vI p7)])) rfl rfl (hb hby d5_71)
  refine own_end X6 hlk (v := some (vI 1)) (own_hv hret) (by decide) (by rw [e6]; exact ⟨rfl, N0, rfl⟩) fun fs hr => ?_
  show St p e below s₁ (mkF m 0 #[sR a1, sR a2, sU] []) _
  refine wal X0 hx hby rfl d5_0 rfl rfl ?_
  refine st1 _ ?_
  refine wal X1 hx hby rfl d5_4 rfl rfl ?_
  refine st2 _ ?_
  refine own_dcmp X2.here hx rfl (hb hby d5_8) rfl hc3 rfl ?_
  refine wfy X2 hx hby rfl (pc0 := 9) (pc' := 33) rfl d5_9 rfl ((if0 _ _).trans (teq (by decide : (0 : Int32) = (0 : Int32))).1) (by decide) (by decide) ?_
  refine wal X2 hx hby rfl d5_33 rfl rfl ?_
  refine st3 _ ?_
  refine wal X3 hx hby rfl d5_37 rfl rfl ?_
  refine st4 _ ?_
  refine own_dcmp X4.here hx rfl (hb hby d5_41) rfl hc6 rfl ?_
  refine wfy X4 hx hby rfl (pc0 := 42) (pc' := 66) rfl d5_42 rfl ((if0 _ _).trans (teq (by decide : (0 : Int32) = (0 : Int32))).1) (by decide) (by decide) ?_
  refine wal X4 hx hby rfl d5_66 rfl rfl ?_
  refine st5 _ ?_
  refine wal X5 hx hby rfl d5_70 rfl rfl ?_
  refine st6 _ ?_
  show St p e below T6 (mkF m 74 #[sR a1, sR a2, sU] [(vI p8), (vI p7)]) _
  refine wcn X6 hx hby rfl d5_74 rfl (tlt hc9).2.1 ?_
  refine wic X6 hx hby rfl d5_77 ?_
  refine wgt X6 hx hby rfl (pc0 := 78) (pc' := 82) rfl d5_78 (by decide) (by decide) ?_
  refine wis X6 hx hby rfl d5_82 rfl (l' := #[sR a1, sR a2, sI 1]) rfl ?_
  refine wil X6 hx hby rfl d5_83 rfl ?_
  exact retN X6 hx (t := .boolean) hret (by simp) (hb hby d5_84) hr
def Qrm9 (Z : State) (h0 : Heap) (n0 : Nat) (v : Option Value) (h : Heap) (L : List Loc) : Prop := v = some (vI 0) ∧ Fr n0 L ∧ h = h0
theorem rm9 (cx : Cx Z a0) (a1 : Addr) (a2 : Addr) (y3 : UInt64) (y4 : UInt64) (y5 : UInt64) (y6 : UInt64) (p7 : Int32) (p8 : Int32) (O0 : Old Z n0 h0) (PF1 : Fld Z h0 a1 z0 "priority" "D" (.double y3)) (PF2 : Fld Z h0 a2 z0 "priority" "D" (.double y4)) (hc3 : FP.dcmp y3 y4 = some .eq) (PF4 : Fld Z h0 a1 z0 "time" "D" (.double y5)) (PF5 : Fld Z h0 a2 z0 "time" "D" (.double y6)) (hc6 : FP.dcmp y5 y6 = some .eq) (PF7 : Fld Z h0 a1 z0 "node" "I" (vI p7)) (PF8 : Fld Z h0 a2 z0 "node" "I" (vI p8)) (hc9 : ¬ (p7 < p8)) : Ct l Z ⟨z0, "outranks", z2⟩ prog_13_method_2_code 3 (some .boolean) ⟨0, 0, 0, 0⟩ #[(vR a1), (vR a2)] h0 (Qrm9 Z h0 n0) := by
  obtain ⟨hw, hj, hS⟩ := id cx
  refine own_bd (plainFor_of_name pn37) (fun m => ef96 m a1 a2) fun p e s m below meth c s₁ hret hlk hZ hx hby hml hown hnm X0 e0 => ?_
  have N0 := Fr.nil n0
  obtain ⟨T1, X1, e1, st1⟩ := getF X0 hx hZ hown (host := "") (Or.inl (hw _ m15)) Via.refl e0 PF1 (g := (mkF m 1 #[sR a1, sR a2, sU] [(vR a1)])) rfl rfl (hb hby d5_1)
  obtain ⟨T2, X2, e2, st2⟩ := getF X1 hx hZ hown (host := "") (Or.inl (hw _ m15)) Via.refl e1 PF2 (g := (mkF m 5 #[sR a1, sR a2, sU] [(vR a2), (.double y3)])) rfl rfl (hb hby d5_5)
  obtain ⟨T3, X3, e3, st3⟩ := getF X2 hx hZ hown (host := "") (Or.inl (hw _ m17)) Via.refl e2 PF4 (g := (mkF m 34 #[sR a1, sR a2, sU] [(vR a1)])) rfl rfl (hb hby d5_34)
  obtain ⟨T4, X4, e4, st4⟩ := getF X3 hx hZ hown (host := "") (Or.inl (hw _ m17)) Via.refl e3 PF5 (g := (mkF m 38 #[sR a1, sR a2, sU] [(vR a2), (.double y5)])) rfl rfl (hb hby d5_38)
  obtain ⟨T5, X5, e5, st5⟩ := getF X4 hx hZ hown (host := "") (Or.inl (hw _ m19)) Via.refl e4 PF7 (g := (mkF m 67 #[sR a1, sR a2, sU] [(vR a1)])) rfl rfl (hb hby d5_67)
  obtain ⟨T6, X6, e6, st6⟩ := getF X5 hx hZ hown (host := "") (Or.inl (hw _ m19)) Via.refl e5 PF8 (g := (mkF m 71 #[sR a1, sR a2, sU] [(vR a2), (vI p7)])) rfl rfl (hb hby d5_71)
  refine own_end X6 hlk (v := some (vI 0)) (own_hv hret) (by decide) (by rw [e6]; exact ⟨rfl, N0, rfl⟩) fun fs hr => ?_
  show St p e below s₁ (mkF m 0 #[sR a1, sR a2, sU] []) _
  refine wal X0 hx hby rfl d5_0 rfl rfl ?_
  refine st1 _ ?_
  refine wal X1 hx hby rfl d5_4 rfl rfl ?_
  refine st2 _ ?_
  refine own_dcmp X2.here hx rfl (hb hby d5_8) rfl hc3 rfl ?_
  refine wfy X2 hx hby rfl (pc0 := 9) (pc' := 33) rfl d5_9 rfl ((if0 _ _).trans (teq (by decide : (0 : Int32) = (0 : Int32))).1) (by decide) (by decide) ?_
  refine wal X2 hx hby rfl d5_33 rfl rfl ?_
  refine st3 _ ?_
  refine wal X3 hx hby rfl d5_37 rfl rfl ?_
  refine st4 _ ?_
  refine own_dcmp X4.here hx rfl (hb hby d5_41) rfl hc6 rfl ?_
  refine wfy X4 hx hby rfl (pc0 := 42) (pc' := 66) rfl d5_42 rfl ((if0 _ _).trans (teq (by decide : (0 : Int32) = (0 : Int32))).1) (by decide) (by decide) ?_
  refine wal X4 hx hby rfl d5_66 rfl rfl ?_
  refine st5 _ ?_
  refine wal X5 hx hby rfl d5_70 rfl rfl ?_
  refine st6 _ ?_
  show St p e below T6 (mkF m 74 #[sR a1, sR a2, sU] [(vI p8), (vI p7)]) _
  refine wcy X6 hx hby rfl (pc0 := 74) (pc' := 81) rfl d5_74 rfl (flt hc9).2.1 (by decide) (by decide) ?_
  refine wic X6 hx hby rfl d5_81 ?_
  refine wis X6 hx hby rfl d5_82 rfl (l' := #[sR a1, sR a2, sI 0]) rfl ?_
  refine wil X6 hx hby rfl d5_83 rfl ?_
  exact retN X6 hx (t := .boolean) hret (by simp) (hb hby d5_84) hr
def QL (n0 : Nat) (v : Option Value) (h : Heap) (L : List Loc) : Prop := v = some (.int (1 : Int32)) ∧ Fr n0 L
theorem rm0 (cx : Cx Z a0) (ws : List Jvm.Cond) (i0 : Int32) (i1 : Int32) (i2 : Int32) (i3 : Int32) (i4 : Int32) (i5 : Int32) (h0 : Heap) (n0 : Nat) (O0 : Old Z n0 h0) :
    MetFree l x (head1 (Jvm.Cond.code x code maxLocals ret :: ws) room_1) (fun a U => a = #[(vI i0), (vI i1), (vI i2), (vI i3), (vI i4), (vI i5)] ∧ Z.Warmed39 U.vm ∧ U.heap = h0) (fun _ _ _ _ _ => True) (fun _ U o U' => ∃ v L, o = .returned v ∧ QL n0 v U'.heap L ∧ FrameEnd U o U' L room_1.cells room_1.slots) := by
  refine MetFree.of_bodySF (plainFor_of_name pn72) hisR ?_
  intro p e s m args below meth c s₁ Bd hml0 hP hK
  obtain ⟨rfl, hZ, hh⟩ := hP
  have hx := Bd.exec
  have hby := Bd.bytes
  have hret := Bd.returns
  have hlk := Bd.notSynchronized
  have hml : c.maxLocals = 22 := hml0
  have hown : s.vm.findClass z1 = some m.cls := findClass_of_methodNamed Bd.named
  have hnm := (name_of_methodNamed Bd.named Bd.method).1
  have X0 : Stand p l e room_1 s m #[(vI i0), (vI i1), (vI i2), (vI i3), (vI i4), (vI i5)] below meth c s₁ [] 0 0 := Stand.of_body Bd
  have e0 : s₁.heap = h0 := by rw [← hh, Bd.state]; rfl
  obtain ⟨hw, hj, hS⟩ := id cx
  have N0 := Fr.nil n0
  obtain ⟨g0, hg0⟩ : ∃ g, g = entryFrame m #[(vI i0), (vI i1), (vI i2), (vI i3), (vI i4), (vI i5)] maxLocals := ⟨_, rfl⟩
  rw [← hg0]
  have pre0 : ∀ t, St p e below s₁ (mkF m 0 #[sI i0, sI i1, sI i2, sI i3, sI i4, sI i5, sU, sU, sU, sU, sU, sU, sU, sU, sU, sU, sU, sU, sU, sU, sU, sU] []) t → St p e below s₁ g0 t := fun t k => castTop (hg0.trans (ef129 m i0 i1 i2 i3 i4 i5)) k
  show End p e s below room_1 (QL n0) _
  obtain ⟨x3, hx3⟩ : ∃ z, (i0 &&& (15 : Int32)) = z := ⟨_, rfl⟩
  have rx3 : 0 ≤ x3.toInt ∧ x3.toInt ≤ 15 := hx3 ▸ (own_mask i0 (15 : Int32) (by decide) : 0 ≤ ((i0 &&& (15 : Int32))).toInt ∧ ((i0 &&& (15 : Int32))).toInt ≤ 15)
  obtain ⟨x6, hx6⟩ : ∃ z, (x3 - (8 : Int32)) = z := ⟨_, rfl⟩
  have rx6 : -8 ≤ x6.toInt ∧ x6.toInt ≤ 7 := hx6 ▸ (by have q0 := rx3; have q1 := (by decide : ((8 : Int32)).toInt = 8); have q2 := c_isub x3 (8 : Int32); have q3 := own_rng (x3 - (8 : Int32)); omega : -8 ≤ ((x3 - (8 : Int32))).toInt ∧ ((x3 - (8 : Int32))).toInt ≤ 7)
  have hd0 : ¬ (x6 < (-8 : Int32)) := (by have q0 := rx6; have q1 := (by decide : ((-8 : Int32)).toInt = -8); exact own_ltF (by omega) : ¬ (x6 < (-8 : Int32)))
  have hd1 : ¬ ((7 : Int32) < x6) := (by have q0 := (by decide : ((7 : Int32)).toInt = 7); have q1 := rx6; exact own_ltF (by omega) : ¬ ((7 : Int32) < x6))
  obtain ⟨x17, hx17⟩ : ∃ z, (i1 &&& (15 : Int32)) = z := ⟨_, rfl⟩
  have rx17 : 0 ≤ x17.toInt ∧ x17.toInt ≤ 15 := hx17 ▸ (own_mask i1 (15 : Int32) (by decide) : 0 ≤ ((i1 &&& (15 : Int32))).toInt ∧ ((i1 &&& (15 : Int32))).toInt ≤ 15)
  obtain ⟨x20, hx20⟩ : ∃ z, (x17 - (8 : Int32)) = z := ⟨_, rfl⟩
  have rx20 : -8 ≤ x20.toInt ∧ x20.toInt ≤ 7 := hx20 ▸ (by have q0 := rx17; have q1 := (by decide : ((8 : Int32)).toInt = 8); have q2 := c_isub x17 (8 : Int32); have q3 := own_rng (x17 - (8 : Int32)); omega : -8 ≤ ((x17 - (8 : Int32))).toInt ∧ ((x17 - (8 : Int32))).toInt ≤ 7)
  obtain ⟨x27, hx27⟩ : ∃ z, (i3 &&& (15 : Int32)) = z := ⟨_, rfl⟩
  have rx27 : 0 ≤ x27.toInt ∧ x27.toInt ≤ 15 := hx27 ▸ (own_mask i3 (15 : Int32) (by decide) : 0 ≤ ((i3 &&& (15 : Int32))).toInt ∧ ((i3 &&& (15 : Int32))).toInt ≤ 15)
  obtain ⟨x30, hx30⟩ : ∃ z, (x27 - (8 : Int32)) = z := ⟨_, rfl⟩
  have rx30 : -8 ≤ x30.toInt ∧ x30.toInt ≤ 7 := hx30 ▸ (by have q0 := rx27; have q1 := (by decide : ((8 : Int32)).toInt = 8); have q2 := c_isub x27 (8 : Int32); have q3 := own_rng (x27 - (8 : Int32)); omega : -8 ≤ ((x27 - (8 : Int32))).toInt ∧ ((x27 - (8 : Int32))).toInt ≤ 7)
  have hd2 : ¬ (x30 < (-8 : Int32)) := (by have q0 := rx30; have q1 := (by decide : ((-8 : Int32)).toInt = -8); exact own_ltF (by omega) : ¬ (x30 < (-8 : Int32)))
  have hd3 : ¬ ((7 : Int32) < x30) := (by have q0 := (by decide : ((7 : Int32)).toInt = 7); have q1 := rx30; exact own_ltF (by omega) : ¬ ((7 : Int32) < x30))
  obtain ⟨x42, hx42⟩ : ∃ z, (i4 &&& (15 : Int32)) = z := ⟨_, rfl⟩
  have rx42 : 0 ≤ x42.toInt ∧ x42.toInt ≤ 15 := hx42 ▸ (own_mask i4 (15 : Int32) (by decide) : 0 ≤ ((i4 &&& (15 : Int32))).toInt ∧ ((i4 &&& (15 : Int32))).toInt ≤ 15)
  obtain ⟨x45, hx45⟩ : ∃ z, (x42 - (8 : Int32)) = z := ⟨_, rfl⟩
  have rx45 : -8 ≤ x45.toInt ∧ x45.toInt ≤ 7 := hx45 ▸ (by have q0 := rx42; have q1 := (by decide : ((8 : Int32)).toInt = 8); have q2 := c_isub x42 (8 : Int32); have q3 := own_rng (x42 - (8 : Int32)); omega : -8 ≤ ((x42 - (8 : Int32))).toInt ∧ ((x42 - (8 : Int32))).toInt ≤ 7)
  obtain ⟨T1, h1, b1, X1, e1, E1, A1, D1, g1, O1, K1, st1⟩ := own_newO X0 hx hZ hown (hw _ m1) (hw _ m2) (hw _ m3) e0 O0 (Keep.refl h0 []) (g := (mkF m 49 #[sI i0, sI i1, sI i2, sI i3, sI i4, sI i5, .val (.double (FP.ddiv (FP.i2d x6) (4611686018427387904 : UInt64))), sS, .val (.double (FP.i2d x20)), sS, .val (.double (FP.ddiv (FP.i2d x30) (4611686018427387904 : UInt64))), sS, .val (.double (FP.i2d x45)), sS, sU, sU, sU, sU, sU, sU, sU, sU] [])) rfl (hb hby at_49) (by decide) (by decide)
  have F1_1 : Fld Z h1 b1 z0 "priority" "D" (.double (0 : UInt64)) := D1 (Or.inr (hw _ m16)) (ty := .double) (by decide)
  have F1_2 : Fld Z h1 b1 z0 "time" "D" (.double (0 : UInt64)) := D1 (Or.inr (hw _ m18)) (ty := .double) (by decide)
  have F1_3 : Fld Z h1 b1 z0 "node" "I" (vI 0) := D1 (Or.inr (hw _ m20)) (ty := .int) (by decide)
  obtain ⟨_, T2, L2, ⟨rfl, N2q, Kq2, q2_0, q2_1, q2_2⟩, X2, st2⟩ := cI X1 hx hZ (W := 1) hown (cw1 cx) (rm2 cx (FP.ddiv (FP.i2d x6) (4611686018427387904 : UInt64)) (FP.i2d x20) i2 b1 O1 A1 F1_1 F1_2 F1_3 (Nat.le_trans (own_old_le O0) g1)) e1 (g := (mkF m 58 #[sI i0, sI i1, sI i2, sI i3, sI i4, sI i5, .val (.double (FP.ddiv (FP.i2d x6) (4611686018427387904 : UInt64))), sS, .val (.double (FP.i2d x20)), sS, .val (.double (FP.ddiv (FP.i2d x30) (4611686018427387904 : UInt64))), sS, .val (.double (FP.i2d x45)), sS, sU, sU, sU, sU, sU, sU, sU, sU] [(vI i2), (.double (FP.i2d x20)), (.double (FP.ddiv (FP.i2d x6) (4611686018427387904 : UInt64))), (vR b1), (vR b1)])) rfl hml rfl (rest := [(vR b1)]) rfl rfl rfl rfl (hb hby at_58) (by decide)
  have N2 := Fr.app N0 N2q
  have O2 : Old Z n0 T2.heap := O1.keep Kq2 (allS (Nat.le_trans (own_old_le O0) g1) all0)
  have K2 : Keep h0 T2.heap [] := K1.trans Kq2 (allS (Or.inr (Nat.le_trans (Keep.refl h0 []).1 g1)) all0)
  obtain ⟨T3, h3, b3, X3, e3, E3, A3, D3, g3, O3, K3, st3⟩ := own_newO X2 hx hZ hown (hw _ m1) (hw _ m2) (hw _ m3) (rfl : T2.heap = T2.heap) O2 K2 (g := (mkF m 63 #[sI i0, sI i1, sI i2, sI i3, sI i4, sI i5, .val (.double (FP.ddiv (FP.i2d x6) (4611686018427387904 : UInt64))), sS, .val (.double (FP.i2d x20)), sS, .val (.double (FP.ddiv (FP.i2d x30) (4611686018427387904 : UInt64))), sS, .val (.double (FP.i2d x45)), sS, sR b1, sU, sU, sU, sU, sU, sU, sU] [])) rfl (hb hby at_63) (by decide) (by decide)
  have F3_1 : Fld Z h3 b3 z0 "priority" "D" (.double (0 : UInt64)) := D3 (Or.inr (hw _ m16)) (ty := .double) (by decide)
  have F3_2 : Fld Z h3 b3 z0 "time" "D" (.double (0 : UInt64)) := D3 (Or.inr (hw _ m18)) (ty := .double) (by decide)
  have F3_3 : Fld Z h3 b3 z0 "node" "I" (vI 0) := D3 (Or.inr (hw _ m20)) (ty := .int) (by decide)
  obtain ⟨_, T4, L4, ⟨rfl, N4q, Kq4, q4_0, q4_1, q4_2⟩, X4, st4⟩ := cI X3 hx hZ (W := 1) hown (cw1 cx) (rm2 cx (FP.ddiv (FP.i2d x30) (4611686018427387904 : UInt64)) (FP.i2d x45) i5 b3 O3 A3 F3_1 F3_2 F3_3 (Nat.le_trans (own_old_le O2) g3)) e3 (g := (mkF m 73 #[sI i0, sI i1, sI i2, sI i3, sI i4, sI i5, .val (.double (FP.ddiv (FP.i2d x6) (4611686018427387904 : UInt64))), sS, .val (.double (FP.i2d x20)), sS, .val (.double (FP.ddiv (FP.i2d x30) (4611686018427387904 : UInt64))), sS, .val (.double (FP.i2d x45)), sS, sR b1, sU, sU, sU, sU, sU, sU, sU] [(vI i5), (.double (FP.i2d x45)), (.double (FP.ddiv (FP.i2d x30) (4611686018427387904 : UInt64))), (vR b3), (vR b3)])) rfl hml rfl (rest := [(vR b3)]) rfl rfl rfl rfl (hb hby at_73) (by decide)
  have N4 := Fr.app N2 N4q
  have O4 : Old Z n0 T4.heap := O3.keep Kq4 (allS (Nat.le_trans (own_old_le O2) g3) all0)
  have K4 : Keep h0 T4.heap [] := K3.trans Kq4 (allS (Or.inr (Nat.le_trans K2.1 g3)) all0)
  obtain ⟨_, T5, L5, ⟨rfl, N5q, e5⟩, X5, st5⟩ := cS X4 hx hZ (W := 0) hown (cw2 cx) (rm3 cx i0 i1 i2 O4) (rfl : T4.heap = T4.heap) (g := (mkF m 81 #[sI i0, sI i1, sI i2, sI i3, sI i4, sI i5, .val (.double (FP.ddiv (FP.i2d x6) (4611686018427387904 : UInt64))), sS, .val (.double (FP.i2d x20)), sS, .val (.double (FP.ddiv (FP.i2d x30) (4611686018427387904 : UInt64))), sS, .val (.double (FP.i2d x45)), sS, sR b1, sR b3, sU, sU, sU, sU, sU, sU] [(vI i2), (vI i1), (vI i0)])) rfl hml rfl (rest := []) rfl rfl rfl rfl (hb hby at_81) (by decide)
  obtain ⟨_, T6, L6, ⟨rfl, N6q, e6⟩, X6, st6⟩ := cS X5 hx hZ (W := 0) hown (cw2 cx) (rm3 cx i3 i4 i5 O4) e5 (g := (mkF m 91 #[sI i0, sI i1, sI i2, sI i3, sI i4, sI i5, .val (.double (FP.ddiv (FP.i2d x6) (4611686018427387904 : UInt64))), sS, .val (.double (FP.i2d x20)), sS, .val (.double (FP.ddiv (FP.i2d x30) (4611686018427387904 : UInt64))), sS, .val (.double (FP.i2d x45)), sS, sR b1, sR b3, sL (((((i0 &&& (15 : Int32)).toInt64) <<< ((36 : Int32) &&& 63).toInt64) ||| (((15 : Int64) - ((i1 &&& (15 : Int32)).toInt64)) <<< ((32 : Int32) &&& 63).toInt64)) ||| ((2147483647 : Int64) - (i2.toInt64))), sS, sU, sU, sU, sU] [(vI i5), (vI i4), (vI i3)])) rfl hml rfl (rest := []) rfl rfl rfl rfl (hb hby at_91) (by decide)
  have pre1 : ∀ t, St p e below T6 (mkF m 100 #[sI i0, sI i1, sI i2, sI i3, sI i4, sI i5, .val (.double (FP.ddiv (FP.i2d x6) (4611686018427387904 : UInt64))), sS, .val (.double (FP.i2d x20)), sS, .val (.double (FP.ddiv (FP.i2d x30) (4611686018427387904 : UInt64))), sS, .val (.double (FP.i2d x45)), sS, sR b1, sR b3, sL (((((i0 &&& (15 : Int32)).toInt64) <<< ((36 : Int32) &&& 63).toInt64) ||| (((15 : Int64) - ((i1 &&& (15 : Int32)).toInt64)) <<< ((32 : Int32) &&& 63).toInt64)) ||| ((2147483647 : Int64) - (i2.toInt64))), sS, sL (((((i3 &&& (15 : Int32)).toInt64) <<< ((36 : Int32) &&& 63).toInt64) ||| (((15 : Int64) - ((i4 &&& (15 : Int32)).toInt64)) <<< ((32 : Int32) &&& 63).toInt64)) ||| ((2147483647 : Int64) - (i5.toInt64))), sS, sU, sU] [(vR b3), (vR b1)]) t → St p e below s₁ g0 t := fun t kt => pre0 _ (by
      show St p e below s₁ (mkF m 0 #[sI i0, sI i1, sI i2, sI i3, sI i4, sI i5, sU, sU, sU, sU, sU, sU, sU, sU, sU, sU, sU, sU, sU, sU, sU, sU] []) _
      refine wil X0 hx hby rfl at_0 rfl ?_
      refine wbp X0 hx hby rfl at_1 ?_
      refine Own.iand X0.here hx rfl (hb hby at_3) rfl hx3 ?_
      refine wbp X0 hx hby rfl at_4 ?_
      refine Own.isub X0.here hx rfl (hb hby at_6) rfl hx6 ?_
      refine own_i2d X0.here hx rfl (hb hby at_7) rfl ?_
      refine X0.ldc2DoubleC hx hown (mvT hZ (hw _ m0)) (g := (mkF m 8 #[sI i0, sI i1, sI i2, sI i3, sI i4, sI i5, sU, sU, sU, sU, sU, sU, sU, sU, sU, sU, sU, sU, sU, sU, sU, sU] [(.double (FP.i2d x6))])) rfl (hb hby at_8) _ ?_
      refine own_ddiv X0.here hx rfl (hb hby at_11) rfl (own_dfin (own_rg hd0 hd1 (l := -8) (h := 7) (by decide))) ?_
      refine own_dstore X0.here hx rfl (hb hby at_12) rfl (l' := #[sI i0, sI i1, sI i2, sI i3, sI i4, sI i5, .val (.double (FP.ddiv (FP.i2d x6) (4611686018427387904 : UInt64))), sS, sU, sU, sU, sU, sU, sU, sU, sU, sU, sU, sU, sU, sU, sU]) rfl ?_
      refine wil X0 hx hby rfl at_14 rfl ?_
      refine wbp X0 hx hby rfl at_15 ?_
      refine Own.iand X0.here hx rfl (hb hby at_17) rfl hx17 ?_
      refine wbp X0 hx hby rfl at_18 ?_
      refine Own.isub X0.here hx rfl (hb hby at_20) rfl hx20 ?_
      refine own_i2d X0.here hx rfl (hb hby at_21) rfl ?_
      refine own_dstore X0.here hx rfl (hb hby at_22) rfl (l' := #[sI i0, sI i1, sI i2, sI i3, sI i4, sI i5, .val (.double (FP.ddiv (FP.i2d x6) (4611686018427387904 : UInt64))), sS, .val (.double (FP.i2d x20)), sS, sU, sU, sU, sU, sU, sU, sU, sU, sU, sU, sU, sU]) rfl ?_
      show St p e below s₁ (mkF m 24 #[sI i0, sI i1, sI i2, sI i3, sI i4, sI i5, .val (.double (FP.ddiv (FP.i2d x6) (4611686018427387904 : UInt64))), sS, .val (.double (FP.i2d x20)), sS, sU, sU, sU, sU, sU, sU, sU, sU, sU, sU, sU, sU] []) _
      refine wil X0 hx hby rfl at_24 rfl ?_
      refine wbp X0 hx hby rfl at_25 ?_
      refine Own.iand X0.here hx rfl (hb hby at_27) rfl hx27 ?_
      refine wbp X0 hx hby rfl at_28 ?_
      refine Own.isub X0.here hx rfl (hb hby at_30) rfl hx30 ?_
      refine own_i2d X0.here hx rfl (hb hby at_31) rfl ?_
      refine X0.ldc2DoubleC hx hown (mvT hZ (hw _ m0)) (g := (mkF m 32 #[sI i0, sI i1, sI i2, sI i3, sI i4, sI i5, .val (.double (FP.ddiv (FP.i2d x6) (4611686018427387904 : UInt64))), sS, .val (.double (FP.i2d x20)), sS, sU, sU, sU, sU, sU, sU, sU, sU, sU, sU, sU, sU] [(.double (FP.i2d x30))])) rfl (hb hby at_32) _ ?_
      refine own_ddiv X0.here hx rfl (hb hby at_35) rfl (own_dfin (own_rg hd2 hd3 (l := -8) (h := 7) (by decide))) ?_
      refine own_dstore X0.here hx rfl (hb hby at_36) rfl (l' := #[sI i0, sI i1, sI i2, sI i3, sI i4, sI i5, .val (.double (FP.ddiv (FP.i2d x6) (4611686018427387904 : UInt64))), sS, .val (.double (FP.i2d x20)), sS, .val (.double (FP.ddiv (FP.i2d x30) (4611686018427387904 : UInt64))), sS, sU, sU, sU, sU, sU, sU, sU, sU, sU, sU]) rfl ?_
      refine wiL X0 hx hby rfl at_38 rfl ?_
      refine wbp X0 hx hby rfl at_40 ?_
      refine Own.iand X0.here hx rfl (hb hby at_42) rfl hx42 ?_
      refine wbp X0 hx hby rfl at_43 ?_
      refine Own.isub X0.here hx rfl (hb hby at_45) rfl hx45 ?_
      refine own_i2d X0.here hx rfl (hb hby at_46) rfl ?_
      refine own_dstore X0.here hx rfl (hb hby at_47) rfl (l' := #[sI i0, sI i1, sI i2, sI i3, sI i4, sI i5, .val (.double (FP.ddiv (FP.i2d x6) (4611686018427387904 : UInt64))), sS, .val (.double (FP.i2d x20)), sS, .val (.double (FP.ddiv (FP.i2d x30) (4611686018427387904 : UInt64))), sS, .val (.double (FP.i2d x45)), sS, sU, sU, sU, sU, sU, sU, sU, sU]) rfl ?_
      show St p e below s₁ (mkF m 49 #[sI i0, sI i1, sI i2, sI i3, sI i4, sI i5, .val (.double (FP.ddiv (FP.i2d x6) (4611686018427387904 : UInt64))), sS, .val (.double (FP.i2d x20)), sS, .val (.double (FP.ddiv (FP.i2d x30) (4611686018427387904 : UInt64))), sS, .val (.double (FP.i2d x45)), sS, sU, sU, sU, sU, sU, sU, sU, sU] []) _
      refine st1 _ ?_
      refine wdu X1 hx hby rfl at_52 rfl rfl ?_
      refine own_dload X1.here hx rfl (hb hby at_53) rfl ?_
      refine own_dload X1.here hx rfl (hb hby at_55) rfl ?_
      refine wil X1 hx hby rfl at_57 rfl ?_
      refine st2 _ ?_
      refine waS X2 hx hby rfl at_61 rfl rfl (l' := #[sI i0, sI i1, sI i2, sI i3, sI i4, sI i5, .val (.double (FP.ddiv (FP.i2d x6) (4611686018427387904 : UInt64))), sS, .val (.double (FP.i2d x20)), sS, .val (.double (FP.ddiv (FP.i2d x30) (4611686018427387904 : UInt64))), sS, .val (.double (FP.i2d x45)), sS, sR b1, sU, sU, sU, sU, sU, sU, sU]) rfl ?_
      refine st3 _ ?_
      refine wdu X3 hx hby rfl at_66 rfl rfl ?_
      refine own_dload X3.here hx rfl (hb hby at_67) rfl ?_
      refine own_dload X3.here hx rfl (hb hby at_69) rfl ?_
      refine wiL X3 hx hby rfl at_71 rfl ?_
      refine st4 _ ?_
      refine waS X4 hx hby rfl at_76 rfl rfl (l' := #[sI i0, sI i1, sI i2, sI i3, sI i4, sI i5, .val (.double (FP.ddiv (FP.i2d x6) (4611686018427387904 : UInt64))), sS, .val (.double (FP.i2d x20)), sS, .val (.double (FP.ddiv (FP.i2d x30) (4611686018427387904 : UInt64))), sS, .val (.double (FP.i2d x45)), sS, sR b1, sR b3, sU, sU, sU, sU, sU, sU]) rfl ?_
      refine wil X4 hx hby rfl at_78 rfl ?_
      refine wil X4 hx hby rfl at_79 rfl ?_
      show St p e below T4 (mkF m 80 #[sI i0, sI i1, sI i2, sI i3, sI i4, sI i5, .val (.double (FP.ddiv (FP.i2d x6) (4611686018427387904 : UInt64))), sS, .val (.double (FP.i2d x20)), sS, .val (.double (FP.ddiv (FP.i2d x30) (4611686018427387904 : UInt64))), sS, .val (.double (FP.i2d x45)), sS, sR b1, sR b3, sU, sU, sU, sU, sU, sU] [(vI i1), (vI i0)]) _
      refine wil X4 hx hby rfl at_80 rfl ?_
      refine st5 _ ?_
      refine XS.lstore X5.here hx rfl (hb hby at_84) rfl (l' := #[sI i0, sI i1, sI i2, sI i3, sI i4, sI i5, .val (.double (FP.ddiv (FP.i2d x6) (4611686018427387904 : UInt64))), sS, .val (.double (FP.i2d x20)), sS, .val (.double (FP.ddiv (FP.i2d x30) (4611686018427387904 : UInt64))), sS, .val (.double (FP.i2d x45)), sS, sR b1, sR b3, sL (((((i0 &&& (15 : Int32)).toInt64) <<< ((36 : Int32) &&& 63).toInt64) ||| (((15 : Int64) - ((i1 &&& (15 : Int32)).toInt64)) <<< ((32 : Int32) &&& 63).toInt64)) ||| ((2147483647 : Int64) - (i2.toInt64))), sS, sU, sU, sU, sU]) rfl ?_
      refine wil X5 hx hby rfl at_86 rfl ?_
      refine wiL X5 hx hby rfl at_87 rfl ?_
      refine wiL X5 hx hby rfl at_89 rfl ?_
      refine st6 _ ?_
      refine XS.lstore X6.here hx rfl (hb hby at_94) rfl (l' := #[sI i0, sI i1, sI i2, sI i3, sI i4, sI i5, .val (.double (FP.ddiv (FP.i2d x6) (4611686018427387904 : UInt64))), sS, .val (.double (FP.i2d x20)), sS, .val (.double (FP.ddiv (FP.i2d x30) (4611686018427387904 : UInt64))), sS, .val (.double (FP.i2d x45)), sS, sR b1, sR b3, sL (((((i0 &&& (15 : Int32)).toInt64) <<< ((36 : Int32) &&& 63).toInt64) ||| (((15 : Int64) - ((i1 &&& (15 : Int32)).toInt64)) <<< ((32 : Int32) &&& 63).toInt64)) ||| ((2147483647 : Int64) - (i2.toInt64))), sS, sL (((((i3 &&& (15 : Int32)).toInt64) <<< ((36 : Int32) &&& 63).toInt64) ||| (((15 : Int64) - ((i4 &&& (15 : Int32)).toInt64)) <<< ((32 : Int32) &&& 63).toInt64)) ||| ((2147483647 : Int64) - (i5.toInt64))), sS, sU, sU]) rfl ?_
      refine waL X6 hx hby rfl at_96 rfl rfl ?_
      refine waL X6 hx hby rfl at_98 rfl rfl ?_
      exact kt)
  rcases Decidable.em (x6 < x30) with hp0 | hp0
  · have ne8 : b1 ≠ b3 := (Nat.ne_of_lt (Nat.lt_of_lt_of_le (Nat.lt_of_lt_of_le A1.lt Kq2.1) g3))
    have f9 : Fld Z T4.heap b1 z0 "priority" "D" (.double (FP.ddiv (FP.i2d x6) (4611686018427387904 : UInt64))) := ((q2_0.ext E3).keep Kq4 (ninS ne8 nin0))
    have f10 : Exa Z T4.heap b1 z0 := (((A1.keep Kq2).ext E3).keep Kq4)
    obtain ⟨_, T7, L7, ⟨rfl, N7q, e7⟩, X7, st7⟩ := cV X6 hx hZ (W := 0) hown (cw3 cx) (rm4 cx b1 b3 (FP.ddiv (FP.i2d x6) (4611686018427387904 : UInt64)) (FP.ddiv (FP.i2d x30) (4611686018427387904 : UInt64)) O4 f9 q4_0 (own_cL (own_dcH (own_rg hd0 hd1 (l := -8) (h := 7) (by decide)) (own_rg hd2 hd3 (l := -8) (h := 7) (by decide))) hp0)) e6 f10 (g := (mkF m 100 #[sI i0, sI i1, sI i2, sI i3, sI i4, sI i5, .val (.double (FP.ddiv (FP.i2d x6) (4611686018427387904 : UInt64))), sS, .val (.double (FP.i2d x20)), sS, .val (.double (FP.ddiv (FP.i2d x30) (4611686018427387904 : UInt64))), sS, .val (.double (FP.i2d x45)), sS, sR b1, sR b3, sL (((((i0 &&& (15 : Int32)).toInt64) <<< ((36 : Int32) &&& 63).toInt64) ||| (((15 : Int64) - ((i1 &&& (15 : Int32)).toInt64)) <<< ((32 : Int32) &&& 63).toInt64)) ||| ((2147483647 : Int64) - (i2.toInt64))), sS, sL (((((i3 &&& (15 : Int32)).toInt64) <<< ((36 : Int32) &&& 63).toInt64) ||| (((15 : Int64) - ((i4 &&& (15 : Int32)).toInt64)) <<< ((32 : Int32) &&& 63).toInt64)) ||| ((2147483647 : Int64) - (i5.toInt64))), sS, sU, sU] [(vR b3), (vR b1)])) rfl hml rfl (rest := []) rfl rfl rfl rfl (hb hby at_100) (by decide)
    have f12 : Exa Z T4.heap b3 z0 := (A3.keep Kq4)
    obtain ⟨_, T11, L11, ⟨rfl, N11q, e11⟩, X11, st11⟩ := cV X7 hx hZ (W := 0) hown (cw3 cx) (rm5 cx b3 b1 (FP.ddiv (FP.i2d x30) (4611686018427387904 : UInt64)) (FP.ddiv (FP.i2d x6) (4611686018427387904 : UInt64)) O4 q4_0 f9 (own_cG (own_dcH (own_rg hd2 hd3 (l := -8) (h := 7) (by decide)) (own_rg hd0 hd1 (l := -8) (h := 7) (by decide))) hp0)) e7 f12 (g := (mkF m 109 #[sI i0, sI i1, sI i2, sI i3, sI i4, sI i5, .val (.double (FP.ddiv (FP.i2d x6) (4611686018427387904 : UInt64))), sS, .val (.double (FP.i2d x20)), sS, .val (.double (FP.ddiv (FP.i2d x30) (4611686018427387904 : UInt64))), sS, .val (.double (FP.i2d x45)), sS, sR b1, sR b3, sL (((((i0 &&& (15 : Int32)).toInt64) <<< ((36 : Int32) &&& 63).toInt64) ||| (((15 : Int64) - ((i1 &&& (15 : Int32)).toInt64)) <<< ((32 : Int32) &&& 63).toInt64)) ||| ((2147483647 : Int64) - (i2.toInt64))), sS, sL (((((i3 &&& (15 : Int32)).toInt64) <<< ((36 : Int32) &&& 63).toInt64) ||| (((15 : Int64) - ((i4 &&& (15 : Int32)).toInt64)) <<< ((32 : Int32) &&& 63).toInt64)) ||| ((2147483647 : Int64) - (i5.toInt64))), sS, sI 0, sU] [(vR b1), (vR b3)])) rfl hml rfl (rest := []) rfl rfl rfl rfl (hb hby at_109) (by decide)
    have hd4 : ¬ ((((((i3 &&& (15 : Int32)).toInt64) <<< ((36 : Int32) &&& 63).toInt64) ||| (((15 : Int64) - ((i4 &&& (15 : Int32)).toInt64)) <<< ((32 : Int32) &&& 63).toInt64)) ||| ((2147483647 : Int64) - (i5.toInt64))) < (((((i0 &&& (15 : Int32)).toInt64) <<< ((36 : Int32) &&& 63).toInt64) ||| (((15 : Int64) - ((i1 &&& (15 : Int32)).toInt64)) <<< ((32 : Int32) &&& 63).toInt64)) ||| ((2147483647 : Int64) - (i2.toInt64)))) := (by have r2 := own_rng i2; have r5 := own_rng i5; have kA := own_key i0 i1 i2; have kB := own_key i3 i4 i5; have g1 := own_p8 hx3 hx6; have g2 := own_p8 hx17 hx20; have g3 := own_p8 hx27 hx30; have g4 := own_p8 hx42 hx45; have f0 := own_ltT' hp0; exact own_kLF (by omega) : ¬ ((((((i3 &&& (15 : Int32)).toInt64) <<< ((36 : Int32) &&& 63).toInt64) ||| (((15 : Int64) - ((i4 &&& (15 : Int32)).toInt64)) <<< ((32 : Int32) &&& 63).toInt64)) ||| ((2147483647 : Int64) - (i5.toInt64))) < (((((i0 &&& (15 : Int32)).toInt64) <<< ((36 : Int32) &&& 63).toInt64) ||| (((15 : Int64) - ((i1 &&& (15 : Int32)).toInt64)) <<< ((32 : Int32) &&& 63).toInt64)) ||| ((2147483647 : Int64) - (i2.toInt64)))))
    have hd5 : (((((i0 &&& (15 : Int32)).toInt64) <<< ((36 : Int32) &&& 63).toInt64) ||| (((15 : Int64) - ((i1 &&& (15 : Int32)).toInt64)) <<< ((32 : Int32) &&& 63).toInt64)) ||| ((2147483647 : Int64) - (i2.toInt64))) < (((((i3 &&& (15 : Int32)).toInt64) <<< ((36 : Int32) &&& 63).toInt64) ||| (((15 : Int64) - ((i4 &&& (15 : Int32)).toInt64)) <<< ((32 : Int32) &&& 63).toInt64)) ||| ((2147483647 : Int64) - (i5.toInt64))) := (by have r2 := own_rng i2; have r5 := own_rng i5; have kA := own_key i0 i1 i2; have kB := own_key i3 i4 i5; have g1 := own_p8 hx3 hx6; have g2 := own_p8 hx17 hx20; have g3 := own_p8 hx27 hx30; have g4 := own_p8 hx42 hx45; have f0 := own_ltT' hp0; exact own_kLT (by omega) : (((((i0 &&& (15 : Int32)).toInt64) <<< ((36 : Int32) &&& 63).toInt64) ||| (((15 : Int64) - ((i1 &&& (15 : Int32)).toInt64)) <<< ((32 : Int32) &&& 63).toInt64)) ||| ((2147483647 : Int64) - (i2.toInt64))) < (((((i3 &&& (15 : Int32)).toInt64) <<< ((36 : Int32) &&& 63).toInt64) ||| (((15 : Int64) - ((i4 &&& (15 : Int32)).toInt64)) <<< ((32 : Int32) &&& 63).toInt64)) ||| ((2147483647 : Int64) - (i5.toInt64))))
    refine own_end X11 hlk (v := some (vI 1)) (own_hv hret) (by decide) ⟨rfl, (Fr.app (Fr.app (Fr.app (Fr.app N4 N5q) N6q) N7q) N11q)⟩ fun fs hr => pre1 _ ?_
    refine st7 _ ?_
    refine wiS X7 hx hby rfl at_103 rfl (l' := #[sI i0, sI i1, sI i2, sI i3, sI i4, sI i5, .val (.double (FP.ddiv (FP.i2d x6) (4611686018427387904 : UInt64))), sS, .val (.double (FP.i2d x20)), sS, .val (.double (FP.ddiv (FP.i2d x30) (4611686018427387904 : UInt64))), sS, .val (.double (FP.i2d x45)), sS, sR b1, sR b3, sL (((((i0 &&& (15 : Int32)).toInt64) <<< ((36 : Int32) &&& 63).toInt64) ||| (((15 : Int64) - ((i1 &&& (15 : Int32)).toInt64)) <<< ((32 : Int32) &&& 63).toInt64)) ||| ((2147483647 : Int64) - (i2.toInt64))), sS, sL (((((i3 &&& (15 : Int32)).toInt64) <<< ((36 : Int32) &&& 63).toInt64) ||| (((15 : Int64) - ((i4 &&& (15 : Int32)).toInt64)) <<< ((32 : Int32) &&& 63).toInt64)) ||| ((2147483647 : Int64) - (i5.toInt64))), sS, sI 0, sU]) rfl ?_
    refine waL X7 hx hby rfl at_105 rfl rfl ?_
    refine waL X7 hx hby rfl at_107 rfl rfl ?_
    refine st11 _ ?_
    refine wiS X11 hx hby rfl at_112 rfl (l' := #[sI i0, sI i1, sI i2, sI i3, sI i4, sI i5, .val (.double (FP.ddiv (FP.i2d x6) (4611686018427387904 : UInt64))), sS, .val (.double (FP.i2d x20)), sS, .val (.double (FP.ddiv (FP.i2d x30) (4611686018427387904 : UInt64))), sS, .val (.double (FP.i2d x45)), sS, sR b1, sR b3, sL (((((i0 &&& (15 : Int32)).toInt64) <<< ((36 : Int32) &&& 63).toInt64) ||| (((15 : Int64) - ((i1 &&& (15 : Int32)).toInt64)) <<< ((32 : Int32) &&& 63).toInt64)) ||| ((2147483647 : Int64) - (i2.toInt64))), sS, sL (((((i3 &&& (15 : Int32)).toInt64) <<< ((36 : Int32) &&& 63).toInt64) ||| (((15 : Int64) - ((i4 &&& (15 : Int32)).toInt64)) <<< ((32 : Int32) &&& 63).toInt64)) ||| ((2147483647 : Int64) - (i5.toInt64))), sS, sI 0, sI 1]) rfl ?_
    show St p e below T11 (mkF m 114 #[sI i0, sI i1, sI i2, sI i3, sI i4, sI i5, .val (.double (FP.ddiv (FP.i2d x6) (4611686018427387904 : UInt64))), sS, .val (.double (FP.i2d x20)), sS, .val (.double (FP.ddiv (FP.i2d x30) (4611686018427387904 : UInt64))), sS, .val (.double (FP.i2d x45)), sS, sR b1, sR b3, sL (((((i0 &&& (15 : Int32)).toInt64) <<< ((36 : Int32) &&& 63).toInt64) ||| (((15 : Int64) - ((i1 &&& (15 : Int32)).toInt64)) <<< ((32 : Int32) &&& 63).toInt64)) ||| ((2147483647 : Int64) - (i2.toInt64))), sS, sL (((((i3 &&& (15 : Int32)).toInt64) <<< ((36 : Int32) &&& 63).toInt64) ||| (((15 : Int64) - ((i4 &&& (15 : Int32)).toInt64)) <<< ((32 : Int32) &&& 63).toInt64)) ||| ((2147483647 : Int64) - (i5.toInt64))), sS, sI 0, sI 1] []) _
    refine wiL X11 hx hby rfl at_114 rfl ?_
    refine XS.lload X11.here hx rfl (hb hby at_116) rfl ?_
    refine XS.lload X11.here hx rfl (hb hby at_118) rfl ?_
    refine XS.lcmp X11.here hx rfl (hb hby at_120) rfl ?_
    refine wfy X11 hx hby rfl (pc0 := 121) (pc' := 128) rfl at_121 rfl ((if0 _ _).trans (flt (fun q => hd4 ((lw_gt (((((i0 &&& (15 : Int32)).toInt64) <<< ((36 : Int32) &&& 63).toInt64) ||| (((15 : Int64) - ((i1 &&& (15 : Int32)).toInt64)) <<< ((32 : Int32) &&& 63).toInt64)) ||| ((2147483647 : Int64) - (i2.toInt64))) (((((i3 &&& (15 : Int32)).toInt64) <<< ((36 : Int32) &&& 63).toInt64) ||| (((15 : Int64) - ((i4 &&& (15 : Int32)).toInt64)) <<< ((32 : Int32) &&& 63).toInt64)) ||| ((2147483647 : Int64) - (i5.toInt64)))).mp q))).2.2.2) (by decide) (by decide) ?_
    show St p e below T11 (mkF m 128 #[sI i0, sI i1, sI i2, sI i3, sI i4, sI i5, .val (.double (FP.ddiv (FP.i2d x6) (4611686018427387904 : UInt64))), sS, .val (.double (FP.i2d x20)), sS, .val (.double (FP.ddiv (FP.i2d x30) (4611686018427387904 : UInt64))), sS, .val (.double (FP.i2d x45)), sS, sR b1, sR b3, sL (((((i0 &&& (15 : Int32)).toInt64) <<< ((36 : Int32) &&& 63).toInt64) ||| (((15 : Int64) - ((i1 &&& (15 : Int32)).toInt64)) <<< ((32 : Int32) &&& 63).toInt64)) ||| ((2147483647 : Int64) - (i2.toInt64))), sS, sL (((((i3 &&& (15 : Int32)).toInt64) <<< ((36 : Int32) &&& 63).toInt64) ||| (((15 : Int64) - ((i4 &&& (15 : Int32)).toInt64)) <<< ((32 : Int32) &&& 63).toInt64)) ||| ((2147483647 : Int64) - (i5.toInt64))), sS, sI 0, sI 1] [(vI 0)]) _
    refine wic X11 hx hby rfl at_128 ?_
    show St p e below T11 (mkF m 129 #[sI i0, sI i1, sI i2, sI i3, sI i4, sI i5, .val (.double (FP.ddiv (FP.i2d x6) (4611686018427387904 : UInt64))), sS, .val (.double (FP.i2d x20)), sS, .val (.double (FP.ddiv (FP.i2d x30) (4611686018427387904 : UInt64))), sS, .val (.double (FP.i2d x45)), sS, sR b1, sR b3, sL (((((i0 &&& (15 : Int32)).toInt64) <<< ((36 : Int32) &&& 63).toInt64) ||| (((15 : Int64) - ((i1 &&& (15 : Int32)).toInt64)) <<< ((32 : Int32) &&& 63).toInt64)) ||| ((2147483647 : Int64) - (i2.toInt64))), sS, sL (((((i3 &&& (15 : Int32)).toInt64) <<< ((36 : Int32) &&& 63).toInt64) ||| (((15 : Int64) - ((i4 &&& (15 : Int32)).toInt64)) <<< ((32 : Int32) &&& 63).toInt64)) ||| ((2147483647 : Int64) - (i5.toInt64))), sS, sI 0, sI 1] [(vI 0), (vI 0)]) _
    refine wcn X11 hx hby rfl at_129 rfl (teq (by decide : (0 : Int32) = (0 : Int32))).2 ?_
    refine wiL X11 hx hby rfl at_132 rfl ?_
    refine XS.lload X11.here hx rfl (hb hby at_134) rfl ?_
    refine XS.lload X11.here hx rfl (hb hby at_136) rfl ?_
    refine XS.lcmp X11.here hx rfl (hb hby at_138) rfl ?_
    refine wfn X11 hx hby rfl at_139 rfl ((if0 _ _).trans (tlt ((lw_gt (((((i3 &&& (15 : Int32)).toInt64) <<< ((36 : Int32) &&& 63).toInt64) ||| (((15 : Int64) - ((i4 &&& (15 : Int32)).toInt64)) <<< ((32 : Int32) &&& 63).toInt64)) ||| ((2147483647 : Int64) - (i5.toInt64))) (((((i0 &&& (15 : Int32)).toInt64) <<< ((36 : Int32) &&& 63).toInt64) ||| (((15 : Int64) - ((i1 &&& (15 : Int32)).toInt64)) <<< ((32 : Int32) &&& 63).toInt64)) ||| ((2147483647 : Int64) - (i2.toInt64)))).mpr hd5)).2.2.2) ?_
    refine wic X11 hx hby rfl at_142 ?_
    refine wgt X11 hx hby rfl (pc0 := 143) (pc' := 147) rfl at_143 (by decide) (by decide) ?_
    show St p e below T11 (mkF m 147 #[sI i0, sI i1, sI i2, sI i3, sI i4, sI i5, .val (.double (FP.ddiv (FP.i2d x6) (4611686018427387904 : UInt64))), sS, .val (.double (FP.i2d x20)), sS, .val (.double (FP.ddiv (FP.i2d x30) (4611686018427387904 : UInt64))), sS, .val (.double (FP.i2d x45)), sS, sR b1, sR b3, sL (((((i0 &&& (15 : Int32)).toInt64) <<< ((36 : Int32) &&& 63).toInt64) ||| (((15 : Int64) - ((i1 &&& (15 : Int32)).toInt64)) <<< ((32 : Int32) &&& 63).toInt64)) ||| ((2147483647 : Int64) - (i2.toInt64))), sS, sL (((((i3 &&& (15 : Int32)).toInt64) <<< ((36 : Int32) &&& 63).toInt64) ||| (((15 : Int64) - ((i4 &&& (15 : Int32)).toInt64)) <<< ((32 : Int32) &&& 63).toInt64)) ||| ((2147483647 : Int64) - (i5.toInt64))), sS, sI 0, sI 1] [(vI 1), (vI 1)]) _
    refine wcn X11 hx hby rfl at_147 rfl (teq (by decide : (1 : Int32) = (1 : Int32))).2 ?_
    refine wic X11 hx hby rfl at_150 ?_
    refine wgt X11 hx hby rfl (pc0 := 151) (pc' := 155) rfl at_151 (by decide) (by decide) ?_
    show St p e below T11 (mkF m 155 #[sI i0, sI i1, sI i2, sI i3, sI i4, sI i5, .val (.double (FP.ddiv (FP.i2d x6) (4611686018427387904 : UInt64))), sS, .val (.double (FP.i2d x20)), sS, .val (.double (FP.ddiv (FP.i2d x30) (4611686018427387904 : UInt64))), sS, .val (.double (FP.i2d x45)), sS, sR b1, sR b3, sL (((((i0 &&& (15 : Int32)).toInt64) <<< ((36 : Int32) &&& 63).toInt64) ||| (((15 : Int64) - ((i1 &&& (15 : Int32)).toInt64)) <<< ((32 : Int32) &&& 63).toInt64)) ||| ((2147483647 : Int64) - (i2.toInt64))), sS, sL (((((i3 &&& (15 : Int32)).toInt64) <<< ((36 : Int32) &&& 63).toInt64) ||| (((15 : Int64) - ((i4 &&& (15 : Int32)).toInt64)) <<< ((32 : Int32) &&& 63).toInt64)) ||| ((2147483647 : Int64) - (i5.toInt64))), sS, sI 0, sI 1] [(vI 1)]) _
    exact retN X11 hx (t := .boolean) hret (by simp) (hb hby at_155) hr
  · rcases Decidable.em (x30 < x6) with hp1 | hp1
    · have ne8 : b1 ≠ b3 := (Nat.ne_of_lt (Nat.lt_of_lt_of_le (Nat.lt_of_lt_of_le A1.lt Kq2.1) g3))
      have f9 : Fld Z T4.heap b1 z0 "priority" "D" (.double (FP.ddiv (FP.i2d x6) (4611686018427387904 : UInt64))) := ((q2_0.ext E3).keep Kq4 (ninS ne8 nin0))
      have f10 : Exa Z T4.heap b1 z0 := (((A1.keep Kq2).ext E3).keep Kq4)
      obtain ⟨_, T7, L7, ⟨rfl, N7q, e7⟩, X7, st7⟩ := cV X6 hx hZ (W := 0) hown (cw3 cx) (rm5 cx b1 b3 (FP.ddiv (FP.i2d x6) (4611686018427387904 : UInt64)) (FP.ddiv (FP.i2d x30) (4611686018427387904 : UInt64)) O4 f9 q4_0 (own_cG (own_dcH (own_rg hd0 hd1 (l := -8) (h := 7) (by decide)) (own_rg hd2 hd3 (l := -8) (h := 7) (by decide))) hp1)) e6 f10 (g := (mkF m 100 #[sI i0, sI i1, sI i2, sI i3, sI i4, sI i5, .val (.double (FP.ddiv (FP.i2d x6) (4611686018427387904 : UInt64))), sS, .val (.double (FP.i2d x20)), sS, .val (.double (FP.ddiv (FP.i2d x30) (4611686018427387904 : UInt64))), sS, .val (.double (FP.i2d x45)), sS, sR b1, sR b3, sL (((((i0 &&& (15 : Int32)).toInt64) <<< ((36 : Int32) &&& 63).toInt64) ||| (((15 : Int64) - ((i1 &&& (15 : Int32)).toInt64)) <<< ((32 : Int32) &&& 63).toInt64)) ||| ((2147483647 : Int64) - (i2.toInt64))), sS, sL (((((i3 &&& (15 : Int32)).toInt64) <<< ((36 : Int32) &&& 63).toInt64) ||| (((15 : Int64) - ((i4 &&& (15 : Int32)).toInt64)) <<< ((32 : Int32) &&& 63).toInt64)) ||| ((2147483647 : Int64) - (i5.toInt64))), sS, sU, sU] [(vR b3), (vR b1)])) rfl hml rfl (rest := []) rfl rfl rfl rfl (hb hby at_100) (by decide)
      have f12 : Exa Z T4.heap b3 z0 := (A3.keep Kq4)
      obtain ⟨_, T11, L11, ⟨rfl, N11q, e11⟩, X11, st11⟩ := cV X7 hx hZ (W := 0) hown (cw3 cx) (rm4 cx b3 b1 (FP.ddiv (FP.i2d x30) (4611686018427387904 : UInt64)) (FP.ddiv (FP.i2d x6) (4611686018427387904 : UInt64)) O4 q4_0 f9 (own_cL (own_dcH (own_rg hd2 hd3 (l := -8) (h := 7) (by decide)) (own_rg hd0 hd1 (l := -8) (h := 7) (by decide))) hp1)) e7 f12 (g := (mkF m 109 #[sI i0, sI i1, sI i2, sI i3, sI i4, sI i5, .val (.double (FP.ddiv (FP.i2d x6) (4611686018427387904 : UInt64))), sS, .val (.double (FP.i2d x20)), sS, .val (.double (FP.ddiv (FP.i2d x30) (4611686018427387904 : UInt64))), sS, .val (.double (FP.i2d x45)), sS, sR b1, sR b3, sL (((((i0 &&& (15 : Int32)).toInt64) <<< ((36 : Int32) &&& 63).toInt64) ||| (((15 : Int64) - ((i1 &&& (15 : Int32)).toInt64)) <<< ((32 : Int32) &&& 63).toInt64)) ||| ((2147483647 : Int64) - (i2.toInt64))), sS, sL (((((i3 &&& (15 : Int32)).toInt64) <<< ((36 : Int32) &&& 63).toInt64) ||| (((15 : Int64) - ((i4 &&& (15 : Int32)).toInt64)) <<< ((32 : Int32) &&& 63).toInt64)) ||| ((2147483647 : Int64) - (i5.toInt64))), sS, sI 1, sU] [(vR b1), (vR b3)])) rfl hml rfl (rest := []) rfl rfl rfl rfl (hb hby at_109) (by decide)
      have hd6 : (((((i3 &&& (15 : Int32)).toInt64) <<< ((36 : Int32) &&& 63).toInt64) ||| (((15 : Int64) - ((i4 &&& (15 : Int32)).toInt64)) <<< ((32 : Int32) &&& 63).toInt64)) ||| ((2147483647 : Int64) - (i5.toInt64))) < (((((i0 &&& (15 : Int32)).toInt64) <<< ((36 : Int32) &&& 63).toInt64) ||| (((15 : Int64) - ((i1 &&& (15 : Int32)).toInt64)) <<< ((32 : Int32) &&& 63).toInt64)) ||| ((2147483647 : Int64) - (i2.toInt64))) := (by have r2 := own_rng i2; have r5 := own_rng i5; have kA := own_key i0 i1 i2; have kB := own_key i3 i4 i5; have g1 := own_p8 hx3 hx6; have g2 := own_p8 hx17 hx20; have g3 := own_p8 hx27 hx30; have g4 := own_p8 hx42 hx45; have f0 := own_ltT' hp1; exact own_kLT (by omega) : (((((i3 &&& (15 : Int32)).toInt64) <<< ((36 : Int32) &&& 63).toInt64) ||| (((15 : Int64) - ((i4 &&& (15 : Int32)).toInt64)) <<< ((32 : Int32) &&& 63).toInt64)) ||| ((2147483647 : Int64) - (i5.toInt64))) < (((((i0 &&& (15 : Int32)).toInt64) <<< ((36 : Int32) &&& 63).toInt64) ||| (((15 : Int64) - ((i1 &&& (15 : Int32)).toInt64)) <<< ((32 : Int32) &&& 63).toInt64)) ||| ((2147483647 : Int64) - (i2.toInt64))))
      have hd7 : ¬ ((((((i0 &&& (15 : Int32)).toInt64) <<< ((36 : Int32) &&& 63).toInt64) ||| (((15 : Int64) - ((i1 &&& (15 : Int32)).toInt64)) <<< ((32 : Int32) &&& 63).toInt64)) ||| ((2147483647 : Int64) - (i2.toInt64))) < (((((i3 &&& (15 : Int32)).toInt64) <<< ((36 : Int32) &&& 63).toInt64) ||| (((15 : Int64) - ((i4 &&& (15 : Int32)).toInt64)) <<< ((32 : Int32) &&& 63).toInt64)) ||| ((2147483647 : Int64) - (i5.toInt64)))) := (by have r2 := own_rng i2; have r5 := own_rng i5; have kA := own_key i0 i1 i2; have kB := own_key i3 i4 i5; have g1 := own_p8 hx3 hx6; have g2 := own_p8 hx17 hx20; have g3 := own_p8 hx27 hx30; have g4 := own_p8 hx42 hx45; have f0 := own_ltT' hp1; exact own_kLF (by omega) : ¬ ((((((i0 &&& (15 : Int32)).toInt64) <<< ((36 : Int32) &&& 63).toInt64) ||| (((15 : Int64) - ((i1 &&& (15 : Int32)).toInt64)) <<< ((32 : Int32) &&& 63).toInt64)) ||| ((2147483647 : Int64) - (i2.toInt64))) < (((((i3 &&& (15 : Int32)).toInt64) <<< ((36 : Int32) &&& 63).toInt64) ||| (((15 : Int64) - ((i4 &&& (15 : Int32)).toInt64)) <<< ((32 : Int32) &&& 63).toInt64)) ||| ((2147483647 : Int64) - (i5.toInt64)))))
      refine own_end X11 hlk (v := some (vI 1)) (own_hv hret) (by decide) ⟨rfl, (Fr.app (Fr.app (Fr.app (Fr.app N4 N5q) N6q) N7q) N11q)⟩ fun fs hr => pre1 _ ?_
      refine st7 _ ?_
      refine wiS X7 hx hby rfl at_103 rfl (l' := #[sI i0, sI i1, sI i2, sI i3, sI i4, sI i5, .val (.double (FP.ddiv (FP.i2d x6) (4611686018427387904 : UInt64))), sS, .val (.double (FP.i2d x20)), sS, .val (.double (FP.ddiv (FP.i2d x30) (4611686018427387904 : UInt64))), sS, .val (.double (FP.i2d x45)), sS, sR b1, sR b3, sL (((((i0 &&& (15 : Int32)).toInt64) <<< ((36 : Int32) &&& 63).toInt64) ||| (((15 : Int64) - ((i1 &&& (15 : Int32)).toInt64)) <<< ((32 : Int32) &&& 63).toInt64)) ||| ((2147483647 : Int64) - (i2.toInt64))), sS, sL (((((i3 &&& (15 : Int32)).toInt64) <<< ((36 : Int32) &&& 63).toInt64) ||| (((15 : Int64) - ((i4 &&& (15 : Int32)).toInt64)) <<< ((32 : Int32) &&& 63).toInt64)) ||| ((2147483647 : Int64) - (i5.toInt64))), sS, sI 1, sU]) rfl ?_
      refine waL X7 hx hby rfl at_105 rfl rfl ?_
      refine waL X7 hx hby rfl at_107 rfl rfl ?_
      refine st11 _ ?_
      refine wiS X11 hx hby rfl at_112 rfl (l' := #[sI i0, sI i1, sI i2, sI i3, sI i4, sI i5, .val (.double (FP.ddiv (FP.i2d x6) (4611686018427387904 : UInt64))), sS, .val (.double (FP.i2d x20)), sS, .val (.double (FP.ddiv (FP.i2d x30) (4611686018427387904 : UInt64))), sS, .val (.double (FP.i2d x45)), sS, sR b1, sR b3, sL (((((i0 &&& (15 : Int32)).toInt64) <<< ((36 : Int32) &&& 63).toInt64) ||| (((15 : Int64) - ((i1 &&& (15 : Int32)).toInt64)) <<< ((32 : Int32) &&& 63).toInt64)) ||| ((2147483647 : Int64) - (i2.toInt64))), sS, sL (((((i3 &&& (15 : Int32)).toInt64) <<< ((36 : Int32) &&& 63).toInt64) ||| (((15 : Int64) - ((i4 &&& (15 : Int32)).toInt64)) <<< ((32 : Int32) &&& 63).toInt64)) ||| ((2147483647 : Int64) - (i5.toInt64))), sS, sI 1, sI 0]) rfl ?_
      show St p e below T11 (mkF m 114 #[sI i0, sI i1, sI i2, sI i3, sI i4, sI i5, .val (.double (FP.ddiv (FP.i2d x6) (4611686018427387904 : UInt64))), sS, .val (.double (FP.i2d x20)), sS, .val (.double (FP.ddiv (FP.i2d x30) (4611686018427387904 : UInt64))), sS, .val (.double (FP.i2d x45)), sS, sR b1, sR b3, sL (((((i0 &&& (15 : Int32)).toInt64) <<< ((36 : Int32) &&& 63).toInt64) ||| (((15 : Int64) - ((i1 &&& (15 : Int32)).toInt64)) <<< ((32 : Int32) &&& 63).toInt64)) ||| ((2147483647 : Int64) - (i2.toInt64))), sS, sL (((((i3 &&& (15 : Int32)).toInt64) <<< ((36 : Int32) &&& 63).toInt64) ||| (((15 : Int64) - ((i4 &&& (15 : Int32)).toInt64)) <<< ((32 : Int32) &&& 63).toInt64)) ||| ((2147483647 : Int64) - (i5.toInt64))), sS, sI 1, sI 0] []) _
      refine wiL X11 hx hby rfl at_114 rfl ?_
      refine XS.lload X11.here hx rfl (hb hby at_116) rfl ?_
      refine XS.lload X11.here hx rfl (hb hby at_118) rfl ?_
      refine XS.lcmp X11.here hx rfl (hb hby at_120) rfl ?_
      refine wfn X11 hx hby rfl at_121 rfl ((if0 _ _).trans (tlt ((lw_gt (((((i0 &&& (15 : Int32)).toInt64) <<< ((36 : Int32) &&& 63).toInt64) ||| (((15 : Int64) - ((i1 &&& (15 : Int32)).toInt64)) <<< ((32 : Int32) &&& 63).toInt64)) ||| ((2147483647 : Int64) - (i2.toInt64))) (((((i3 &&& (15 : Int32)).toInt64) <<< ((36 : Int32) &&& 63).toInt64) ||| (((15 : Int64) - ((i4 &&& (15 : Int32)).toInt64)) <<< ((32 : Int32) &&& 63).toInt64)) ||| ((2147483647 : Int64) - (i5.toInt64)))).mpr hd6)).2.2.2) ?_
      refine wic X11 hx hby rfl at_124 ?_
      refine wgt X11 hx hby rfl (pc0 := 125) (pc' := 129) rfl at_125 (by decide) (by decide) ?_
      show St p e below T11 (mkF m 129 #[sI i0, sI i1, sI i2, sI i3, sI i4, sI i5, .val (.double (FP.ddiv (FP.i2d x6) (4611686018427387904 : UInt64))), sS, .val (.double (FP.i2d x20)), sS, .val (.double (FP.ddiv (FP.i2d x30) (4611686018427387904 : UInt64))), sS, .val (.double (FP.i2d x45)), sS, sR b1, sR b3, sL (((((i0 &&& (15 : Int32)).toInt64) <<< ((36 : Int32) &&& 63).toInt64) ||| (((15 : Int64) - ((i1 &&& (15 : Int32)).toInt64)) <<< ((32 : Int32) &&& 63).toInt64)) ||| ((2147483647 : Int64) - (i2.toInt64))), sS, sL (((((i3 &&& (15 : Int32)).toInt64) <<< ((36 : Int32) &&& 63).toInt64) ||| (((15 : Int64) - ((i4 &&& (15 : Int32)).toInt64)) <<< ((32 : Int32) &&& 63).toInt64)) ||| ((2147483647 : Int64) - (i5.toInt64))), sS, sI 1, sI 0] [(vI 1), (vI 1)]) _
      refine wcn X11 hx hby rfl at_129 rfl (teq (by decide : (1 : Int32) = (1 : Int32))).2 ?_
      refine wiL X11 hx hby rfl at_132 rfl ?_
      refine XS.lload X11.here hx rfl (hb hby at_134) rfl ?_
      refine XS.lload X11.here hx rfl (hb hby at_136) rfl ?_
      refine XS.lcmp X11.here hx rfl (hb hby at_138) rfl ?_
      refine wfy X11 hx hby rfl (pc0 := 139) (pc' := 146) rfl at_139 rfl ((if0 _ _).trans (flt (fun q => hd7 ((lw_gt (((((i3 &&& (15 : Int32)).toInt64) <<< ((36 : Int32) &&& 63).toInt64) ||| (((15 : Int64) - ((i4 &&& (15 : Int32)).toInt64)) <<< ((32 : Int32) &&& 63).toInt64)) ||| ((2147483647 : Int64) - (i5.toInt64))) (((((i0 &&& (15 : Int32)).toInt64) <<< ((36 : Int32) &&& 63).toInt64) ||| (((15 : Int64) - ((i1 &&& (15 : Int32)).toInt64)) <<< ((32 : Int32) &&& 63).toInt64)) ||| ((2147483647 : Int64) - (i2.toInt64)))).mp q))).2.2.2) (by decide) (by decide) ?_
      show St p e below T11 (mkF m 146 #[sI i0, sI i1, sI i2, sI i3, sI i4, sI i5, .val (.double (FP.ddiv (FP.i2d x6) (4611686018427387904 : UInt64))), sS, .val (.double (FP.i2d x20)), sS, .val (.double (FP.ddiv (FP.i2d x30) (4611686018427387904 : UInt64))), sS, .val (.double (FP.i2d x45)), sS, sR b1, sR b3, sL (((((i0 &&& (15 : Int32)).toInt64) <<< ((36 : Int32) &&& 63).toInt64) ||| (((15 : Int64) - ((i1 &&& (15 : Int32)).toInt64)) <<< ((32 : Int32) &&& 63).toInt64)) ||| ((2147483647 : Int64) - (i2.toInt64))), sS, sL (((((i3 &&& (15 : Int32)).toInt64) <<< ((36 : Int32) &&& 63).toInt64) ||| (((15 : Int64) - ((i4 &&& (15 : Int32)).toInt64)) <<< ((32 : Int32) &&& 63).toInt64)) ||| ((2147483647 : Int64) - (i5.toInt64))), sS, sI 1, sI 0] [(vI 0)]) _
      refine wic X11 hx hby rfl at_146 ?_
      show St p e below T11 (mkF m 147 #[sI i0, sI i1, sI i2, sI i3, sI i4, sI i5, .val (.double (FP.ddiv (FP.i2d x6) (4611686018427387904 : UInt64))), sS, .val (.double (FP.i2d x20)), sS, .val (.double (FP.ddiv (FP.i2d x30) (4611686018427387904 : UInt64))), sS, .val (.double (FP.i2d x45)), sS, sR b1, sR b3, sL (((((i0 &&& (15 : Int32)).toInt64) <<< ((36 : Int32) &&& 63).toInt64) ||| (((15 : Int64) - ((i1 &&& (15 : Int32)).toInt64)) <<< ((32 : Int32) &&& 63).toInt64)) ||| ((2147483647 : Int64) - (i2.toInt64))), sS, sL (((((i3 &&& (15 : Int32)).toInt64) <<< ((36 : Int32) &&& 63).toInt64) ||| (((15 : Int64) - ((i4 &&& (15 : Int32)).toInt64)) <<< ((32 : Int32) &&& 63).toInt64)) ||| ((2147483647 : Int64) - (i5.toInt64))), sS, sI 1, sI 0] [(vI 0), (vI 0)]) _
      refine wcn X11 hx hby rfl at_147 rfl (teq (by decide : (0 : Int32) = (0 : Int32))).2 ?_
      refine wic X11 hx hby rfl at_150 ?_
      refine wgt X11 hx hby rfl (pc0 := 151) (pc' := 155) rfl at_151 (by decide) (by decide) ?_
      show St p e below T11 (mkF m 155 #[sI i0, sI i1, sI i2, sI i3, sI i4, sI i5, .val (.double (FP.ddiv (FP.i2d x6) (4611686018427387904 : UInt64))), sS, .val (.double (FP.i2d x20)), sS, .val (.double (FP.ddiv (FP.i2d x30) (4611686018427387904 : UInt64))), sS, .val (.double (FP.i2d x45)), sS, sR b1, sR b3, sL (((((i0 &&& (15 : Int32)).toInt64) <<< ((36 : Int32) &&& 63).toInt64) ||| (((15 : Int64) - ((i1 &&& (15 : Int32)).toInt64)) <<< ((32 : Int32) &&& 63).toInt64)) ||| ((2147483647 : Int64) - (i2.toInt64))), sS, sL (((((i3 &&& (15 : Int32)).toInt64) <<< ((36 : Int32) &&& 63).toInt64) ||| (((15 : Int64) - ((i4 &&& (15 : Int32)).toInt64)) <<< ((32 : Int32) &&& 63).toInt64)) ||| ((2147483647 : Int64) - (i5.toInt64))), sS, sI 1, sI 0] [(vI 1)]) _
      exact retN X11 hx (t := .boolean) hret (by simp) (hb hby at_155) hr
    · rcases Decidable.em (x20 < x45) with hp2 | hp2
      · have ne8 : b1 ≠ b3 := (Nat.ne_of_lt (Nat.lt_of_lt_of_le (Nat.lt_of_lt_of_le A1.lt Kq2.1) g3))
        have f9 : Fld Z T4.heap b1 z0 "priority" "D" (.double (FP.ddiv (FP.i2d x6) (4611686018427387904 : UInt64))) := ((q2_0.ext E3).keep Kq4 (ninS ne8 nin0))
        have f10 : Fld Z T4.heap b1 z0 "time" "D" (.double (FP.i2d x20)) := ((q2_1.ext E3).keep Kq4 (ninS ne8 nin0))
        have f11 : Exa Z T4.heap b1 z0 := (((A1.keep Kq2).ext E3).keep Kq4)
        obtain ⟨_, T7, L7, ⟨rfl, N7q, e7⟩, X7, st7⟩ := cV X6 hx hZ (W := 0) hown (cw3 cx) (rm6 cx b1 b3 (FP.ddiv (FP.i2d x6) (4611686018427387904 : UInt64)) (FP.ddiv (FP.i2d x30) (4611686018427387904 : UInt64)) (FP.i2d x20) (FP.i2d x45) O4 f9 q4_0 (own_cE (own_dcH (own_rg hd0 hd1 (l := -8) (h := 7) (by decide)) (own_rg hd2 hd3 (l := -8) (h := 7) (by decide))) hp0 hp1) f10 q4_1 (own_cL (own_dcI _ _) hp2)) e6 f11 (g := (mkF m 100 #[sI i0, sI i1, sI i2, sI i3, sI i4, sI i5, .val (.double (FP.ddiv (FP.i2d x6) (4611686018427387904 : UInt64))), sS, .val (.double (FP.i2d x20)), sS, .val (.double (FP.ddiv (FP.i2d x30) (4611686018427387904 : UInt64))), sS, .val (.double (FP.i2d x45)), sS, sR b1, sR b3, sL (((((i0 &&& (15 : Int32)).toInt64) <<< ((36 : Int32) &&& 63).toInt64) ||| (((15 : Int64) - ((i1 &&& (15 : Int32)).toInt64)) <<< ((32 : Int32) &&& 63).toInt64)) ||| ((2147483647 : Int64) - (i2.toInt64))), sS, sL (((((i3 &&& (15 : Int32)).toInt64) <<< ((36 : Int32) &&& 63).toInt64) ||| (((15 : Int64) - ((i4 &&& (15 : Int32)).toInt64)) <<< ((32 : Int32) &&& 63).toInt64)) ||| ((2147483647 : Int64) - (i5.toInt64))), sS, sU, sU] [(vR b3), (vR b1)])) rfl hml rfl (rest := []) rfl rfl rfl rfl (hb hby at_100) (by decide)
        have f13 : Exa Z T4.heap b3 z0 := (A3.keep Kq4)
        obtain ⟨_, T12, L12, ⟨rfl, N12q, e12⟩, X12, st12⟩ := cV X7 hx hZ (W := 0) hown (cw3 cx) (rm7 cx b3 b1 (FP.ddiv (FP.i2d x30) (4611686018427387904 : UInt64)) (FP.ddiv (FP.i2d x6) (4611686018427387904 : UInt64)) (FP.i2d x45) (FP.i2d x20) O4 q4_0 f9 (own_cE (own_dcH (own_rg hd2 hd3 (l := -8) (h := 7) (by decide)) (own_rg hd0 hd1 (l := -8) (h := 7) (by decide))) hp1 hp0) q4_1 f10 (own_cG (own_dcI _ _) hp2)) e7 f13 (g := (mkF m 109 #[sI i0, sI i1, sI i2, sI i3, sI i4, sI i5, .val (.double (FP.ddiv (FP.i2d x6) (4611686018427387904 : UInt64))), sS, .val (.double (FP.i2d x20)), sS, .val (.double (FP.ddiv (FP.i2d x30) (4611686018427387904 : UInt64))), sS, .val (.double (FP.i2d x45)), sS, sR b1, sR b3, sL (((((i0 &&& (15 : Int32)).toInt64) <<< ((36 : Int32) &&& 63).toInt64) ||| (((15 : Int64) - ((i1 &&& (15 : Int32)).toInt64)) <<< ((32 : Int32) &&& 63).toInt64)) ||| ((2147483647 : Int64) - (i2.toInt64))), sS, sL (((((i3 &&& (15 : Int32)).toInt64) <<< ((36 : Int32) &&& 63).toInt64) ||| (((15 : Int64) - ((i4 &&& (15 : Int32)).toInt64)) <<< ((32 : Int32) &&& 63).toInt64)) ||| ((2147483647 : Int64) - (i5.toInt64))), sS, sI 1, sU] [(vR b1), (vR b3)])) rfl hml rfl (rest := []) rfl rfl rfl rfl (hb hby at_109) (by decide)
        have hd6 : (((((i3 &&& (15 : Int32)).toInt64) <<< ((36 : Int32) &&& 63).toInt64) ||| (((15 : Int64) - ((i4 &&& (15 : Int32)).toInt64)) <<< ((32 : Int32) &&& 63).toInt64)) ||| ((2147483647 : Int64) - (i5.toInt64))) < (((((i0 &&& (15 : Int32)).toInt64) <<< ((36 : Int32) &&& 63).toInt64) ||| (((15 : Int64) - ((i1 &&& (15 : Int32)).toInt64)) <<< ((32 : Int32) &&& 63).toInt64)) ||| ((2147483647 : Int64) - (i2.toInt64))) := (by have r2 := own_rng i2; have r5 := own_rng i5; have kA := own_key i0 i1 i2; have kB := own_key i3 i4 i5; have g1 := own_p8 hx3 hx6; have g2 := own_p8 hx17 hx20; have g3 := own_p8 hx27 hx30; have g4 := own_p8 hx42 hx45; have f0 := own_ltF' hp0; have f1 := own_ltF' hp1; have f2 := own_ltT' hp2; exact own_kLT (by omega) : (((((i3 &&& (15 : Int32)).toInt64) <<< ((36 : Int32) &&& 63).toInt64) ||| (((15 : Int64) - ((i4 &&& (15 : Int32)).toInt64)) <<< ((32 : Int32) &&& 63).toInt64)) ||| ((2147483647 : Int64) - (i5.toInt64))) < (((((i0 &&& (15 : Int32)).toInt64) <<< ((36 : Int32) &&& 63).toInt64) ||| (((15 : Int64) - ((i1 &&& (15 : Int32)).toInt64)) <<< ((32 : Int32) &&& 63).toInt64)) ||| ((2147483647 : Int64) - (i2.toInt64))))
        have hd7 : ¬ ((((((i0 &&& (15 : Int32)).toInt64) <<< ((36 : Int32) &&& 63).toInt64) ||| (((15 : Int64) - ((i1 &&& (15 : Int32)).toInt64)) <<< ((32 : Int32) &&& 63).toInt64)) ||| ((2147483647 : Int64) - (i2.toInt64))) < (((((i3 &&& (15 : Int32)).toInt64) <<< ((36 : Int32) &&& 63).toInt64) ||| (((15 : Int64) - ((i4 &&& (15 : Int32)).toInt64)) <<< ((32 : Int32) &&& 63).toInt64)) ||| ((2147483647 : Int64) - (i5.toInt64)))) := (by have r2 := own_rng i2; have r5 := own_rng i5; have kA := own_key i0 i1 i2; have kB := own_key i3 i4 i5; have g1 := own_p8 hx3 hx6; have g2 := own_p8 hx17 hx20; have g3 := own_p8 hx27 hx30; have g4 := own_p8 hx42 hx45; have f0 := own_ltF' hp0; have f1 := own_ltF' hp1; have f2 := own_ltT' hp2; exact own_kLF (by omega) : ¬ ((((((i0 &&& (15 : Int32)).toInt64) <<< ((36 : Int32) &&& 63).toInt64) ||| (((15 : Int64) - ((i1 &&& (15 : Int32)).toInt64)) <<< ((32 : Int32) &&& 63).toInt64)) ||| ((2147483647 : Int64) - (i2.toInt64))) < (((((i3 &&& (15 : Int32)).toInt64) <<< ((36 : Int32) &&& 63).toInt64) ||| (((15 : Int64) - ((i4 &&& (15 : Int32)).toInt64)) <<< ((32 : Int32) &&& 63).toInt64)) ||| ((2147483647 : Int64) - (i5.toInt64)))))
        refine own_end X12 hlk (v := some (vI 1)) (own_hv hret) (by decide) ⟨rfl, (Fr.app (Fr.app (Fr.app (Fr.app N4 N5q) N6q) N7q) N12q)⟩ fun fs hr => pre1 _ ?_
        refine st7 _ ?_
        refine wiS X7 hx hby rfl at_103 rfl (l' := #[sI i0, sI i1, sI i2, sI i3, sI i4, sI i5, .val (.double (FP.ddiv (FP.i2d x6) (4611686018427387904 : UInt64))), sS, .val (.double (FP.i2d x20)), sS, .val (.double (FP.ddiv (FP.i2d x30) (4611686018427387904 : UInt64))), sS, .val (.double (FP.i2d x45)), sS, sR b1, sR b3, sL (((((i0 &&& (15 : Int32)).toInt64) <<< ((36 : Int32) &&& 63).toInt64) ||| (((15 : Int64) - ((i1 &&& (15 : Int32)).toInt64)) <<< ((32 : Int32) &&& 63).toInt64)) ||| ((2147483647 : Int64) - (i2.toInt64))), sS, sL (((((i3 &&& (15 : Int32)).toInt64) <<< ((36 : Int32) &&& 63).toInt64) ||| (((15 : Int64) - ((i4 &&& (15 : Int32)).toInt64)) <<< ((32 : Int32) &&& 63).toInt64)) ||| ((2147483647 : Int64) - (i5.toInt64))), sS, sI 1, sU]) rfl ?_
        refine waL X7 hx hby rfl at_105 rfl rfl ?_
        refine waL X7 hx hby rfl at_107 rfl rfl ?_
        refine st12 _ ?_
        refine wiS X12 hx hby rfl at_112 rfl (l' := #[sI i0, sI i1, sI i2, sI i3, sI i4, sI i5, .val (.double (FP.ddiv (FP.i2d x6) (4611686018427387904 : UInt64))), sS, .val (.double (FP.i2d x20)), sS, .val (.double (FP.ddiv (FP.i2d x30) (4611686018427387904 : UInt64))), sS, .val (.double (FP.i2d x45)), sS, sR b1, sR b3, sL (((((i0 &&& (15 : Int32)).toInt64) <<< ((36 : Int32) &&& 63).toInt64) ||| (((15 : Int64) - ((i1 &&& (15 : Int32)).toInt64)) <<< ((32 : Int32) &&& 63).toInt64)) ||| ((2147483647 : Int64) - (i2.toInt64))), sS, sL (((((i3 &&& (15 : Int32)).toInt64) <<< ((36 : Int32) &&& 63).toInt64) ||| (((15 : Int64) - ((i4 &&& (15 : Int32)).toInt64)) <<< ((32 : Int32) &&& 63).toInt64)) ||| ((2147483647 : Int64) - (i5.toInt64))), sS, sI 1, sI 0]) rfl ?_
        show St p e below T12 (mkF m 114 #[sI i0, sI i1, sI i2, sI i3, sI i4, sI i5, .val (.double (FP.ddiv (FP.i2d x6) (4611686018427387904 : UInt64))), sS, .val (.double (FP.i2d x20)), sS, .val (.double (FP.ddiv (FP.i2d x30) (4611686018427387904 : UInt64))), sS, .val (.double (FP.i2d x45)), sS, sR b1, sR b3, sL (((((i0 &&& (15 : Int32)).toInt64) <<< ((36 : Int32) &&& 63).toInt64) ||| (((15 : Int64) - ((i1 &&& (15 : Int32)).toInt64)) <<< ((32 : Int32) &&& 63).toInt64)) ||| ((2147483647 : Int64) - (i2.toInt64))), sS, sL (((((i3 &&& (15 : Int32)).toInt64) <<< ((36 : Int32) &&& 63).toInt64) ||| (((15 : Int64) - ((i4 &&& (15 : Int32)).toInt64)) <<< ((32 : Int32) &&& 63).toInt64)) ||| ((2147483647 : Int64) - (i5.toInt64))), sS, sI 1, sI 0] []) _
        refine wiL X12 hx hby rfl at_114 rfl ?_
        refine XS.lload X12.here hx rfl (hb hby at_116) rfl ?_
        refine XS.lload X12.here hx rfl (hb hby at_118) rfl ?_
        refine XS.lcmp X12.here hx rfl (hb hby at_120) rfl ?_
        refine wfn X12 hx hby rfl at_121 rfl ((if0 _ _).trans (tlt ((lw_gt (((((i0 &&& (15 : Int32)).toInt64) <<< ((36 : Int32) &&& 63).toInt64) ||| (((15 : Int64) - ((i1 &&& (15 : Int32)).toInt64)) <<< ((32 : Int32) &&& 63).toInt64)) ||| ((2147483647 : Int64) - (i2.toInt64))) (((((i3 &&& (15 : Int32)).toInt64) <<< ((36 : Int32) &&& 63).toInt64) ||| (((15 : Int64) - ((i4 &&& (15 : Int32)).toInt64)) <<< ((32 : Int32) &&& 63).toInt64)) ||| ((2147483647 : Int64) - (i5.toInt64)))).mpr hd6)).2.2.2) ?_
        refine wic X12 hx hby rfl at_124 ?_
        refine wgt X12 hx hby rfl (pc0 := 125) (pc' := 129) rfl at_125 (by decide) (by decide) ?_
        show St p e below T12 (mkF m 129 #[sI i0, sI i1, sI i2, sI i3, sI i4, sI i5, .val (.double (FP.ddiv (FP.i2d x6) (4611686018427387904 : UInt64))), sS, .val (.double (FP.i2d x20)), sS, .val (.double (FP.ddiv (FP.i2d x30) (4611686018427387904 : UInt64))), sS, .val (.double (FP.i2d x45)), sS, sR b1, sR b3, sL (((((i0 &&& (15 : Int32)).toInt64) <<< ((36 : Int32) &&& 63).toInt64) ||| (((15 : Int64) - ((i1 &&& (15 : Int32)).toInt64)) <<< ((32 : Int32) &&& 63).toInt64)) ||| ((2147483647 : Int64) - (i2.toInt64))), sS, sL (((((i3 &&& (15 : Int32)).toInt64) <<< ((36 : Int32) &&& 63).toInt64) ||| (((15 : Int64) - ((i4 &&& (15 : Int32)).toInt64)) <<< ((32 : Int32) &&& 63).toInt64)) ||| ((2147483647 : Int64) - (i5.toInt64))), sS, sI 1, sI 0] [(vI 1), (vI 1)]) _
        refine wcn X12 hx hby rfl at_129 rfl (teq (by decide : (1 : Int32) = (1 : Int32))).2 ?_
        refine wiL X12 hx hby rfl at_132 rfl ?_
        refine XS.lload X12.here hx rfl (hb hby at_134) rfl ?_
        refine XS.lload X12.here hx rfl (hb hby at_136) rfl ?_
        refine XS.lcmp X12.here hx rfl (hb hby at_138) rfl ?_
        refine wfy X12 hx hby rfl (pc0 := 139) (pc' := 146) rfl at_139 rfl ((if0 _ _).trans (flt (fun q => hd7 ((lw_gt (((((i3 &&& (15 : Int32)).toInt64) <<< ((36 : Int32) &&& 63).toInt64) ||| (((15 : Int64) - ((i4 &&& (15 : Int32)).toInt64)) <<< ((32 : Int32) &&& 63).toInt64)) ||| ((2147483647 : Int64) - (i5.toInt64))) (((((i0 &&& (15 : Int32)).toInt64) <<< ((36 : Int32) &&& 63).toInt64) ||| (((15 : Int64) - ((i1 &&& (15 : Int32)).toInt64)) <<< ((32 : Int32) &&& 63).toInt64)) ||| ((2147483647 : Int64) - (i2.toInt64)))).mp q))).2.2.2) (by decide) (by decide) ?_
        show St p e below T12 (mkF m 146 #[sI i0, sI i1, sI i2, sI i3, sI i4, sI i5, .val (.double (FP.ddiv (FP.i2d x6) (4611686018427387904 : UInt64))), sS, .val (.double (FP.i2d x20)), sS, .val (.double (FP.ddiv (FP.i2d x30) (4611686018427387904 : UInt64))), sS, .val (.double (FP.i2d x45)), sS, sR b1, sR b3, sL (((((i0 &&& (15 : Int32)).toInt64) <<< ((36 : Int32) &&& 63).toInt64) ||| (((15 : Int64) - ((i1 &&& (15 : Int32)).toInt64)) <<< ((32 : Int32) &&& 63).toInt64)) ||| ((2147483647 : Int64) - (i2.toInt64))), sS, sL (((((i3 &&& (15 : Int32)).toInt64) <<< ((36 : Int32) &&& 63).toInt64) ||| (((15 : Int64) - ((i4 &&& (15 : Int32)).toInt64)) <<< ((32 : Int32) &&& 63).toInt64)) ||| ((2147483647 : Int64) - (i5.toInt64))), sS, sI 1, sI 0] [(vI 0)]) _
        refine wic X12 hx hby rfl at_146 ?_
        show St p e below T12 (mkF m 147 #[sI i0, sI i1, sI i2, sI i3, sI i4, sI i5, .val (.double (FP.ddiv (FP.i2d x6) (4611686018427387904 : UInt64))), sS, .val (.double (FP.i2d x20)), sS, .val (.double (FP.ddiv (FP.i2d x30) (4611686018427387904 : UInt64))), sS, .val (.double (FP.i2d x45)), sS, sR b1, sR b3, sL (((((i0 &&& (15 : Int32)).toInt64) <<< ((36 : Int32) &&& 63).toInt64) ||| (((15 : Int64) - ((i1 &&& (15 : Int32)).toInt64)) <<< ((32 : Int32) &&& 63).toInt64)) ||| ((2147483647 : Int64) - (i2.toInt64))), sS, sL (((((i3 &&& (15 : Int32)).toInt64) <<< ((36 : Int32) &&& 63).toInt64) ||| (((15 : Int64) - ((i4 &&& (15 : Int32)).toInt64)) <<< ((32 : Int32) &&& 63).toInt64)) ||| ((2147483647 : Int64) - (i5.toInt64))), sS, sI 1, sI 0] [(vI 0), (vI 0)]) _
        refine wcn X12 hx hby rfl at_147 rfl (teq (by decide : (0 : Int32) = (0 : Int32))).2 ?_
        refine wic X12 hx hby rfl at_150 ?_
        refine wgt X12 hx hby rfl (pc0 := 151) (pc' := 155) rfl at_151 (by decide) (by decide) ?_
        show St p e below T12 (mkF m 155 #[sI i0, sI i1, sI i2, sI i3, sI i4, sI i5, .val (.double (FP.ddiv (FP.i2d x6) (4611686018427387904 : UInt64))), sS, .val (.double (FP.i2d x20)), sS, .val (.double (FP.ddiv (FP.i2d x30) (4611686018427387904 : UInt64))), sS, .val (.double (FP.i2d x45)), sS, sR b1, sR b3, sL (((((i0 &&& (15 : Int32)).toInt64) <<< ((36 : Int32) &&& 63).toInt64) ||| (((15 : Int64) - ((i1 &&& (15 : Int32)).toInt64)) <<< ((32 : Int32) &&& 63).toInt64)) ||| ((2147483647 : Int64) - (i2.toInt64))), sS, sL (((((i3 &&& (15 : Int32)).toInt64) <<< ((36 : Int32) &&& 63).toInt64) ||| (((15 : Int64) - ((i4 &&& (15 : Int32)).toInt64)) <<< ((32 : Int32) &&& 63).toInt64)) ||| ((2147483647 : Int64) - (i5.toInt64))), sS, sI 1, sI 0] [(vI 1)]) _
        exact retN X12 hx (t := .boolean) hret (by simp) (hb hby at_155) hr
      · rcases Decidable.em (x45 < x20) with hp3 | hp3
        · have ne8 : b1 ≠ b3 := (Nat.ne_of_lt (Nat.lt_of_lt_of_le (Nat.lt_of_lt_of_le A1.lt Kq2.1) g3))
          have f9 : Fld Z T4.heap b1 z0 "priority" "D" (.double (FP.ddiv (FP.i2d x6) (4611686018427387904 : UInt64))) := ((q2_0.ext E3).keep Kq4 (ninS ne8 nin0))
          have f10 : Fld Z T4.heap b1 z0 "time" "D" (.double (FP.i2d x20)) := ((q2_1.ext E3).keep Kq4 (ninS ne8 nin0))
          have f11 : Exa Z T4.heap b1 z0 := (((A1.keep Kq2).ext E3).keep Kq4)
          obtain ⟨_, T7, L7, ⟨rfl, N7q, e7⟩, X7, st7⟩ := cV X6 hx hZ (W := 0) hown (cw3 cx) (rm7 cx b1 b3 (FP.ddiv (FP.i2d x6) (4611686018427387904 : UInt64)) (FP.ddiv (FP.i2d x30) (4611686018427387904 : UInt64)) (FP.i2d x20) (FP.i2d x45) O4 f9 q4_0 (own_cE (own_dcH (own_rg hd0 hd1 (l := -8) (h := 7) (by decide)) (own_rg hd2 hd3 (l := -8) (h := 7) (by decide))) hp0 hp1) f10 q4_1 (own_cG (own_dcI _ _) hp3)) e6 f11 (g := (mkF m 100 #[sI i0, sI i1, sI i2, sI i3, sI i4, sI i5, .val (.double (FP.ddiv (FP.i2d x6) (4611686018427387904 : UInt64))), sS, .val (.double (FP.i2d x20)), sS, .val (.double (FP.ddiv (FP.i2d x30) (4611686018427387904 : UInt64))), sS, .val (.double (FP.i2d x45)), sS, sR b1, sR b3, sL (((((i0 &&& (15 : Int32)).toInt64) <<< ((36 : Int32) &&& 63).toInt64) ||| (((15 : Int64) - ((i1 &&& (15 : Int32)).toInt64)) <<< ((32 : Int32) &&& 63).toInt64)) ||| ((2147483647 : Int64) - (i2.toInt64))), sS, sL (((((i3 &&& (15 : Int32)).toInt64) <<< ((36 : Int32) &&& 63).toInt64) ||| (((15 : Int64) - ((i4 &&& (15 : Int32)).toInt64)) <<< ((32 : Int32) &&& 63).toInt64)) ||| ((2147483647 : Int64) - (i5.toInt64))), sS, sU, sU] [(vR b3), (vR b1)])) rfl hml rfl (rest := []) rfl rfl rfl rfl (hb hby at_100) (by decide)
          have f13 : Exa Z T4.heap b3 z0 := (A3.keep Kq4)
          obtain ⟨_, T12, L12, ⟨rfl, N12q, e12⟩, X12, st12⟩ := cV X7 hx hZ (W := 0) hown (cw3 cx) (rm6 cx b3 b1 (FP.ddiv (FP.i2d x30) (4611686018427387904 : UInt64)) (FP.ddiv (FP.i2d x6) (4611686018427387904 : UInt64)) (FP.i2d x45) (FP.i2d x20) O4 q4_0 f9 (own_cE (own_dcH (own_rg hd2 hd3 (l := -8) (h := 7) (by decide)) (own_rg hd0 hd1 (l := -8) (h := 7) (by decide))) hp1 hp0) q4_1 f10 (own_cL (own_dcI _ _) hp3)) e7 f13 (g := (mkF m 109 #[sI i0, sI i1, sI i2, sI i3, sI i4, sI i5, .val (.double (FP.ddiv (FP.i2d x6) (4611686018427387904 : UInt64))), sS, .val (.double (FP.i2d x20)), sS, .val (.double (FP.ddiv (FP.i2d x30) (4611686018427387904 : UInt64))), sS, .val (.double (FP.i2d x45)), sS, sR b1, sR b3, sL (((((i0 &&& (15 : Int32)).toInt64) <<< ((36 : Int32) &&& 63).toInt64) ||| (((15 : Int64) - ((i1 &&& (15 : Int32)).toInt64)) <<< ((32 : Int32) &&& 63).toInt64)) ||| ((2147483647 : Int64) - (i2.toInt64))), sS, sL (((((i3 &&& (15 : Int32)).toInt64) <<< ((36 : Int32) &&& 63).toInt64) ||| (((15 : Int64) - ((i4 &&& (15 : Int32)).toInt64)) <<< ((32 : Int32) &&& 63).toInt64)) ||| ((2147483647 : Int64) - (i5.toInt64))), sS, sI 0, sU] [(vR b1), (vR b3)])) rfl hml rfl (rest := []) rfl rfl rfl rfl (hb hby at_109) (by decide)
          have hd4 : ¬ ((((((i3 &&& (15 : Int32)).toInt64) <<< ((36 : Int32) &&& 63).toInt64) ||| (((15 : Int64) - ((i4 &&& (15 : Int32)).toInt64)) <<< ((32 : Int32) &&& 63).toInt64)) ||| ((2147483647 : Int64) - (i5.toInt64))) < (((((i0 &&& (15 : Int32)).toInt64) <<< ((36 : Int32) &&& 63).toInt64) ||| (((15 : Int64) - ((i1 &&& (15 : Int32)).toInt64)) <<< ((32 : Int32) &&& 63).toInt64)) ||| ((2147483647 : Int64) - (i2.toInt64)))) := (by have r2 := own_rng i2; have r5 := own_rng i5; have kA := own_key i0 i1 i2; have kB := own_key i3 i4 i5; have g1 := own_p8 hx3 hx6; have g2 := own_p8 hx17 hx20; have g3 := own_p8 hx27 hx30; have g4 := own_p8 hx42 hx45; have f0 := own_ltF' hp0; have f1 := own_ltF' hp1; have f2 := own_ltT' hp3; exact own_kLF (by omega) : ¬ ((((((i3 &&& (15 : Int32)).toInt64) <<< ((36 : Int32) &&& 63).toInt64) ||| (((15 : Int64) - ((i4 &&& (15 : Int32)).toInt64)) <<< ((32 : Int32) &&& 63).toInt64)) ||| ((2147483647 : Int64) - (i5.toInt64))) < (((((i0 &&& (15 : Int32)).toInt64) <<< ((36 : Int32) &&& 63).toInt64) ||| (((15 : Int64) - ((i1 &&& (15 : Int32)).toInt64)) <<< ((32 : Int32) &&& 63).toInt64)) ||| ((2147483647 : Int64) - (i2.toInt64)))))
          have hd5 : (((((i0 &&& (15 : Int32)).toInt64) <<< ((36 : Int32) &&& 63).toInt64) ||| (((15 : Int64) - ((i1 &&& (15 : Int32)).toInt64)) <<< ((32 : Int32) &&& 63).toInt64)) ||| ((2147483647 : Int64) - (i2.toInt64))) < (((((i3 &&& (15 : Int32)).toInt64) <<< ((36 : Int32) &&& 63).toInt64) ||| (((15 : Int64) - ((i4 &&& (15 : Int32)).toInt64)) <<< ((32 : Int32) &&& 63).toInt64)) ||| ((2147483647 : Int64) - (i5.toInt64))) := (by have r2 := own_rng i2; have r5 := own_rng i5; have kA := own_key i0 i1 i2; have kB := own_key i3 i4 i5; have g1 := own_p8 hx3 hx6; have g2 := own_p8 hx17 hx20; have g3 := own_p8 hx27 hx30; have g4 := own_p8 hx42 hx45; have f0 := own_ltF' hp0; have f1 := own_ltF' hp1; have f2 := own_ltT' hp3; exact own_kLT (by omega) : (((((i0 &&& (15 : Int32)).toInt64) <<< ((36 : Int32) &&& 63).toInt64) ||| (((15 : Int64) - ((i1 &&& (15 : Int32)).toInt64)) <<< ((32 : Int32) &&& 63).toInt64)) ||| ((2147483647 : Int64) - (i2.toInt64))) < (((((i3 &&& (15 : Int32)).toInt64) <<< ((36 : Int32) &&& 63).toInt64) ||| (((15 : Int64) - ((i4 &&& (15 : Int32)).toInt64)) <<< ((32 : Int32) &&& 63).toInt64)) ||| ((2147483647 : Int64) - (i5.toInt64))))
          refine own_end X12 hlk (v := some (vI 1)) (own_hv hret) (by decide) ⟨rfl, (Fr.app (Fr.app (Fr.app (Fr.app N4 N5q) N6q) N7q) N12q)⟩ fun fs hr => pre1 _ ?_
          refine st7 _ ?_
          refine wiS X7 hx hby rfl at_103 rfl (l' := #[sI i0, sI i1, sI i2, sI i3, sI i4, sI i5, .val (.double (FP.ddiv (FP.i2d x6) (4611686018427387904 : UInt64))), sS, .val (.double (FP.i2d x20)), sS, .val (.double (FP.ddiv (FP.i2d x30) (4611686018427387904 : UInt64))), sS, .val (.double (FP.i2d x45)), sS, sR b1, sR b3, sL (((((i0 &&& (15 : Int32)).toInt64) <<< ((36 : Int32) &&& 63).toInt64) ||| (((15 : Int64) - ((i1 &&& (15 : Int32)).toInt64)) <<< ((32 : Int32) &&& 63).toInt64)) ||| ((2147483647 : Int64) - (i2.toInt64))), sS, sL (((((i3 &&& (15 : Int32)).toInt64) <<< ((36 : Int32) &&& 63).toInt64) ||| (((15 : Int64) - ((i4 &&& (15 : Int32)).toInt64)) <<< ((32 : Int32) &&& 63).toInt64)) ||| ((2147483647 : Int64) - (i5.toInt64))), sS, sI 0, sU]) rfl ?_
          refine waL X7 hx hby rfl at_105 rfl rfl ?_
          refine waL X7 hx hby rfl at_107 rfl rfl ?_
          refine st12 _ ?_
          refine wiS X12 hx hby rfl at_112 rfl (l' := #[sI i0, sI i1, sI i2, sI i3, sI i4, sI i5, .val (.double (FP.ddiv (FP.i2d x6) (4611686018427387904 : UInt64))), sS, .val (.double (FP.i2d x20)), sS, .val (.double (FP.ddiv (FP.i2d x30) (4611686018427387904 : UInt64))), sS, .val (.double (FP.i2d x45)), sS, sR b1, sR b3, sL (((((i0 &&& (15 : Int32)).toInt64) <<< ((36 : Int32) &&& 63).toInt64) ||| (((15 : Int64) - ((i1 &&& (15 : Int32)).toInt64)) <<< ((32 : Int32) &&& 63).toInt64)) ||| ((2147483647 : Int64) - (i2.toInt64))), sS, sL (((((i3 &&& (15 : Int32)).toInt64) <<< ((36 : Int32) &&& 63).toInt64) ||| (((15 : Int64) - ((i4 &&& (15 : Int32)).toInt64)) <<< ((32 : Int32) &&& 63).toInt64)) ||| ((2147483647 : Int64) - (i5.toInt64))), sS, sI 0, sI 1]) rfl ?_
          show St p e below T12 (mkF m 114 #[sI i0, sI i1, sI i2, sI i3, sI i4, sI i5, .val (.double (FP.ddiv (FP.i2d x6) (4611686018427387904 : UInt64))), sS, .val (.double (FP.i2d x20)), sS, .val (.double (FP.ddiv (FP.i2d x30) (4611686018427387904 : UInt64))), sS, .val (.double (FP.i2d x45)), sS, sR b1, sR b3, sL (((((i0 &&& (15 : Int32)).toInt64) <<< ((36 : Int32) &&& 63).toInt64) ||| (((15 : Int64) - ((i1 &&& (15 : Int32)).toInt64)) <<< ((32 : Int32) &&& 63).toInt64)) ||| ((2147483647 : Int64) - (i2.toInt64))), sS, sL (((((i3 &&& (15 : Int32)).toInt64) <<< ((36 : Int32) &&& 63).toInt64) ||| (((15 : Int64) - ((i4 &&& (15 : Int32)).toInt64)) <<< ((32 : Int32) &&& 63).toInt64)) ||| ((2147483647 : Int64) - (i5.toInt64))), sS, sI 0, sI 1] []) _
          refine wiL X12 hx hby rfl at_114 rfl ?_
          refine XS.lload X12.here hx rfl (hb hby at_116) rfl ?_
          refine XS.lload X12.here hx rfl (hb hby at_118) rfl ?_
          refine XS.lcmp X12.here hx rfl (hb hby at_120) rfl ?_
          refine wfy X12 hx hby rfl (pc0 := 121) (pc' := 128) rfl at_121 rfl ((if0 _ _).trans (flt (fun q => hd4 ((lw_gt (((((i0 &&& (15 : Int32)).toInt64) <<< ((36 : Int32) &&& 63).toInt64) ||| (((15 : Int64) - ((i1 &&& (15 : Int32)).toInt64)) <<< ((32 : Int32) &&& 63).toInt64)) ||| ((2147483647 : Int64) - (i2.toInt64))) (((((i3 &&& (15 : Int32)).toInt64) <<< ((36 : Int32) &&& 63).toInt64) ||| (((15 : Int64) - ((i4 &&& (15 : Int32)).toInt64)) <<< ((32 : Int32) &&& 63).toInt64)) ||| ((2147483647 : Int64) - (i5.toInt64)))).mp q))).2.2.2) (by decide) (by decide) ?_
          show St p e below T12 (mkF m 128 #[sI i0, sI i1, sI i2, sI i3, sI i4, sI i5, .val (.double (FP.ddiv (FP.i2d x6) (4611686018427387904 : UInt64))), sS, .val (.double (FP.i2d x20)), sS, .val (.double (FP.ddiv (FP.i2d x30) (4611686018427387904 : UInt64))), sS, .val (.double (FP.i2d x45)), sS, sR b1, sR b3, sL (((((i0 &&& (15 : Int32)).toInt64) <<< ((36 : Int32) &&& 63).toInt64) ||| (((15 : Int64) - ((i1 &&& (15 : Int32)).toInt64)) <<< ((32 : Int32) &&& 63).toInt64)) ||| ((2147483647 : Int64) - (i2.toInt64))), sS, sL (((((i3 &&& (15 : Int32)).toInt64) <<< ((36 : Int32) &&& 63).toInt64) ||| (((15 : Int64) - ((i4 &&& (15 : Int32)).toInt64)) <<< ((32 : Int32) &&& 63).toInt64)) ||| ((2147483647 : Int64) - (i5.toInt64))), sS, sI 0, sI 1] [(vI 0)]) _
          refine wic X12 hx hby rfl at_128 ?_
          show St p e below T12 (mkF m 129 #[sI i0, sI i1, sI i2, sI i3, sI i4, sI i5, .val (.double (FP.ddiv (FP.i2d x6) (4611686018427387904 : UInt64))), sS, .val (.double (FP.i2d x20)), sS, .val (.double (FP.ddiv (FP.i2d x30) (4611686018427387904 : UInt64))), sS, .val (.double (FP.i2d x45)), sS, sR b1, sR b3, sL (((((i0 &&& (15 : Int32)).toInt64) <<< ((36 : Int32) &&& 63).toInt64) ||| (((15 : Int64) - ((i1 &&& (15 : Int32)).toInt64)) <<< ((32 : Int32) &&& 63).toInt64)) ||| ((2147483647 : Int64) - (i2.toInt64))), sS, sL (((((i3 &&& (15 : Int32)).toInt64) <<< ((36 : Int32) &&& 63).toInt64) ||| (((15 : Int64) - ((i4 &&& (15 : Int32)).toInt64)) <<< ((32 : Int32) &&& 63).toInt64)) ||| ((2147483647 : Int64) - (i5.toInt64))), sS, sI 0, sI 1] [(vI 0), (vI 0)]) _
          refine wcn X12 hx hby rfl at_129 rfl (teq (by decide : (0 : Int32) = (0 : Int32))).2 ?_
          refine wiL X12 hx hby rfl at_132 rfl ?_
          refine XS.lload X12.here hx rfl (hb hby at_134) rfl ?_
          refine XS.lload X12.here hx rfl (hb hby at_136) rfl ?_
          refine XS.lcmp X12.here hx rfl (hb hby at_138) rfl ?_
          refine wfn X12 hx hby rfl at_139 rfl ((if0 _ _).trans (tlt ((lw_gt (((((i3 &&& (15 : Int32)).toInt64) <<< ((36 : Int32) &&& 63).toInt64) ||| (((15 : Int64) - ((i4 &&& (15 : Int32)).toInt64)) <<< ((32 : Int32) &&& 63).toInt64)) ||| ((2147483647 : Int64) - (i5.toInt64))) (((((i0 &&& (15 : Int32)).toInt64) <<< ((36 : Int32) &&& 63).toInt64) ||| (((15 : Int64) - ((i1 &&& (15 : Int32)).toInt64)) <<< ((32 : Int32) &&& 63).toInt64)) ||| ((2147483647 : Int64) - (i2.toInt64)))).mpr hd5)).2.2.2) ?_
          refine wic X12 hx hby rfl at_142 ?_
          refine wgt X12 hx hby rfl (pc0 := 143) (pc' := 147) rfl at_143 (by decide) (by decide) ?_
          show St p e below T12 (mkF m 147 #[sI i0, sI i1, sI i2, sI i3, sI i4, sI i5, .val (.double (FP.ddiv (FP.i2d x6) (4611686018427387904 : UInt64))), sS, .val (.double (FP.i2d x20)), sS, .val (.double (FP.ddiv (FP.i2d x30) (4611686018427387904 : UInt64))), sS, .val (.double (FP.i2d x45)), sS, sR b1, sR b3, sL (((((i0 &&& (15 : Int32)).toInt64) <<< ((36 : Int32) &&& 63).toInt64) ||| (((15 : Int64) - ((i1 &&& (15 : Int32)).toInt64)) <<< ((32 : Int32) &&& 63).toInt64)) ||| ((2147483647 : Int64) - (i2.toInt64))), sS, sL (((((i3 &&& (15 : Int32)).toInt64) <<< ((36 : Int32) &&& 63).toInt64) ||| (((15 : Int64) - ((i4 &&& (15 : Int32)).toInt64)) <<< ((32 : Int32) &&& 63).toInt64)) ||| ((2147483647 : Int64) - (i5.toInt64))), sS, sI 0, sI 1] [(vI 1), (vI 1)]) _
          refine wcn X12 hx hby rfl at_147 rfl (teq (by decide : (1 : Int32) = (1 : Int32))).2 ?_
          refine wic X12 hx hby rfl at_150 ?_
          refine wgt X12 hx hby rfl (pc0 := 151) (pc' := 155) rfl at_151 (by decide) (by decide) ?_
          show St p e below T12 (mkF m 155 #[sI i0, sI i1, sI i2, sI i3, sI i4, sI i5, .val (.double (FP.ddiv (FP.i2d x6) (4611686018427387904 : UInt64))), sS, .val (.double (FP.i2d x20)), sS, .val (.double (FP.ddiv (FP.i2d x30) (4611686018427387904 : UInt64))), sS, .val (.double (FP.i2d x45)), sS, sR b1, sR b3, sL (((((i0 &&& (15 : Int32)).toInt64) <<< ((36 : Int32) &&& 63).toInt64) ||| (((15 : Int64) - ((i1 &&& (15 : Int32)).toInt64)) <<< ((32 : Int32) &&& 63).toInt64)) ||| ((2147483647 : Int64) - (i2.toInt64))), sS, sL (((((i3 &&& (15 : Int32)).toInt64) <<< ((36 : Int32) &&& 63).toInt64) ||| (((15 : Int64) - ((i4 &&& (15 : Int32)).toInt64)) <<< ((32 : Int32) &&& 63).toInt64)) ||| ((2147483647 : Int64) - (i5.toInt64))), sS, sI 0, sI 1] [(vI 1)]) _
          exact retN X12 hx (t := .boolean) hret (by simp) (hb hby at_155) hr
        · rcases Decidable.em (i2 < i5) with hp4 | hp4
          · have ne8 : b1 ≠ b3 := (Nat.ne_of_lt (Nat.lt_of_lt_of_le (Nat.lt_of_lt_of_le A1.lt Kq2.1) g3))
            have f9 : Fld Z T4.heap b1 z0 "priority" "D" (.double (FP.ddiv (FP.i2d x6) (4611686018427387904 : UInt64))) := ((q2_0.ext E3).keep Kq4 (ninS ne8 nin0))
            have f10 : Fld Z T4.heap b1 z0 "time" "D" (.double (FP.i2d x20)) := ((q2_1.ext E3).keep Kq4 (ninS ne8 nin0))
            have f11 : Fld Z T4.heap b1 z0 "node" "I" (vI i2) := ((q2_2.ext E3).keep Kq4 (ninS ne8 nin0))
            have f12 : Exa Z T4.heap b1 z0 := (((A1.keep Kq2).ext E3).keep Kq4)
            obtain ⟨_, T7, L7, ⟨rfl, N7q, e7⟩, X7, st7⟩ := cV X6 hx hZ (W := 0) hown (cw3 cx) (rm8 cx b1 b3 (FP.ddiv (FP.i2d x6) (4611686018427387904 : UInt64)) (FP.ddiv (FP.i2d x30) (4611686018427387904 : UInt64)) (FP.i2d x20) (FP.i2d x45) i2 i5 O4 f9 q4_0 (own_cE (own_dcH (own_rg hd0 hd1 (l := -8) (h := 7) (by decide)) (own_rg hd2 hd3 (l := -8) (h := 7) (by decide))) hp0 hp1) f10 q4_1 (own_cE (own_dcI _ _) hp2 hp3) f11 q4_2 hp4) e6 f12 (g := (mkF m 100 #[sI i0, sI i1, sI i2, sI i3, sI i4, sI i5, .val (.double (FP.ddiv (FP.i2d x6) (4611686018427387904 : UInt64))), sS, .val (.double (FP.i2d x20)), sS, .val (.double (FP.ddiv (FP.i2d x30) (4611686018427387904 : UInt64))), sS, .val (.double (FP.i2d x45)), sS, sR b1, sR b3, sL (((((i0 &&& (15 : Int32)).toInt64) <<< ((36 : Int32) &&& 63).toInt64) ||| (((15 : Int64) - ((i1 &&& (15 : Int32)).toInt64)) <<< ((32 : Int32) &&& 63).toInt64)) ||| ((2147483647 : Int64) - (i2.toInt64))), sS, sL (((((i3 &&& (15 : Int32)).toInt64) <<< ((36 : Int32) &&& 63).toInt64) ||| (((15 : Int64) - ((i4 &&& (15 : Int32)).toInt64)) <<< ((32 : Int32) &&& 63).toInt64)) ||| ((2147483647 : Int64) - (i5.toInt64))), sS, sU, sU] [(vR b3), (vR b1)])) rfl hml rfl (rest := []) rfl rfl rfl rfl (hb hby at_100) (by decide)
            have f14 : Exa Z T4.heap b3 z0 := (A3.keep Kq4)
            obtain ⟨_, T13, L13, ⟨rfl, N13q, e13⟩, X13, st13⟩ := cV X7 hx hZ (W := 0) hown (cw3 cx) (rm9 cx b3 b1 (FP.ddiv (FP.i2d x30) (4611686018427387904 : UInt64)) (FP.ddiv (FP.i2d x6) (4611686018427387904 : UInt64)) (FP.i2d x45) (FP.i2d x20) i5 i2 O4 q4_0 f9 (own_cE (own_dcH (own_rg hd2 hd3 (l := -8) (h := 7) (by decide)) (own_rg hd0 hd1 (l := -8) (h := 7) (by decide))) hp1 hp0) q4_1 f10 (own_cE (own_dcI _ _) hp3 hp2) q4_2 f11 (own_asym hp4)) e7 f14 (g := (mkF m 109 #[sI i0, sI i1, sI i2, sI i3, sI i4, sI i5, .val (.double (FP.ddiv (FP.i2d x6) (4611686018427387904 : UInt64))), sS, .val (.double (FP.i2d x20)), sS, .val (.double (FP.ddiv (FP.i2d x30) (4611686018427387904 : UInt64))), sS, .val (.double (FP.i2d x45)), sS, sR b1, sR b3, sL (((((i0 &&& (15 : Int32)).toInt64) <<< ((36 : Int32) &&& 63).toInt64) ||| (((15 : Int64) - ((i1 &&& (15 : Int32)).toInt64)) <<< ((32 : Int32) &&& 63).toInt64)) ||| ((2147483647 : Int64) - (i2.toInt64))), sS, sL (((((i3 &&& (15 : Int32)).toInt64) <<< ((36 : Int32) &&& 63).toInt64) ||| (((15 : Int64) - ((i4 &&& (15 : Int32)).toInt64)) <<< ((32 : Int32) &&& 63).toInt64)) ||| ((2147483647 : Int64) - (i5.toInt64))), sS, sI 1, sU] [(vR b1), (vR b3)])) rfl hml rfl (rest := []) rfl rfl rfl rfl (hb hby at_109) (by decide)
            have hd6 : (((((i3 &&& (15 : Int32)).toInt64) <<< ((36 : Int32) &&& 63).toInt64) ||| (((15 : Int64) - ((i4 &&& (15 : Int32)).toInt64)) <<< ((32 : Int32) &&& 63).toInt64)) ||| ((2147483647 : Int64) - (i5.toInt64))) < (((((i0 &&& (15 : Int32)).toInt64) <<< ((36 : Int32) &&& 63).toInt64) ||| (((15 : Int64) - ((i1 &&& (15 : Int32)).toInt64)) <<< ((32 : Int32) &&& 63).toInt64)) ||| ((2147483647 : Int64) - (i2.toInt64))) := (by have r2 := own_rng i2; have r5 := own_rng i5; have kA := own_key i0 i1 i2; have kB := own_key i3 i4 i5; have g1 := own_p8 hx3 hx6; have g2 := own_p8 hx17 hx20; have g3 := own_p8 hx27 hx30; have g4 := own_p8 hx42 hx45; have f0 := own_ltF' hp0; have f1 := own_ltF' hp1; have f2 := own_ltF' hp2; have f3 := own_ltF' hp3; have f4 := own_ltT' hp4; exact own_kLT (by omega) : (((((i3 &&& (15 : Int32)).toInt64) <<< ((36 : Int32) &&& 63).toInt64) ||| (((15 : Int64) - ((i4 &&& (15 : Int32)).toInt64)) <<< ((32 : Int32) &&& 63).toInt64)) ||| ((2147483647 : Int64) - (i5.toInt64))) < (((((i0 &&& (15 : Int32)).toInt64) <<< ((36 : Int32) &&& 63).toInt64) ||| (((15 : Int64) - ((i1 &&& (15 : Int32)).toInt64)) <<< ((32 : Int32) &&& 63).toInt64)) ||| ((2147483647 : Int64) - (i2.toInt64))))
            have hd7 : ¬ ((((((i0 &&& (15 : Int32)).toInt64) <<< ((36 : Int32) &&& 63).toInt64) ||| (((15 : Int64) - ((i1 &&& (15 : Int32)).toInt64)) <<< ((32 : Int32) &&& 63).toInt64)) ||| ((2147483647 : Int64) - (i2.toInt64))) < (((((i3 &&& (15 : Int32)).toInt64) <<< ((36 : Int32) &&& 63).toInt64) ||| (((15 : Int64) - ((i4 &&& (15 : Int32)).toInt64)) <<< ((32 : Int32) &&& 63).toInt64)) ||| ((2147483647 : Int64) - (i5.toInt64)))) := (by have r2 := own_rng i2; have r5 := own_rng i5; have kA := own_key i0 i1 i2; have kB := own_key i3 i4 i5; have g1 := own_p8 hx3 hx6; have g2 := own_p8 hx17 hx20; have g3 := own_p8 hx27 hx30; have g4 := own_p8 hx42 hx45; have f0 := own_ltF' hp0; have f1 := own_ltF' hp1; have f2 := own_ltF' hp2; have f3 := own_ltF' hp3; have f4 := own_ltT' hp4; exact own_kLF (by omega) : ¬ ((((((i0 &&& (15 : Int32)).toInt64) <<< ((36 : Int32) &&& 63).toInt64) ||| (((15 : Int64) - ((i1 &&& (15 : Int32)).toInt64)) <<< ((32 : Int32) &&& 63).toInt64)) ||| ((2147483647 : Int64) - (i2.toInt64))) < (((((i3 &&& (15 : Int32)).toInt64) <<< ((36 : Int32) &&& 63).toInt64) ||| (((15 : Int64) - ((i4 &&& (15 : Int32)).toInt64)) <<< ((32 : Int32) &&& 63).toInt64)) ||| ((2147483647 : Int64) - (i5.toInt64)))))
            refine own_end X13 hlk (v := some (vI 1)) (own_hv hret) (by decide) ⟨rfl, (Fr.app (Fr.app (Fr.app (Fr.app N4 N5q) N6q) N7q) N13q)⟩ fun fs hr => pre1 _ ?_
            refine st7 _ ?_
            refine wiS X7 hx hby rfl at_103 rfl (l' := #[sI i0, sI i1, sI i2, sI i3, sI i4, sI i5, .val (.double (FP.ddiv (FP.i2d x6) (4611686018427387904 : UInt64))), sS, .val (.double (FP.i2d x20)), sS, .val (.double (FP.ddiv (FP.i2d x30) (4611686018427387904 : UInt64))), sS, .val (.double (FP.i2d x45)), sS, sR b1, sR b3, sL (((((i0 &&& (15 : Int32)).toInt64) <<< ((36 : Int32) &&& 63).toInt64) ||| (((15 : Int64) - ((i1 &&& (15 : Int32)).toInt64)) <<< ((32 : Int32) &&& 63).toInt64)) ||| ((2147483647 : Int64) - (i2.toInt64))), sS, sL (((((i3 &&& (15 : Int32)).toInt64) <<< ((36 : Int32) &&& 63).toInt64) ||| (((15 : Int64) - ((i4 &&& (15 : Int32)).toInt64)) <<< ((32 : Int32) &&& 63).toInt64)) ||| ((2147483647 : Int64) - (i5.toInt64))), sS, sI 1, sU]) rfl ?_
            refine waL X7 hx hby rfl at_105 rfl rfl ?_
            refine waL X7 hx hby rfl at_107 rfl rfl ?_
            refine st13 _ ?_
            refine wiS X13 hx hby rfl at_112 rfl (l' := #[sI i0, sI i1, sI i2, sI i3, sI i4, sI i5, .val (.double (FP.ddiv (FP.i2d x6) (4611686018427387904 : UInt64))), sS, .val (.double (FP.i2d x20)), sS, .val (.double (FP.ddiv (FP.i2d x30) (4611686018427387904 : UInt64))), sS, .val (.double (FP.i2d x45)), sS, sR b1, sR b3, sL (((((i0 &&& (15 : Int32)).toInt64) <<< ((36 : Int32) &&& 63).toInt64) ||| (((15 : Int64) - ((i1 &&& (15 : Int32)).toInt64)) <<< ((32 : Int32) &&& 63).toInt64)) ||| ((2147483647 : Int64) - (i2.toInt64))), sS, sL (((((i3 &&& (15 : Int32)).toInt64) <<< ((36 : Int32) &&& 63).toInt64) ||| (((15 : Int64) - ((i4 &&& (15 : Int32)).toInt64)) <<< ((32 : Int32) &&& 63).toInt64)) ||| ((2147483647 : Int64) - (i5.toInt64))), sS, sI 1, sI 0]) rfl ?_
            show St p e below T13 (mkF m 114 #[sI i0, sI i1, sI i2, sI i3, sI i4, sI i5, .val (.double (FP.ddiv (FP.i2d x6) (4611686018427387904 : UInt64))), sS, .val (.double (FP.i2d x20)), sS, .val (.double (FP.ddiv (FP.i2d x30) (4611686018427387904 : UInt64))), sS, .val (.double (FP.i2d x45)), sS, sR b1, sR b3, sL (((((i0 &&& (15 : Int32)).toInt64) <<< ((36 : Int32) &&& 63).toInt64) ||| (((15 : Int64) - ((i1 &&& (15 : Int32)).toInt64)) <<< ((32 : Int32) &&& 63).toInt64)) ||| ((2147483647 : Int64) - (i2.toInt64))), sS, sL (((((i3 &&& (15 : Int32)).toInt64) <<< ((36 : Int32) &&& 63).toInt64) ||| (((15 : Int64) - ((i4 &&& (15 : Int32)).toInt64)) <<< ((32 : Int32) &&& 63).toInt64)) ||| ((2147483647 : Int64) - (i5.toInt64))), sS, sI 1, sI 0] []) _
            refine wiL X13 hx hby rfl at_114 rfl ?_
            refine XS.lload X13.here hx rfl (hb hby at_116) rfl ?_
            refine XS.lload X13.here hx rfl (hb hby at_118) rfl ?_
            refine XS.lcmp X13.here hx rfl (hb hby at_120) rfl ?_
            refine wfn X13 hx hby rfl at_121 rfl ((if0 _ _).trans (tlt ((lw_gt (((((i0 &&& (15 : Int32)).toInt64) <<< ((36 : Int32) &&& 63).toInt64) ||| (((15 : Int64) - ((i1 &&& (15 : Int32)).toInt64)) <<< ((32 : Int32) &&& 63).toInt64)) ||| ((2147483647 : Int64) - (i2.toInt64))) (((((i3 &&& (15 : Int32)).toInt64) <<< ((36 : Int32) &&& 63).toInt64) ||| (((15 : Int64) - ((i4 &&& (15 : Int32)).toInt64)) <<< ((32 : Int32) &&& 63).toInt64)) ||| ((2147483647 : Int64) - (i5.toInt64)))).mpr hd6)).2.2.2) ?_
            refine wic X13 hx hby rfl at_124 ?_
            refine wgt X13 hx hby rfl (pc0 := 125) (pc' := 129) rfl at_125 (by decide) (by decide) ?_
            show St p e below T13 (mkF m 129 #[sI i0, sI i1, sI i2, sI i3, sI i4, sI i5, .val (.double (FP.ddiv (FP.i2d x6) (4611686018427387904 : UInt64))), sS, .val (.double (FP.i2d x20)), sS, .val (.double (FP.ddiv (FP.i2d x30) (4611686018427387904 : UInt64))), sS, .val (.double (FP.i2d x45)), sS, sR b1, sR b3, sL (((((i0 &&& (15 : Int32)).toInt64) <<< ((36 : Int32) &&& 63).toInt64) ||| (((15 : Int64) - ((i1 &&& (15 : Int32)).toInt64)) <<< ((32 : Int32) &&& 63).toInt64)) ||| ((2147483647 : Int64) - (i2.toInt64))), sS, sL (((((i3 &&& (15 : Int32)).toInt64) <<< ((36 : Int32) &&& 63).toInt64) ||| (((15 : Int64) - ((i4 &&& (15 : Int32)).toInt64)) <<< ((32 : Int32) &&& 63).toInt64)) ||| ((2147483647 : Int64) - (i5.toInt64))), sS, sI 1, sI 0] [(vI 1), (vI 1)]) _
            refine wcn X13 hx hby rfl at_129 rfl (teq (by decide : (1 : Int32) = (1 : Int32))).2 ?_
            refine wiL X13 hx hby rfl at_132 rfl ?_
            refine XS.lload X13.here hx rfl (hb hby at_134) rfl ?_
            refine XS.lload X13.here hx rfl (hb hby at_136) rfl ?_
            refine XS.lcmp X13.here hx rfl (hb hby at_138) rfl ?_
            refine wfy X13 hx hby rfl (pc0 := 139) (pc' := 146) rfl at_139 rfl ((if0 _ _).trans (flt (fun q => hd7 ((lw_gt (((((i3 &&& (15 : Int32)).toInt64) <<< ((36 : Int32) &&& 63).toInt64) ||| (((15 : Int64) - ((i4 &&& (15 : Int32)).toInt64)) <<< ((32 : Int32) &&& 63).toInt64)) ||| ((2147483647 : Int64) - (i5.toInt64))) (((((i0 &&& (15 : Int32)).toInt64) <<< ((36 : Int32) &&& 63).toInt64) ||| (((15 : Int64) - ((i1 &&& (15 : Int32)).toInt64)) <<< ((32 : Int32) &&& 63).toInt64)) ||| ((2147483647 : Int64) - (i2.toInt64)))).mp q))).2.2.2) (by decide) (by decide) ?_
            show St p e below T13 (mkF m 146 #[sI i0, sI i1, sI i2, sI i3, sI i4, sI i5, .val (.double (FP.ddiv (FP.i2d x6) (4611686018427387904 : UInt64))), sS, .val (.double (FP.i2d x20)), sS, .val (.double (FP.ddiv (FP.i2d x30) (4611686018427387904 : UInt64))), sS, .val (.double (FP.i2d x45)), sS, sR b1, sR b3, sL (((((i0 &&& (15 : Int32)).toInt64) <<< ((36 : Int32) &&& 63).toInt64) ||| (((15 : Int64) - ((i1 &&& (15 : Int32)).toInt64)) <<< ((32 : Int32) &&& 63).toInt64)) ||| ((2147483647 : Int64) - (i2.toInt64))), sS, sL (((((i3 &&& (15 : Int32)).toInt64) <<< ((36 : Int32) &&& 63).toInt64) ||| (((15 : Int64) - ((i4 &&& (15 : Int32)).toInt64)) <<< ((32 : Int32) &&& 63).toInt64)) ||| ((2147483647 : Int64) - (i5.toInt64))), sS, sI 1, sI 0] [(vI 0)]) _
            refine wic X13 hx hby rfl at_146 ?_
            show St p e below T13 (mkF m 147 #[sI i0, sI i1, sI i2, sI i3, sI i4, sI i5, .val (.double (FP.ddiv (FP.i2d x6) (4611686018427387904 : UInt64))), sS, .val (.double (FP.i2d x20)), sS, .val (.double (FP.ddiv (FP.i2d x30) (4611686018427387904 : UInt64))), sS, .val (.double (FP.i2d x45)), sS, sR b1, sR b3, sL (((((i0 &&& (15 : Int32)).toInt64) <<< ((36 : Int32) &&& 63).toInt64) ||| (((15 : Int64) - ((i1 &&& (15 : Int32)).toInt64)) <<< ((32 : Int32) &&& 63).toInt64)) ||| ((2147483647 : Int64) - (i2.toInt64))), sS, sL (((((i3 &&& (15 : Int32)).toInt64) <<< ((36 : Int32) &&& 63).toInt64) ||| (((15 : Int64) - ((i4 &&& (15 : Int32)).toInt64)) <<< ((32 : Int32) &&& 63).toInt64)) ||| ((2147483647 : Int64) - (i5.toInt64))), sS, sI 1, sI 0] [(vI 0), (vI 0)]) _
            refine wcn X13 hx hby rfl at_147 rfl (teq (by decide : (0 : Int32) = (0 : Int32))).2 ?_
            refine wic X13 hx hby rfl at_150 ?_
            refine wgt X13 hx hby rfl (pc0 := 151) (pc' := 155) rfl at_151 (by decide) (by decide) ?_
            show St p e below T13 (mkF m 155 #[sI i0, sI i1, sI i2, sI i3, sI i4, sI i5, .val (.double (FP.ddiv (FP.i2d x6) (4611686018427387904 : UInt64))), sS, .val (.double (FP.i2d x20)), sS, .val (.double (FP.ddiv (FP.i2d x30) (4611686018427387904 : UInt64))), sS, .val (.double (FP.i2d x45)), sS, sR b1, sR b3, sL (((((i0 &&& (15 : Int32)).toInt64) <<< ((36 : Int32) &&& 63).toInt64) ||| (((15 : Int64) - ((i1 &&& (15 : Int32)).toInt64)) <<< ((32 : Int32) &&& 63).toInt64)) ||| ((2147483647 : Int64) - (i2.toInt64))), sS, sL (((((i3 &&& (15 : Int32)).toInt64) <<< ((36 : Int32) &&& 63).toInt64) ||| (((15 : Int64) - ((i4 &&& (15 : Int32)).toInt64)) <<< ((32 : Int32) &&& 63).toInt64)) ||| ((2147483647 : Int64) - (i5.toInt64))), sS, sI 1, sI 0] [(vI 1)]) _
            exact retN X13 hx (t := .boolean) hret (by simp) (hb hby at_155) hr
          · have ne8 : b1 ≠ b3 := (Nat.ne_of_lt (Nat.lt_of_lt_of_le (Nat.lt_of_lt_of_le A1.lt Kq2.1) g3))
            have f9 : Fld Z T4.heap b1 z0 "priority" "D" (.double (FP.ddiv (FP.i2d x6) (4611686018427387904 : UInt64))) := ((q2_0.ext E3).keep Kq4 (ninS ne8 nin0))
            have f10 : Fld Z T4.heap b1 z0 "time" "D" (.double (FP.i2d x20)) := ((q2_1.ext E3).keep Kq4 (ninS ne8 nin0))
            have f11 : Fld Z T4.heap b1 z0 "node" "I" (vI i2) := ((q2_2.ext E3).keep Kq4 (ninS ne8 nin0))
            have f12 : Exa Z T4.heap b1 z0 := (((A1.keep Kq2).ext E3).keep Kq4)
            obtain ⟨_, T7, L7, ⟨rfl, N7q, e7⟩, X7, st7⟩ := cV X6 hx hZ (W := 0) hown (cw3 cx) (rm9 cx b1 b3 (FP.ddiv (FP.i2d x6) (4611686018427387904 : UInt64)) (FP.ddiv (FP.i2d x30) (4611686018427387904 : UInt64)) (FP.i2d x20) (FP.i2d x45) i2 i5 O4 f9 q4_0 (own_cE (own_dcH (own_rg hd0 hd1 (l := -8) (h := 7) (by decide)) (own_rg hd2 hd3 (l := -8) (h := 7) (by decide))) hp0 hp1) f10 q4_1 (own_cE (own_dcI _ _) hp2 hp3) f11 q4_2 hp4) e6 f12 (g := (mkF m 100 #[sI i0, sI i1, sI i2, sI i3, sI i4, sI i5, .val (.double (FP.ddiv (FP.i2d x6) (4611686018427387904 : UInt64))), sS, .val (.double (FP.i2d x20)), sS, .val (.double (FP.ddiv (FP.i2d x30) (4611686018427387904 : UInt64))), sS, .val (.double (FP.i2d x45)), sS, sR b1, sR b3, sL (((((i0 &&& (15 : Int32)).toInt64) <<< ((36 : Int32) &&& 63).toInt64) ||| (((15 : Int64) - ((i1 &&& (15 : Int32)).toInt64)) <<< ((32 : Int32) &&& 63).toInt64)) ||| ((2147483647 : Int64) - (i2.toInt64))), sS, sL (((((i3 &&& (15 : Int32)).toInt64) <<< ((36 : Int32) &&& 63).toInt64) ||| (((15 : Int64) - ((i4 &&& (15 : Int32)).toInt64)) <<< ((32 : Int32) &&& 63).toInt64)) ||| ((2147483647 : Int64) - (i5.toInt64))), sS, sU, sU] [(vR b3), (vR b1)])) rfl hml rfl (rest := []) rfl rfl rfl rfl (hb hby at_100) (by decide)
            have pre2 : ∀ t, St p e below T7 (mkF m 109 #[sI i0, sI i1, sI i2, sI i3, sI i4, sI i5, .val (.double (FP.ddiv (FP.i2d x6) (4611686018427387904 : UInt64))), sS, .val (.double (FP.i2d x20)), sS, .val (.double (FP.ddiv (FP.i2d x30) (4611686018427387904 : UInt64))), sS, .val (.double (FP.i2d x45)), sS, sR b1, sR b3, sL (((((i0 &&& (15 : Int32)).toInt64) <<< ((36 : Int32) &&& 63).toInt64) ||| (((15 : Int64) - ((i1 &&& (15 : Int32)).toInt64)) <<< ((32 : Int32) &&& 63).toInt64)) ||| ((2147483647 : Int64) - (i2.toInt64))), sS, sL (((((i3 &&& (15 : Int32)).toInt64) <<< ((36 : Int32) &&& 63).toInt64) ||| (((15 : Int64) - ((i4 &&& (15 : Int32)).toInt64)) <<< ((32 : Int32) &&& 63).toInt64)) ||| ((2147483647 : Int64) - (i5.toInt64))), sS, sI 0, sU] [(vR b1), (vR b3)]) t → St p e below s₁ g0 t := fun t kt => pre1 _ (by
                refine st7 _ ?_
                refine wiS X7 hx hby rfl at_103 rfl (l' := #[sI i0, sI i1, sI i2, sI i3, sI i4, sI i5, .val (.double (FP.ddiv (FP.i2d x6) (4611686018427387904 : UInt64))), sS, .val (.double (FP.i2d x20)), sS, .val (.double (FP.ddiv (FP.i2d x30) (4611686018427387904 : UInt64))), sS, .val (.double (FP.i2d x45)), sS, sR b1, sR b3, sL (((((i0 &&& (15 : Int32)).toInt64) <<< ((36 : Int32) &&& 63).toInt64) ||| (((15 : Int64) - ((i1 &&& (15 : Int32)).toInt64)) <<< ((32 : Int32) &&& 63).toInt64)) ||| ((2147483647 : Int64) - (i2.toInt64))), sS, sL (((((i3 &&& (15 : Int32)).toInt64) <<< ((36 : Int32) &&& 63).toInt64) ||| (((15 : Int64) - ((i4 &&& (15 : Int32)).toInt64)) <<< ((32 : Int32) &&& 63).toInt64)) ||| ((2147483647 : Int64) - (i5.toInt64))), sS, sI 0, sU]) rfl ?_
                refine waL X7 hx hby rfl at_105 rfl rfl ?_
                refine waL X7 hx hby rfl at_107 rfl rfl ?_
                exact kt)
            rcases Decidable.em (i5 < i2) with hp5 | hp5
            · have f14 : Exa Z T4.heap b3 z0 := (A3.keep Kq4)
              obtain ⟨_, T13, L13, ⟨rfl, N13q, e13⟩, X13, st13⟩ := cV X7 hx hZ (W := 0) hown (cw3 cx) (rm8 cx b3 b1 (FP.ddiv (FP.i2d x30) (4611686018427387904 : UInt64)) (FP.ddiv (FP.i2d x6) (4611686018427387904 : UInt64)) (FP.i2d x45) (FP.i2d x20) i5 i2 O4 q4_0 f9 (own_cE (own_dcH (own_rg hd2 hd3 (l := -8) (h := 7) (by decide)) (own_rg hd0 hd1 (l := -8) (h := 7) (by decide))) hp1 hp0) q4_1 f10 (own_cE (own_dcI _ _) hp3 hp2) q4_2 f11 hp5) e7 f14 (g := (mkF m 109 #[sI i0, sI i1, sI i2, sI i3, sI i4, sI i5, .val (.double (FP.ddiv (FP.i2d x6) (4611686018427387904 : UInt64))), sS, .val (.double (FP.i2d x20)), sS, .val (.double (FP.ddiv (FP.i2d x30) (4611686018427387904 : UInt64))), sS, .val (.double (FP.i2d x45)), sS, sR b1, sR b3, sL (((((i0 &&& (15 : Int32)).toInt64) <<< ((36 : Int32) &&& 63).toInt64) ||| (((15 : Int64) - ((i1 &&& (15 : Int32)).toInt64)) <<< ((32 : Int32) &&& 63).toInt64)) ||| ((2147483647 : Int64) - (i2.toInt64))), sS, sL (((((i3 &&& (15 : Int32)).toInt64) <<< ((36 : Int32) &&& 63).toInt64) ||| (((15 : Int64) - ((i4 &&& (15 : Int32)).toInt64)) <<< ((32 : Int32) &&& 63).toInt64)) ||| ((2147483647 : Int64) - (i5.toInt64))), sS, sI 0, sU] [(vR b1), (vR b3)])) rfl hml rfl (rest := []) rfl rfl rfl rfl (hb hby at_109) (by decide)
              have hd4 : ¬ ((((((i3 &&& (15 : Int32)).toInt64) <<< ((36 : Int32) &&& 63).toInt64) ||| (((15 : Int64) - ((i4 &&& (15 : Int32)).toInt64)) <<< ((32 : Int32) &&& 63).toInt64)) ||| ((2147483647 : Int64) - (i5.toInt64))) < (((((i0 &&& (15 : Int32)).toInt64) <<< ((36 : Int32) &&& 63).toInt64) ||| (((15 : Int64) - ((i1 &&& (15 : Int32)).toInt64)) <<< ((32 : Int32) &&& 63).toInt64)) ||| ((2147483647 : Int64) - (i2.toInt64)))) := (by have r2 := own_rng i2; have r5 := own_rng i5; have kA := own_key i0 i1 i2; have kB := own_key i3 i4 i5; have g1 := own_p8 hx3 hx6; have g2 := own_p8 hx17 hx20; have g3 := own_p8 hx27 hx30; have g4 := own_p8 hx42 hx45; have f0 := own_ltF' hp0; have f1 := own_ltF' hp1; have f2 := own_ltF' hp2; have f3 := own_ltF' hp3; have f4 := own_ltT' hp5; exact own_kLF (by omega) : ¬ ((((((i3 &&& (15 : Int32)).toInt64) <<< ((36 : Int32) &&& 63).toInt64) ||| (((15 : Int64) - ((i4 &&& (15 : Int32)).toInt64)) <<< ((32 : Int32) &&& 63).toInt64)) ||| ((2147483647 : Int64) - (i5.toInt64))) < (((((i0 &&& (15 : Int32)).toInt64) <<< ((36 : Int32) &&& 63).toInt64) ||| (((15 : Int64) - ((i1 &&& (15 : Int32)).toInt64)) <<< ((32 : Int32) &&& 63).toInt64)) ||| ((2147483647 : Int64) - (i2.toInt64)))))
              have hd5 : (((((i0 &&& (15 : Int32)).toInt64) <<< ((36 : Int32) &&& 63).toInt64) ||| (((15 : Int64) - ((i1 &&& (15 : Int32)).toInt64)) <<< ((32 : Int32) &&& 63).toInt64)) ||| ((2147483647 : Int64) - (i2.toInt64))) < (((((i3 &&& (15 : Int32)).toInt64) <<< ((36 : Int32) &&& 63).toInt64) ||| (((15 : Int64) - ((i4 &&& (15 : Int32)).toInt64)) <<< ((32 : Int32) &&& 63).toInt64)) ||| ((2147483647 : Int64) - (i5.toInt64))) := (by have r2 := own_rng i2; have r5 := own_rng i5; have kA := own_key i0 i1 i2; have kB := own_key i3 i4 i5; have g1 := own_p8 hx3 hx6; have g2 := own_p8 hx17 hx20; have g3 := own_p8 hx27 hx30; have g4 := own_p8 hx42 hx45; have f0 := own_ltF' hp0; have f1 := own_ltF' hp1; have f2 := own_ltF' hp2; have f3 := own_ltF' hp3; have f4 := own_ltT' hp5; exact own_kLT (by omega) : (((((i0 &&& (15 : Int32)).toInt64) <<< ((36 : Int32) &&& 63).toInt64) ||| (((15 : Int64) - ((i1 &&& (15 : Int32)).toInt64)) <<< ((32 : Int32) &&& 63).toInt64)) ||| ((2147483647 : Int64) - (i2.toInt64))) < (((((i3 &&& (15 : Int32)).toInt64) <<< ((36 : Int32) &&& 63).toInt64) ||| (((15 : Int64) - ((i4 &&& (15 : Int32)).toInt64)) <<< ((32 : Int32) &&& 63).toInt64)) ||| ((2147483647 : Int64) - (i5.toInt64))))
              refine own_end X13 hlk (v := some (vI 1)) (own_hv hret) (by decide) ⟨rfl, (Fr.app (Fr.app (Fr.app (Fr.app N4 N5q) N6q) N7q) N13q)⟩ fun fs hr => pre2 _ ?_
              refine st13 _ ?_
              refine wiS X13 hx hby rfl at_112 rfl (l' := #[sI i0, sI i1, sI i2, sI i3, sI i4, sI i5, .val (.double (FP.ddiv (FP.i2d x6) (4611686018427387904 : UInt64))), sS, .val (.double (FP.i2d x20)), sS, .val (.double (FP.ddiv (FP.i2d x30) (4611686018427387904 : UInt64))), sS, .val (.double (FP.i2d x45)), sS, sR b1, sR b3, sL (((((i0 &&& (15 : Int32)).toInt64) <<< ((36 : Int32) &&& 63).toInt64) ||| (((15 : Int64) - ((i1 &&& (15 : Int32)).toInt64)) <<< ((32 : Int32) &&& 63).toInt64)) ||| ((2147483647 : Int64) - (i2.toInt64))), sS, sL (((((i3 &&& (15 : Int32)).toInt64) <<< ((36 : Int32) &&& 63).toInt64) ||| (((15 : Int64) - ((i4 &&& (15 : Int32)).toInt64)) <<< ((32 : Int32) &&& 63).toInt64)) ||| ((2147483647 : Int64) - (i5.toInt64))), sS, sI 0, sI 1]) rfl ?_
              show St p e below T13 (mkF m 114 #[sI i0, sI i1, sI i2, sI i3, sI i4, sI i5, .val (.double (FP.ddiv (FP.i2d x6) (4611686018427387904 : UInt64))), sS, .val (.double (FP.i2d x20)), sS, .val (.double (FP.ddiv (FP.i2d x30) (4611686018427387904 : UInt64))), sS, .val (.double (FP.i2d x45)), sS, sR b1, sR b3, sL (((((i0 &&& (15 : Int32)).toInt64) <<< ((36 : Int32) &&& 63).toInt64) ||| (((15 : Int64) - ((i1 &&& (15 : Int32)).toInt64)) <<< ((32 : Int32) &&& 63).toInt64)) ||| ((2147483647 : Int64) - (i2.toInt64))), sS, sL (((((i3 &&& (15 : Int32)).toInt64) <<< ((36 : Int32) &&& 63).toInt64) ||| (((15 : Int64) - ((i4 &&& (15 : Int32)).toInt64)) <<< ((32 : Int32) &&& 63).toInt64)) ||| ((2147483647 : Int64) - (i5.toInt64))), sS, sI 0, sI 1] []) _
              refine wiL X13 hx hby rfl at_114 rfl ?_
              refine XS.lload X13.here hx rfl (hb hby at_116) rfl ?_
              refine XS.lload X13.here hx rfl (hb hby at_118) rfl ?_
              refine XS.lcmp X13.here hx rfl (hb hby at_120) rfl ?_
              refine wfy X13 hx hby rfl (pc0 := 121) (pc' := 128) rfl at_121 rfl ((if0 _ _).trans (flt (fun q => hd4 ((lw_gt (((((i0 &&& (15 : Int32)).toInt64) <<< ((36 : Int32) &&& 63).toInt64) ||| (((15 : Int64) - ((i1 &&& (15 : Int32)).toInt64)) <<< ((32 : Int32) &&& 63).toInt64)) ||| ((2147483647 : Int64) - (i2.toInt64))) (((((i3 &&& (15 : Int32)).toInt64) <<< ((36 : Int32) &&& 63).toInt64) ||| (((15 : Int64) - ((i4 &&& (15 : Int32)).toInt64)) <<< ((32 : Int32) &&& 63).toInt64)) ||| ((2147483647 : Int64) - (i5.toInt64)))).mp q))).2.2.2) (by decide) (by decide) ?_
              show St p e below T13 (mkF m 128 #[sI i0, sI i1, sI i2, sI i3, sI i4, sI i5, .val (.double (FP.ddiv (FP.i2d x6) (4611686018427387904 : UInt64))), sS, .val (.double (FP.i2d x20)), sS, .val (.double (FP.ddiv (FP.i2d x30) (4611686018427387904 : UInt64))), sS, .val (.double (FP.i2d x45)), sS, sR b1, sR b3, sL (((((i0 &&& (15 : Int32)).toInt64) <<< ((36 : Int32) &&& 63).toInt64) ||| (((15 : Int64) - ((i1 &&& (15 : Int32)).toInt64)) <<< ((32 : Int32) &&& 63).toInt64)) ||| ((2147483647 : Int64) - (i2.toInt64))), sS, sL (((((i3 &&& (15 : Int32)).toInt64) <<< ((36 : Int32) &&& 63).toInt64) ||| (((15 : Int64) - ((i4 &&& (15 : Int32)).toInt64)) <<< ((32 : Int32) &&& 63).toInt64)) ||| ((2147483647 : Int64) - (i5.toInt64))), sS, sI 0, sI 1] [(vI 0)]) _
              refine wic X13 hx hby rfl at_128 ?_
              show St p e below T13 (mkF m 129 #[sI i0, sI i1, sI i2, sI i3, sI i4, sI i5, .val (.double (FP.ddiv (FP.i2d x6) (4611686018427387904 : UInt64))), sS, .val (.double (FP.i2d x20)), sS, .val (.double (FP.ddiv (FP.i2d x30) (4611686018427387904 : UInt64))), sS, .val (.double (FP.i2d x45)), sS, sR b1, sR b3, sL (((((i0 &&& (15 : Int32)).toInt64) <<< ((36 : Int32) &&& 63).toInt64) ||| (((15 : Int64) - ((i1 &&& (15 : Int32)).toInt64)) <<< ((32 : Int32) &&& 63).toInt64)) ||| ((2147483647 : Int64) - (i2.toInt64))), sS, sL (((((i3 &&& (15 : Int32)).toInt64) <<< ((36 : Int32) &&& 63).toInt64) ||| (((15 : Int64) - ((i4 &&& (15 : Int32)).toInt64)) <<< ((32 : Int32) &&& 63).toInt64)) ||| ((2147483647 : Int64) - (i5.toInt64))), sS, sI 0, sI 1] [(vI 0), (vI 0)]) _
              refine wcn X13 hx hby rfl at_129 rfl (teq (by decide : (0 : Int32) = (0 : Int32))).2 ?_
              refine wiL X13 hx hby rfl at_132 rfl ?_
              refine XS.lload X13.here hx rfl (hb hby at_134) rfl ?_
              refine XS.lload X13.here hx rfl (hb hby at_136) rfl ?_
              refine XS.lcmp X13.here hx rfl (hb hby at_138) rfl ?_
              refine wfn X13 hx hby rfl at_139 rfl ((if0 _ _).trans (tlt ((lw_gt (((((i3 &&& (15 : Int32)).toInt64) <<< ((36 : Int32) &&& 63).toInt64) ||| (((15 : Int64) - ((i4 &&& (15 : Int32)).toInt64)) <<< ((32 : Int32) &&& 63).toInt64)) ||| ((2147483647 : Int64) - (i5.toInt64))) (((((i0 &&& (15 : Int32)).toInt64) <<< ((36 : Int32) &&& 63).toInt64) ||| (((15 : Int64) - ((i1 &&& (15 : Int32)).toInt64)) <<< ((32 : Int32) &&& 63).toInt64)) ||| ((2147483647 : Int64) - (i2.toInt64)))).mpr hd5)).2.2.2) ?_
              refine wic X13 hx hby rfl at_142 ?_
              refine wgt X13 hx hby rfl (pc0 := 143) (pc' := 147) rfl at_143 (by decide) (by decide) ?_
              show St p e below T13 (mkF m 147 #[sI i0, sI i1, sI i2, sI i3, sI i4, sI i5, .val (.double (FP.ddiv (FP.i2d x6) (4611686018427387904 : UInt64))), sS, .val (.double (FP.i2d x20)), sS, .val (.double (FP.ddiv (FP.i2d x30) (4611686018427387904 : UInt64))), sS, .val (.double (FP.i2d x45)), sS, sR b1, sR b3, sL (((((i0 &&& (15 : Int32)).toInt64) <<< ((36 : Int32) &&& 63).toInt64) ||| (((15 : Int64) - ((i1 &&& (15 : Int32)).toInt64)) <<< ((32 : Int32) &&& 63).toInt64)) ||| ((2147483647 : Int64) - (i2.toInt64))), sS, sL (((((i3 &&& (15 : Int32)).toInt64) <<< ((36 : Int32) &&& 63).toInt64) ||| (((15 : Int64) - ((i4 &&& (15 : Int32)).toInt64)) <<< ((32 : Int32) &&& 63).toInt64)) ||| ((2147483647 : Int64) - (i5.toInt64))), sS, sI 0, sI 1] [(vI 1), (vI 1)]) _
              refine wcn X13 hx hby rfl at_147 rfl (teq (by decide : (1 : Int32) = (1 : Int32))).2 ?_
              refine wic X13 hx hby rfl at_150 ?_
              refine wgt X13 hx hby rfl (pc0 := 151) (pc' := 155) rfl at_151 (by decide) (by decide) ?_
              show St p e below T13 (mkF m 155 #[sI i0, sI i1, sI i2, sI i3, sI i4, sI i5, .val (.double (FP.ddiv (FP.i2d x6) (4611686018427387904 : UInt64))), sS, .val (.double (FP.i2d x20)), sS, .val (.double (FP.ddiv (FP.i2d x30) (4611686018427387904 : UInt64))), sS, .val (.double (FP.i2d x45)), sS, sR b1, sR b3, sL (((((i0 &&& (15 : Int32)).toInt64) <<< ((36 : Int32) &&& 63).toInt64) ||| (((15 : Int64) - ((i1 &&& (15 : Int32)).toInt64)) <<< ((32 : Int32) &&& 63).toInt64)) ||| ((2147483647 : Int64) - (i2.toInt64))), sS, sL (((((i3 &&& (15 : Int32)).toInt64) <<< ((36 : Int32) &&& 63).toInt64) ||| (((15 : Int64) - ((i4 &&& (15 : Int32)).toInt64)) <<< ((32 : Int32) &&& 63).toInt64)) ||| ((2147483647 : Int64) - (i5.toInt64))), sS, sI 0, sI 1] [(vI 1)]) _
              exact retN X13 hx (t := .boolean) hret (by simp) (hb hby at_155) hr
            · have f14 : Exa Z T4.heap b3 z0 := (A3.keep Kq4)
              obtain ⟨_, T13, L13, ⟨rfl, N13q, e13⟩, X13, st13⟩ := cV X7 hx hZ (W := 0) hown (cw3 cx) (rm9 cx b3 b1 (FP.ddiv (FP.i2d x30) (4611686018427387904 : UInt64)) (FP.ddiv (FP.i2d x6) (4611686018427387904 : UInt64)) (FP.i2d x45) (FP.i2d x20) i5 i2 O4 q4_0 f9 (own_cE (own_dcH (own_rg hd2 hd3 (l := -8) (h := 7) (by decide)) (own_rg hd0 hd1 (l := -8) (h := 7) (by decide))) hp1 hp0) q4_1 f10 (own_cE (own_dcI _ _) hp3 hp2) q4_2 f11 hp5) e7 f14 (g := (mkF m 109 #[sI i0, sI i1, sI i2, sI i3, sI i4, sI i5, .val (.double (FP.ddiv (FP.i2d x6) (4611686018427387904 : UInt64))), sS, .val (.double (FP.i2d x20)), sS, .val (.double (FP.ddiv (FP.i2d x30) (4611686018427387904 : UInt64))), sS, .val (.double (FP.i2d x45)), sS, sR b1, sR b3, sL (((((i0 &&& (15 : Int32)).toInt64) <<< ((36 : Int32) &&& 63).toInt64) ||| (((15 : Int64) - ((i1 &&& (15 : Int32)).toInt64)) <<< ((32 : Int32) &&& 63).toInt64)) ||| ((2147483647 : Int64) - (i2.toInt64))), sS, sL (((((i3 &&& (15 : Int32)).toInt64) <<< ((36 : Int32) &&& 63).toInt64) ||| (((15 : Int64) - ((i4 &&& (15 : Int32)).toInt64)) <<< ((32 : Int32) &&& 63).toInt64)) ||| ((2147483647 : Int64) - (i5.toInt64))), sS, sI 0, sU] [(vR b1), (vR b3)])) rfl hml rfl (rest := []) rfl rfl rfl rfl (hb hby at_109) (by decide)
              have hd4 : ¬ ((((((i3 &&& (15 : Int32)).toInt64) <<< ((36 : Int32) &&& 63).toInt64) ||| (((15 : Int64) - ((i4 &&& (15 : Int32)).toInt64)) <<< ((32 : Int32) &&& 63).toInt64)) ||| ((2147483647 : Int64) - (i5.toInt64))) < (((((i0 &&& (15 : Int32)).toInt64) <<< ((36 : Int32) &&& 63).toInt64) ||| (((15 : Int64) - ((i1 &&& (15 : Int32)).toInt64)) <<< ((32 : Int32) &&& 63).toInt64)) ||| ((2147483647 : Int64) - (i2.toInt64)))) := (by have r2 := own_rng i2; have r5 := own_rng i5; have kA := own_key i0 i1 i2; have kB := own_key i3 i4 i5; have g1 := own_p8 hx3 hx6; have g2 := own_p8 hx17 hx20; have g3 := own_p8 hx27 hx30; have g4 := own_p8 hx42 hx45; have f0 := own_ltF' hp0; have f1 := own_ltF' hp1; have f2 := own_ltF' hp2; have f3 := own_ltF' hp3; have f4 := own_ltF' hp4; have f5 := own_ltF' hp5; exact own_kLF (by omega) : ¬ ((((((i3 &&& (15 : Int32)).toInt64) <<< ((36 : Int32) &&& 63).toInt64) ||| (((15 : Int64) - ((i4 &&& (15 : Int32)).toInt64)) <<< ((32 : Int32) &&& 63).toInt64)) ||| ((2147483647 : Int64) - (i5.toInt64))) < (((((i0 &&& (15 : Int32)).toInt64) <<< ((36 : Int32) &&& 63).toInt64) ||| (((15 : Int64) - ((i1 &&& (15 : Int32)).toInt64)) <<< ((32 : Int32) &&& 63).toInt64)) ||| ((2147483647 : Int64) - (i2.toInt64)))))
              have hd7 : ¬ ((((((i0 &&& (15 : Int32)).toInt64) <<< ((36 : Int32) &&& 63).toInt64) ||| (((15 : Int64) - ((i1 &&& (15 : Int32)).toInt64)) <<< ((32 : Int32) &&& 63).toInt64)) ||| ((2147483647 : Int64) - (i2.toInt64))) < (((((i3 &&& (15 : Int32)).toInt64) <<< ((36 : Int32) &&& 63).toInt64) ||| (((15 : Int64) - ((i4 &&& (15 : Int32)).toInt64)) <<< ((32 : Int32) &&& 63).toInt64)) ||| ((2147483647 : Int64) - (i5.toInt64)))) := (by have r2 := own_rng i2; have r5 := own_rng i5; have kA := own_key i0 i1 i2; have kB := own_key i3 i4 i5; have g1 := own_p8 hx3 hx6; have g2 := own_p8 hx17 hx20; have g3 := own_p8 hx27 hx30; have g4 := own_p8 hx42 hx45; have f0 := own_ltF' hp0; have f1 := own_ltF' hp1; have f2 := own_ltF' hp2; have f3 := own_ltF' hp3; have f4 := own_ltF' hp4; have f5 := own_ltF' hp5; exact own_kLF (by omega) : ¬ ((((((i0 &&& (15 : Int32)).toInt64) <<< ((36 : Int32) &&& 63).toInt64) ||| (((15 : Int64) - ((i1 &&& (15 : Int32)).toInt64)) <<< ((32 : Int32) &&& 63).toInt64)) ||| ((2147483647 : Int64) - (i2.toInt64))) < (((((i3 &&& (15 : Int32)).toInt64) <<< ((36 : Int32) &&& 63).toInt64) ||| (((15 : Int64) - ((i4 &&& (15 : Int32)).toInt64)) <<< ((32 : Int32) &&& 63).toInt64)) ||| ((2147483647 : Int64) - (i5.toInt64)))))
              refine own_end X13 hlk (v := some (vI 1)) (own_hv hret) (by decide) ⟨rfl, (Fr.app (Fr.app (Fr.app (Fr.app N4 N5q) N6q) N7q) N13q)⟩ fun fs hr => pre2 _ ?_
              refine st13 _ ?_
              refine wiS X13 hx hby rfl at_112 rfl (l' := #[sI i0, sI i1, sI i2, sI i3, sI i4, sI i5, .val (.double (FP.ddiv (FP.i2d x6) (4611686018427387904 : UInt64))), sS, .val (.double (FP.i2d x20)), sS, .val (.double (FP.ddiv (FP.i2d x30) (4611686018427387904 : UInt64))), sS, .val (.double (FP.i2d x45)), sS, sR b1, sR b3, sL (((((i0 &&& (15 : Int32)).toInt64) <<< ((36 : Int32) &&& 63).toInt64) ||| (((15 : Int64) - ((i1 &&& (15 : Int32)).toInt64)) <<< ((32 : Int32) &&& 63).toInt64)) ||| ((2147483647 : Int64) - (i2.toInt64))), sS, sL (((((i3 &&& (15 : Int32)).toInt64) <<< ((36 : Int32) &&& 63).toInt64) ||| (((15 : Int64) - ((i4 &&& (15 : Int32)).toInt64)) <<< ((32 : Int32) &&& 63).toInt64)) ||| ((2147483647 : Int64) - (i5.toInt64))), sS, sI 0, sI 0]) rfl ?_
              show St p e below T13 (mkF m 114 #[sI i0, sI i1, sI i2, sI i3, sI i4, sI i5, .val (.double (FP.ddiv (FP.i2d x6) (4611686018427387904 : UInt64))), sS, .val (.double (FP.i2d x20)), sS, .val (.double (FP.ddiv (FP.i2d x30) (4611686018427387904 : UInt64))), sS, .val (.double (FP.i2d x45)), sS, sR b1, sR b3, sL (((((i0 &&& (15 : Int32)).toInt64) <<< ((36 : Int32) &&& 63).toInt64) ||| (((15 : Int64) - ((i1 &&& (15 : Int32)).toInt64)) <<< ((32 : Int32) &&& 63).toInt64)) ||| ((2147483647 : Int64) - (i2.toInt64))), sS, sL (((((i3 &&& (15 : Int32)).toInt64) <<< ((36 : Int32) &&& 63).toInt64) ||| (((15 : Int64) - ((i4 &&& (15 : Int32)).toInt64)) <<< ((32 : Int32) &&& 63).toInt64)) ||| ((2147483647 : Int64) - (i5.toInt64))), sS, sI 0, sI 0] []) _
              refine wiL X13 hx hby rfl at_114 rfl ?_
              refine XS.lload X13.here hx rfl (hb hby at_116) rfl ?_
              refine XS.lload X13.here hx rfl (hb hby at_118) rfl ?_
              refine XS.lcmp X13.here hx rfl (hb hby at_120) rfl ?_
              refine wfy X13 hx hby rfl (pc0 := 121) (pc' := 128) rfl at_121 rfl ((if0 _ _).trans (flt (fun q => hd4 ((lw_gt (((((i0 &&& (15 : Int32)).toInt64) <<< ((36 : Int32) &&& 63).toInt64) ||| (((15 : Int64) - ((i1 &&& (15 : Int32)).toInt64)) <<< ((32 : Int32) &&& 63).toInt64)) ||| ((2147483647 : Int64) - (i2.toInt64))) (((((i3 &&& (15 : Int32)).toInt64) <<< ((36 : Int32) &&& 63).toInt64) ||| (((15 : Int64) - ((i4 &&& (15 : Int32)).toInt64)) <<< ((32 : Int32) &&& 63).toInt64)) ||| ((2147483647 : Int64) - (i5.toInt64)))).mp q))).2.2.2) (by decide) (by decide) ?_
              show St p e below T13 (mkF m 128 #[sI i0, sI i1, sI i2, sI i3, sI i4, sI i5, .val (.double (FP.ddiv (FP.i2d x6) (4611686018427387904 : UInt64))), sS, .val (.double (FP.i2d x20)), sS, .val (.double (FP.ddiv (FP.i2d x30) (4611686018427387904 : UInt64))), sS, .val (.double (FP.i2d x45)), sS, sR b1, sR b3, sL (((((i0 &&& (15 : Int32)).toInt64) <<< ((36 : Int32) &&& 63).toInt64) ||| (((15 : Int64) - ((i1 &&& (15 : Int32)).toInt64)) <<< ((32 : Int32) &&& 63).toInt64)) ||| ((2147483647 : Int64) - (i2.toInt64))), sS, sL (((((i3 &&& (15 : Int32)).toInt64) <<< ((36 : Int32) &&& 63).toInt64) ||| (((15 : Int64) - ((i4 &&& (15 : Int32)).toInt64)) <<< ((32 : Int32) &&& 63).toInt64)) ||| ((2147483647 : Int64) - (i5.toInt64))), sS, sI 0, sI 0] [(vI 0)]) _
              refine wic X13 hx hby rfl at_128 ?_
              show St p e below T13 (mkF m 129 #[sI i0, sI i1, sI i2, sI i3, sI i4, sI i5, .val (.double (FP.ddiv (FP.i2d x6) (4611686018427387904 : UInt64))), sS, .val (.double (FP.i2d x20)), sS, .val (.double (FP.ddiv (FP.i2d x30) (4611686018427387904 : UInt64))), sS, .val (.double (FP.i2d x45)), sS, sR b1, sR b3, sL (((((i0 &&& (15 : Int32)).toInt64) <<< ((36 : Int32) &&& 63).toInt64) ||| (((15 : Int64) - ((i1 &&& (15 : Int32)).toInt64)) <<< ((32 : Int32) &&& 63).toInt64)) ||| ((2147483647 : Int64) - (i2.toInt64))), sS, sL (((((i3 &&& (15 : Int32)).toInt64) <<< ((36 : Int32) &&& 63).toInt64) ||| (((15 : Int64) - ((i4 &&& (15 : Int32)).toInt64)) <<< ((32 : Int32) &&& 63).toInt64)) ||| ((2147483647 : Int64) - (i5.toInt64))), sS, sI 0, sI 0] [(vI 0), (vI 0)]) _
              refine wcn X13 hx hby rfl at_129 rfl (teq (by decide : (0 : Int32) = (0 : Int32))).2 ?_
              refine wiL X13 hx hby rfl at_132 rfl ?_
              refine XS.lload X13.here hx rfl (hb hby at_134) rfl ?_
              refine XS.lload X13.here hx rfl (hb hby at_136) rfl ?_
              refine XS.lcmp X13.here hx rfl (hb hby at_138) rfl ?_
              refine wfy X13 hx hby rfl (pc0 := 139) (pc' := 146) rfl at_139 rfl ((if0 _ _).trans (flt (fun q => hd7 ((lw_gt (((((i3 &&& (15 : Int32)).toInt64) <<< ((36 : Int32) &&& 63).toInt64) ||| (((15 : Int64) - ((i4 &&& (15 : Int32)).toInt64)) <<< ((32 : Int32) &&& 63).toInt64)) ||| ((2147483647 : Int64) - (i5.toInt64))) (((((i0 &&& (15 : Int32)).toInt64) <<< ((36 : Int32) &&& 63).toInt64) ||| (((15 : Int64) - ((i1 &&& (15 : Int32)).toInt64)) <<< ((32 : Int32) &&& 63).toInt64)) ||| ((2147483647 : Int64) - (i2.toInt64)))).mp q))).2.2.2) (by decide) (by decide) ?_
              show St p e below T13 (mkF m 146 #[sI i0, sI i1, sI i2, sI i3, sI i4, sI i5, .val (.double (FP.ddiv (FP.i2d x6) (4611686018427387904 : UInt64))), sS, .val (.double (FP.i2d x20)), sS, .val (.double (FP.ddiv (FP.i2d x30) (4611686018427387904 : UInt64))), sS, .val (.double (FP.i2d x45)), sS, sR b1, sR b3, sL (((((i0 &&& (15 : Int32)).toInt64) <<< ((36 : Int32) &&& 63).toInt64) ||| (((15 : Int64) - ((i1 &&& (15 : Int32)).toInt64)) <<< ((32 : Int32) &&& 63).toInt64)) ||| ((2147483647 : Int64) - (i2.toInt64))), sS, sL (((((i3 &&& (15 : Int32)).toInt64) <<< ((36 : Int32) &&& 63).toInt64) ||| (((15 : Int64) - ((i4 &&& (15 : Int32)).toInt64)) <<< ((32 : Int32) &&& 63).toInt64)) ||| ((2147483647 : Int64) - (i5.toInt64))), sS, sI 0, sI 0] [(vI 0)]) _
              refine wic X13 hx hby rfl at_146 ?_
              show St p e below T13 (mkF m 147 #[sI i0, sI i1, sI i2, sI i3, sI i4, sI i5, .val (.double (FP.ddiv (FP.i2d x6) (4611686018427387904 : UInt64))), sS, .val (.double (FP.i2d x20)), sS, .val (.double (FP.ddiv (FP.i2d x30) (4611686018427387904 : UInt64))), sS, .val (.double (FP.i2d x45)), sS, sR b1, sR b3, sL (((((i0 &&& (15 : Int32)).toInt64) <<< ((36 : Int32) &&& 63).toInt64) ||| (((15 : Int64) - ((i1 &&& (15 : Int32)).toInt64)) <<< ((32 : Int32) &&& 63).toInt64)) ||| ((2147483647 : Int64) - (i2.toInt64))), sS, sL (((((i3 &&& (15 : Int32)).toInt64) <<< ((36 : Int32) &&& 63).toInt64) ||| (((15 : Int64) - ((i4 &&& (15 : Int32)).toInt64)) <<< ((32 : Int32) &&& 63).toInt64)) ||| ((2147483647 : Int64) - (i5.toInt64))), sS, sI 0, sI 0] [(vI 0), (vI 0)]) _
              refine wcn X13 hx hby rfl at_147 rfl (teq (by decide : (0 : Int32) = (0 : Int32))).2 ?_
              refine wic X13 hx hby rfl at_150 ?_
              refine wgt X13 hx hby rfl (pc0 := 151) (pc' := 155) rfl at_151 (by decide) (by decide) ?_
              show St p e below T13 (mkF m 155 #[sI i0, sI i1, sI i2, sI i3, sI i4, sI i5, .val (.double (FP.ddiv (FP.i2d x6) (4611686018427387904 : UInt64))), sS, .val (.double (FP.i2d x20)), sS, .val (.double (FP.ddiv (FP.i2d x30) (4611686018427387904 : UInt64))), sS, .val (.double (FP.i2d x45)), sS, sR b1, sR b3, sL (((((i0 &&& (15 : Int32)).toInt64) <<< ((36 : Int32) &&& 63).toInt64) ||| (((15 : Int64) - ((i1 &&& (15 : Int32)).toInt64)) <<< ((32 : Int32) &&& 63).toInt64)) ||| ((2147483647 : Int64) - (i2.toInt64))), sS, sL (((((i3 &&& (15 : Int32)).toInt64) <<< ((36 : Int32) &&& 63).toInt64) ||| (((15 : Int64) - ((i4 &&& (15 : Int32)).toInt64)) <<< ((32 : Int32) &&& 63).toInt64)) ||| ((2147483647 : Int64) - (i5.toInt64))), sS, sI 0, sI 0] [(vI 1)]) _
              exact retN X13 hx (t := .boolean) hret (by simp) (hb hby at_155) hr
theorem comes_1 {Post : Tables → Env → Array Value → State → Outcome → State → Prop} (hpost : ∀ tb e args s v u, (limb_1_1.after args s (.returned v) u = true ∧ limb_1_2.after args s (.returned v) u = true ∧ True) → FrameEnd s (.returned v) u (Jvm.fieldLocs frame_1_writes args s ++ Jvm.arrayLocs frame_1_arrays args s ++ Jvm.staticLocs frame_1_statics s) 16 128 → Post tb e args s (.returned v) u) :
    ArmFor flags0 classFile x code maxLocals ret World_1 tables_1 room_1 Calls_1 rest_1 Pre_1 Post := by
  intro l hfl _ _ p e ha hc hk s m args below hf hA hF happ hP
  obtain ⟨hcalls, hrest, hpre⟩ := hP
  obtain ⟨-, -, -, hnamed, -, -, -, hat⟩ := (Spec.applies_iff hf).mp happ
  obtain ⟨hg, hn⟩ := and_e (Cond.before_iff.mp (show (Jvm.Cond.and given_1 narrow_1).before args s = true from hpre))
  obtain ⟨g1a, g1b⟩ := and_e hg
  obtain ⟨g2a, g2b⟩ := and_e g1b
  obtain ⟨g3a, g3b⟩ := and_e g2b
  obtain ⟨g4a, g4b⟩ := and_e g3b
  obtain ⟨g5a, g5b⟩ := and_e g4b
  obtain ⟨g6a, g6b⟩ := and_e g5b
  obtain ⟨v0, v1, v2, v3, v4, v5, rfl⟩ : ∃ v0 v1 v2 v3 v4 v5 : Value, args = #[v0, v1, v2, v3, v4, v5] := by
    have hs : args.size = 6 := by simpa [Cond.value, given_1] using g1a
    obtain ⟨L⟩ := args
    match L, hs with
    | [v0, v1, v2, v3, v4, v5], _ => exact ⟨v0, v1, v2, v3, v4, v5, rfl⟩
  have hw := fun d (hd : d ∈ tables_1) => atoms_spec (ws := Jvm.Cond.code x code maxLocals ret :: tables_1) hat d (List.mem_cons_of_mem _ hd)
  have hfit : Fit s := fun {y c} hc i hi => by
    obtain ⟨ha, rfl⟩ := Array.getElem?_eq_some_iff.mp hc
    have q := List.all_eq_true.mp ((Array.all_eq_true_iff_forall_mem.mp hF) _ (Array.getElem_mem ha)) i (List.mem_range.mpr hi)
    simpa [Array.getElem?_eq_getElem hi] using q
  obtain ⟨i0, ei0⟩ := is_v g2a
  obtain rfl : v0 = (.int i0) := Option.some.inj ei0
  obtain ⟨i1, ei1⟩ := is_v g3a
  obtain rfl : v1 = (.int i1) := Option.some.inj ei1
  obtain ⟨i2, ei2⟩ := is_v g4a
  obtain rfl : v2 = (.int i2) := Option.some.inj ei2
  obtain ⟨i3, ei3⟩ := is_v g5a
  obtain rfl : v3 = (.int i3) := Option.some.inj ei3
  obtain ⟨i4, ei4⟩ := is_v g6a
  obtain rfl : v4 = (.int i4) := Option.some.inj ei4
  obtain ⟨i5, ei5⟩ := is_v g6b
  obtain rfl : v5 = (.int i5) := Option.some.inj ei5
  obtain ⟨n, o, h1, h2, h3, _, L, rfl, ⟨rfl, N⟩, hq⟩ := rm0 (l := l) (Z := s) (a0 := _) ⟨hw, trivial, trivial⟩ tables_1 i0 i1 i2 i3 i4 i5 s.heap s.heap.size (Old.start s) p e ha hc hk s m _ below hf ((Spec.applies_iff_loose hf).mp happ).1 ⟨rfl, State.Warmed39.refl s, rfl⟩ trivial
  refine ⟨n, _, h1, h2, h3, hpost _ _ _ _ _ _ ⟨Cond.after_iff.mpr rfl, Cond.after_iff.mpr (eq_i res_at (Term.int_eval (1)) rfl), trivial⟩ ⟨hq.1, hq.2.1, (hq.2.2.sift fun y hy => Or.inr (N y hy)).mono (by decide) (by decide)⟩⟩
theorem main_1_1 : Claimed_1_1 := comes_1 fun _ _ _ _ _ _ h hF => ⟨h.1, hF⟩
theorem main_1_2 : Claimed_1_2 := comes_1 fun _ _ _ _ _ _ h hF => ⟨h.2.1, hF⟩
end Jvm.Pilot.@@N@@
namespace Jvm.Pilot.@@N@@
open Jvm Jvm.ClassFile Sem Op Lib Jvm.Free Jvm.Stand Jvm.Pilot.@@N@@.Jvm.D
/-! MADE BY PROGRAM (witnessworld.py) out of the Statement's table words and the real class files: 8 classes; the members and pool entries that the words name. The judged class is class 1, her method 2. -/
namespace start1
open Jvm.ClassFile
def u (s : String) : CpInfo := .utf8 (stringToUtf16 s)
/-- a pool by its gaps: so many unusable entries, then the entry; so many at the end -/
def gap : Nat → List CpInfo → List CpInfo
  | 0, r => r
  | n + 1, r => .unusable :: gap n r
def poolList (es : List (Nat × CpInfo)) (last : Nat) : List CpInfo := es.foldr (fun e r => gap e.1 (e.2 :: r)) (gap last [])
def pool (es : List (Nat × CpInfo)) (last : Nat) : Array CpInfo := ⟨poolList es last⟩
def fileOf (pool : Array CpInfo) (this : Nat) (attrs : Array Attribute := #[]) (ms : Array MethodInfo := #[]) (fl : Nat := 33) (sup : Nat := 0) (ifs : Array Nat := #[]) (fds : Array FieldInfo := #[]) : ClassFile where
  minorVersion := 0
  majorVersion := 65
  constantPool := pool
  accessFlags := fl
  thisClass := this
  superClass := sup
  interfaces := ifs
  fields := fds
  methods := ms
  attributes := attrs
def plain (name : String) (sup : Option ClassId) : Class where
  name := name
  kind := .ordinary
  loader := none
  accessFlags := 33
  super := sup
  interfaces := #[]
  cf := none
  fields := #[]
  methods := #[]
  instanceTypes := #[]
  staticTypes := #[]
  resolved := #[]
  callSites := []
  init := .initialized
  statics := none
  mirror := none

def pool0 : Array CpInfo := pool [(5, u "<init>"), (0, u "()V"), (1, .class_ 10), (1, u "java/lang/Object")] 113

def k0c0 : Code := { maxStack := 0, maxLocals := 1, code := object_method_1_code, exceptionTable := #[], attributes := #[] }
def k0m0 : Method := { name := "<init>", desc := "()V", sig := { parameters := [], returnType := none }, accessFlags := 1, code := some k0c0 }
/-- java/lang/Object -/
def k0 : Class := { plain "java/lang/Object" none with
  accessFlags := 33
  interfaces := #[]
  cf := some (fileOf pool0 8 #[] #[{ accessFlags := 1, nameIndex := 5, descriptorIndex := 6, attributes := #[] }] 33 0 #[] #[])
  fields := #[]
  methods := #[k0m0]
  instanceTypes := #[]
  staticTypes := #[]
  resolved := Array.replicate 124 none
  statics := none }

def pool1 : Array CpInfo := pool [(2, .class_ 4), (1, u "java/lang/Object"), (0, u "<init>"), (0, u "()V"), (0, .long 15), (3, .long 2147483647), (1, .double 4611686018427387904), (1, .class_ 16), (0, u "com/example/roam_mutex/roammutex/engine/Rank"), (0, .methodref 15 18), (0, .nameAndType 5 19), (0, u "(DDI)V"), (0, .methodref 21 22), (0, .class_ 23), (0, .nameAndType 24 25), (0, u "com/example/roam_mutex/roammutex/engine/RankOutranksPinLaw"), (0, u "key"), (0, u "(III)J"), (0, .methodref 15 27), (0, .nameAndType 28 29), (0, u "outranks"), (0, u "(Lcom/example/roam_mutex/roammutex/engine/Rank;)Z"), (2, u "law"), (0, u "(IIIIII)Z")] 3

def k1m0 : Method := { name := "<init>", desc := "()V", sig := { parameters := [], returnType := none }, accessFlags := 1, code := none }
def k1c1 : Code := { maxStack := 5, maxLocals := 9, code := method_2_code, exceptionTable := #[], attributes := #[] }
def k1m1 : Method := { name := "key", desc := "(III)J", sig := { parameters := [.int, .int, .int], returnType := some .long }, accessFlags := 10, code := some k1c1 }
def k1c2 : Code := { maxStack := 7, maxLocals := 22, code := code, exceptionTable := #[], attributes := #[] }
def k1m2 : Method := { name := "law", desc := "(IIIIII)Z", sig := { parameters := [.int, .int, .int, .int, .int, .int], returnType := some .boolean }, accessFlags := 9, code := some k1c2 }
/-- com/example/roam_mutex/roammutex/engine/RankOutranksPinLaw -/
def k1 : Class := { plain "com/example/roam_mutex/roammutex/engine/RankOutranksPinLaw" (some 0) with
  accessFlags := 49
  interfaces := #[]
  cf := some (fileOf pool1 21 #[] #[{ accessFlags := 1, nameIndex := 5, descriptorIndex := 6, attributes := #[] }, { accessFlags := 10, nameIndex := 24, descriptorIndex := 25, attributes := #[] }, { accessFlags := 9, nameIndex := 32, descriptorIndex := 33, attributes := #[] }] 49 2 #[] #[])
  fields := #[]
  methods := #[k1m0, k1m1, k1m2]
  instanceTypes := #[]
  staticTypes := #[]
  resolved := Array.replicate 37 none
  statics := none }

def pool2 : Array CpInfo := pool [(1, .methodref 2 3), (0, .class_ 4), (0, .nameAndType 5 6), (0, u "java/lang/Object"), (0, u "<init>"), (0, u "()V"), (0, .class_ 8), (0, u "java/lang/Record")] 13

def k2c0 : Code := { maxStack := 1, maxLocals := 1, code := jdk_30_method_1_code, exceptionTable := #[], attributes := #[] }
def k2m0 : Method := { name := "<init>", desc := "()V", sig := { parameters := [], returnType := none }, accessFlags := 4, code := some k2c0 }
/-- java/lang/Record -/
def k2 : Class := { plain "java/lang/Record" (some 0) with
  accessFlags := 1057
  interfaces := #[]
  cf := some (fileOf pool2 7 #[] #[{ accessFlags := 4, nameIndex := 5, descriptorIndex := 6, attributes := #[] }] 1057 2 #[] #[])
  fields := #[]
  methods := #[k2m0]
  instanceTypes := #[]
  staticTypes := #[]
  resolved := Array.replicate 22 none
  statics := none }

def pool3 : Array CpInfo := pool [(1, .methodref 2 3), (0, .class_ 4), (0, .nameAndType 5 6), (0, u "java/lang/Record"), (0, u "<init>"), (0, u "()V"), (0, .fieldref 8 9), (0, .class_ 10), (0, .nameAndType 11 12), (0, u "com/example/roam_mutex/roammutex/engine/Rank"), (0, u "priority"), (0, u "D"), (0, .fieldref 8 14), (0, .nameAndType 15 12), (0, u "time"), (0, .fieldref 8 17), (0, .nameAndType 18 19), (0, u "node"), (0, u "I"), (12, u "(DDI)V"), (3, u "outranks"), (0, u "(Lcom/example/roam_mutex/roammutex/engine/Rank;)Z")] 27

def k3c0 : Code := { maxStack := 3, maxLocals := 6, code := prog_13_method_1_code, exceptionTable := #[], attributes := #[] }
def k3m0 : Method := { name := "<init>", desc := "(DDI)V", sig := { parameters := [.double, .double, .int], returnType := none }, accessFlags := 1, code := some k3c0 }
def k3c1 : Code := { maxStack := 4, maxLocals := 3, code := prog_13_method_2_code, exceptionTable := #[], attributes := #[] }
def k3m1 : Method := { name := "outranks", desc := "(Lcom/example/roam_mutex/roammutex/engine/Rank;)Z", sig := { parameters := [(.object "com/example/roam_mutex/roammutex/engine/Rank")], returnType := some .boolean }, accessFlags := 1, code := some k3c1 }
/-- com/example/roam_mutex/roammutex/engine/Rank -/
def k3 : Class := { plain "com/example/roam_mutex/roammutex/engine/Rank" (some 2) with
  accessFlags := 49
  interfaces := #[]
  cf := some (fileOf pool3 8 #[] #[{ accessFlags := 1, nameIndex := 5, descriptorIndex := 32, attributes := #[] }, { accessFlags := 1, nameIndex := 36, descriptorIndex := 37, attributes := #[] }] 49 2 #[] #[{ accessFlags := 18, nameIndex := 11, descriptorIndex := 12, attributes := #[] }, { accessFlags := 18, nameIndex := 15, descriptorIndex := 12, attributes := #[] }, { accessFlags := 18, nameIndex := 18, descriptorIndex := 19, attributes := #[] }])
  fields := #[{ name := "priority", type := .double, accessFlags := 18, slot := 0, constantValue := 0 }, { name := "time", type := .double, accessFlags := 18, slot := 1, constantValue := 0 }, { name := "node", type := .int, accessFlags := 18, slot := 2, constantValue := 0 }]
  methods := #[k3m0, k3m1]
  instanceTypes := #[.double, .double, .int]
  staticTypes := #[]
  resolved := Array.replicate 65 none
  statics := none }

def pool4 : Array CpInfo := pool [(1, u "java/lang/Cloneable"), (0, .class_ 1), (0, u "java/lang/Object"), (0, .class_ 3)] 3

/-- java/lang/Cloneable -/
def k4 : Class := { plain "java/lang/Cloneable" (some 0) with
  accessFlags := 1537
  interfaces := #[]
  cf := some (fileOf pool4 2 #[] #[] 1537 4 #[] #[])
  fields := #[]
  methods := #[]
  instanceTypes := #[]
  staticTypes := #[]
  resolved := Array.replicate 8 none
  statics := none }

def pool5 : Array CpInfo := pool [(1, u "java/io/Serializable"), (0, .class_ 1), (0, u "java/lang/Object"), (0, .class_ 3)] 3

/-- java/io/Serializable -/
def k5 : Class := { plain "java/io/Serializable" (some 0) with
  accessFlags := 1537
  interfaces := #[]
  cf := some (fileOf pool5 2 #[] #[] 1537 4 #[] #[])
  fields := #[]
  methods := #[]
  instanceTypes := #[]
  staticTypes := #[]
  resolved := Array.replicate 8 none
  statics := none }

/-- the primitive byte -/
def k6 : Class := { plain "byte" none with kind := .primitive 'B', accessFlags := 0x411 }
/-- [B -/
def k7 : Class := { plain "[B" (some 0) with kind := .array 6 .byte, interfaces := #[4, 5], accessFlags := 1041 }

def heap : Heap := #[]
def classes : Array Class := #[k0, k1, k2, k3, k4, k5, k6, k7]
def interned : List (Array UInt16 × Addr) := []
def slotsUsed : Nat := 0
def theMethod : MethodId := ⟨1, 2⟩
def args0 : Array Value := #[.int 5, .int 5, .int 5, .int 5, .int 5, .int 5]
def aboutOver (below : List Frame) : State where
  vm := { classes := classes, interned := interned.toArray }
  heap := heap
  slotsUsed := slotsUsed
  threads := #[{ frames := .invoking theMethod args0 :: below }]
def below0 : List Frame := [.native { method := ⟨0, 0⟩, args := #[] }]
def about1 : State := aboutOver below0
def p0 : Program := .bare "" "" ""
def e0 : Env := launch0.env 0 0 0
theorem w_frames : about1.frames = Frame.invoking theMethod args0 :: below0 := rfl
set_option maxRecDepth 65536 in
theorem w_args : argsFit about1.vm theMethod args0 = true := by decide +kernel
set_option maxRecDepth 65536 in
theorem w_heap : heapFits about1 = true := by decide +kernel
set_option maxRecDepth 65536 in
theorem w_runnable : about1.curStatus? = some .runnable := by decide +kernel
set_option maxRecDepth 65536 in
theorem w_alone : about1.alone = true := by decide +kernel
set_option maxRecDepth 65536 in
theorem w_named : about1.methodNamed? x = some theMethod := by decide +kernel
set_option maxRecDepth 65536 in
theorem w_hears : about1.hears theMethod below0 = true := by decide +kernel
set_option maxRecDepth 65536 in
theorem w_ripe : about1.ripe theMethod args0 below0 = true := by decide +kernel
theorem w_running : about1.status = .running := rfl
set_option maxRecDepth 65536 in
theorem w_room : about1.hasRoom e0.platform room_1 = true :=
  launch0.hasRoom_least _ room_1 (by decide +kernel) (by decide +kernel) (by decide +kernel) (by decide +kernel) (by decide +kernel) (by decide +kernel)
theorem allAtoms_all (ts : List Jvm.Cond) (a : Array Jvm.Value) (st : Jvm.State) : (allAtoms ts).before a st = ts.all (fun c => c.before a st) := by
  induction ts with
  | nil => rfl
  | cons c t ih =>
    show (Jvm.Cond.and c (allAtoms t)).before a st = _
    rw [Jvm.Cond.before_and, ih, List.all_cons]
def words1 : List Jvm.Cond := Jvm.Cond.code x code maxLocals ret :: tables_1
/-- a 'code' word, met by the world's own term for the bytes: nothing is compared byte by byte -/
theorem code_word {y : MethodName} {bytes : ByteArray} {mx : Nat} {rt : Option FieldType} {a : Array Value} {s : State} {m : MethodId} {meth : Method} {c : Code} (h1 : s.methodNamed? y = some m) (h2 : s.vm.method? m = some meth) (h3 : meth.code = some c) (h4 : c.code = bytes)
    (h5 : (c.maxLocals == mx && c.exceptionTable.isEmpty && decide (c.maxStack ≤ mostOperands) && decide (meth.sig.returnType = rt) && !meth.locks && decide (parseMethodDescriptor y.desc = some meth.sig)) = true) : (Jvm.Cond.code y bytes mx rt).before a s = true := by
  simp only [Bool.and_eq_true, beq_iff_eq, Bool.not_eq_true', decide_eq_true_eq] at h5
  obtain ⟨⟨⟨⟨⟨g1, g2⟩, g3⟩, g4⟩, g5⟩, g6⟩ := h5
  simp [Cond.before, Cond.holds, Cond.value, h1, h2, h3, h4, g1, g2, g3, g4, g5, g6]
def isCode : Jvm.Cond → Bool
  | .code _ _ _ _ => true
  | _ => false
theorem all_split {L : List Jvm.Cond} {P : Jvm.Cond → Bool} (h1 : L.all (fun c => isCode c || P c) = true) (h2 : ∀ c ∈ L.filter isCode, P c = true) : L.all P = true := by
  refine List.all_eq_true.mpr fun c hc => ?_
  have h := List.all_eq_true.mp h1 c hc
  rcases Bool.eq_false_or_eq_true (isCode c) with hi | hi
  · exact h2 c (List.mem_filter.mpr ⟨hc, hi⟩)
  · simpa [hi] using h
set_option maxRecDepth 65536 in
theorem w_c0 : (Jvm.Cond.code x code maxLocals ret).before args0 about1 = true := code_word (m := ⟨1, 2⟩) (meth := k1m2) (c := k1c2) (by decide +kernel) rfl rfl rfl (by decide +kernel)
set_option maxRecDepth 65536 in
theorem w_c1 : (Jvm.Cond.code ({ cls := "com/example/roam_mutex/roammutex/engine/Rank", name := "<init>", desc := "(DDI)V" } : Jvm.MethodName) prog_13_method_1_code (6 : Nat) (Option.none : Option Jvm.ClassFile.FieldType)).before args0 about1 = true := code_word (m := ⟨3, 0⟩) (meth := k3m0) (c := k3c0) (by decide +kernel) rfl rfl rfl (by decide +kernel)
set_option maxRecDepth 65536 in
theorem w_c2 : (Jvm.Cond.code ({ cls := "java/lang/Record", name := "<init>", desc := "()V" } : Jvm.MethodName) jdk_30_method_1_code (1 : Nat) (Option.none : Option Jvm.ClassFile.FieldType)).before args0 about1 = true := code_word (m := ⟨2, 0⟩) (meth := k2m0) (c := k2c0) (by decide +kernel) rfl rfl rfl (by decide +kernel)
set_option maxRecDepth 65536 in
theorem w_c3 : (Jvm.Cond.code ({ cls := "java/lang/Object", name := "<init>", desc := "()V" } : Jvm.MethodName) object_method_1_code (1 : Nat) (Option.none : Option Jvm.ClassFile.FieldType)).before args0 about1 = true := code_word (m := ⟨0, 0⟩) (meth := k0m0) (c := k0c0) (by decide +kernel) rfl rfl rfl (by decide +kernel)
set_option maxRecDepth 65536 in
theorem w_c4 : (Jvm.Cond.code ({ cls := "com/example/roam_mutex/roammutex/engine/RankOutranksPinLaw", name := "key", desc := "(III)J" } : Jvm.MethodName) method_2_code (9 : Nat) (Option.some Jvm.ClassFile.FieldType.long)).before args0 about1 = true := code_word (m := ⟨1, 1⟩) (meth := k1m1) (c := k1c1) (by decide +kernel) rfl rfl rfl (by decide +kernel)
set_option maxRecDepth 65536 in
theorem w_c5 : (Jvm.Cond.code ({ cls := "com/example/roam_mutex/roammutex/engine/Rank", name := "outranks", desc := "(Lcom/example/roam_mutex/roammutex/engine/Rank;)Z" } : Jvm.MethodName) prog_13_method_2_code (3 : Nat) (Option.some Jvm.ClassFile.FieldType.boolean)).before args0 about1 = true := code_word (m := ⟨3, 1⟩) (meth := k3m1) (c := k3c1) (by decide +kernel) rfl rfl rfl (by decide +kernel)
def codes1 : List Jvm.Cond := [Jvm.Cond.code x code maxLocals ret, Jvm.Cond.code ({ cls := "com/example/roam_mutex/roammutex/engine/Rank", name := "<init>", desc := "(DDI)V" } : Jvm.MethodName) prog_13_method_1_code (6 : Nat) (Option.none : Option Jvm.ClassFile.FieldType), Jvm.Cond.code ({ cls := "java/lang/Record", name := "<init>", desc := "()V" } : Jvm.MethodName) jdk_30_method_1_code (1 : Nat) (Option.none : Option Jvm.ClassFile.FieldType), Jvm.Cond.code ({ cls := "java/lang/Object", name := "<init>", desc := "()V" } : Jvm.MethodName) object_method_1_code (1 : Nat) (Option.none : Option Jvm.ClassFile.FieldType), Jvm.Cond.code ({ cls := "com/example/roam_mutex/roammutex/engine/RankOutranksPinLaw", name := "key", desc := "(III)J" } : Jvm.MethodName) method_2_code (9 : Nat) (Option.some Jvm.ClassFile.FieldType.long), Jvm.Cond.code ({ cls := "com/example/roam_mutex/roammutex/engine/Rank", name := "outranks", desc := "(Lcom/example/roam_mutex/roammutex/engine/Rank;)Z" } : Jvm.MethodName) prog_13_method_2_code (3 : Nat) (Option.some Jvm.ClassFile.FieldType.boolean)]
set_option maxRecDepth 65536 in
theorem codes_eq : words1.filter isCode = codes1 := rfl
theorem w_codes : ∀ c ∈ words1.filter isCode, c.before args0 about1 = true := by
  rw [codes_eq]
  intro c hc
  simp only [codes1, List.mem_cons, List.not_mem_nil, or_false] at hc
  rcases hc with rfl | rfl | rfl | rfl | rfl | rfl
  · exact w_c0
  · exact w_c1
  · exact w_c2
  · exact w_c3
  · exact w_c4
  · exact w_c5
set_option maxRecDepth 65536 in
theorem w_t1 : (words1.take 24).all (fun c => isCode c || c.before args0 about1) = true := by decide +kernel
set_option maxRecDepth 65536 in
theorem w_t2 : (words1.drop 24).all (fun c => isCode c || c.before args0 about1) = true := by decide +kernel
theorem w_tables : (allAtoms (Jvm.Cond.code x code maxLocals ret :: tables_1)).before args0 about1 = true := by
  rw [allAtoms_all]
  show words1.all (fun c => c.before args0 about1) = true
  refine all_split ?_ w_codes
  rw [← List.take_append_drop 24 words1, List.all_append, w_t1, w_t2]
  rfl
set_option maxRecDepth 65536 in
theorem w_case : (Jvm.Cond.and given_1 narrow_1).before args0 about1 = true := by decide +kernel
theorem w_applies : (headSpec (Jvm.Cond.code x code maxLocals ret :: tables_1) room_1).applies x e0.platform about1 = true :=
  (Spec.applies_iff w_frames).mpr ⟨w_running, w_runnable, w_alone, w_named, w_hears, w_ripe, w_room, w_tables⟩
theorem atStart : AtStart classFile x code maxLocals ret World_1 tables_1 room_1 Calls_1 rest_1 Pre_1 launch0 p0 e0 about1 theMethod args0 below0 :=
  ⟨lists_1, trivial, launch0.admits_env _ _ _, launch0.least_env, fairChoices_fair.cas, fairChoices_fair.clock, w_frames, w_args, w_heap, w_applies, trivial, trivial, w_case⟩
end start1
theorem witness_1 : WitnessClaimed_1 := ⟨start1.p0, start1.e0, start1.about1, start1.theMethod, start1.args0, start1.below0, start1.atStart⟩
end Jvm.Pilot.@@N@@
