import JvmDerived
import JvmDerived.Pilot.@@N@@Statement
import JvmDerived.Pilot.@@N@@Code
set_option linter.unusedVariables false
set_option linter.unusedSimpArgs false
namespace Jvm.Pilot.@@N@@
open Jvm Jvm.ClassFile Sem Op Lib Jvm.Free Jvm.Stand Jvm.LawKit Jvm.RoadKit Bundle Jvm.Pilot.@@N@@.Jvm.D
section OwnSteps
variable {tb : Tables} [Ours tb] {e : Env} {below : List Frame} {T target : State} {m : MethodId} {c : Code} {g : JFrame} {rest : List Value}
theorem Own.iadd (h : At T m c below) (hx : tb.exec = Jvm.exec) (hg : g.method = m) {x : Int32} {y : Int32} {z : Int32} (hd : decode c.code g.pc = .ok (.iadd, 1)) (hs : g.stack = .int y :: .int x :: rest) (hz : (x + y) = z)
    (hr : Steps tb e below (T.setTop { g with pc := g.pc + 1, stack := .int z :: rest }) target) : Steps tb e below (T.setTop g) target := XS.iadd h hx hg hd hs (by rw [show (x + y) = z from hz]; exact hr)
theorem Own.isub (h : At T m c below) (hx : tb.exec = Jvm.exec) (hg : g.method = m) {x : Int32} {y : Int32} {z : Int32} (hd : decode c.code g.pc = .ok (.isub, 1)) (hs : g.stack = .int y :: .int x :: rest) (hz : (x - y) = z)
    (hr : Steps tb e below (T.setTop { g with pc := g.pc + 1, stack := .int z :: rest }) target) : Steps tb e below (T.setTop g) target := XS.isub h hx hg hd hs (by rw [show (x - y) = z from hz]; exact hr)
theorem Own.imul (h : At T m c below) (hx : tb.exec = Jvm.exec) (hg : g.method = m) {x : Int32} {y : Int32} {z : Int32} (hd : decode c.code g.pc = .ok (.imul, 1)) (hs : g.stack = .int y :: .int x :: rest) (hz : (x * y) = z)
    (hr : Steps tb e below (T.setTop { g with pc := g.pc + 1, stack := .int z :: rest }) target) : Steps tb e below (T.setTop g) target := XS.imul h hx hg hd hs (by rw [show (x * y) = z from hz]; exact hr)
theorem Own.iand (h : At T m c below) (hx : tb.exec = Jvm.exec) (hg : g.method = m) {x : Int32} {y : Int32} {z : Int32} (hd : decode c.code g.pc = .ok (.iand, 1)) (hs : g.stack = .int y :: .int x :: rest) (hz : (x &&& y) = z)
    (hr : Steps tb e below (T.setTop { g with pc := g.pc + 1, stack := .int z :: rest }) target) : Steps tb e below (T.setTop g) target := XS.iand h hx hg hd hs (by rw [show (x &&& y) = z from hz]; exact hr)
theorem Own.ior (h : At T m c below) (hx : tb.exec = Jvm.exec) (hg : g.method = m) {x : Int32} {y : Int32} {z : Int32} (hd : decode c.code g.pc = .ok (.ior, 1)) (hs : g.stack = .int y :: .int x :: rest) (hz : (x ||| y) = z)
    (hr : Steps tb e below (T.setTop { g with pc := g.pc + 1, stack := .int z :: rest }) target) : Steps tb e below (T.setTop g) target := XS.ior h hx hg hd hs (by rw [show (x ||| y) = z from hz]; exact hr)
theorem Own.ixor (h : At T m c below) (hx : tb.exec = Jvm.exec) (hg : g.method = m) {x : Int32} {y : Int32} {z : Int32} (hd : decode c.code g.pc = .ok (.ixor, 1)) (hs : g.stack = .int y :: .int x :: rest) (hz : (x ^^^ y) = z)
    (hr : Steps tb e below (T.setTop { g with pc := g.pc + 1, stack := .int z :: rest }) target) : Steps tb e below (T.setTop g) target := XS.ixor h hx hg hd hs (by rw [show (x ^^^ y) = z from hz]; exact hr)
theorem Own.ishl (h : At T m c below) (hx : tb.exec = Jvm.exec) (hg : g.method = m) {x : Int32} {y : Int32} {z : Int32} (hd : decode c.code g.pc = .ok (.ishl, 1)) (hs : g.stack = .int y :: .int x :: rest) (hz : (x <<< (y &&& 31)) = z)
    (hr : Steps tb e below (T.setTop { g with pc := g.pc + 1, stack := .int z :: rest }) target) : Steps tb e below (T.setTop g) target := XS.ishl h hx hg hd hs (by rw [show (x <<< (y &&& 31)) = z from hz]; exact hr)
theorem Own.ishr (h : At T m c below) (hx : tb.exec = Jvm.exec) (hg : g.method = m) {x : Int32} {y : Int32} {z : Int32} (hd : decode c.code g.pc = .ok (.ishr, 1)) (hs : g.stack = .int y :: .int x :: rest) (hz : (x >>> (y &&& 31)) = z)
    (hr : Steps tb e below (T.setTop { g with pc := g.pc + 1, stack := .int z :: rest }) target) : Steps tb e below (T.setTop g) target := XS.ishr h hx hg hd hs (by rw [show (x >>> (y &&& 31)) = z from hz]; exact hr)
theorem Own.iushr (h : At T m c below) (hx : tb.exec = Jvm.exec) (hg : g.method = m) {x : Int32} {y : Int32} {z : Int32} (hd : decode c.code g.pc = .ok (.iushr, 1)) (hs : g.stack = .int y :: .int x :: rest) (hz : ((x.toUInt32 >>> (y &&& 31).toUInt32).toInt32) = z)
    (hr : Steps tb e below (T.setTop { g with pc := g.pc + 1, stack := .int z :: rest }) target) : Steps tb e below (T.setTop g) target := XS.iushr h hx hg hd hs (by rw [show ((x.toUInt32 >>> (y &&& 31).toUInt32).toInt32) = z from hz]; exact hr)
theorem Own.ladd (h : At T m c below) (hx : tb.exec = Jvm.exec) (hg : g.method = m) {x : Int64} {y : Int64} {z : Int64} (hd : decode c.code g.pc = .ok (.ladd, 1)) (hs : g.stack = .long y :: .long x :: rest) (hz : (x + y) = z)
    (hr : Steps tb e below (T.setTop { g with pc := g.pc + 1, stack := .long z :: rest }) target) : Steps tb e below (T.setTop g) target := XS.ladd h hx hg hd hs (by rw [show (x + y) = z from hz]; exact hr)
theorem Own.lsub (h : At T m c below) (hx : tb.exec = Jvm.exec) (hg : g.method = m) {x : Int64} {y : Int64} {z : Int64} (hd : decode c.code g.pc = .ok (.lsub, 1)) (hs : g.stack = .long y :: .long x :: rest) (hz : (x - y) = z)
    (hr : Steps tb e below (T.setTop { g with pc := g.pc + 1, stack := .long z :: rest }) target) : Steps tb e below (T.setTop g) target := XS.lsub h hx hg hd hs (by rw [show (x - y) = z from hz]; exact hr)
theorem Own.lmul (h : At T m c below) (hx : tb.exec = Jvm.exec) (hg : g.method = m) {x : Int64} {y : Int64} {z : Int64} (hd : decode c.code g.pc = .ok (.lmul, 1)) (hs : g.stack = .long y :: .long x :: rest) (hz : (x * y) = z)
    (hr : Steps tb e below (T.setTop { g with pc := g.pc + 1, stack := .long z :: rest }) target) : Steps tb e below (T.setTop g) target := XS.lmul h hx hg hd hs (by rw [show (x * y) = z from hz]; exact hr)
theorem Own.land (h : At T m c below) (hx : tb.exec = Jvm.exec) (hg : g.method = m) {x : Int64} {y : Int64} {z : Int64} (hd : decode c.code g.pc = .ok (.land, 1)) (hs : g.stack = .long y :: .long x :: rest) (hz : (x &&& y) = z)
    (hr : Steps tb e below (T.setTop { g with pc := g.pc + 1, stack := .long z :: rest }) target) : Steps tb e below (T.setTop g) target := XS.land h hx hg hd hs (by rw [show (x &&& y) = z from hz]; exact hr)
theorem Own.lor (h : At T m c below) (hx : tb.exec = Jvm.exec) (hg : g.method = m) {x : Int64} {y : Int64} {z : Int64} (hd : decode c.code g.pc = .ok (.lor, 1)) (hs : g.stack = .long y :: .long x :: rest) (hz : (x ||| y) = z)
    (hr : Steps tb e below (T.setTop { g with pc := g.pc + 1, stack := .long z :: rest }) target) : Steps tb e below (T.setTop g) target := XS.lor h hx hg hd hs (by rw [show (x ||| y) = z from hz]; exact hr)
theorem Own.lxor (h : At T m c below) (hx : tb.exec = Jvm.exec) (hg : g.method = m) {x : Int64} {y : Int64} {z : Int64} (hd : decode c.code g.pc = .ok (.lxor, 1)) (hs : g.stack = .long y :: .long x :: rest) (hz : (x ^^^ y) = z)
    (hr : Steps tb e below (T.setTop { g with pc := g.pc + 1, stack := .long z :: rest }) target) : Steps tb e below (T.setTop g) target := XS.lxor h hx hg hd hs (by rw [show (x ^^^ y) = z from hz]; exact hr)
theorem Own.lshl (h : At T m c below) (hx : tb.exec = Jvm.exec) (hg : g.method = m) {x : Int64} {y : Int32} {z : Int64} (hd : decode c.code g.pc = .ok (.lshl, 1)) (hs : g.stack = .int y :: .long x :: rest) (hz : (x <<< (y &&& 63).toInt64) = z)
    (hr : Steps tb e below (T.setTop { g with pc := g.pc + 1, stack := .long z :: rest }) target) : Steps tb e below (T.setTop g) target := XS.lshl h hx hg hd hs (by rw [show (x <<< (y &&& 63).toInt64) = z from hz]; exact hr)
theorem Own.lshr (h : At T m c below) (hx : tb.exec = Jvm.exec) (hg : g.method = m) {x : Int64} {y : Int32} {z : Int64} (hd : decode c.code g.pc = .ok (.lshr, 1)) (hs : g.stack = .int y :: .long x :: rest) (hz : (x >>> (y &&& 63).toInt64) = z)
    (hr : Steps tb e below (T.setTop { g with pc := g.pc + 1, stack := .long z :: rest }) target) : Steps tb e below (T.setTop g) target := XS.lshr h hx hg hd hs (by rw [show (x >>> (y &&& 63).toInt64) = z from hz]; exact hr)
theorem Own.lushr (h : At T m c below) (hx : tb.exec = Jvm.exec) (hg : g.method = m) {x : Int64} {y : Int32} {z : Int64} (hd : decode c.code g.pc = .ok (.lushr, 1)) (hs : g.stack = .int y :: .long x :: rest) (hz : ((x.toUInt64 >>> (y &&& 63).toInt64.toUInt64).toInt64) = z)
    (hr : Steps tb e below (T.setTop { g with pc := g.pc + 1, stack := .long z :: rest }) target) : Steps tb e below (T.setTop g) target := XS.lushr h hx hg hd hs (by rw [show ((x.toUInt64 >>> (y &&& 63).toInt64.toUInt64).toInt64) = z from hz]; exact hr)
theorem Own.lcmp (h : At T m c below) (hx : tb.exec = Jvm.exec) (hg : g.method = m) {x : Int64} {y : Int64} {z : Int32} (hd : decode c.code g.pc = .ok (.lcmp, 1)) (hs : g.stack = .long y :: .long x :: rest) (hz : lcmpW x y = z)
    (hr : Steps tb e below (T.setTop { g with pc := g.pc + 1, stack := .int z :: rest }) target) : Steps tb e below (T.setTop g) target := XS.lcmp h hx hg hd hs (by rw [show (if x > y then (1 : Int32) else if x = y then 0 else -1) = z from hz]; exact hr)
theorem Own.ineg (h : At T m c below) (hx : tb.exec = Jvm.exec) (hg : g.method = m) {x : Int32} {z : Int32} (hd : decode c.code g.pc = .ok (.ineg, 1)) (hs : g.stack = .int x :: rest) (hz : (-x) = z)
    (hr : Steps tb e below (T.setTop { g with pc := g.pc + 1, stack := .int z :: rest }) target) : Steps tb e below (T.setTop g) target := XS.ineg h hx hg hd hs (by rw [show (-x) = z from hz]; exact hr)
theorem Own.i2l (h : At T m c below) (hx : tb.exec = Jvm.exec) (hg : g.method = m) {x : Int32} {z : Int64} (hd : decode c.code g.pc = .ok (.i2l, 1)) (hs : g.stack = .int x :: rest) (hz : (x.toInt64) = z)
    (hr : Steps tb e below (T.setTop { g with pc := g.pc + 1, stack := .long z :: rest }) target) : Steps tb e below (T.setTop g) target := XS.i2l h hx hg hd hs (by rw [show (x.toInt64) = z from hz]; exact hr)
theorem Own.i2b (h : At T m c below) (hx : tb.exec = Jvm.exec) (hg : g.method = m) {x : Int32} {z : Int32} (hd : decode c.code g.pc = .ok (.i2b, 1)) (hs : g.stack = .int x :: rest) (hz : (x.toInt8.toInt32) = z)
    (hr : Steps tb e below (T.setTop { g with pc := g.pc + 1, stack := .int z :: rest }) target) : Steps tb e below (T.setTop g) target := XS.i2b h hx hg hd hs (by rw [show (x.toInt8.toInt32) = z from hz]; exact hr)
theorem Own.i2c (h : At T m c below) (hx : tb.exec = Jvm.exec) (hg : g.method = m) {x : Int32} {z : Int32} (hd : decode c.code g.pc = .ok (.i2c, 1)) (hs : g.stack = .int x :: rest) (hz : (x.toUInt32.toUInt16.toUInt32.toInt32) = z)
    (hr : Steps tb e below (T.setTop { g with pc := g.pc + 1, stack := .int z :: rest }) target) : Steps tb e below (T.setTop g) target := XS.i2c h hx hg hd hs (by rw [show (x.toUInt32.toUInt16.toUInt32.toInt32) = z from hz]; exact hr)
theorem Own.i2s (h : At T m c below) (hx : tb.exec = Jvm.exec) (hg : g.method = m) {x : Int32} {z : Int32} (hd : decode c.code g.pc = .ok (.i2s, 1)) (hs : g.stack = .int x :: rest) (hz : (x.toInt16.toInt32) = z)
    (hr : Steps tb e below (T.setTop { g with pc := g.pc + 1, stack := .int z :: rest }) target) : Steps tb e below (T.setTop g) target := XS.i2s h hx hg hd hs (by rw [show (x.toInt16.toInt32) = z from hz]; exact hr)
theorem Own.lneg (h : At T m c below) (hx : tb.exec = Jvm.exec) (hg : g.method = m) {x : Int64} {z : Int64} (hd : decode c.code g.pc = .ok (.lneg, 1)) (hs : g.stack = .long x :: rest) (hz : (-x) = z)
    (hr : Steps tb e below (T.setTop { g with pc := g.pc + 1, stack := .long z :: rest }) target) : Steps tb e below (T.setTop g) target := XS.lneg h hx hg hd hs (by rw [show (-x) = z from hz]; exact hr)
theorem Own.l2i (h : At T m c below) (hx : tb.exec = Jvm.exec) (hg : g.method = m) {x : Int64} {z : Int32} (hd : decode c.code g.pc = .ok (.l2i, 1)) (hs : g.stack = .long x :: rest) (hz : (x.toInt32) = z)
    (hr : Steps tb e below (T.setTop { g with pc := g.pc + 1, stack := .int z :: rest }) target) : Steps tb e below (T.setTop g) target := XS.l2i h hx hg hd hs (by rw [show (x.toInt32) = z from hz]; exact hr)
theorem Own.idiv (h : At T m c below) (hx : tb.exec = Jvm.exec) (hg : g.method = m) {x y z : Int32} (hd : decode c.code g.pc = .ok (.idiv, 1)) (hs : g.stack = .int y :: .int x :: rest) (hy : y ≠ 0) (hz : x / y = z)
    (hr : Steps tb e below (T.setTop { g with pc := g.pc + 1, stack := .int z :: rest }) target) : Steps tb e below (T.setTop g) target := XS.idiv h hx hg hd hs hy (by rw [hz]; exact hr)
theorem Own.iinc (h : At T m c below) (hx : tb.exec = Jvm.exec) (hg : g.method = m) {k : Nat} {cst : Int} {x z : Int32} {l' : Array Slot} (hd : decode c.code g.pc = .ok (.iinc k cst, 3)) (hl : g.locals[k]? = some (.val (.int x))) (hz : x + Int32.ofInt cst = z) (hl' : storeLocals g.locals k (.int z) = some l')
    (hr : Steps tb e below (T.setTop { g with pc := g.pc + 3, locals := l' }) target) : Steps tb e below (T.setTop g) target := XS.iinc h hx hg hd hl (by rw [hz]; exact hl') hr
theorem Own.iload (h : At T m c below) (hx : tb.exec = Jvm.exec) (hg : g.method = m) {k : Nat} {v z : Int32} (hd : decode c.code g.pc = .ok (.iload k, 2)) (hl : g.locals[k]? = some (.val (.int v))) (hz : v = z)
    (hr : Steps tb e below (T.setTop { g with pc := g.pc + 2, stack := .int z :: g.stack }) target) : Steps tb e below (T.setTop g) target := XS.iload h hx hg hd hl (by rw [hz]; exact hr)
theorem Own.iloadN (h : At T m c below) (hx : tb.exec = Jvm.exec) (hg : g.method = m) {k : Fin 4} {v z : Int32} (hd : decode c.code g.pc = .ok (.iload_n k, 1)) (hl : g.locals[k.val]? = some (.val (.int v))) (hz : v = z)
    (hr : Steps tb e below (T.setTop { g with pc := g.pc + 1, stack := .int z :: g.stack }) target) : Steps tb e below (T.setTop g) target := XS.iloadN h hx hg hd hl (by rw [hz]; exact hr)
end OwnSteps
theorem own_irem {p : Program} {l : Launch} {e : Env} {R : Room} {s : State} {m : MethodId} {args : Array Value} {below : List Frame} {meth : Method} {c : Code} {T : State} {locs : List Loc} {cells slots : Nat} {g : JFrame} {target : State} (X : Stand p l e R s m args below meth c T locs cells slots) (hx : p.tables.exec = Jvm.exec) (hg : g.method = m) {x y z : Int32} {rest : List Value} (hd : decode c.code g.pc = .ok (.irem, 1)) (hs : g.stack = .int y :: .int x :: rest) (hy : y ≠ 0) (hz : x % y = z)
    (hr : Steps p.tables e below (T.setTop { g with pc := g.pc + 1, stack := .int z :: rest }) target) : Steps p.tables e below (T.setTop g) target := iremM X hx hg hd hs hy (by rw [hz]; exact hr)
section OwnCalls
variable {p : Program} {l : Launch} {e : Env} {R : Room} {s : State} {m : MethodId} {args : Array Value} {below : List Frame} {meth : Method} {c : Code} {T : State} {locs : List Loc} {cells slots : Nat} {Z : State} {a0 : Array Value} {h : Heap}
theorem own_callS (X : Stand p l e R s m args below meth c T locs cells slots) (hx : p.tables.exec = Jvm.exec) (hZ : Z.Warmed39 s.vm) {own : String} {index W maxL : Nat} {y : MethodName} {bytes : ByteArray} {ret : Option FieldType} {rm : Room} {as' : Array Value} {Q : Option Value → Heap → List Loc → Prop}
    (hown : s.vm.findClass own = some m.cls) (w1 : (Jvm.Cond.methodLink own index y).before a0 Z = true) (w2 : (Jvm.Cond.static y).before a0 Z = true) (w3 : (Jvm.Cond.initialized y.cls).before a0 Z = true) (w4 : (Jvm.Cond.code y bytes maxL ret).before a0 Z = true) (hy : y.cls ≠ "java/lang/invoke/MethodHandle" ∧ y.cls ≠ "java/lang/invoke/VarHandle")
    (hM : MetFree l y (head1 [Jvm.Cond.code y bytes maxL ret] rm) (fun a U => a = as' ∧ Z.Warmed39 U.vm ∧ U.heap = h) (fun _ _ _ _ _ => True) (fun _ U o U' => ∃ v L, o = .returned v ∧ Q v U'.heap L ∧ FrameEnd U o U' L rm.cells rm.slots)) (eT : T.heap = h)
    {g : JFrame} (hg : g.method = m) (hsize : g.locals.size = c.maxLocals) {argsL rest : List Value} (hlen : ∀ sig, parseMethodDescriptor y.desc = some sig → argsL.length = sig.parameters.length) (hstack : g.stack = argsL.reverse ++ rest) (has : argsL.toArray = as') (hW : 2 * g.monitorRoom + (rest.map fun v => v.category).sum ≤ W)
    (hdg : decode c.code g.pc = .ok (.invokestatic index, 3)) (hf : rm.frames + 1 ≤ R.frames) (hl : W + (maxL + 11) + rm.locals ≤ R.locals) (hc : cells + rm.cells ≤ R.cells) (hs : slots + rm.slots ≤ R.slots) :
    ∃ (v : Option Value) (T' : State) (L : List Loc), Q v T'.heap L ∧ Stand p l e R s m args below meth c T' (locs ++ L) (cells + rm.cells) (slots + rm.slots) ∧ ∀ target, Steps p.tables e below (T'.setTop { g with pc := g.pc + 3, stack := v.toList ++ rest }) target → Steps p.tables e below (T.setTop g) target := by
  obtain ⟨v, _, ⟨T', L', c', s'⟩, -, X', ⟨L, hq, e1, e2, e3⟩, st⟩ := Jvm.LawKit.callS X hx hown (mvT hZ w1) (mvT hZ w2) (mvT hZ w3) (mvT hZ w4) hy (backOf (W := W) hM hZ w4 w3 hf hl) hg hsize hlen hstack hW hdg (fun _ _ => ⟨has, eT, hc, hs⟩)
  subst e1 e2 e3
  exact ⟨v, T', L, hq, X', st⟩
theorem own_special (X : Stand p l e R s m args below meth c T locs cells slots) (hx : p.tables.exec = Jvm.exec) (hZ : Z.Warmed39 s.vm) {own : String} {index W maxL : Nat} {y : MethodName} {bytes : ByteArray} {rm : Room} {as' : Array Value} {Q : Option Value → Heap → List Loc → Prop} (hy1 : y.name = "<init>")
    (hown : s.vm.findClass own = some m.cls) (w1 : (Jvm.Cond.methodLink own index y).before a0 Z = true) (w2 : (Jvm.Cond.instanceMethod y).before a0 Z = true) (w3 : (Jvm.Cond.initialized y.cls).before a0 Z = true) (w4 : (Jvm.Cond.code y bytes maxL none).before a0 Z = true) (hy : y.cls ≠ "java/lang/invoke/MethodHandle" ∧ y.cls ≠ "java/lang/invoke/VarHandle")
    (hM : MetFree l y (head1 [Jvm.Cond.code y bytes maxL none] rm) (fun a U => a = as' ∧ Z.Warmed39 U.vm ∧ U.heap = h) (fun _ _ _ _ _ => True) (fun _ U o U' => ∃ v L, o = .returned v ∧ Q v U'.heap L ∧ FrameEnd U o U' L rm.cells rm.slots)) (eT : T.heap = h)
    {g : JFrame} (hg : g.method = m) (hsize : g.locals.size = c.maxLocals) {a : Addr} {argsL rest : List Value} (hlen : ∀ sig, parseMethodDescriptor y.desc = some sig → argsL.length = sig.parameters.length) (hstack : g.stack = argsL.reverse ++ .ref a :: rest) (has : (.ref a :: argsL).toArray = as') (hW : 2 * g.monitorRoom + (rest.map fun v => v.category).sum ≤ W)
    (hdg : decode c.code g.pc = .ok (.invokespecial index, 3)) (hf : rm.frames + 1 ≤ R.frames) (hl : W + (maxL + 11) + rm.locals ≤ R.locals) (hc : cells + rm.cells ≤ R.cells) (hs : slots + rm.slots ≤ R.slots) :
    ∃ (v : Option Value) (T' : State) (L : List Loc), Q v T'.heap L ∧ Stand p l e R s m args below meth c T' (locs ++ L) (cells + rm.cells) (slots + rm.slots) ∧ ∀ target, Steps p.tables e below (T'.setTop { g with pc := g.pc + 3, stack := v.toList ++ rest }) target → Steps p.tables e below (T.setTop g) target := by
  obtain ⟨v, _, ⟨T', L', c', s'⟩, -, X', ⟨L, hq, e1, e2, e3⟩, st⟩ := X.specialBack hx hy1 hown (mvT hZ w1) (mvT hZ w2) (mvT hZ w4) hy (backOf (W := W) hM hZ w4 w3 hf hl) hg hsize (Steps.refl _) hlen hstack hW hdg (fun _ _ => ⟨has, eT, hc, hs⟩)
  subst e1 e2 e3
  exact ⟨v, T', L, hq, X', fun _ k => st.trans k⟩
theorem own_virtual (X : Stand p l e R s m args below meth c T locs cells slots) (hx : p.tables.exec = Jvm.exec) (hZ : Z.Warmed39 s.vm) {own C : String} {index W maxL : Nat} {y z : MethodName} {bytes : ByteArray} {ret : Option FieldType} {rm : Room} {as' : Array Value} {Q : Option Value → Heap → List Loc → Prop}
    (hown : s.vm.findClass own = some m.cls) (w1 : (Jvm.Cond.methodLink own index y).before a0 Z = true) (w2 : (Jvm.Cond.declares y).before a0 Z = true) (nf : NotFace s y) (w5 : (Jvm.Cond.selects C y z).before a0 Z = true) (w6 : (Jvm.Cond.instanceMethod z).before a0 Z = true) (w3 : (Jvm.Cond.initialized z.cls).before a0 Z = true) (w4 : (Jvm.Cond.code z bytes maxL ret).before a0 Z = true) (hy : y.cls ≠ "java/lang/invoke/MethodHandle" ∧ y.cls ≠ "java/lang/invoke/VarHandle")
    (hM : MetFree l z (head1 [Jvm.Cond.code z bytes maxL ret] rm) (fun a U => a = as' ∧ Z.Warmed39 U.vm ∧ U.heap = h) (fun _ _ _ _ _ => True) (fun _ U o U' => ∃ v L, o = .returned v ∧ Q v U'.heap L ∧ FrameEnd U o U' L rm.cells rm.slots)) (eT : T.heap = h) {b : Addr} (E : Exa Z h b C)
    {g : JFrame} (hg : g.method = m) (hsize : g.locals.size = c.maxLocals) {argsL rest : List Value} (hlen : ∀ sig, parseMethodDescriptor y.desc = some sig → argsL.length = sig.parameters.length) (hstack : g.stack = argsL.reverse ++ .ref b :: rest) (has : (.ref b :: argsL).toArray = as') (hW : 2 * g.monitorRoom + (rest.map fun v => v.category).sum ≤ W)
    (hdg : decode c.code g.pc = .ok (.invokevirtual index, 3)) (hf : rm.frames + 1 ≤ R.frames) (hl : W + (maxL + 11) + rm.locals ≤ R.locals) (hc : cells + rm.cells ≤ R.cells) (hs : slots + rm.slots ≤ R.slots) :
    ∃ (v : Option Value) (T' : State) (L : List Loc), Q v T'.heap L ∧ Stand p l e R s m args below meth c T' (locs ++ L) (cells + rm.cells) (slots + rm.slots) ∧ ∀ target, Steps p.tables e below (T'.setTop { g with pc := g.pc + 3, stack := v.toList ++ rest }) target → Steps p.tables e below (T.setTop g) target := by
  obtain ⟨cB, kB, qa, qb, qc⟩ := isOf hZ eT E
  obtain ⟨v, _, ⟨T', L', c', s'⟩, -, X', ⟨L, hq, e1, e2, e3⟩, st⟩ := X.virtualBack hx hown (mvT hZ w1) (mvT hZ w2) nf (mvT hZ w5) (mvT hZ w6) hy (backOf (W := W) hM hZ w4 w3 hf hl) qa qc hg hsize (Steps.refl _) hlen hstack hW hdg (fun _ _ => ⟨has, eT, hc, hs⟩)
  subst e1 e2 e3
  exact ⟨v, T', L, hq, X', fun _ k => st.trans k⟩
theorem own_virtualUp (X : Stand p l e R s m args below meth c T locs cells slots) (hx : p.tables.exec = Jvm.exec) (hZ : Z.Warmed39 s.vm) {own C owner : String} {index W maxL : Nat} {y z : MethodName} {bytes : ByteArray} {ret : Option FieldType} {rm : Room} {as' : Array Value} {Q : Option Value → Heap → List Loc → Prop}
    (hown : s.vm.findClass own = some m.cls) (w1 : (Jvm.Cond.methodLink own index y).before a0 Z = true) (w7 : (Jvm.Cond.sameMethod y.cls owner y.name y.desc).before a0 Z = true) (w2 : (Jvm.Cond.declares ⟨owner, y.name, y.desc⟩).before a0 Z = true) (hy : owner ≠ "java/lang/invoke/MethodHandle" ∧ owner ≠ "java/lang/invoke/VarHandle") (w5 : (Jvm.Cond.selects C y z).before a0 Z = true) (w6 : (Jvm.Cond.instanceMethod z).before a0 Z = true) (w3 : (Jvm.Cond.initialized z.cls).before a0 Z = true) (w4 : (Jvm.Cond.code z bytes maxL ret).before a0 Z = true)
    (hM : MetFree l z (head1 [Jvm.Cond.code z bytes maxL ret] rm) (fun a U => a = as' ∧ Z.Warmed39 U.vm ∧ U.heap = h) (fun _ _ _ _ _ => True) (fun _ U o U' => ∃ v L, o = .returned v ∧ Q v U'.heap L ∧ FrameEnd U o U' L rm.cells rm.slots)) (eT : T.heap = h) {b : Addr} (E : Exa Z h b C)
    {g : JFrame} (hg : g.method = m) (hsize : g.locals.size = c.maxLocals) {argsL rest : List Value} (hlen : ∀ sig, parseMethodDescriptor y.desc = some sig → argsL.length = sig.parameters.length) (hstack : g.stack = argsL.reverse ++ .ref b :: rest) (has : (.ref b :: argsL).toArray = as') (hW : 2 * g.monitorRoom + (rest.map fun v => v.category).sum ≤ W)
    (hdg : decode c.code g.pc = .ok (.invokevirtual index, 3)) (hf : rm.frames + 1 ≤ R.frames) (hl : W + (maxL + 11) + rm.locals ≤ R.locals) (hc : cells + rm.cells ≤ R.cells) (hs : slots + rm.slots ≤ R.slots) :
    ∃ (v : Option Value) (T' : State) (L : List Loc), Q v T'.heap L ∧ Stand p l e R s m args below meth c T' (locs ++ L) (cells + rm.cells) (slots + rm.slots) ∧ ∀ target, Steps p.tables e below (T'.setTop { g with pc := g.pc + 3, stack := v.toList ++ rest }) target → Steps p.tables e below (T.setTop g) target := by
  obtain ⟨cB, kB, qa, qb, qc⟩ := isOf hZ eT E
  obtain ⟨v, _, ⟨T', L', c', s'⟩, -, X', ⟨L, hq, e1, e2, e3⟩, st⟩ := X.virtualBackUp hx (owner := owner) hown (mvT hZ w1) (mvT hZ w7) (mvT hZ w2) hy (mvT hZ w5) (mvT hZ w6) (backOf (W := W) hM hZ w4 w3 hf hl) qa qc hg hsize (Steps.refl _) hlen hstack hW hdg (fun _ _ => ⟨has, eT, hc, hs⟩)
  subst e1 e2 e3
  exact ⟨v, T', L, hq, X', fun _ k => st.trans k⟩
theorem own_iface (X : Stand p l e R s m args below meth c T locs cells slots) (hx : p.tables.exec = Jvm.exec) (hZ : Z.Warmed39 s.vm) {own C : String} {index count W maxL : Nat} {y z : MethodName} {bytes : ByteArray} {ret : Option FieldType} {rm : Room} {as' : Array Value} {Q : Option Value → Heap → List Loc → Prop}
    (hown : s.vm.findClass own = some m.cls) (w1 : (Jvm.Cond.methodLink own index y).before a0 Z = true) (w2 : (Jvm.Cond.declares y).before a0 Z = true) (w7 : (Jvm.Cond.interfaceMethod y.cls y.cls y.name y.desc).before args s = true) (w5 : (Jvm.Cond.selects C y z).before a0 Z = true) (w6 : (Jvm.Cond.instanceMethod z).before a0 Z = true) (w8 : (Jvm.Cond.publicMethod z).before args s = true) (w9 : (Jvm.Cond.unhidden C y.name y.desc).before args s = true) (w10 : (Jvm.Cond.castable C y.cls).before a0 Z = true) (w3 : (Jvm.Cond.initialized z.cls).before a0 Z = true) (w4 : (Jvm.Cond.code z bytes maxL ret).before a0 Z = true) (hy : y.cls ≠ "java/lang/invoke/MethodHandle" ∧ y.cls ≠ "java/lang/invoke/VarHandle")
    (hM : MetFree l z (head1 [Jvm.Cond.code z bytes maxL ret] rm) (fun a U => a = as' ∧ Z.Warmed39 U.vm ∧ U.heap = h) (fun _ _ _ _ _ => True) (fun _ U o U' => ∃ v L, o = .returned v ∧ Q v U'.heap L ∧ FrameEnd U o U' L rm.cells rm.slots)) (eT : T.heap = h) {b : Addr} (E : Exa Z h b C)
    {g : JFrame} (hg : g.method = m) (hsize : g.locals.size = c.maxLocals) {argsL rest : List Value} (hlen : ∀ sig, parseMethodDescriptor y.desc = some sig → argsL.length = sig.parameters.length) (hstack : g.stack = argsL.reverse ++ .ref b :: rest) (has : (.ref b :: argsL).toArray = as') (hW : 2 * g.monitorRoom + (rest.map fun v => v.category).sum ≤ W)
    (hdg : decode c.code g.pc = .ok (.invokeinterface index count, 5)) (hf : rm.frames + 1 ≤ R.frames) (hl : W + (maxL + 11) + rm.locals ≤ R.locals) (hc : cells + rm.cells ≤ R.cells) (hs : slots + rm.slots ≤ R.slots) :
    ∃ (v : Option Value) (T' : State) (L : List Loc), Q v T'.heap L ∧ Stand p l e R s m args below meth c T' (locs ++ L) (cells + rm.cells) (slots + rm.slots) ∧ ∀ target, Steps p.tables e below (T'.setTop { g with pc := g.pc + 5, stack := v.toList ++ rest }) target → Steps p.tables e below (T.setTop g) target := by
  obtain ⟨cB, kB, qa, qb, qc⟩ := isOf hZ eT E
  obtain ⟨v, _, ⟨T', L', c', s'⟩, -, X', ⟨L, hq, e1, e2, e3⟩, st⟩ := X.interfaceBack hx hown (mvT hZ w1) (mvT hZ w2) w7 (mvT hZ w5) (mvT hZ w6) w8 w9 (mvT hZ w10) hy (backOf (W := W) hM hZ w4 w3 hf hl) qa qb qc hg hsize (Steps.refl _) hlen hstack hW hdg (fun _ _ => ⟨has, eT, hc, hs⟩)
  subst e1 e2 e3
  exact ⟨v, T', L, hq, X', fun _ k => st.trans k⟩
theorem own_private (X : Stand p l e R s m args below meth c T locs cells slots) (hx : p.tables.exec = Jvm.exec) (hZ : Z.Warmed39 s.vm) {own K : String} {index W maxL : Nat} {y : MethodName} {bytes : ByteArray} {ret : Option FieldType} {rm : Room} {as' : Array Value} {Q : Option Value → Heap → List Loc → Prop}
    (hown : s.vm.findClass own = some m.cls) (w1 : (Jvm.Cond.methodLink own index y).before a0 Z = true) (w2 : (Jvm.Cond.instanceMethod y).before a0 Z = true) (hsel : (Jvm.Cond.selects y.cls y y).before args s = true) (w6 : (Jvm.Cond.privateMethod y).before a0 Z = true) (w3 : (Jvm.Cond.initialized y.cls).before a0 Z = true) (w4 : (Jvm.Cond.code y bytes maxL ret).before a0 Z = true) (hy : y.cls ≠ "java/lang/invoke/MethodHandle" ∧ y.cls ≠ "java/lang/invoke/VarHandle")
    (hM : MetFree l y (head1 [Jvm.Cond.code y bytes maxL ret] rm) (fun a U => a = as' ∧ Z.Warmed39 U.vm ∧ U.heap = h) (fun _ _ _ _ _ => True) (fun _ U o U' => ∃ v L, o = .returned v ∧ Q v U'.heap L ∧ FrameEnd U o U' L rm.cells rm.slots)) (eT : T.heap = h) {b : Addr} (E : Exa Z h b K)
    {g : JFrame} (hg : g.method = m) (hsize : g.locals.size = c.maxLocals) {argsL rest : List Value} (hlen : ∀ sig, parseMethodDescriptor y.desc = some sig → argsL.length = sig.parameters.length) (hstack : g.stack = argsL.reverse ++ .ref b :: rest) (has : (.ref b :: argsL).toArray = as') (hW : 2 * g.monitorRoom + (rest.map fun v => v.category).sum ≤ W)
    (hdg : decode c.code g.pc = .ok (.invokevirtual index, 3)) (hf : rm.frames + 1 ≤ R.frames) (hl : W + (maxL + 11) + rm.locals ≤ R.locals) (hc : cells + rm.cells ≤ R.cells) (hs : slots + rm.slots ≤ R.slots) :
    ∃ (v : Option Value) (T' : State) (L : List Loc), Q v T'.heap L ∧ Stand p l e R s m args below meth c T' (locs ++ L) (cells + rm.cells) (slots + rm.slots) ∧ ∀ target, Steps p.tables e below (T'.setTop { g with pc := g.pc + 3, stack := v.toList ++ rest }) target → Steps p.tables e below (T.setTop g) target := by
  obtain ⟨cq, q, q'⟩ := E.cell
  obtain ⟨v, _, ⟨T', L', c', s'⟩, -, X', ⟨L, hq, e1, e2, e3⟩, st⟩ := X.privateBack hx hown (mvT hZ w1) (mvT hZ w2) hsel (Cond.privateMethod_at (mvP hZ w6 (args := #[]))) (mvT hZ w4) hy (backOf (W := W) hM hZ w4 w3 hf hl) hg hsize (Steps.refl _) (by rw [eT]; exact q) q' hlen hstack hW hdg (fun _ _ => ⟨has, eT, hc, hs⟩)
  subst e1 e2 e3
  exact ⟨v, T', L, hq, X', fun _ k => st.trans k⟩
theorem own_super (X : Stand p l e R s m args below meth c T locs cells slots) (hx : p.tables.exec = Jvm.exec) (hZ : Z.Warmed39 s.vm) {own K : String} {index W maxL : Nat} {y : MethodName} {bytes : ByteArray} {ret : Option FieldType} {rm : Room} {as' : Array Value} {Q : Option Value → Heap → List Loc → Prop}
    (hown : s.vm.findClass own = some m.cls) (w1 : (Jvm.Cond.methodLink own index y).before a0 Z = true) (w2 : (Jvm.Cond.sameMethod y.cls y.cls y.name y.desc).before a0 Z = true) (w5 : (Jvm.Cond.instanceMethod y).before a0 Z = true) (w6 : (Jvm.Cond.superclass own y.cls).before a0 Z = true) (hn : y.name ≠ "<init>") (w3 : (Jvm.Cond.initialized y.cls).before a0 Z = true) (w4 : (Jvm.Cond.code y bytes maxL ret).before a0 Z = true)
    (hM : MetFree l y (head1 [Jvm.Cond.code y bytes maxL ret] rm) (fun a U => a = as' ∧ Z.Warmed39 U.vm ∧ U.heap = h) (fun _ _ _ _ _ => True) (fun _ U o U' => ∃ v L, o = .returned v ∧ Q v U'.heap L ∧ FrameEnd U o U' L rm.cells rm.slots)) (eT : T.heap = h) {b : Addr} (E : Exa Z h b K)
    {g : JFrame} (hg : g.method = m) (hsize : g.locals.size = c.maxLocals) {argsL rest : List Value} (hlen : ∀ sig, parseMethodDescriptor y.desc = some sig → argsL.length = sig.parameters.length) (hstack : g.stack = argsL.reverse ++ .ref b :: rest) (has : (.ref b :: argsL).toArray = as') (hW : 2 * g.monitorRoom + (rest.map fun v => v.category).sum ≤ W)
    (hdg : decode c.code g.pc = .ok (.invokespecial index, 3)) (hf : rm.frames + 1 ≤ R.frames) (hl : W + (maxL + 11) + rm.locals ≤ R.locals) (hc : cells + rm.cells ≤ R.cells) (hs : slots + rm.slots ≤ R.slots) :
    ∃ (v : Option Value) (T' : State) (L : List Loc), Q v T'.heap L ∧ Stand p l e R s m args below meth c T' (locs ++ L) (cells + rm.cells) (slots + rm.slots) ∧ ∀ target, Steps p.tables e below (T'.setTop { g with pc := g.pc + 3, stack := v.toList ++ rest }) target → Steps p.tables e below (T.setTop g) target := by
  obtain ⟨v, _, ⟨T', L', c', s'⟩, -, X', ⟨L, hq, e1, e2, e3⟩, st⟩ := superBack X hx hZ hown w1 w2 w5 w6 hn (backOf (W := W) hM hZ w4 w3 hf hl) eT (Ins.self E) hg hsize w4 hlen hstack hW hdg (fun _ _ => ⟨has, eT, hc, hs⟩)
  subst e1 e2 e3
  exact ⟨v, T', L, hq, X', fun _ k => st.trans k⟩
end OwnCalls
section OwnHeap
variable {p : Program} {l : Launch} {e : Env} {R : Room} {s : State} {m : MethodId} {args : Array Value} {below : List Frame} {meth : Method} {c : Code} {T : State} {locs : List Loc} {cells slots : Nat} {Z : State} {a0 : Array Value} {h h0 : Heap} {n0 : Nat} {ws : List Addr}
theorem own_newO (X : Stand p l e R s m args below meth c T locs cells slots) (hx : p.tables.exec = Jvm.exec) (hZ : Z.Warmed39 s.vm) {own C : String} {index n : Nat} (hown : s.vm.findClass own = some m.cls) (w : (Jvm.Cond.classLink own index C).before a0 Z = true) (wi : (Jvm.Cond.instantiable C n).before a0 Z = true) (wz : (Jvm.Cond.initialized C).before a0 Z = true) (eT : T.heap = h) (O : Old Z n0 h) (K : Keep h0 h ws)
    {g : JFrame} (hg : g.method = m) (hd : decode c.code g.pc = .ok (.new index, 3)) (hc : cells + 1 ≤ R.cells) (hl : slots + n ≤ R.slots) :
    ∃ (T' : State) (h' : Heap) (b : Addr), Stand p l e R s m args below meth c T' locs (cells + 1) (slots + n) ∧ T'.heap = h' ∧ Ext h h' ∧ Exa Z h' b C ∧ (∀ {O nm d : String} {ty : FieldType}, Laid Z a0 C O nm d → parseFieldDescriptor d = some ty → Fld Z h' b O nm d (defaultValue ty)) ∧ h.size ≤ b ∧ Old Z n0 h' ∧ Keep h0 h' ws ∧
      ∀ target, Steps p.tables e below (T'.setTop { g with pc := g.pc + 3, stack := .ref b :: g.stack }) target → Steps p.tables e below (T.setTop g) target := by
  obtain ⟨T', h', X', e', E', A', D', -, st⟩ := newO X hx hZ hown w wi wz eT hg hd hc hl
  exact ⟨T', h', h.size, X', e', E', A', D', Nat.le_refl _, O.ext E', K.ext E', st⟩
theorem own_newP (X : Stand p l e R s m args below meth c T locs cells slots) (hx : p.tables.exec = Jvm.exec) (hZ : Z.Warmed39 s.vm) {aty : ArrayType} {ty : FieldType} {dv : Value} {vs : List Value} {cap : Nat} (hty : newarray.typeOf aty = ty) (hdv : defaultValue ty = dv) (hvs : List.replicate cap dv = vs) (w : (Jvm.Cond.arrayClass ty).before a0 Z = true) (eT : T.heap = h) (O : Old Z n0 h) (K : Keep h0 h ws) {g : JFrame} (hg : g.method = m) (hd : decode c.code g.pc = .ok (.newarray aty, 2)) {n : Int32} {rest : List Value} (hs : g.stack = .int n :: rest)
    (hn : ¬ n < 0) (hcap : n.toNatClampNeg ≤ cap) (hb : cap * 8 ≤ 536870912) (hc : cells + 1 ≤ R.cells) (hl : slots + cap ≤ R.slots) :
    ∃ (T' : State) (h' : Heap) (k : ClassId) (b : Addr), Stand p l e R s m args below meth c T' locs (cells + 1) (slots + cap) ∧ T'.heap = h' ∧ Ext h h' ∧ Arv Z h' b k ty n vs dv ∧ h.size ≤ b ∧ Old Z n0 h' ∧ Keep h0 h' ws ∧
      ∀ target, Steps p.tables e below (T'.setTop { g with pc := g.pc + 2, stack := .ref b :: rest }) target → Steps p.tables e below (T.setTop g) target := by
  subst hty hdv hvs
  obtain ⟨T', h', k, X', e', E', A', st⟩ := newP X hx hZ w eT hg hd hs hn hcap hb hc hl
  exact ⟨T', h', k, h.size, X', e', E', (Arv.new A' hn).pad (pad_rep [] _ cap), Nat.le_refl _, O.ext E', K.ext E', st⟩
theorem own_newR (X : Stand p l e R s m args below meth c T locs cells slots) (hx : p.tables.exec = Jvm.exec) (hZ : Z.Warmed39 s.vm) {own C : String} {index cap : Nat} {vs : List Value} (hvs : List.replicate cap .null = vs) (hown : s.vm.findClass own = some m.cls) (w1 : (Jvm.Cond.classLink own index C).before a0 Z = true) (w2 : (Jvm.Cond.arrayOver (.object C)).before a0 Z = true) (eT : T.heap = h) (O : Old Z n0 h) (K : Keep h0 h ws) {g : JFrame} (hg : g.method = m) (hd : decode c.code g.pc = .ok (.anewarray index, 3)) {n : Int32} {rest : List Value} (hs : g.stack = .int n :: rest)
    (hn : ¬ n < 0) (hcap : n.toNatClampNeg ≤ cap) (hb : cap * 8 ≤ 536870912) (hc : cells + 1 ≤ R.cells) (hl : slots + cap ≤ R.slots) :
    ∃ (T' : State) (h' : Heap) (k : ClassId) (b : Addr), Stand p l e R s m args below meth c T' locs (cells + 1) (slots + cap) ∧ T'.heap = h' ∧ Ext h h' ∧ Arv Z h' b k (.object C) n vs .null ∧ Ovr Z k C ∧ h.size ≤ b ∧ Old Z n0 h' ∧ Keep h0 h' ws ∧
      ∀ target, Steps p.tables e below (T'.setTop { g with pc := g.pc + 3, stack := .ref b :: rest }) target → Steps p.tables e below (T.setTop g) target := by
  subst hvs
  obtain ⟨T', h', k, X', e', E', A', O', st⟩ := newR X hx hZ hown w1 w2 eT hg hd hs hn hcap hb hc hl
  exact ⟨T', h', k, h.size, X', e', E', (Arv.new A' hn).pad (pad_rep [] _ cap), O', Nat.le_refl _, O.ext E', K.ext E', st⟩
theorem own_put (X : Stand p l e R s m args below meth c T locs cells slots) (hx : p.tables.exec = Jvm.exec) (hZ : Z.Warmed39 s.vm) {own R0 Ow n d host C : String} {index kk : Nat} {ty : FieldType} (hown : s.vm.findClass own = some m.cls) (w : (Jvm.Cond.fieldLink own index R0 n d).before a0 Z = true ∨ (Jvm.Cond.fieldLinkNest own index R0 n d host).before a0 Z = true) (via : Via Z R0 Ow n d)
    (eT : T.heap = h) (O : Old Z n0 h) (K : Keep h0 h ws) (N : Fr n0 locs) {a : Addr} (qn : n0 ≤ a) (qk : a ∈ ws ∨ h0.size ≤ a) {v old : Value} (F : Fld Z h a Ow n d old) (E : Exa Z h a C) (L : (Jvm.Cond.lays C Ow n d).before a0 Z = true ∨ ((Jvm.Cond.laysFinal C Ow n d).before a0 Z = true ∧ own = Ow ∧ meth.name = "<init>")) (wi : (Jvm.Cond.instantiable C kk).before a0 Z = true)
    (hty : parseFieldDescriptor d = some ty) (hn : narrow ty v = v) (hf : fits ty v = true) {g : JFrame} (hg : g.method = m) {rest : List Value} (hs : g.stack = v :: .ref a :: rest) (hd : decode c.code g.pc = .ok (.putfield index, 3)) :
    ∃ (T' : State) (h' : Heap) (L' : List Loc), Stand p l e R s m args below meth c T' L' cells slots ∧ T'.heap = h' ∧ Wr h h' a (Jvm.RoadKit.slotOf Z Ow n d) v ∧ Fld Z h' a Ow n d v ∧ Old Z n0 h' ∧ Keep h0 h' ws ∧ Fr n0 L' ∧ ∀ target, Steps p.tables e below (T'.setTop { g with pc := g.pc + 3, stack := rest }) target → Steps p.tables e below (T.setTop g) target := by
  obtain ⟨T', h', X', e', W', st⟩ := putF X hx hZ hown w via eT F E L wi hty hn hf hg hs hd
  exact ⟨T', h', _, X', e', W', F.same W', O.wr W' qn, K.wr W' qk, Fr.snoc X' N qn, st⟩
theorem own_putN (X : Stand p l e R s m args below meth c T locs cells slots) (hx : p.tables.exec = Jvm.exec) (hZ : Z.Warmed39 s.vm) {own R0 Ow n d C : String} {index kk : Nat} {ty : FieldType} (hown : s.vm.findClass own = some m.cls) (w : (Jvm.Cond.fieldLink own index R0 n d).before a0 Z = true) (via : Via Z R0 Ow n d)
    (eT : T.heap = h) (O : Old Z n0 h) (K : Keep h0 h ws) (N : Fr n0 locs) {a : Addr} (qn : n0 ≤ a) (qk : a ∈ ws ∨ h0.size ≤ a) {v v' old : Value} (F : Fld Z h a Ow n d old) (E : Exa Z h a C) (L : (Jvm.Cond.lays C Ow n d).before a0 Z = true ∨ ((Jvm.Cond.laysFinal C Ow n d).before a0 Z = true ∧ own = Ow ∧ meth.name = "<init>")) (wi : (Jvm.Cond.instantiable C kk).before a0 Z = true)
    (hty : parseFieldDescriptor d = some ty) (hn : narrow ty v = v') (hf : fits ty v' = true) {g : JFrame} (hg : g.method = m) {rest : List Value} (hs : g.stack = v :: .ref a :: rest) (hd : decode c.code g.pc = .ok (.putfield index, 3)) :
    ∃ (T' : State) (h' : Heap) (L' : List Loc), Stand p l e R s m args below meth c T' L' cells slots ∧ T'.heap = h' ∧ Wr h h' a (Jvm.RoadKit.slotOf Z Ow n d) v' ∧ Fld Z h' a Ow n d v' ∧ Old Z n0 h' ∧ Keep h0 h' ws ∧ Fr n0 L' ∧ ∀ target, Steps p.tables e below (T'.setTop { g with pc := g.pc + 3, stack := rest }) target → Steps p.tables e below (T.setTop g) target := by
  obtain ⟨T', h', X', e', W', st⟩ := putFN X hx hZ hown w via eT F E L wi hty hn hf hg hs hd
  exact ⟨T', h', _, X', e', W', F.same W', O.wr W' qn, K.wr W' qk, Fr.snoc X' N qn, st⟩
theorem own_stR (X : Stand p l e R s m args below meth c T locs cells slots) (hx : p.tables.exec = Jvm.exec) (hZ : Z.Warmed39 s.vm) (eT : T.heap = h) {a : Addr} {k : ClassId} {ty : FieldType} {n : Int32} {vs vs' : List Value} {dv : Value} (V : Arv Z h a k ty n vs dv) (O : Old Z n0 h) (K : Keep h0 h ws) (N : Fr n0 locs) (qn : n0 ≤ a) (qk : a ∈ ws ∨ h0.size ≤ a) {j : Int32} (i : Nat) (hj : ((¬ j < 0 ∧ j < n) ∧ j.toNatClampNeg = i)) (hi : i < vs.length) {v : Value} (hvs : vs.set i v = vs') (hty : ty.isReference = true) (hfv : fits ty v = true)
    (sto : v = .null ∨ ∃ (y : Addr) (C : String), v = .ref y ∧ Ovr Z k C ∧ Ins Z h y C true) {g : JFrame} (hg : g.method = m) {rest : List Value} (hs : g.stack = v :: .int j :: .ref a :: rest) (hd : decode c.code g.pc = .ok (.aastore, 1)) :
    ∃ (T' : State) (h' : Heap) (L' : List Loc), Stand p l e R s m args below meth c T' L' cells slots ∧ T'.heap = h' ∧ Wr h h' a j.toNatClampNeg v ∧ Arv Z h' a k ty n vs' dv ∧ Old Z n0 h' ∧ Keep h0 h' ws ∧ Fr n0 L' ∧ ∀ target, Steps p.tables e below (T'.setTop { g with pc := g.pc + 1, stack := rest }) target → Steps p.tables e below (T.setTop g) target := by
  subst hvs
  obtain ⟨cl, Ar, q, Sz, Ng, Hs, Gt⟩ := V
  obtain ⟨T', h', X', e', W', st⟩ := stR X hx hZ eT Ar (j := j) (inb_of Sz hj.1) hty (sto.elim Or.inl fun ⟨y, C, e1, e2, e3⟩ => e1 ▸ Sto.ofV Ar q e2 e3) hg hs hd
  exact ⟨T', h', _, X', e', W', Arv.set Ar q Sz Ng Hs Gt hfv W' i hj.2 hi, O.wr W' qn, K.wr W' qk, Fr.snoc X' N qn, st⟩
theorem own_stI (X : Stand p l e R s m args below meth c T locs cells slots) (hx : p.tables.exec = Jvm.exec) (hZ : Z.Warmed39 s.vm) (eT : T.heap = h) {a : Addr} {k : ClassId} {n : Int32} {vs vs' : List Value} {dv : Value} (V : Arv Z h a k .int n vs dv) (O : Old Z n0 h) (K : Keep h0 h ws) (N : Fr n0 locs) (qn : n0 ≤ a) (qk : a ∈ ws ∨ h0.size ≤ a) {j : Int32} (i : Nat) (hj : ((¬ j < 0 ∧ j < n) ∧ j.toNatClampNeg = i)) (hi : i < vs.length) {x : Int32} {v : Value} (hv : (.int x : Value) = v) (hvs : vs.set i v = vs')
    {g : JFrame} (hg : g.method = m) {rest : List Value} (hs : g.stack = .int x :: .int j :: .ref a :: rest) (hd : decode c.code g.pc = .ok (.iastore, 1)) :
    ∃ (T' : State) (h' : Heap) (L' : List Loc), Stand p l e R s m args below meth c T' L' cells slots ∧ T'.heap = h' ∧ Wr h h' a j.toNatClampNeg v ∧ Arv Z h' a k .int n vs' dv ∧ Old Z n0 h' ∧ Keep h0 h' ws ∧ Fr n0 L' ∧ ∀ target, Steps p.tables e below (T'.setTop { g with pc := g.pc + 1, stack := rest }) target → Steps p.tables e below (T.setTop g) target := by
  subst hv hvs
  obtain ⟨cl, Ar, q, Sz, Ng, Hs, Gt⟩ := V
  obtain ⟨T', h', X', e', W', st⟩ := stI X hx hZ eT Ar (j := j) (inb_of Sz hj.1) hg hs hd
  exact ⟨T', h', _, X', e', W', Arv.set Ar q Sz Ng Hs Gt rfl W' i hj.2 hi, O.wr W' qn, K.wr W' qk, Fr.snoc X' N qn, st⟩
theorem own_stJ (X : Stand p l e R s m args below meth c T locs cells slots) (hx : p.tables.exec = Jvm.exec) (hZ : Z.Warmed39 s.vm) (eT : T.heap = h) {a : Addr} {k : ClassId} {n : Int32} {vs vs' : List Value} {dv : Value} (V : Arv Z h a k .long n vs dv) (O : Old Z n0 h) (K : Keep h0 h ws) (N : Fr n0 locs) (qn : n0 ≤ a) (qk : a ∈ ws ∨ h0.size ≤ a) {j : Int32} (i : Nat) (hj : ((¬ j < 0 ∧ j < n) ∧ j.toNatClampNeg = i)) (hi : i < vs.length) {x : Int64} {v : Value} (hv : (.long x : Value) = v) (hvs : vs.set i v = vs')
    {g : JFrame} (hg : g.method = m) {rest : List Value} (hs : g.stack = .long x :: .int j :: .ref a :: rest) (hd : decode c.code g.pc = .ok (.lastore, 1)) :
    ∃ (T' : State) (h' : Heap) (L' : List Loc), Stand p l e R s m args below meth c T' L' cells slots ∧ T'.heap = h' ∧ Wr h h' a j.toNatClampNeg v ∧ Arv Z h' a k .long n vs' dv ∧ Old Z n0 h' ∧ Keep h0 h' ws ∧ Fr n0 L' ∧ ∀ target, Steps p.tables e below (T'.setTop { g with pc := g.pc + 1, stack := rest }) target → Steps p.tables e below (T.setTop g) target := by
  subst hv hvs
  obtain ⟨cl, Ar, q, Sz, Ng, Hs, Gt⟩ := V
  obtain ⟨T', h', X', e', W', st⟩ := stJ X hx hZ eT Ar (j := j) (inb_of Sz hj.1) hg hs hd
  exact ⟨T', h', _, X', e', W', Arv.set Ar q Sz Ng Hs Gt rfl W' i hj.2 hi, O.wr W' qn, K.wr W' qk, Fr.snoc X' N qn, st⟩
theorem own_stC (X : Stand p l e R s m args below meth c T locs cells slots) (hx : p.tables.exec = Jvm.exec) (hZ : Z.Warmed39 s.vm) (eT : T.heap = h) {a : Addr} {k : ClassId} {n : Int32} {vs vs' : List Value} {dv : Value} (V : Arv Z h a k .char n vs dv) (O : Old Z n0 h) (K : Keep h0 h ws) (N : Fr n0 locs) (qn : n0 ≤ a) (qk : a ∈ ws ∨ h0.size ≤ a) {j : Int32} (i : Nat) (hj : ((¬ j < 0 ∧ j < n) ∧ j.toNatClampNeg = i)) (hi : i < vs.length) {x : Int32} {v : Value} (hv : (.int (nar .char x) : Value) = v) (hvs : vs.set i v = vs')
    {g : JFrame} (hg : g.method = m) {rest : List Value} (hs : g.stack = .int x :: .int j :: .ref a :: rest) (hd : decode c.code g.pc = .ok (.castore, 1)) :
    ∃ (T' : State) (h' : Heap) (L' : List Loc), Stand p l e R s m args below meth c T' L' cells slots ∧ T'.heap = h' ∧ Wr h h' a j.toNatClampNeg v ∧ Arv Z h' a k .char n vs' dv ∧ Old Z n0 h' ∧ Keep h0 h' ws ∧ Fr n0 L' ∧ ∀ target, Steps p.tables e below (T'.setTop { g with pc := g.pc + 1, stack := rest }) target → Steps p.tables e below (T.setTop g) target := by
  subst hv hvs
  obtain ⟨cl, Ar, q, Sz, Ng, Hs, Gt⟩ := V
  obtain ⟨T', h', X', e', W', st⟩ := stC X hx hZ eT Ar (j := j) (inb_of Sz hj.1) hg hs hd
  exact ⟨T', h', _, X', e', W', Arv.set Ar q Sz Ng Hs Gt (fits_nar_char _) W' i hj.2 hi, O.wr W' qn, K.wr W' qk, Fr.snoc X' N qn, st⟩
theorem own_stS (X : Stand p l e R s m args below meth c T locs cells slots) (hx : p.tables.exec = Jvm.exec) (hZ : Z.Warmed39 s.vm) (eT : T.heap = h) {a : Addr} {k : ClassId} {n : Int32} {vs vs' : List Value} {dv : Value} (V : Arv Z h a k .short n vs dv) (O : Old Z n0 h) (K : Keep h0 h ws) (N : Fr n0 locs) (qn : n0 ≤ a) (qk : a ∈ ws ∨ h0.size ≤ a) {j : Int32} (i : Nat) (hj : ((¬ j < 0 ∧ j < n) ∧ j.toNatClampNeg = i)) (hi : i < vs.length) {x : Int32} {v : Value} (hv : (.int (nar .short x) : Value) = v) (hvs : vs.set i v = vs')
    {g : JFrame} (hg : g.method = m) {rest : List Value} (hs : g.stack = .int x :: .int j :: .ref a :: rest) (hd : decode c.code g.pc = .ok (.sastore, 1)) :
    ∃ (T' : State) (h' : Heap) (L' : List Loc), Stand p l e R s m args below meth c T' L' cells slots ∧ T'.heap = h' ∧ Wr h h' a j.toNatClampNeg v ∧ Arv Z h' a k .short n vs' dv ∧ Old Z n0 h' ∧ Keep h0 h' ws ∧ Fr n0 L' ∧ ∀ target, Steps p.tables e below (T'.setTop { g with pc := g.pc + 1, stack := rest }) target → Steps p.tables e below (T.setTop g) target := by
  subst hv hvs
  obtain ⟨cl, Ar, q, Sz, Ng, Hs, Gt⟩ := V
  obtain ⟨T', h', X', e', W', st⟩ := stS X hx hZ eT Ar (j := j) (inb_of Sz hj.1) hg hs hd
  exact ⟨T', h', _, X', e', W', Arv.set Ar q Sz Ng Hs Gt (fits_nar_short _) W' i hj.2 hi, O.wr W' qn, K.wr W' qk, Fr.snoc X' N qn, st⟩
theorem own_stB (X : Stand p l e R s m args below meth c T locs cells slots) (hx : p.tables.exec = Jvm.exec) (hZ : Z.Warmed39 s.vm) (eT : T.heap = h) {a : Addr} {k : ClassId} {n : Int32} {vs vs' : List Value} {dv : Value} (V : Arv Z h a k .byte n vs dv) (O : Old Z n0 h) (K : Keep h0 h ws) (N : Fr n0 locs) (qn : n0 ≤ a) (qk : a ∈ ws ∨ h0.size ≤ a) {j : Int32} (i : Nat) (hj : ((¬ j < 0 ∧ j < n) ∧ j.toNatClampNeg = i)) (hi : i < vs.length) {x : Int32} {v : Value} (hv : (.int (nar .byte x) : Value) = v) (hvs : vs.set i v = vs')
    {g : JFrame} (hg : g.method = m) {rest : List Value} (hs : g.stack = .int x :: .int j :: .ref a :: rest) (hd : decode c.code g.pc = .ok (.bastore, 1)) :
    ∃ (T' : State) (h' : Heap) (L' : List Loc), Stand p l e R s m args below meth c T' L' cells slots ∧ T'.heap = h' ∧ Wr h h' a j.toNatClampNeg v ∧ Arv Z h' a k .byte n vs' dv ∧ Old Z n0 h' ∧ Keep h0 h' ws ∧ Fr n0 L' ∧ ∀ target, Steps p.tables e below (T'.setTop { g with pc := g.pc + 1, stack := rest }) target → Steps p.tables e below (T.setTop g) target := by
  subst hv hvs
  obtain ⟨cl, Ar, q, Sz, Ng, Hs, Gt⟩ := V
  obtain ⟨T', h', X', e', W', st⟩ := stB X hx hZ eT Ar (j := j) (inb_of Sz hj.1) hg hs hd
  exact ⟨T', h', _, X', e', W', Arv.set Ar q Sz Ng Hs Gt (fits_nar_byte _) W' i hj.2 hi, O.wr W' qn, K.wr W' qk, Fr.snoc X' N qn, st⟩
theorem own_stZ (X : Stand p l e R s m args below meth c T locs cells slots) (hx : p.tables.exec = Jvm.exec) (hZ : Z.Warmed39 s.vm) (eT : T.heap = h) {a : Addr} {k : ClassId} {n : Int32} {vs vs' : List Value} {dv : Value} (V : Arv Z h a k .boolean n vs dv) (O : Old Z n0 h) (K : Keep h0 h ws) (N : Fr n0 locs) (qn : n0 ≤ a) (qk : a ∈ ws ∨ h0.size ≤ a) {j : Int32} (i : Nat) (hj : ((¬ j < 0 ∧ j < n) ∧ j.toNatClampNeg = i)) (hi : i < vs.length) {x : Int32} {v : Value} (hv : (.int (nar .boolean x) : Value) = v) (hvs : vs.set i v = vs')
    {g : JFrame} (hg : g.method = m) {rest : List Value} (hs : g.stack = .int x :: .int j :: .ref a :: rest) (hd : decode c.code g.pc = .ok (.bastore, 1)) :
    ∃ (T' : State) (h' : Heap) (L' : List Loc), Stand p l e R s m args below meth c T' L' cells slots ∧ T'.heap = h' ∧ Wr h h' a j.toNatClampNeg v ∧ Arv Z h' a k .boolean n vs' dv ∧ Old Z n0 h' ∧ Keep h0 h' ws ∧ Fr n0 L' ∧ ∀ target, Steps p.tables e below (T'.setTop { g with pc := g.pc + 1, stack := rest }) target → Steps p.tables e below (T.setTop g) target := by
  subst hv hvs
  obtain ⟨cl, Ar, q, Sz, Ng, Hs, Gt⟩ := V
  obtain ⟨T', h', X', e', W', st⟩ := stZ X hx hZ eT Ar (j := j) (inb_of Sz hj.1) hg hs hd
  exact ⟨T', h', _, X', e', W', Arv.set Ar q Sz Ng Hs Gt (fits_nar_bool _) W' i hj.2 hi, O.wr W' qn, K.wr W' qk, Fr.snoc X' N qn, st⟩
theorem own_iaload (X : Stand p l e R s m args below meth c T locs cells slots) (hx : p.tables.exec = Jvm.exec) (hZ : Z.Warmed39 s.vm) (eT : T.heap = h) {a : Addr} {k : ClassId} {n : Int32} {vs : List Value} {dv : Value} (V : Arv Z h a k .int n vs dv) {j : Int32} (hj : ¬ j < 0 ∧ j < n) {v : Value} (hv : vs.getD j.toNatClampNeg dv = v)
    {g : JFrame} (hg : g.method = m) {rest : List Value} (hs : g.stack = .int j :: .ref a :: rest) (hd : decode c.code g.pc = .ok (.iaload, 1)) {target : State} (hr : Steps p.tables e below (T.setTop { g with pc := g.pc + 1, stack := v :: rest }) target) : Steps p.tables e below (T.setTop g) target := by
  obtain ⟨cl, Ar, q, Sz, Ng, Hs, Gt⟩ := V
  exact X.iaload hx (by rw [eT]; exact Ar.1) (State.isArrayOf_alike hZ.alike Ar.2.1) Ar.2.2 (inb_of Sz hj) (Hs.at (inb_of Sz hj) hv) hg hs hd _ hr
theorem own_laload (X : Stand p l e R s m args below meth c T locs cells slots) (hx : p.tables.exec = Jvm.exec) (hZ : Z.Warmed39 s.vm) (eT : T.heap = h) {a : Addr} {k : ClassId} {n : Int32} {vs : List Value} {dv : Value} (V : Arv Z h a k .long n vs dv) {j : Int32} (hj : ¬ j < 0 ∧ j < n) {v : Value} (hv : vs.getD j.toNatClampNeg dv = v)
    {g : JFrame} (hg : g.method = m) {rest : List Value} (hs : g.stack = .int j :: .ref a :: rest) (hd : decode c.code g.pc = .ok (.laload, 1)) {target : State} (hr : Steps p.tables e below (T.setTop { g with pc := g.pc + 1, stack := v :: rest }) target) : Steps p.tables e below (T.setTop g) target := by
  obtain ⟨cl, Ar, q, Sz, Ng, Hs, Gt⟩ := V
  exact X.laload hx (by rw [eT]; exact Ar.1) (State.isArrayOf_alike hZ.alike Ar.2.1) Ar.2.2 (inb_of Sz hj) (Hs.at (inb_of Sz hj) hv) hg hs hd _ hr
theorem own_caload (X : Stand p l e R s m args below meth c T locs cells slots) (hx : p.tables.exec = Jvm.exec) (hZ : Z.Warmed39 s.vm) (eT : T.heap = h) {a : Addr} {k : ClassId} {n : Int32} {vs : List Value} {dv : Value} (V : Arv Z h a k .char n vs dv) {j : Int32} (hj : ¬ j < 0 ∧ j < n) {v : Value} (hv : vs.getD j.toNatClampNeg dv = v)
    {g : JFrame} (hg : g.method = m) {rest : List Value} (hs : g.stack = .int j :: .ref a :: rest) (hd : decode c.code g.pc = .ok (.caload, 1)) {target : State} (hr : Steps p.tables e below (T.setTop { g with pc := g.pc + 1, stack := v :: rest }) target) : Steps p.tables e below (T.setTop g) target := by
  obtain ⟨cl, Ar, q, Sz, Ng, Hs, Gt⟩ := V
  exact X.caload hx (by rw [eT]; exact Ar.1) (State.isArrayOf_alike hZ.alike Ar.2.1) Ar.2.2 (inb_of Sz hj) (Hs.at (inb_of Sz hj) hv) hg hs hd _ hr
theorem own_saload (X : Stand p l e R s m args below meth c T locs cells slots) (hx : p.tables.exec = Jvm.exec) (hZ : Z.Warmed39 s.vm) (eT : T.heap = h) {a : Addr} {k : ClassId} {n : Int32} {vs : List Value} {dv : Value} (V : Arv Z h a k .short n vs dv) {j : Int32} (hj : ¬ j < 0 ∧ j < n) {v : Value} (hv : vs.getD j.toNatClampNeg dv = v)
    {g : JFrame} (hg : g.method = m) {rest : List Value} (hs : g.stack = .int j :: .ref a :: rest) (hd : decode c.code g.pc = .ok (.saload, 1)) {target : State} (hr : Steps p.tables e below (T.setTop { g with pc := g.pc + 1, stack := v :: rest }) target) : Steps p.tables e below (T.setTop g) target := by
  obtain ⟨cl, Ar, q, Sz, Ng, Hs, Gt⟩ := V
  exact X.saload hx (by rw [eT]; exact Ar.1) (State.isArrayOf_alike hZ.alike Ar.2.1) Ar.2.2 (inb_of Sz hj) (Hs.at (inb_of Sz hj) hv) hg hs hd _ hr
theorem own_baloadB (X : Stand p l e R s m args below meth c T locs cells slots) (hx : p.tables.exec = Jvm.exec) (hZ : Z.Warmed39 s.vm) (eT : T.heap = h) {a : Addr} {k : ClassId} {n : Int32} {vs : List Value} {dv : Value} (V : Arv Z h a k .byte n vs dv) {j : Int32} (hj : ¬ j < 0 ∧ j < n) {v : Value} (hv : vs.getD j.toNatClampNeg dv = v)
    {g : JFrame} (hg : g.method = m) {rest : List Value} (hs : g.stack = .int j :: .ref a :: rest) (hd : decode c.code g.pc = .ok (.baload, 1)) {target : State} (hr : Steps p.tables e below (T.setTop { g with pc := g.pc + 1, stack := v :: rest }) target) : Steps p.tables e below (T.setTop g) target := by
  obtain ⟨cl, Ar, q, Sz, Ng, Hs, Gt⟩ := V
  exact X.baloadBytes hx (by rw [eT]; exact Ar.1) (State.isArrayOf_alike hZ.alike Ar.2.1) Ar.2.2 (inb_of Sz hj) (Hs.at (inb_of Sz hj) hv) hg hs hd _ hr
theorem own_baloadZ (X : Stand p l e R s m args below meth c T locs cells slots) (hx : p.tables.exec = Jvm.exec) (hZ : Z.Warmed39 s.vm) (eT : T.heap = h) {a : Addr} {k : ClassId} {n : Int32} {vs : List Value} {dv : Value} (V : Arv Z h a k .boolean n vs dv) {j : Int32} (hj : ¬ j < 0 ∧ j < n) {v : Value} (hv : vs.getD j.toNatClampNeg dv = v)
    {g : JFrame} (hg : g.method = m) {rest : List Value} (hs : g.stack = .int j :: .ref a :: rest) (hd : decode c.code g.pc = .ok (.baload, 1)) {target : State} (hr : Steps p.tables e below (T.setTop { g with pc := g.pc + 1, stack := v :: rest }) target) : Steps p.tables e below (T.setTop g) target := by
  obtain ⟨cl, Ar, q, Sz, Ng, Hs, Gt⟩ := V
  exact X.baloadBooleans hx (by rw [eT]; exact Ar.1) (State.isArrayOf_alike hZ.alike Ar.2.1) Ar.2.2 (inb_of Sz hj) (Hs.at (inb_of Sz hj) hv) hg hs hd _ hr
theorem own_aaload (X : Stand p l e R s m args below meth c T locs cells slots) (hx : p.tables.exec = Jvm.exec) (hZ : Z.Warmed39 s.vm) (eT : T.heap = h) {a : Addr} {k : ClassId} {ty : FieldType} {n : Int32} {vs : List Value} {dv : Value} (V : Arv Z h a k ty n vs dv) {j : Int32} (hj : ¬ j < 0 ∧ j < n) {v : Value} (hv : vs.getD j.toNatClampNeg dv = v) (hty : ty.isReference = true)
    {g : JFrame} (hg : g.method = m) {rest : List Value} (hs : g.stack = .int j :: .ref a :: rest) (hd : decode c.code g.pc = .ok (.aaload, 1)) {target : State} (hr : Steps p.tables e below (T.setTop { g with pc := g.pc + 1, stack := v :: rest }) target) : Steps p.tables e below (T.setTop g) target := by
  obtain ⟨cl, Ar, q, Sz, Ng, Hs, Gt⟩ := V
  exact X.aaload hx (by rw [eT]; exact Ar.1) (State.isArrayOf_alike hZ.alike Ar.2.1) hty Ar.2.2 (inb_of Sz hj) (Hs.at (inb_of Sz hj) hv) hg hs hd _ hr
theorem own_alen (X : Stand p l e R s m args below meth c T locs cells slots) (hx : p.tables.exec = Jvm.exec) (hZ : Z.Warmed39 s.vm) (eT : T.heap = h) {a : Addr} {k : ClassId} {ty : FieldType} {n : Int32} {vs : List Value} {dv : Value} (V : Arv Z h a k ty n vs dv)
    {g : JFrame} (hg : g.method = m) {rest : List Value} (hs : g.stack = .ref a :: rest) (hd : decode c.code g.pc = .ok (.arraylength, 1)) {target : State} (hr : Steps p.tables e below (T.setTop { g with pc := g.pc + 1, stack := .int n :: rest }) target) : Steps p.tables e below (T.setTop g) target := by
  obtain ⟨cl, Ar, q, Sz, Ng, Hs, Gt⟩ := V
  exact X.arraylength hx (by rw [eT]; exact Ar.1) (State.isArrayOf_alike hZ.alike Ar.2.1) hg hs hd _ (by rw [len_of Sz Ng]; exact hr)
end OwnHeap
theorem own_irr (x : Int32) : ¬ (x < x) := Int32.lt_irrefl
theorem own_irrL (x : Int64) : ¬ (x < x) := Int64.lt_irrefl
theorem own_lc_lt {x y : Int64} (h : x < y) : lcmpW x y = (-1 : Int32) := Int32.toInt_inj.mp ((c_lcmp x y).1 (Int64.lt_iff_toInt_lt.mp h))
theorem own_lc_eq {x y : Int64} (h : x = y) : lcmpW x y = (0 : Int32) := Int32.toInt_inj.mp ((c_lcmp x y).2.1 (congrArg _ h))
theorem own_lc_gt {x y : Int64} (h : ¬ (x < y)) (h' : ¬ (x = y)) : lcmpW x y = (1 : Int32) := Int32.toInt_inj.mp ((c_lcmp x y).2.2 (by
  have h1 : ¬ (x.toInt < y.toInt) := fun q => h (Int64.lt_iff_toInt_lt.mpr q)
  have h2 : ¬ (x.toInt = y.toInt) := fun q => h' (Int64.toInt_inj.mp q)
  omega))
theorem own_old_le {Z : State} {n0 : Nat} {h : Heap} (O : Old Z n0 h) : n0 ≤ h.size := O.1 ▸ O.2.1
theorem own_fld {Z : State} {args : Array Value} {t : Term} {a : Addr} {C n d : String} {z : Int32} (ev : t.eval args Z none [] Z = some (.ref a)) (h : (Jvm.Cond.eq (Term.field t C n d) (Term.int z)).value args Z none Z [] = some true) : Fld Z Z.heap a C n d (.int z) := by
  refine Fld.start ?_
  obtain ⟨x, y, e1, e2, k1, -⟩ := cmp_v (Or.inl h)
  rw [fld_at ev] at e1
  cases (Term.int_eval z).symm.trans e2
  have hx : ∃ q, x = .int q := by cases x <;> simp [Kin, Value.isRef] at k1 ⊢
  obtain ⟨q, rfl⟩ := hx
  have := gotT (P := q = z) (by simp [Cond.value, fld_at ev, e1, Term.int_eval]) h
  rw [e1, this]
theorem own_sta {Z : State} {args : Array Value} {C n d : String} {z : Int32} (h : (Jvm.Cond.eq (Term.static C n d) (Term.int z)).value args Z none Z [] = some true) : (Term.static C n d).eval args Z none [] Z = some (.int z) := by
  obtain ⟨x, y, e1, e2, k1, -⟩ := cmp_v (Or.inl h)
  cases (Term.int_eval z).symm.trans e2
  have hx : ∃ q, x = .int q := by cases x <;> simp [Kin, Value.isRef] at k1 ⊢
  obtain ⟨q, rfl⟩ := hx
  have := gotT (P := q = z) (by simp [Cond.value, e1, Term.int_eval]) h
  rw [e1, this]
theorem own_fldL {Z : State} {args : Array Value} {t : Term} {a : Addr} {C n d : String} {z : Int64} (ev : t.eval args Z none [] Z = some (.ref a)) (h : (Jvm.Cond.eq (Term.field t C n d) (Term.long z)).value args Z none Z [] = some true) : Fld Z Z.heap a C n d (.long z) := by
  refine Fld.start ?_
  obtain ⟨x, y, e1, e2, k1, -⟩ := cmp_v (Or.inl h)
  rw [fld_at ev] at e1
  cases (long_at z).symm.trans e2
  have hx : ∃ q, x = .long q := by cases x <;> simp [Kin, Value.isRef] at k1 ⊢
  obtain ⟨q, rfl⟩ := hx
  have := gotT (P := q = z) (eq_L (by rw [fld_at ev]; exact e1) (long_at z)) h
  rw [e1, this]
theorem own_len {Z : State} {args : Array Value} {t : Term} {a : Addr} {cl : Cell} {ty : FieldType} {z : Int32} (ev : t.eval args Z none [] Z = some (.ref a)) (A : Arr Z Z.heap a cl ty) (h : (Jvm.Cond.eq (Term.length t) (Term.int z)).value args Z none Z [] = some true) : cl.slots.size < 2 ^ 31 ∧ cl.slots.size.toInt32 = z := by
  obtain ⟨x, y, e1, e2, k1, -⟩ := cmp_v (Or.inl h)
  cases (Term.int_eval z).symm.trans e2
  have harr := A.fin (Vm.Alike.refl _)
  have h31 := SBG.length_lt ev harr e1
  refine ⟨h31, ?_⟩
  rw [len_f ev harr h31] at e1
  cases Option.some.inj e1
  exact gotT (P := cl.slots.size.toInt32 = z) (by simp [Cond.value, len_f ev harr h31, Term.int_eval]) h
theorem own_el {Z : State} {args : Array Value} {t u : Term} {a : Addr} {cl : Cell} {ty : FieldType} {j : Int32} {v : Value} (ev : t.eval args Z none [] Z = some (.ref a)) (A : Arr Z Z.heap a cl ty) (hu : u.eval args Z none [] Z = some v) (hr : v.isRef = true) (h : (Jvm.Cond.eq (Term.elem t (Term.int j)) u).value args Z none Z [] = some true) : cl.slots[j.toNatClampNeg]? = some v := by
  obtain ⟨x, y, e1, e2, k1, k2⟩ := cmp_v (Or.inl h)
  cases hu.symm.trans e2
  have hx : x.isRef = true := by rcases ref_cases hr with rfl | ⟨q, rfl⟩ <;> simp [Kin] at k2 <;> exact k2.2
  have := gotT (eq_R e1 hu hx hr) h
  subst this
  exact (elem_in e1 ev (Term.int_eval j) A.1).2
theorem own_rng (x : Int32) : -2147483648 ≤ x.toInt ∧ x.toInt ≤ 2147483647 := by have := rng32 x; omega
theorem own_mask (x m : Int32) {n : Int} (h : m.toInt = n ∧ 0 ≤ n) : 0 ≤ (x &&& m).toInt ∧ (x &&& m).toInt ≤ n := by have := c_and x m (by omega); omega
theorem own_rem (x y : Int32) (d : Int) {lo hi l h : Int} (hy : y.toInt = d ∧ 0 < d) (hx : lo ≤ x.toInt ∧ x.toInt ≤ hi) (q : (0 ≤ lo ∧ l = 0 ∧ d - 1 ≤ h) ∨ (l = -(d - 1) ∧ h = d - 1)) : l ≤ (x % y).toInt ∧ (x % y).toInt ≤ h := by
  have := c_iremV x y
  rcases Int.lt_or_le x.toInt 0 with g | g
  · have := this.2 g (by omega); omega
  · have := this.1 g (by omega); omega
theorem own_isub (x y : Int32) (d : Int) {lo hi l h : Int} (hy : y.toInt = d) (hx : lo ≤ x.toInt ∧ x.toInt ≤ hi) (q : l = lo - d ∧ h = hi - d ∧ -2147483648 ≤ l ∧ h ≤ 2147483647) : l ≤ (x - y).toInt ∧ (x - y).toInt ≤ h := by have := c_isub x y; have := rng32 (x - y); omega
theorem own_iadd (x y : Int32) (d : Int) {lo hi l h : Int} (hy : y.toInt = d) (hx : lo ≤ x.toInt ∧ x.toInt ≤ hi) (q : l = lo + d ∧ h = hi + d ∧ -2147483648 ≤ l ∧ h ≤ 2147483647) : l ≤ (x + y).toInt ∧ (x + y).toInt ≤ h := by have := c_iadd x y; have := rng32 (x + y); omega
theorem own_ltT {x y : Int32} (h : x.toInt < y.toInt) : x < y := Int32.lt_iff_toInt_lt.mpr h
theorem own_ltF {x y : Int32} (h : ¬ (x.toInt < y.toInt)) : ¬ (x < y) := fun q => h (Int32.lt_iff_toInt_lt.mp q)
theorem own_eqF {x y : Int32} (h : ¬ (x.toInt = y.toInt)) : ¬ (x = y) := fun q => h (q ▸ rfl)
theorem own_rngL (x : Int64) : -9223372036854775808 ≤ x.toInt ∧ x.toInt ≤ 9223372036854775807 := by have := rng64 x; omega
theorem own_ltTL {x y : Int64} (h : x.toInt < y.toInt) : x < y := Int64.lt_iff_toInt_lt.mpr h
theorem own_ltFL {x y : Int64} (h : ¬ (x.toInt < y.toInt)) : ¬ (x < y) := fun q => h (Int64.lt_iff_toInt_lt.mp q)
theorem own_eqFL {x y : Int64} (h : ¬ (x.toInt = y.toInt)) : ¬ (x = y) := fun q => h (q ▸ rfl)
theorem own_eqTL {x y : Int64} (h : x.toInt = y.toInt) : x = y := Int64.toInt_inj.mp h
theorem own_ltT'L {x y : Int64} (h : x < y) : x.toInt < y.toInt := Int64.lt_iff_toInt_lt.mp h
theorem own_ltF'L {x y : Int64} (h : ¬ (x < y)) : ¬ (x.toInt < y.toInt) := fun q => h (Int64.lt_iff_toInt_lt.mpr q)
theorem own_eqF'L {x y : Int64} (h : ¬ (x = y)) : ¬ (x.toInt = y.toInt) := fun q => h (Int64.toInt_inj.mp q)
theorem own_eqT'L {x y : Int64} (h : x = y) : x.toInt = y.toInt := h ▸ rfl
theorem own_sub {Z : State} {args : Array Value} {a b : Term} {idx : List Nat} {x y : Int32} (ha : a.eval args Z none idx Z = some (.int x)) (hb : b.eval args Z none idx Z = some (.int y)) : (Term.sub a b).eval args Z none idx Z = some (.int (x - y)) := by simp [Term.eval, ha, hb]
theorem own_box {Z : State} {a : Addr} {c : Cell} {K d : String} {z : Int32} {val : Int32 → Value} (B : Bxs Z a c K d z val) {j : Int32} (h1 : ¬ (j < 0)) (h2 : j < z) : ∃ b : Addr, c.slots[j.toNatClampNeg]? = some (.ref b) ∧ Exa Z Z.heap b K ∧ Fld Z Z.heap b K "value" d (val j) := B.2.2.2 j (inb_of B.2.1 ⟨h1, h2⟩)
theorem own_boxload {p : Program} {l : Launch} {e : Env} {R : Room} {s : State} {m : MethodId} {args : Array Value} {below : List Frame} {meth : Method} {c : Code} {T : State} {locs : List Loc} {cells slots : Nat} {Z : State} {h : Heap} {n0 : Nat} (X : Stand p l e R s m args below meth c T locs cells slots) (hx : p.tables.exec = Jvm.exec) (hZ : Z.Warmed39 s.vm) (eT : T.heap = h) (O : Old Z n0 h)
    {a b : Addr} {cl : Cell} {K d : String} {z : Int32} {val : Int32 → Value} (B : Bxs Z a cl K d z val) {j : Int32} (h1 : ¬ (j < 0)) (h2 : j < z) (el : cl.slots[j.toNatClampNeg]? = some (.ref b))
    {g : JFrame} (hg : g.method = m) {rest : List Value} (hs : g.stack = .int j :: .ref a :: rest) (hd : decode c.code g.pc = .ok (.aaload, 1)) {target : State} (hr : Steps p.tables e below (T.setTop { g with pc := g.pc + 1, stack := .ref b :: rest }) target) : Steps p.tables e below (T.setTop g) target := by
  have Ar := (B.ext O.2).1
  exact X.aaload hx (by rw [eT]; exact Ar.1) (State.isArrayOf_alike hZ.alike Ar.2.1) rfl Ar.2.2 (inb_of B.2.1 ⟨h1, h2⟩) el hg hs hd _ hr
theorem own_ltT' {x y : Int32} (h : x < y) : x.toInt < y.toInt := Int32.lt_iff_toInt_lt.mp h
theorem own_ltF' {x y : Int32} (h : ¬ (x < y)) : ¬ (x.toInt < y.toInt) := fun q => h (Int32.lt_iff_toInt_lt.mpr q)
theorem own_eqF' {x y : Int32} (h : ¬ (x = y)) : ¬ (x.toInt = y.toInt) := fun q => h (Int32.toInt_inj.mp q)
theorem own_eqT' {x y : Int32} (h : x = y) : x.toInt = y.toInt := h ▸ rfl
theorem own_eqT {x y : Int32} (h : x.toInt = y.toInt) : x = y := Int32.toInt_inj.mp h
abbrev z0 : String := "com/example/pinyon_jay/pinyonjay/engine/PendingId"
abbrev z1 : String := "java/lang/Integer"
abbrev z2 : String := "java/lang/Long"
abbrev z3 : String := "com/example/pinyon_jay/pinyonjay/engine/PendingIdValuePinLaw"
abbrev z4 : String := "Ljava/lang/Object;"
abbrev z5 : String := "(Ljava/lang/Object;)V"
abbrev z6 : String := "(I)Ljava/lang/Integer;"
abbrev z7 : String := "(J)Ljava/lang/Long;"
abbrev z8 : String := "java/lang/Object"
abbrev z9 : String := "()Ljava/lang/Object;"
abbrev z10 : String := "java/lang/Number"
def SF (Z : State) (w1 : Addr) (clw1 : Cell) (w2 : Addr) (clw2 : Cell) : Prop := Sta Z Z.heap "java/lang/Integer$IntegerCache" "high" "I" (.int (127 : Int32)) ∧ Sta Z Z.heap "java/lang/Integer$IntegerCache" "cache" "[Ljava/lang/Integer;" (.ref w1) ∧ Bxs Z w1 clw1 z1 "I" (256 : Int32) (fun j => .int (j - (128 : Int32))) ∧ Sta Z Z.heap "java/lang/Long$LongCache" "cache" "[Ljava/lang/Long;" (.ref w2) ∧ Bxs Z w2 clw2 z2 "J" (256 : Int32) (fun j => .long (j - (128 : Int32)).toInt64)
theorem m0 : (Jvm.Cond.classLink z3 (7 : Nat) z0) ∈ tables_1 := List.mem_of_getElem? (i := 0) rfl
theorem m1 : (Jvm.Cond.instantiable z0 (1 : Nat)) ∈ tables_1 := List.mem_of_getElem? (i := 1) rfl
theorem m2 : (Jvm.Cond.initialized z0) ∈ tables_1 := List.mem_of_getElem? (i := 2) rfl
theorem m15 : (Jvm.Cond.lays z0 z0 "value" z4) ∈ tables_1 := List.mem_of_getElem? (i := 15) rfl
theorem m3 : (Jvm.Cond.methodLink z3 (9 : Nat) (⟨z0, "<init>", "()V"⟩ : MethodName)) ∈ tables_1 := List.mem_of_getElem? (i := 3) rfl
theorem d1_0 : decode prog_1_method_1_code 0 = .ok (.aload_n 0, 1) := by decide +kernel
theorem d1_1 : decode prog_1_method_1_code 1 = .ok (.invokespecial 1, 3) := by decide +kernel
theorem m6 : (Jvm.Cond.methodLink z0 (1 : Nat) (⟨z8, "<init>", "()V"⟩ : MethodName)) ∈ tables_1 := List.mem_of_getElem? (i := 6) rfl
theorem m8 : (Jvm.Cond.code (⟨z8, "<init>", "()V"⟩ : MethodName) object_method_1_code (1 : Nat) (Option.none : Option Jvm.ClassFile.FieldType)) ∈ tables_1 := List.mem_of_getElem? (i := 8) rfl
theorem m7 : (Jvm.Cond.instanceMethod (⟨z8, "<init>", "()V"⟩ : MethodName)) ∈ tables_1 := List.mem_of_getElem? (i := 7) rfl
theorem d1_4 : decode prog_1_method_1_code 4 = .ok (.return_, 1) := by decide +kernel
theorem ef11 (m : MethodId) (x0 : Addr) : entryFrame m #[(.ref x0)] 1 = mkF m 0 #[.val (.ref x0)] [] := by first | (simp [entryFrame, mkF, argsToLocals, Value.category]; done) | rfl
theorem pn12 : plainName z0 = true := by first | (simp [plainName, overriddenIn]; done) | decide +kernel
theorem m5 : (Jvm.Cond.code (⟨z0, "<init>", "()V"⟩ : MethodName) prog_1_method_1_code (1 : Nat) (Option.none : Option Jvm.ClassFile.FieldType)) ∈ tables_1 := List.mem_of_getElem? (i := 5) rfl
theorem pd14 : parseMethodDescriptor "()V" = some ⟨[], none⟩ := by decide +kernel
theorem m4 : (Jvm.Cond.instanceMethod (⟨z0, "<init>", "()V"⟩ : MethodName)) ∈ tables_1 := List.mem_of_getElem? (i := 4) rfl
theorem m9 : (Jvm.Cond.methodLink z3 (10 : Nat) (⟨z0, "isAssigned", "()Z"⟩ : MethodName)) ∈ tables_1 := List.mem_of_getElem? (i := 9) rfl
theorem m12 : (Jvm.Cond.selects z0 (⟨z0, "isAssigned", "()Z"⟩ : MethodName) (⟨z0, "isAssigned", "()Z"⟩ : MethodName)) ∈ tables_1 := List.mem_of_getElem? (i := 12) rfl
theorem d3_0 : decode prog_1_method_3_code 0 = .ok (.aload_n 0, 1) := by decide +kernel
theorem d3_1 : decode prog_1_method_3_code 1 = .ok (.getfield 7, 3) := by decide +kernel
theorem m14 : (Jvm.Cond.fieldLink z0 (7 : Nat) z0 "value" z4) ∈ tables_1 := List.mem_of_getElem? (i := 14) rfl
theorem d3_4 : decode prog_1_method_3_code 4 = .ok (.ifnull 7, 3) := by decide +kernel
theorem d3_11 : decode prog_1_method_3_code 11 = .ok (.iconst 0, 1) := by decide +kernel
theorem d3_12 : decode prog_1_method_3_code 12 = .ok (.ireturn, 1) := by decide +kernel
theorem m13 : (Jvm.Cond.code (⟨z0, "isAssigned", "()Z"⟩ : MethodName) prog_1_method_3_code (1 : Nat) (Option.some FieldType.boolean)) ∈ tables_1 := List.mem_of_getElem? (i := 13) rfl
theorem pd25 : parseMethodDescriptor "()Z" = some ⟨[], some .boolean⟩ := by decide +kernel
theorem m10 : (Jvm.Cond.declares (⟨z0, "isAssigned", "()Z"⟩ : MethodName)) ∈ tables_1 := List.mem_of_getElem? (i := 10) rfl
theorem m11 : (Jvm.Cond.instanceMethod (⟨z0, "isAssigned", "()Z"⟩ : MethodName)) ∈ tables_1 := List.mem_of_getElem? (i := 11) rfl
theorem m16 : (Jvm.Cond.methodLink z3 (14 : Nat) (⟨z1, "valueOf", z6⟩ : MethodName)) ∈ tables_1 := List.mem_of_getElem? (i := 16) rfl
theorem d4_0 : decode jdk_33_method_22_code 0 = .ok (.iload_n 0, 1) := by decide +kernel
theorem d4_1 : decode jdk_33_method_22_code 1 = .ok (.bipush (-128), 2) := by decide +kernel
theorem d4_3 : decode jdk_33_method_22_code 3 = .ok (.if_icmp .lt 20, 3) := by decide +kernel
theorem d4_23 : decode jdk_33_method_22_code 23 = .ok (.new 1, 3) := by decide +kernel
theorem m56 : (Jvm.Cond.classLink z1 (1 : Nat) z1) ∈ tables_1 := List.mem_of_getElem? (i := 56) rfl
theorem m57 : (Jvm.Cond.instantiable z1 (1 : Nat)) ∈ tables_1 := List.mem_of_getElem? (i := 57) rfl
theorem m18 : (Jvm.Cond.initialized z1) ∈ tables_1 := List.mem_of_getElem? (i := 18) rfl
theorem m65 : (Jvm.Cond.laysFinal z1 z1 "value" "I") ∈ tables_1 := List.mem_of_getElem? (i := 65) rfl
theorem d4_26 : decode jdk_33_method_22_code 26 = .ok (.dup, 1) := by decide +kernel
theorem d4_27 : decode jdk_33_method_22_code 27 = .ok (.iload_n 0, 1) := by decide +kernel
theorem d4_28 : decode jdk_33_method_22_code 28 = .ok (.invokespecial 199, 3) := by decide +kernel
theorem m58 : (Jvm.Cond.methodLink z1 (199 : Nat) (⟨z1, "<init>", "(I)V"⟩ : MethodName)) ∈ tables_1 := List.mem_of_getElem? (i := 58) rfl
theorem d10_0 : decode jdk_33_method_23_code 0 = .ok (.aload_n 0, 1) := by decide +kernel
theorem d10_1 : decode jdk_33_method_23_code 1 = .ok (.invokespecial 202, 3) := by decide +kernel
theorem m62 : (Jvm.Cond.methodLink z1 (202 : Nat) (⟨z10, "<init>", "()V"⟩ : MethodName)) ∈ tables_1 := List.mem_of_getElem? (i := 62) rfl
theorem d9_0 : decode jdk_18_method_1_code 0 = .ok (.aload_n 0, 1) := by decide +kernel
theorem d9_1 : decode jdk_18_method_1_code 1 = .ok (.invokespecial 1, 3) := by decide +kernel
theorem m53 : (Jvm.Cond.methodLink z10 (1 : Nat) (⟨z8, "<init>", "()V"⟩ : MethodName)) ∈ tables_1 := List.mem_of_getElem? (i := 53) rfl
theorem d9_4 : decode jdk_18_method_1_code 4 = .ok (.return_, 1) := by decide +kernel
theorem pn48 : plainName z10 = true := by first | (simp [plainName, overriddenIn]; done) | decide +kernel
theorem m52 : (Jvm.Cond.code (⟨z10, "<init>", "()V"⟩ : MethodName) jdk_18_method_1_code (1 : Nat) (Option.none : Option Jvm.ClassFile.FieldType)) ∈ tables_1 := List.mem_of_getElem? (i := 52) rfl
theorem m51 : (Jvm.Cond.initialized z10) ∈ tables_1 := List.mem_of_getElem? (i := 51) rfl
theorem m48 : (Jvm.Cond.instanceMethod (⟨z10, "<init>", "()V"⟩ : MethodName)) ∈ tables_1 := List.mem_of_getElem? (i := 48) rfl
theorem d10_4 : decode jdk_33_method_23_code 4 = .ok (.aload_n 0, 1) := by decide +kernel
theorem d10_5 : decode jdk_33_method_23_code 5 = .ok (.iload_n 1, 1) := by decide +kernel
theorem d10_6 : decode jdk_33_method_23_code 6 = .ok (.putfield 205, 3) := by decide +kernel
theorem m64 : (Jvm.Cond.fieldLink z1 (205 : Nat) z1 "value" "I") ∈ tables_1 := List.mem_of_getElem? (i := 64) rfl
theorem d10_9 : decode jdk_33_method_23_code 9 = .ok (.return_, 1) := by decide +kernel
theorem ef57 (m : MethodId) (x0 : Addr) (x1 : Int32) : entryFrame m #[(.ref x0), (.int x1)] 2 = mkF m 0 #[.val (.ref x0), .val (.int x1)] [] := by first | (simp [entryFrame, mkF, argsToLocals, Value.category]; done) | rfl
theorem pn58 : plainName z1 = true := by first | (simp [plainName, overriddenIn]; done) | decide +kernel
theorem m61 : (Jvm.Cond.code (⟨z1, "<init>", "(I)V"⟩ : MethodName) jdk_33_method_23_code (2 : Nat) (Option.none : Option Jvm.ClassFile.FieldType)) ∈ tables_1 := List.mem_of_getElem? (i := 61) rfl
theorem pd60 : parseMethodDescriptor "(I)V" = some ⟨[.int], none⟩ := by decide +kernel
theorem m59 : (Jvm.Cond.instanceMethod (⟨z1, "<init>", "(I)V"⟩ : MethodName)) ∈ tables_1 := List.mem_of_getElem? (i := 59) rfl
theorem d4_31 : decode jdk_33_method_22_code 31 = .ok (.areturn, 1) := by decide +kernel
theorem ef63 (m : MethodId) (x0 : Int32) : entryFrame m #[(.int x0)] 1 = mkF m 0 #[.val (.int x0)] [] := by first | (simp [entryFrame, mkF, argsToLocals, Value.category]; done) | rfl
theorem m19 : (Jvm.Cond.code (⟨z1, "valueOf", z6⟩ : MethodName) jdk_33_method_22_code (1 : Nat) (Option.some (FieldType.object z1))) ∈ tables_1 := List.mem_of_getElem? (i := 19) rfl
theorem pd65 : parseMethodDescriptor z6 = some ⟨[.int], some (.object z1)⟩ := by decide +kernel
theorem m17 : (Jvm.Cond.static (⟨z1, "valueOf", z6⟩ : MethodName)) ∈ tables_1 := List.mem_of_getElem? (i := 17) rfl
theorem m23 : (Jvm.Cond.methodLink z3 (20 : Nat) (⟨z2, "valueOf", z7⟩ : MethodName)) ∈ tables_1 := List.mem_of_getElem? (i := 23) rfl
theorem d5_0 : decode jdk_35_method_24_code 0 = .ok (.sipush 128, 3) := by decide +kernel
theorem d5_3 : decode jdk_35_method_24_code 3 = .ok (.istore_n 2, 1) := by decide +kernel
theorem d5_4 : decode jdk_35_method_24_code 4 = .ok (.lload_n 0, 1) := by decide +kernel
theorem d5_5 : decode jdk_35_method_24_code 5 = .ok (.ldc2_w 230, 3) := by decide +kernel
theorem m27 : (Jvm.Cond.constantLong z2 (230 : Nat) (-128 : Int64)) ∈ tables_1 := List.mem_of_getElem? (i := 27) rfl
theorem d5_8 : decode jdk_35_method_24_code 8 = .ok (.lcmp, 1) := by decide +kernel
theorem d5_9 : decode jdk_35_method_24_code 9 = .ok (.ifCond .lt 22, 3) := by decide +kernel
theorem d5_31 : decode jdk_35_method_24_code 31 = .ok (.new 1, 3) := by decide +kernel
theorem m41 : (Jvm.Cond.classLink z2 (1 : Nat) z2) ∈ tables_1 := List.mem_of_getElem? (i := 41) rfl
theorem m42 : (Jvm.Cond.instantiable z2 (1 : Nat)) ∈ tables_1 := List.mem_of_getElem? (i := 42) rfl
theorem m25 : (Jvm.Cond.initialized z2) ∈ tables_1 := List.mem_of_getElem? (i := 25) rfl
theorem m55 : (Jvm.Cond.laysFinal z2 z2 "value" "J") ∈ tables_1 := List.mem_of_getElem? (i := 55) rfl
theorem d5_34 : decode jdk_35_method_24_code 34 = .ok (.dup, 1) := by decide +kernel
theorem d5_35 : decode jdk_35_method_24_code 35 = .ok (.lload_n 0, 1) := by decide +kernel
theorem d5_36 : decode jdk_35_method_24_code 36 = .ok (.invokespecial 240, 3) := by decide +kernel
theorem m43 : (Jvm.Cond.methodLink z2 (240 : Nat) (⟨z2, "<init>", "(J)V"⟩ : MethodName)) ∈ tables_1 := List.mem_of_getElem? (i := 43) rfl
theorem d8_0 : decode jdk_35_method_26_code 0 = .ok (.aload_n 0, 1) := by decide +kernel
theorem d8_1 : decode jdk_35_method_26_code 1 = .ok (.invokespecial 270, 3) := by decide +kernel
theorem m47 : (Jvm.Cond.methodLink z2 (270 : Nat) (⟨z10, "<init>", "()V"⟩ : MethodName)) ∈ tables_1 := List.mem_of_getElem? (i := 47) rfl
theorem d8_4 : decode jdk_35_method_26_code 4 = .ok (.aload_n 0, 1) := by decide +kernel
theorem d8_5 : decode jdk_35_method_26_code 5 = .ok (.lload_n 1, 1) := by decide +kernel
theorem d8_6 : decode jdk_35_method_26_code 6 = .ok (.putfield 273, 3) := by decide +kernel
theorem m54 : (Jvm.Cond.fieldLink z2 (273 : Nat) z2 "value" "J") ∈ tables_1 := List.mem_of_getElem? (i := 54) rfl
theorem d8_9 : decode jdk_35_method_26_code 9 = .ok (.return_, 1) := by decide +kernel
theorem ef92 (m : MethodId) (x0 : Addr) (x1 : Int64) : entryFrame m #[(.ref x0), (.long x1)] 3 = mkF m 0 #[.val (.ref x0), .val (.long x1), .second] [] := by first | (simp [entryFrame, mkF, argsToLocals, Value.category]; done) | rfl
theorem pn93 : plainName z2 = true := by first | (simp [plainName, overriddenIn]; done) | decide +kernel
theorem m46 : (Jvm.Cond.code (⟨z2, "<init>", "(J)V"⟩ : MethodName) jdk_35_method_26_code (3 : Nat) (Option.none : Option Jvm.ClassFile.FieldType)) ∈ tables_1 := List.mem_of_getElem? (i := 46) rfl
theorem pd95 : parseMethodDescriptor "(J)V" = some ⟨[.long], none⟩ := by decide +kernel
theorem m44 : (Jvm.Cond.instanceMethod (⟨z2, "<init>", "(J)V"⟩ : MethodName)) ∈ tables_1 := List.mem_of_getElem? (i := 44) rfl
theorem d5_39 : decode jdk_35_method_24_code 39 = .ok (.areturn, 1) := by decide +kernel
theorem ef98 (m : MethodId) (x0 : Int64) : entryFrame m #[(.long x0)] 3 = mkF m 0 #[.val (.long x0), .second, .unset] [] := by first | (simp [entryFrame, mkF, argsToLocals, Value.category]; done) | rfl
theorem m26 : (Jvm.Cond.code (⟨z2, "valueOf", z7⟩ : MethodName) jdk_35_method_24_code (3 : Nat) (Option.some (FieldType.object z2))) ∈ tables_1 := List.mem_of_getElem? (i := 26) rfl
theorem pd100 : parseMethodDescriptor z7 = some ⟨[.long], some (.object z2)⟩ := by decide +kernel
theorem m24 : (Jvm.Cond.static (⟨z2, "valueOf", z7⟩ : MethodName)) ∈ tables_1 := List.mem_of_getElem? (i := 24) rfl
theorem m31 : (Jvm.Cond.methodLink z3 (25 : Nat) (⟨z0, "assign", z5⟩ : MethodName)) ∈ tables_1 := List.mem_of_getElem? (i := 31) rfl
theorem m34 : (Jvm.Cond.selects z0 (⟨z0, "assign", z5⟩ : MethodName) (⟨z0, "assign", z5⟩ : MethodName)) ∈ tables_1 := List.mem_of_getElem? (i := 34) rfl
theorem d6_0 : decode prog_1_method_2_code 0 = .ok (.aload_n 0, 1) := by decide +kernel
theorem d6_1 : decode prog_1_method_2_code 1 = .ok (.aload_n 1, 1) := by decide +kernel
theorem d6_2 : decode prog_1_method_2_code 2 = .ok (.putfield 7, 3) := by decide +kernel
theorem d6_5 : decode prog_1_method_2_code 5 = .ok (.return_, 1) := by decide +kernel
theorem ef108 (m : MethodId) (x0 : Addr) (x1 : Addr) : entryFrame m #[(.ref x0), (.ref x1)] 2 = mkF m 0 #[.val (.ref x0), .val (.ref x1)] [] := by first | (simp [entryFrame, mkF, argsToLocals, Value.category]; done) | rfl
theorem m35 : (Jvm.Cond.code (⟨z0, "assign", z5⟩ : MethodName) prog_1_method_2_code (2 : Nat) (Option.none : Option Jvm.ClassFile.FieldType)) ∈ tables_1 := List.mem_of_getElem? (i := 35) rfl
theorem pd110 : parseMethodDescriptor z5 = some ⟨[(.object z8)], none⟩ := by decide +kernel
theorem m32 : (Jvm.Cond.declares (⟨z0, "assign", z5⟩ : MethodName)) ∈ tables_1 := List.mem_of_getElem? (i := 32) rfl
theorem m33 : (Jvm.Cond.instanceMethod (⟨z0, "assign", z5⟩ : MethodName)) ∈ tables_1 := List.mem_of_getElem? (i := 33) rfl
theorem en_113 (t : Int32) (q : 0 ≤ t.toInt ∧ t.toInt ≤ 1) : t = (0 : Int32) ∨ t = (1 : Int32) := by
  have q' : t.toInt = 0 ∨ t.toInt = 1 := by omega
  rcases q' with r | r
  · exact Or.inl (Int32.toInt_inj.mp (r.trans (by decide)))
  · exact Or.inr ((Int32.toInt_inj.mp (r.trans (by decide))))
theorem d3_7 : decode prog_1_method_3_code 7 = .ok (.iconst 1, 1) := by decide +kernel
theorem d3_8 : decode prog_1_method_3_code 8 = .ok (.goto 4, 3) := by decide +kernel
theorem m36 : (Jvm.Cond.methodLink z3 (29 : Nat) (⟨z0, "value", z9⟩ : MethodName)) ∈ tables_1 := List.mem_of_getElem? (i := 36) rfl
theorem m39 : (Jvm.Cond.selects z0 (⟨z0, "value", z9⟩ : MethodName) (⟨z0, "value", z9⟩ : MethodName)) ∈ tables_1 := List.mem_of_getElem? (i := 39) rfl
theorem d7_0 : decode prog_1_method_4_code 0 = .ok (.aload_n 0, 1) := by decide +kernel
theorem d7_1 : decode prog_1_method_4_code 1 = .ok (.getfield 7, 3) := by decide +kernel
theorem d7_4 : decode prog_1_method_4_code 4 = .ok (.ifnonnull 13, 3) := by decide +kernel
theorem d7_17 : decode prog_1_method_4_code 17 = .ok (.aload_n 0, 1) := by decide +kernel
theorem d7_18 : decode prog_1_method_4_code 18 = .ok (.getfield 7, 3) := by decide +kernel
theorem d7_21 : decode prog_1_method_4_code 21 = .ok (.areturn, 1) := by decide +kernel
theorem m40 : (Jvm.Cond.code (⟨z0, "value", z9⟩ : MethodName) prog_1_method_4_code (1 : Nat) (Option.some (FieldType.object z8))) ∈ tables_1 := List.mem_of_getElem? (i := 40) rfl
theorem pd125 : parseMethodDescriptor z9 = some ⟨[], some (.object z8)⟩ := by decide +kernel
theorem m37 : (Jvm.Cond.declares (⟨z0, "value", z9⟩ : MethodName)) ∈ tables_1 := List.mem_of_getElem? (i := 37) rfl
theorem m38 : (Jvm.Cond.instanceMethod (⟨z0, "value", z9⟩ : MethodName)) ∈ tables_1 := List.mem_of_getElem? (i := 38) rfl
theorem ef128 (m : MethodId) (x0 : Int32) (x1 : Int64) (x2 : Int32) : entryFrame m #[(.int x0), (.long x1), (.int x2)] maxLocals = mkF m 0 #[.val (.int x0), .val (.long x1), .second, .val (.int x2), .unset, .unset, .unset, .unset, .unset, .unset, .unset, .unset] [] := by first | (simp [entryFrame, mkF, argsToLocals, Value.category, maxLocals]; done) | rfl
theorem pn129 : plainName z3 = true := by first | (simp [plainName, overriddenIn]; done) | decide +kernel
theorem d5_12 : decode jdk_35_method_24_code 12 = .ok (.lload_n 0, 1) := by decide +kernel
theorem d5_13 : decode jdk_35_method_24_code 13 = .ok (.ldc2_w 232, 3) := by decide +kernel
theorem m28 : (Jvm.Cond.constantLong z2 (232 : Nat) (127 : Int64)) ∈ tables_1 := List.mem_of_getElem? (i := 28) rfl
theorem d5_16 : decode jdk_35_method_24_code 16 = .ok (.lcmp, 1) := by decide +kernel
theorem d5_17 : decode jdk_35_method_24_code 17 = .ok (.ifCond .gt 14, 3) := by decide +kernel
theorem d5_20 : decode jdk_35_method_24_code 20 = .ok (.getstatic 234, 3) := by decide +kernel
theorem m29 : (Jvm.Cond.fieldLink z2 (234 : Nat) "java/lang/Long$LongCache" "cache" "[Ljava/lang/Long;") ∈ tables_1 := List.mem_of_getElem? (i := 29) rfl
theorem d5_23 : decode jdk_35_method_24_code 23 = .ok (.lload_n 0, 1) := by decide +kernel
theorem d5_24 : decode jdk_35_method_24_code 24 = .ok (.l2i, 1) := by decide +kernel
theorem d5_25 : decode jdk_35_method_24_code 25 = .ok (.sipush 128, 3) := by decide +kernel
theorem d5_28 : decode jdk_35_method_24_code 28 = .ok (.iadd, 1) := by decide +kernel
theorem d5_29 : decode jdk_35_method_24_code 29 = .ok (.aaload, 1) := by decide +kernel
theorem d5_30 : decode jdk_35_method_24_code 30 = .ok (.areturn, 1) := by decide +kernel
theorem d4_6 : decode jdk_33_method_22_code 6 = .ok (.iload_n 0, 1) := by decide +kernel
theorem d4_7 : decode jdk_33_method_22_code 7 = .ok (.getstatic 191, 3) := by decide +kernel
theorem m20 : (Jvm.Cond.fieldLink z1 (191 : Nat) "java/lang/Integer$IntegerCache" "high" "I") ∈ tables_1 := List.mem_of_getElem? (i := 20) rfl
theorem d4_10 : decode jdk_33_method_22_code 10 = .ok (.if_icmp .gt 13, 3) := by decide +kernel
theorem d4_13 : decode jdk_33_method_22_code 13 = .ok (.getstatic 195, 3) := by decide +kernel
theorem m22 : (Jvm.Cond.fieldLink z1 (195 : Nat) "java/lang/Integer$IntegerCache" "cache" "[Ljava/lang/Integer;") ∈ tables_1 := List.mem_of_getElem? (i := 22) rfl
theorem d4_16 : decode jdk_33_method_22_code 16 = .ok (.iload_n 0, 1) := by decide +kernel
theorem d4_17 : decode jdk_33_method_22_code 17 = .ok (.sipush 128, 3) := by decide +kernel
theorem d4_20 : decode jdk_33_method_22_code 20 = .ok (.iadd, 1) := by decide +kernel
theorem d4_21 : decode jdk_33_method_22_code 21 = .ok (.aaload, 1) := by decide +kernel
theorem d4_22 : decode jdk_33_method_22_code 22 = .ok (.areturn, 1) := by decide +kernel
theorem j1 : (Jvm.Cond.initializedFor "java/lang/Integer$IntegerCache" "high" "I") ∈ jdkStatics_1 := List.mem_of_getElem? (i := 1) rfl
theorem m21 : (Jvm.Cond.initialized "java/lang/Integer$IntegerCache") ∈ tables_1 := List.mem_of_getElem? (i := 21) rfl
theorem j2 : (Jvm.Cond.laysStatic "java/lang/Integer$IntegerCache" "cache" "[Ljava/lang/Integer;") ∈ jdkStatics_1 := List.mem_of_getElem? (i := 2) rfl
theorem j9 : (Jvm.Cond.initializedFor "java/lang/Long$LongCache" "cache" "[Ljava/lang/Long;") ∈ jdkStatics_1 := List.mem_of_getElem? (i := 9) rfl
def Qrm1 (Z : State) (w1 : Addr) (clw1 : Cell) (w2 : Addr) (clw2 : Cell) (a1 : Addr) (h0 : Heap) (n0 : Nat) (v : Option Value) (h : Heap) (L : List Loc) : Prop := v = none ∧ Fr n0 L ∧ h = h0
set_option maxRecDepth 65536 in
set_option maxHeartbeats 40000000 in
theorem rm1 (l : Launch) (Z : State) (a0 : Array Value) (hw : ∀ d ∈ tables_1, d.before a0 Z = true) (hj : ∀ d ∈ jdkStatics_1, d.before a0 Z = true) (w1 : Addr) (clw1 : Cell) (w2 : Addr) (clw2 : Cell) (hS : SF Z w1 clw1 w2 clw2) (ws : List Jvm.Cond) (a1 : Addr) (h0 : Heap) (n0 : Nat) (O0 : Old Z n0 h0) :
    MetFree l (⟨z0, "<init>", "()V"⟩ : MethodName) (head1 (Jvm.Cond.code (⟨z0, "<init>", "()V"⟩ : MethodName) prog_1_method_1_code 1 none :: ws) ({ frames := 1, cells := 0, slots := 0, locals := 12 } : Room)) (fun a U => a = #[(.ref a1)] ∧ Z.Warmed39 U.vm ∧ U.heap = h0) (fun _ _ _ _ _ => True) (fun _ U o U' => ∃ v L, o = .returned v ∧ Qrm1 Z w1 clw1 w2 clw2 a1 h0 n0 v U'.heap L ∧ FrameEnd U o U' L ({ frames := 1, cells := 0, slots := 0, locals := 12 } : Room).cells ({ frames := 1, cells := 0, slots := 0, locals := 12 } : Room).slots) := by
  refine MetFree.of_bodySF (plainFor_of_name pn12) hisR ?_
  intro p e s m args below meth c s₁ Bd hml0 hP hK
  obtain ⟨rfl, hZ, hh⟩ := hP
  have hx := Bd.exec
  have hby := Bd.bytes
  have hml : c.maxLocals = 1 := hml0
  have hown : s.vm.findClass z0 = some m.cls := findClass_of_methodNamed Bd.named
  have hnm := (name_of_methodNamed Bd.named Bd.method).1
  have X0 : Stand p l e ({ frames := 1, cells := 0, slots := 0, locals := 12 } : Room) s m #[(.ref a1)] below meth c s₁ [] 0 0 := Stand.of_body Bd
  have e0 : s₁.heap = h0 := by rw [← hh, Bd.state]; rfl
  have N0 := Fr.nil n0
  have pre0 : ∀ t, Steps p.tables e below (s₁.setTop (mkF m 0 #[.val (.ref a1)] [])) t → Steps p.tables e below (s₁.setTop (entryFrame m #[(.ref a1)] 1)) t := fun t k => castTop (ef11 m a1) k
  obtain ⟨T1, X1, e1, st1⟩ := initO X0 hx hZ hown (hw _ m6) (hw _ m7) (hw _ m8) e0 (g := (mkF m 1 #[.val (.ref a1)] [(.ref a1)])) rfl (by rw [hml]; rfl) rfl (hb hby d1_1) (by decide) (W := 0) (by show 2 * 0 + _ ≤ _; exact Nat.le_of_eq rfl) (by decide)
  obtain ⟨fs, hr, hrun, hended, hW, hsame⟩ := X1.leave (v := none) (fun _ => rfl)
  refine ⟨_, _, pre0 _ ?_, hrun, hended, _, _, rfl, ?_, ⟨_, rfl⟩, hW, hsame.mono (by decide) (by decide)⟩
  · show Steps p.tables e below (s₁.setTop (mkF m 0 #[.val (.ref a1)] [])) _
    refine XS.aloadN X0.here hx rfl (hb hby d1_0) rfl rfl ?_
    refine st1 _ ?_
    exact X1.returnOut hx Bd.returns (hb hby d1_4) hr
  · show Qrm1 Z w1 clw1 w2 clw2 a1 h0 n0 _ T1.heap _
    rw [e1]
    exact ⟨rfl, N0, rfl⟩
def Qrm2 (Z : State) (w1 : Addr) (clw1 : Cell) (w2 : Addr) (clw2 : Cell) (a1 : Addr) (h0 : Heap) (n0 : Nat) (v : Option Value) (h : Heap) (L : List Loc) : Prop := v = some (.int (0 : Int32)) ∧ Fr n0 L ∧ h = h0
set_option maxRecDepth 65536 in
set_option maxHeartbeats 40000000 in
theorem rm2 (l : Launch) (Z : State) (a0 : Array Value) (hw : ∀ d ∈ tables_1, d.before a0 Z = true) (hj : ∀ d ∈ jdkStatics_1, d.before a0 Z = true) (w1 : Addr) (clw1 : Cell) (w2 : Addr) (clw2 : Cell) (hS : SF Z w1 clw1 w2 clw2) (ws : List Jvm.Cond) (a1 : Addr) (h0 : Heap) (n0 : Nat) (O0 : Old Z n0 h0) (F1 : Fld Z h0 a1 z0 "value" z4 .null) :
    MetFree l (⟨z0, "isAssigned", "()Z"⟩ : MethodName) (head1 (Jvm.Cond.code (⟨z0, "isAssigned", "()Z"⟩ : MethodName) prog_1_method_3_code 1 (some .boolean) :: ws) ({ frames := 0, cells := 0, slots := 0, locals := 0 } : Room)) (fun a U => a = #[(.ref a1)] ∧ Z.Warmed39 U.vm ∧ U.heap = h0) (fun _ _ _ _ _ => True) (fun _ U o U' => ∃ v L, o = .returned v ∧ Qrm2 Z w1 clw1 w2 clw2 a1 h0 n0 v U'.heap L ∧ FrameEnd U o U' L ({ frames := 0, cells := 0, slots := 0, locals := 0 } : Room).cells ({ frames := 0, cells := 0, slots := 0, locals := 0 } : Room).slots) := by
  refine MetFree.of_bodySF (plainFor_of_name pn12) hisR ?_
  intro p e s m args below meth c s₁ Bd hml0 hP hK
  obtain ⟨rfl, hZ, hh⟩ := hP
  have hx := Bd.exec
  have hby := Bd.bytes
  have hml : c.maxLocals = 1 := hml0
  have hown : s.vm.findClass z0 = some m.cls := findClass_of_methodNamed Bd.named
  have hnm := (name_of_methodNamed Bd.named Bd.method).1
  have X0 : Stand p l e ({ frames := 0, cells := 0, slots := 0, locals := 0 } : Room) s m #[(.ref a1)] below meth c s₁ [] 0 0 := Stand.of_body Bd
  have e0 : s₁.heap = h0 := by rw [← hh, Bd.state]; rfl
  have N0 := Fr.nil n0
  have pre0 : ∀ t, Steps p.tables e below (s₁.setTop (mkF m 0 #[.val (.ref a1)] [])) t → Steps p.tables e below (s₁.setTop (entryFrame m #[(.ref a1)] 1)) t := fun t k => castTop (ef11 m a1) k
  obtain ⟨T1, X1, e1, st1⟩ := getF X0 hx hZ hown (host := "") (Or.inl (hw _ m14)) Via.refl e0 F1 (g := (mkF m 1 #[.val (.ref a1)] [(.ref a1)])) rfl rfl (hb hby d3_1)
  obtain ⟨fs, hr, hrun, hended, hW, hsame⟩ := X1.leave (v := some (.int (0 : Int32))) (fun h => by rw [Bd.returns] at h; cases h)
  refine ⟨_, _, pre0 _ ?_, hrun, hended, _, _, rfl, ?_, ⟨_, rfl⟩, hW, hsame.mono (by decide) (by decide)⟩
  · show Steps p.tables e below (s₁.setTop (mkF m 0 #[.val (.ref a1)] [])) _
    refine XS.aloadN X0.here hx rfl (hb hby d3_0) rfl rfl ?_
    refine st1 _ ?_
    refine XS.ifnullYes X1.here hx rfl (pc0 := 4) (pc' := 11) rfl (hb hby d3_4) rfl (by decide) (by decide) ?_
    refine XS.iconst X1.here hx rfl (hb hby d3_11) ?_
    show Steps p.tables e below (T1.setTop (mkF m 12 #[.val (.ref a1)] [(.int (0 : Int32))])) _
    exact retN X1 hx (t := .boolean) Bd.returns (by simp) (hb hby d3_12) hr
  · show Qrm2 Z w1 clw1 w2 clw2 a1 h0 n0 _ T1.heap _
    rw [e1]
    exact ⟨rfl, N0, rfl⟩
def Qrm3 (Z : State) (w1 : Addr) (clw1 : Cell) (w2 : Addr) (clw2 : Cell) (a1 : Addr) (h0 : Heap) (n0 : Nat) (v : Option Value) (h : Heap) (L : List Loc) : Prop := v = none ∧ Fr n0 L ∧ h = h0
set_option maxRecDepth 65536 in
set_option maxHeartbeats 40000000 in
theorem rm3 (l : Launch) (Z : State) (a0 : Array Value) (hw : ∀ d ∈ tables_1, d.before a0 Z = true) (hj : ∀ d ∈ jdkStatics_1, d.before a0 Z = true) (w1 : Addr) (clw1 : Cell) (w2 : Addr) (clw2 : Cell) (hS : SF Z w1 clw1 w2 clw2) (ws : List Jvm.Cond) (a1 : Addr) (h0 : Heap) (n0 : Nat) (O0 : Old Z n0 h0) :
    MetFree l (⟨z10, "<init>", "()V"⟩ : MethodName) (head1 (Jvm.Cond.code (⟨z10, "<init>", "()V"⟩ : MethodName) jdk_18_method_1_code 1 none :: ws) ({ frames := 1, cells := 0, slots := 0, locals := 12 } : Room)) (fun a U => a = #[(.ref a1)] ∧ Z.Warmed39 U.vm ∧ U.heap = h0) (fun _ _ _ _ _ => True) (fun _ U o U' => ∃ v L, o = .returned v ∧ Qrm3 Z w1 clw1 w2 clw2 a1 h0 n0 v U'.heap L ∧ FrameEnd U o U' L ({ frames := 1, cells := 0, slots := 0, locals := 12 } : Room).cells ({ frames := 1, cells := 0, slots := 0, locals := 12 } : Room).slots) := by
  refine MetFree.of_bodySF (plainFor_of_name pn48) hisR ?_
  intro p e s m args below meth c s₁ Bd hml0 hP hK
  obtain ⟨rfl, hZ, hh⟩ := hP
  have hx := Bd.exec
  have hby := Bd.bytes
  have hml : c.maxLocals = 1 := hml0
  have hown : s.vm.findClass z10 = some m.cls := findClass_of_methodNamed Bd.named
  have hnm := (name_of_methodNamed Bd.named Bd.method).1
  have X0 : Stand p l e ({ frames := 1, cells := 0, slots := 0, locals := 12 } : Room) s m #[(.ref a1)] below meth c s₁ [] 0 0 := Stand.of_body Bd
  have e0 : s₁.heap = h0 := by rw [← hh, Bd.state]; rfl
  have N0 := Fr.nil n0
  have pre0 : ∀ t, Steps p.tables e below (s₁.setTop (mkF m 0 #[.val (.ref a1)] [])) t → Steps p.tables e below (s₁.setTop (entryFrame m #[(.ref a1)] 1)) t := fun t k => castTop (ef11 m a1) k
  obtain ⟨T1, X1, e1, st1⟩ := initO X0 hx hZ hown (hw _ m53) (hw _ m7) (hw _ m8) e0 (g := (mkF m 1 #[.val (.ref a1)] [(.ref a1)])) rfl (by rw [hml]; rfl) rfl (hb hby d9_1) (by decide) (W := 0) (by show 2 * 0 + _ ≤ _; exact Nat.le_of_eq rfl) (by decide)
  obtain ⟨fs, hr, hrun, hended, hW, hsame⟩ := X1.leave (v := none) (fun _ => rfl)
  refine ⟨_, _, pre0 _ ?_, hrun, hended, _, _, rfl, ?_, ⟨_, rfl⟩, hW, hsame.mono (by decide) (by decide)⟩
  · show Steps p.tables e below (s₁.setTop (mkF m 0 #[.val (.ref a1)] [])) _
    refine XS.aloadN X0.here hx rfl (hb hby d9_0) rfl rfl ?_
    refine st1 _ ?_
    exact X1.returnOut hx Bd.returns (hb hby d9_4) hr
  · show Qrm3 Z w1 clw1 w2 clw2 a1 h0 n0 _ T1.heap _
    rw [e1]
    exact ⟨rfl, N0, rfl⟩
def Qrm4 (Z : State) (w1 : Addr) (clw1 : Cell) (w2 : Addr) (clw2 : Cell) (p1 : Int32) (a2 : Addr) (h0 : Heap) (n0 : Nat) (v : Option Value) (h : Heap) (L : List Loc) : Prop := v = none ∧ Fr n0 L ∧ Keep h0 h [a2] ∧ Fld Z h a2 z1 "value" "I" (.int p1)
set_option maxRecDepth 65536 in
set_option maxHeartbeats 40000000 in
theorem rm4 (l : Launch) (Z : State) (a0 : Array Value) (hw : ∀ d ∈ tables_1, d.before a0 Z = true) (hj : ∀ d ∈ jdkStatics_1, d.before a0 Z = true) (w1 : Addr) (clw1 : Cell) (w2 : Addr) (clw2 : Cell) (hS : SF Z w1 clw1 w2 clw2) (ws : List Jvm.Cond) (p1 : Int32) (a2 : Addr) (h0 : Heap) (n0 : Nat) (O0 : Old Z n0 h0) (E1 : Exa Z h0 a2 z1) (F2 : Fld Z h0 a2 z1 "value" "I" (.int (0 : Int32))) (g3 : n0 ≤ a2) :
    MetFree l (⟨z1, "<init>", "(I)V"⟩ : MethodName) (head1 (Jvm.Cond.code (⟨z1, "<init>", "(I)V"⟩ : MethodName) jdk_33_method_23_code 2 none :: ws) ({ frames := 2, cells := 0, slots := 0, locals := 24 } : Room)) (fun a U => a = #[(.ref a2), (.int p1)] ∧ Z.Warmed39 U.vm ∧ U.heap = h0) (fun _ _ _ _ _ => True) (fun _ U o U' => ∃ v L, o = .returned v ∧ Qrm4 Z w1 clw1 w2 clw2 p1 a2 h0 n0 v U'.heap L ∧ FrameEnd U o U' L ({ frames := 2, cells := 0, slots := 0, locals := 24 } : Room).cells ({ frames := 2, cells := 0, slots := 0, locals := 24 } : Room).slots) := by
  refine MetFree.of_bodySF (plainFor_of_name pn58) hisR ?_
  intro p e s m args below meth c s₁ Bd hml0 hP hK
  obtain ⟨rfl, hZ, hh⟩ := hP
  have hx := Bd.exec
  have hby := Bd.bytes
  have hml : c.maxLocals = 2 := hml0
  have hown : s.vm.findClass z1 = some m.cls := findClass_of_methodNamed Bd.named
  have hnm := (name_of_methodNamed Bd.named Bd.method).1
  have X0 : Stand p l e ({ frames := 2, cells := 0, slots := 0, locals := 24 } : Room) s m #[(.ref a2), (.int p1)] below meth c s₁ [] 0 0 := Stand.of_body Bd
  have e0 : s₁.heap = h0 := by rw [← hh, Bd.state]; rfl
  have N0 := Fr.nil n0
  have pre0 : ∀ t, Steps p.tables e below (s₁.setTop (mkF m 0 #[.val (.ref a2), .val (.int p1)] [])) t → Steps p.tables e below (s₁.setTop (entryFrame m #[(.ref a2), (.int p1)] 2)) t := fun t k => castTop (ef57 m a2 p1) k
  obtain ⟨_, T1, L1, hQ1, X1, st1⟩ := own_special X0 hx hZ (W := 0) rfl hown (hw _ m62) (hw _ m48) (hw _ m51) (hw _ m52) (by decide) (rm3 l Z a0 hw hj w1 clw1 w2 clw2 hS [] a2 h0 n0 O0) e0 (a := a2) (g := (mkF m 1 #[.val (.ref a2), .val (.int p1)] [(.ref a2)])) rfl (by rw [hml]; rfl) (argsL := []) (rest := []) (lenOf pd14 rfl) rfl rfl (by show 2 * 0 + _ ≤ _; exact Nat.le_of_eq rfl) (hb hby d10_1) (by decide) (by decide) (by decide) (by decide)
  obtain ⟨rfl, N1q, e1⟩ := hQ1
  have N1 := Fr.app N0 N1q
  have e1' : T1.heap = h0 := e1
  obtain ⟨T2, h2, L'2, X2, e2, W2, Fw2, O2, K2, N2, st2⟩ := own_put X1 hx hZ hown (host := "") (Or.inl (hw _ m64)) Via.refl e1' O0 (Keep.refl h0 [a2]) N1 g3 (Or.inl (List.mem_of_getElem? (i := 0) rfl)) F2 E1 (Or.inr ⟨(hw _ m65), rfl, hnm⟩) (hw _ m57) (ty := .int) (by decide) rfl rfl (g := (mkF m 6 #[.val (.ref a2), .val (.int p1)] [(.int p1), (.ref a2)])) rfl rfl (hb hby d10_6)
  obtain ⟨fs, hr, hrun, hended, hW, hsame⟩ := X2.leave (v := none) (fun _ => rfl)
  refine ⟨_, _, pre0 _ ?_, hrun, hended, _, _, rfl, ?_, ⟨_, rfl⟩, hW, hsame.mono (by decide) (by decide)⟩
  · show Steps p.tables e below (s₁.setTop (mkF m 0 #[.val (.ref a2), .val (.int p1)] [])) _
    refine XS.aloadN X0.here hx rfl (hb hby d10_0) rfl rfl ?_
    refine st1 _ ?_
    refine XS.aloadN X1.here hx rfl (hb hby d10_4) rfl rfl ?_
    refine XS.iloadN X1.here hx rfl (hb hby d10_5) rfl ?_
    show Steps p.tables e below (T1.setTop (mkF m 6 #[.val (.ref a2), .val (.int p1)] [(.int p1), (.ref a2)])) _
    refine st2 _ ?_
    exact X2.returnOut hx Bd.returns (hb hby d10_9) hr
  · show Qrm4 Z w1 clw1 w2 clw2 p1 a2 h0 n0 _ T2.heap _
    rw [e2]
    exact ⟨rfl, N2, K2, Fw2⟩
def Qrm5 (Z : State) (w1 : Addr) (clw1 : Cell) (w2 : Addr) (clw2 : Cell) (p1 : Int32) (h0 : Heap) (n0 : Nat) (v : Option Value) (h : Heap) (L : List Loc) : Prop := ∃ x0 : Addr, v = some (.ref x0) ∧ Fr n0 L ∧ Keep h0 h [] ∧ h0.size ≤ x0 ∧ Exa Z h x0 z1 ∧ Fld Z h x0 z1 "value" "I" (.int p1)
set_option maxRecDepth 65536 in
set_option maxHeartbeats 40000000 in
theorem rm5 (l : Launch) (Z : State) (a0 : Array Value) (hw : ∀ d ∈ tables_1, d.before a0 Z = true) (hj : ∀ d ∈ jdkStatics_1, d.before a0 Z = true) (w1 : Addr) (clw1 : Cell) (w2 : Addr) (clw2 : Cell) (hS : SF Z w1 clw1 w2 clw2) (ws : List Jvm.Cond) (p1 : Int32) (h0 : Heap) (n0 : Nat) (O0 : Old Z n0 h0) (hc1 : p1 < (-128 : Int32)) :
    MetFree l (⟨z1, "valueOf", z6⟩ : MethodName) (head1 (Jvm.Cond.code (⟨z1, "valueOf", z6⟩ : MethodName) jdk_33_method_22_code 1 (some (.object z1)) :: ws) ({ frames := 3, cells := 1, slots := 1, locals := 38 } : Room)) (fun a U => a = #[(.int p1)] ∧ Z.Warmed39 U.vm ∧ U.heap = h0) (fun _ _ _ _ _ => True) (fun _ U o U' => ∃ v L, o = .returned v ∧ Qrm5 Z w1 clw1 w2 clw2 p1 h0 n0 v U'.heap L ∧ FrameEnd U o U' L ({ frames := 3, cells := 1, slots := 1, locals := 38 } : Room).cells ({ frames := 3, cells := 1, slots := 1, locals := 38 } : Room).slots) := by
  refine MetFree.of_bodySF (plainFor_of_name pn58) hisR ?_
  intro p e s m args below meth c s₁ Bd hml0 hP hK
  obtain ⟨rfl, hZ, hh⟩ := hP
  have hx := Bd.exec
  have hby := Bd.bytes
  have hml : c.maxLocals = 1 := hml0
  have hown : s.vm.findClass z1 = some m.cls := findClass_of_methodNamed Bd.named
  have hnm := (name_of_methodNamed Bd.named Bd.method).1
  have X0 : Stand p l e ({ frames := 3, cells := 1, slots := 1, locals := 38 } : Room) s m #[(.int p1)] below meth c s₁ [] 0 0 := Stand.of_body Bd
  have e0 : s₁.heap = h0 := by rw [← hh, Bd.state]; rfl
  have N0 := Fr.nil n0
  have pre0 : ∀ t, Steps p.tables e below (s₁.setTop (mkF m 0 #[.val (.int p1)] [])) t → Steps p.tables e below (s₁.setTop (entryFrame m #[(.int p1)] 1)) t := fun t k => castTop (ef63 m p1) k
  obtain ⟨T1, h1, b1, X1, e1, E1, A1, D1, g1, O1, K1, st1⟩ := own_newO X0 hx hZ hown (hw _ m56) (hw _ m57) (hw _ m18) e0 O0 (Keep.refl h0 []) (g := (mkF m 23 #[.val (.int p1)] [])) rfl (hb hby d4_23) (by decide) (by decide)
  have F1_1 : Fld Z h1 b1 z1 "value" "I" (.int (0 : Int32)) := D1 (Or.inr (hw _ m65)) (ty := .int) (by decide)
  obtain ⟨_, T2, L2, hQ2, X2, st2⟩ := own_special X1 hx hZ (W := 1) rfl hown (hw _ m58) (hw _ m59) (hw _ m18) (hw _ m61) (by decide) (rm4 l Z a0 hw hj w1 clw1 w2 clw2 hS [] p1 b1 h1 n0 O1 A1 F1_1 (Nat.le_trans (own_old_le O0) g1)) e1 (a := b1) (g := (mkF m 28 #[.val (.int p1)] [(.int p1), (.ref b1), (.ref b1)])) rfl (by rw [hml]; rfl) (argsL := [(.int p1)]) (rest := [(.ref b1)]) (lenOf pd60 rfl) rfl rfl (by show 2 * 0 + _ ≤ _; exact Nat.le_of_eq rfl) (hb hby d4_28) (by decide) (by decide) (by decide) (by decide)
  obtain ⟨rfl, N2q, Kq2, q2_0⟩ := hQ2
  have N2 := Fr.app N0 N2q
  have O2 : Old Z n0 T2.heap := O1.keep Kq2 (allS (Nat.le_trans (own_old_le O0) g1) all0)
  have K2 : Keep h0 T2.heap [] := K1.trans Kq2 (allS (Or.inr (Nat.le_trans (Keep.refl h0 []).1 g1)) all0)
  have f3 : Exa Z T2.heap b1 z1 := (A1.keep Kq2)
  obtain ⟨fs, hr, hrun, hended, hW, hsame⟩ := X2.leave (v := some (.ref b1)) (fun h => by rw [Bd.returns] at h; cases h)
  refine ⟨_, _, pre0 _ ?_, hrun, hended, _, _, rfl, ?_, ⟨_, rfl⟩, hW, hsame.mono (by decide) (by decide)⟩
  · show Steps p.tables e below (s₁.setTop (mkF m 0 #[.val (.int p1)] [])) _
    refine XS.iloadN X0.here hx rfl (hb hby d4_0) rfl ?_
    refine XS.bipush X0.here hx rfl (hb hby d4_1) ?_
    refine XS.icmpYes X0.here hx rfl (pc0 := 3) (pc' := 23) rfl (hb hby d4_3) rfl (tlt hc1).1 (by decide) (by decide) ?_
    refine st1 _ ?_
    show Steps p.tables e below (T1.setTop (mkF m 26 #[.val (.int p1)] [(.ref b1)])) _
    refine XS.dup X1.here hx rfl (hb hby d4_26) rfl rfl ?_
    refine XS.iloadN X1.here hx rfl (hb hby d4_27) rfl ?_
    refine st2 _ ?_
    exact retOut X2 hx Bd.returns rfl (Or.inr (Or.inr (Or.inr (Or.inr ⟨rfl, rfl, rfl⟩)))) (hb hby d4_31) hr
  · show Qrm5 Z w1 clw1 w2 clw2 p1 h0 n0 _ T2.heap _
    exact ⟨b1, rfl, N2, K2, (Nat.le_trans (Keep.refl h0 []).1 g1), f3, q2_0⟩
def Qrm6 (Z : State) (w1 : Addr) (clw1 : Cell) (w2 : Addr) (clw2 : Cell) (q1 : Int64) (a2 : Addr) (h0 : Heap) (n0 : Nat) (v : Option Value) (h : Heap) (L : List Loc) : Prop := v = none ∧ Fr n0 L ∧ Keep h0 h [a2] ∧ Fld Z h a2 z2 "value" "J" (.long q1)
set_option maxRecDepth 65536 in
set_option maxHeartbeats 40000000 in
theorem rm6 (l : Launch) (Z : State) (a0 : Array Value) (hw : ∀ d ∈ tables_1, d.before a0 Z = true) (hj : ∀ d ∈ jdkStatics_1, d.before a0 Z = true) (w1 : Addr) (clw1 : Cell) (w2 : Addr) (clw2 : Cell) (hS : SF Z w1 clw1 w2 clw2) (ws : List Jvm.Cond) (q1 : Int64) (a2 : Addr) (h0 : Heap) (n0 : Nat) (O0 : Old Z n0 h0) (E1 : Exa Z h0 a2 z2) (F2 : Fld Z h0 a2 z2 "value" "J" (.long (0 : Int64))) (g3 : n0 ≤ a2) :
    MetFree l (⟨z2, "<init>", "(J)V"⟩ : MethodName) (head1 (Jvm.Cond.code (⟨z2, "<init>", "(J)V"⟩ : MethodName) jdk_35_method_26_code 3 none :: ws) ({ frames := 2, cells := 0, slots := 0, locals := 24 } : Room)) (fun a U => a = #[(.ref a2), (.long q1)] ∧ Z.Warmed39 U.vm ∧ U.heap = h0) (fun _ _ _ _ _ => True) (fun _ U o U' => ∃ v L, o = .returned v ∧ Qrm6 Z w1 clw1 w2 clw2 q1 a2 h0 n0 v U'.heap L ∧ FrameEnd U o U' L ({ frames := 2, cells := 0, slots := 0, locals := 24 } : Room).cells ({ frames := 2, cells := 0, slots := 0, locals := 24 } : Room).slots) := by
  refine MetFree.of_bodySF (plainFor_of_name pn93) hisR ?_
  intro p e s m args below meth c s₁ Bd hml0 hP hK
  obtain ⟨rfl, hZ, hh⟩ := hP
  have hx := Bd.exec
  have hby := Bd.bytes
  have hml : c.maxLocals = 3 := hml0
  have hown : s.vm.findClass z2 = some m.cls := findClass_of_methodNamed Bd.named
  have hnm := (name_of_methodNamed Bd.named Bd.method).1
  have X0 : Stand p l e ({ frames := 2, cells := 0, slots := 0, locals := 24 } : Room) s m #[(.ref a2), (.long q1)] below meth c s₁ [] 0 0 := Stand.of_body Bd
  have e0 : s₁.heap = h0 := by rw [← hh, Bd.state]; rfl
  have N0 := Fr.nil n0
  have pre0 : ∀ t, Steps p.tables e below (s₁.setTop (mkF m 0 #[.val (.ref a2), .val (.long q1), .second] [])) t → Steps p.tables e below (s₁.setTop (entryFrame m #[(.ref a2), (.long q1)] 3)) t := fun t k => castTop (ef92 m a2 q1) k
  obtain ⟨_, T1, L1, hQ1, X1, st1⟩ := own_special X0 hx hZ (W := 0) rfl hown (hw _ m47) (hw _ m48) (hw _ m51) (hw _ m52) (by decide) (rm3 l Z a0 hw hj w1 clw1 w2 clw2 hS [] a2 h0 n0 O0) e0 (a := a2) (g := (mkF m 1 #[.val (.ref a2), .val (.long q1), .second] [(.ref a2)])) rfl (by rw [hml]; rfl) (argsL := []) (rest := []) (lenOf pd14 rfl) rfl rfl (by show 2 * 0 + _ ≤ _; exact Nat.le_of_eq rfl) (hb hby d8_1) (by decide) (by decide) (by decide) (by decide)
  obtain ⟨rfl, N1q, e1⟩ := hQ1
  have N1 := Fr.app N0 N1q
  have e1' : T1.heap = h0 := e1
  obtain ⟨T2, h2, L'2, X2, e2, W2, Fw2, O2, K2, N2, st2⟩ := own_put X1 hx hZ hown (host := "") (Or.inl (hw _ m54)) Via.refl e1' O0 (Keep.refl h0 [a2]) N1 g3 (Or.inl (List.mem_of_getElem? (i := 0) rfl)) F2 E1 (Or.inr ⟨(hw _ m55), rfl, hnm⟩) (hw _ m42) (ty := .long) (by decide) rfl rfl (g := (mkF m 6 #[.val (.ref a2), .val (.long q1), .second] [(.long q1), (.ref a2)])) rfl rfl (hb hby d8_6)
  obtain ⟨fs, hr, hrun, hended, hW, hsame⟩ := X2.leave (v := none) (fun _ => rfl)
  refine ⟨_, _, pre0 _ ?_, hrun, hended, _, _, rfl, ?_, ⟨_, rfl⟩, hW, hsame.mono (by decide) (by decide)⟩
  · show Steps p.tables e below (s₁.setTop (mkF m 0 #[.val (.ref a2), .val (.long q1), .second] [])) _
    refine XS.aloadN X0.here hx rfl (hb hby d8_0) rfl rfl ?_
    refine st1 _ ?_
    refine XS.aloadN X1.here hx rfl (hb hby d8_4) rfl rfl ?_
    refine XS.lloadN X1.here hx rfl (hb hby d8_5) rfl ?_
    show Steps p.tables e below (T1.setTop (mkF m 6 #[.val (.ref a2), .val (.long q1), .second] [(.long q1), (.ref a2)])) _
    refine st2 _ ?_
    exact X2.returnOut hx Bd.returns (hb hby d8_9) hr
  · show Qrm6 Z w1 clw1 w2 clw2 q1 a2 h0 n0 _ T2.heap _
    rw [e2]
    exact ⟨rfl, N2, K2, Fw2⟩
def Qrm7 (Z : State) (w1 : Addr) (clw1 : Cell) (w2 : Addr) (clw2 : Cell) (q1 : Int64) (h0 : Heap) (n0 : Nat) (v : Option Value) (h : Heap) (L : List Loc) : Prop := ∃ x0 : Addr, v = some (.ref x0) ∧ Fr n0 L ∧ Keep h0 h [] ∧ h0.size ≤ x0 ∧ Exa Z h x0 z2 ∧ Fld Z h x0 z2 "value" "J" (.long q1)
set_option maxRecDepth 65536 in
set_option maxHeartbeats 40000000 in
theorem rm7 (l : Launch) (Z : State) (a0 : Array Value) (hw : ∀ d ∈ tables_1, d.before a0 Z = true) (hj : ∀ d ∈ jdkStatics_1, d.before a0 Z = true) (w1 : Addr) (clw1 : Cell) (w2 : Addr) (clw2 : Cell) (hS : SF Z w1 clw1 w2 clw2) (ws : List Jvm.Cond) (q1 : Int64) (h0 : Heap) (n0 : Nat) (O0 : Old Z n0 h0) (hc1 : q1 < (-128 : Int64)) :
    MetFree l (⟨z2, "valueOf", z7⟩ : MethodName) (head1 (Jvm.Cond.code (⟨z2, "valueOf", z7⟩ : MethodName) jdk_35_method_24_code 3 (some (.object z2)) :: ws) ({ frames := 3, cells := 1, slots := 1, locals := 39 } : Room)) (fun a U => a = #[(.long q1)] ∧ Z.Warmed39 U.vm ∧ U.heap = h0) (fun _ _ _ _ _ => True) (fun _ U o U' => ∃ v L, o = .returned v ∧ Qrm7 Z w1 clw1 w2 clw2 q1 h0 n0 v U'.heap L ∧ FrameEnd U o U' L ({ frames := 3, cells := 1, slots := 1, locals := 39 } : Room).cells ({ frames := 3, cells := 1, slots := 1, locals := 39 } : Room).slots) := by
  refine MetFree.of_bodySF (plainFor_of_name pn93) hisR ?_
  intro p e s m args below meth c s₁ Bd hml0 hP hK
  obtain ⟨rfl, hZ, hh⟩ := hP
  have hx := Bd.exec
  have hby := Bd.bytes
  have hml : c.maxLocals = 3 := hml0
  have hown : s.vm.findClass z2 = some m.cls := findClass_of_methodNamed Bd.named
  have hnm := (name_of_methodNamed Bd.named Bd.method).1
  have X0 : Stand p l e ({ frames := 3, cells := 1, slots := 1, locals := 39 } : Room) s m #[(.long q1)] below meth c s₁ [] 0 0 := Stand.of_body Bd
  have e0 : s₁.heap = h0 := by rw [← hh, Bd.state]; rfl
  have N0 := Fr.nil n0
  have pre0 : ∀ t, Steps p.tables e below (s₁.setTop (mkF m 0 #[.val (.long q1), .second, .unset] [])) t → Steps p.tables e below (s₁.setTop (entryFrame m #[(.long q1)] 3)) t := fun t k => castTop (ef98 m q1) k
  obtain ⟨T1, h1, b1, X1, e1, E1, A1, D1, g1, O1, K1, st1⟩ := own_newO X0 hx hZ hown (hw _ m41) (hw _ m42) (hw _ m25) e0 O0 (Keep.refl h0 []) (g := (mkF m 31 #[.val (.long q1), .second, .val (.int (128 : Int32))] [])) rfl (hb hby d5_31) (by decide) (by decide)
  have F1_1 : Fld Z h1 b1 z2 "value" "J" (.long (0 : Int64)) := D1 (Or.inr (hw _ m55)) (ty := .long) (by decide)
  obtain ⟨_, T2, L2, hQ2, X2, st2⟩ := own_special X1 hx hZ (W := 1) rfl hown (hw _ m43) (hw _ m44) (hw _ m25) (hw _ m46) (by decide) (rm6 l Z a0 hw hj w1 clw1 w2 clw2 hS [] q1 b1 h1 n0 O1 A1 F1_1 (Nat.le_trans (own_old_le O0) g1)) e1 (a := b1) (g := (mkF m 36 #[.val (.long q1), .second, .val (.int (128 : Int32))] [(.long q1), (.ref b1), (.ref b1)])) rfl (by rw [hml]; rfl) (argsL := [(.long q1)]) (rest := [(.ref b1)]) (lenOf pd95 rfl) rfl rfl (by show 2 * 0 + _ ≤ _; exact Nat.le_of_eq rfl) (hb hby d5_36) (by decide) (by decide) (by decide) (by decide)
  obtain ⟨rfl, N2q, Kq2, q2_0⟩ := hQ2
  have N2 := Fr.app N0 N2q
  have O2 : Old Z n0 T2.heap := O1.keep Kq2 (allS (Nat.le_trans (own_old_le O0) g1) all0)
  have K2 : Keep h0 T2.heap [] := K1.trans Kq2 (allS (Or.inr (Nat.le_trans (Keep.refl h0 []).1 g1)) all0)
  have f3 : Exa Z T2.heap b1 z2 := (A1.keep Kq2)
  obtain ⟨fs, hr, hrun, hended, hW, hsame⟩ := X2.leave (v := some (.ref b1)) (fun h => by rw [Bd.returns] at h; cases h)
  refine ⟨_, _, pre0 _ ?_, hrun, hended, _, _, rfl, ?_, ⟨_, rfl⟩, hW, hsame.mono (by decide) (by decide)⟩
  · show Steps p.tables e below (s₁.setTop (mkF m 0 #[.val (.long q1), .second, .unset] [])) _
    refine XS.sipush X0.here hx rfl (hb hby d5_0) ?_
    refine XS.istoreN X0.here hx rfl (hb hby d5_3) rfl (l' := #[.val (.long q1), .second, .val (.int (128 : Int32))]) rfl ?_
    refine XS.lloadN X0.here hx rfl (hb hby d5_4) rfl ?_
    refine X0.ldc2Long hx hown (mvT hZ (hw _ m27)) (g := (mkF m 5 #[.val (.long q1), .second, .val (.int (128 : Int32))] [(.long q1)])) rfl (hb hby d5_5) _ ?_
    show Steps p.tables e below (s₁.setTop (mkF m 8 #[.val (.long q1), .second, .val (.int (128 : Int32))] [(.long (-128 : Int64)), (.long q1)])) _
    refine XS.lcmp X0.here hx rfl (hb hby d5_8) rfl ?_
    refine XS.ifYes X0.here hx rfl (pc0 := 9) (pc' := 31) rfl (hb hby d5_9) rfl ((if0 _ _).trans (tlt ((lw_lt q1 (-128 : Int64)).mpr hc1)).1) (by decide) (by decide) ?_
    refine st1 _ ?_
    refine XS.dup X1.here hx rfl (hb hby d5_34) rfl rfl ?_
    show Steps p.tables e below (T1.setTop (mkF m 35 #[.val (.long q1), .second, .val (.int (128 : Int32))] [(.ref b1), (.ref b1)])) _
    refine XS.lloadN X1.here hx rfl (hb hby d5_35) rfl ?_
    refine st2 _ ?_
    exact retOut X2 hx Bd.returns rfl (Or.inr (Or.inr (Or.inr (Or.inr ⟨rfl, rfl, rfl⟩)))) (hb hby d5_39) hr
  · show Qrm7 Z w1 clw1 w2 clw2 q1 h0 n0 _ T2.heap _
    exact ⟨b1, rfl, N2, K2, (Nat.le_trans (Keep.refl h0 []).1 g1), f3, q2_0⟩
def Qrm8 (Z : State) (w1 : Addr) (clw1 : Cell) (w2 : Addr) (clw2 : Cell) (a1 : Addr) (a2 : Addr) (h0 : Heap) (n0 : Nat) (v : Option Value) (h : Heap) (L : List Loc) : Prop := v = none ∧ Fr n0 L ∧ Keep h0 h [a1] ∧ Fld Z h a1 z0 "value" z4 (.ref a2)
set_option maxRecDepth 65536 in
set_option maxHeartbeats 40000000 in
theorem rm8 (l : Launch) (Z : State) (a0 : Array Value) (hw : ∀ d ∈ tables_1, d.before a0 Z = true) (hj : ∀ d ∈ jdkStatics_1, d.before a0 Z = true) (w1 : Addr) (clw1 : Cell) (w2 : Addr) (clw2 : Cell) (hS : SF Z w1 clw1 w2 clw2) (ws : List Jvm.Cond) (a1 : Addr) (a2 : Addr) (h0 : Heap) (n0 : Nat) (O0 : Old Z n0 h0) (E1 : Exa Z h0 a1 z0) (F2 : Fld Z h0 a1 z0 "value" z4 .null) (g3 : n0 ≤ a1) :
    MetFree l (⟨z0, "assign", z5⟩ : MethodName) (head1 (Jvm.Cond.code (⟨z0, "assign", z5⟩ : MethodName) prog_1_method_2_code 2 none :: ws) ({ frames := 0, cells := 0, slots := 0, locals := 0 } : Room)) (fun a U => a = #[(.ref a1), (.ref a2)] ∧ Z.Warmed39 U.vm ∧ U.heap = h0) (fun _ _ _ _ _ => True) (fun _ U o U' => ∃ v L, o = .returned v ∧ Qrm8 Z w1 clw1 w2 clw2 a1 a2 h0 n0 v U'.heap L ∧ FrameEnd U o U' L ({ frames := 0, cells := 0, slots := 0, locals := 0 } : Room).cells ({ frames := 0, cells := 0, slots := 0, locals := 0 } : Room).slots) := by
  refine MetFree.of_bodySF (plainFor_of_name pn12) hisR ?_
  intro p e s m args below meth c s₁ Bd hml0 hP hK
  obtain ⟨rfl, hZ, hh⟩ := hP
  have hx := Bd.exec
  have hby := Bd.bytes
  have hml : c.maxLocals = 2 := hml0
  have hown : s.vm.findClass z0 = some m.cls := findClass_of_methodNamed Bd.named
  have hnm := (name_of_methodNamed Bd.named Bd.method).1
  have X0 : Stand p l e ({ frames := 0, cells := 0, slots := 0, locals := 0 } : Room) s m #[(.ref a1), (.ref a2)] below meth c s₁ [] 0 0 := Stand.of_body Bd
  have e0 : s₁.heap = h0 := by rw [← hh, Bd.state]; rfl
  have N0 := Fr.nil n0
  have pre0 : ∀ t, Steps p.tables e below (s₁.setTop (mkF m 0 #[.val (.ref a1), .val (.ref a2)] [])) t → Steps p.tables e below (s₁.setTop (entryFrame m #[(.ref a1), (.ref a2)] 2)) t := fun t k => castTop (ef108 m a1 a2) k
  obtain ⟨T1, h1, L'1, X1, e1, W1, Fw1, O1, K1, N1, st1⟩ := own_put X0 hx hZ hown (host := "") (Or.inl (hw _ m14)) Via.refl e0 O0 (Keep.refl h0 [a1]) N0 g3 (Or.inl (List.mem_of_getElem? (i := 0) rfl)) F2 E1 (Or.inl (hw _ m15)) (hw _ m1) (ty := (.object z8)) (by decide) rfl rfl (g := (mkF m 2 #[.val (.ref a1), .val (.ref a2)] [(.ref a2), (.ref a1)])) rfl rfl (hb hby d6_2)
  obtain ⟨fs, hr, hrun, hended, hW, hsame⟩ := X1.leave (v := none) (fun _ => rfl)
  refine ⟨_, _, pre0 _ ?_, hrun, hended, _, _, rfl, ?_, ⟨_, rfl⟩, hW, hsame.mono (by decide) (by decide)⟩
  · show Steps p.tables e below (s₁.setTop (mkF m 0 #[.val (.ref a1), .val (.ref a2)] [])) _
    refine XS.aloadN X0.here hx rfl (hb hby d6_0) rfl rfl ?_
    refine XS.aloadN X0.here hx rfl (hb hby d6_1) rfl rfl ?_
    refine st1 _ ?_
    exact X1.returnOut hx Bd.returns (hb hby d6_5) hr
  · show Qrm8 Z w1 clw1 w2 clw2 a1 a2 h0 n0 _ T1.heap _
    rw [e1]
    exact ⟨rfl, N1, K1, Fw1⟩
def Qrm9 (Z : State) (w1 : Addr) (clw1 : Cell) (w2 : Addr) (clw2 : Cell) (a1 : Addr) (a2 : Addr) (h0 : Heap) (n0 : Nat) (v : Option Value) (h : Heap) (L : List Loc) : Prop := v = some (.int (1 : Int32)) ∧ Fr n0 L ∧ h = h0
set_option maxRecDepth 65536 in
set_option maxHeartbeats 40000000 in
theorem rm9 (l : Launch) (Z : State) (a0 : Array Value) (hw : ∀ d ∈ tables_1, d.before a0 Z = true) (hj : ∀ d ∈ jdkStatics_1, d.before a0 Z = true) (w1 : Addr) (clw1 : Cell) (w2 : Addr) (clw2 : Cell) (hS : SF Z w1 clw1 w2 clw2) (ws : List Jvm.Cond) (a1 : Addr) (a2 : Addr) (h0 : Heap) (n0 : Nat) (O0 : Old Z n0 h0) (F1 : Fld Z h0 a1 z0 "value" z4 (.ref a2)) :
    MetFree l (⟨z0, "isAssigned", "()Z"⟩ : MethodName) (head1 (Jvm.Cond.code (⟨z0, "isAssigned", "()Z"⟩ : MethodName) prog_1_method_3_code 1 (some .boolean) :: ws) ({ frames := 0, cells := 0, slots := 0, locals := 0 } : Room)) (fun a U => a = #[(.ref a1)] ∧ Z.Warmed39 U.vm ∧ U.heap = h0) (fun _ _ _ _ _ => True) (fun _ U o U' => ∃ v L, o = .returned v ∧ Qrm9 Z w1 clw1 w2 clw2 a1 a2 h0 n0 v U'.heap L ∧ FrameEnd U o U' L ({ frames := 0, cells := 0, slots := 0, locals := 0 } : Room).cells ({ frames := 0, cells := 0, slots := 0, locals := 0 } : Room).slots) := by
  refine MetFree.of_bodySF (plainFor_of_name pn12) hisR ?_
  intro p e s m args below meth c s₁ Bd hml0 hP hK
  obtain ⟨rfl, hZ, hh⟩ := hP
  have hx := Bd.exec
  have hby := Bd.bytes
  have hml : c.maxLocals = 1 := hml0
  have hown : s.vm.findClass z0 = some m.cls := findClass_of_methodNamed Bd.named
  have hnm := (name_of_methodNamed Bd.named Bd.method).1
  have X0 : Stand p l e ({ frames := 0, cells := 0, slots := 0, locals := 0 } : Room) s m #[(.ref a1)] below meth c s₁ [] 0 0 := Stand.of_body Bd
  have e0 : s₁.heap = h0 := by rw [← hh, Bd.state]; rfl
  have N0 := Fr.nil n0
  have pre0 : ∀ t, Steps p.tables e below (s₁.setTop (mkF m 0 #[.val (.ref a1)] [])) t → Steps p.tables e below (s₁.setTop (entryFrame m #[(.ref a1)] 1)) t := fun t k => castTop (ef11 m a1) k
  obtain ⟨T1, X1, e1, st1⟩ := getF X0 hx hZ hown (host := "") (Or.inl (hw _ m14)) Via.refl e0 F1 (g := (mkF m 1 #[.val (.ref a1)] [(.ref a1)])) rfl rfl (hb hby d3_1)
  obtain ⟨fs, hr, hrun, hended, hW, hsame⟩ := X1.leave (v := some (.int (1 : Int32))) (fun h => by rw [Bd.returns] at h; cases h)
  refine ⟨_, _, pre0 _ ?_, hrun, hended, _, _, rfl, ?_, ⟨_, rfl⟩, hW, hsame.mono (by decide) (by decide)⟩
  · show Steps p.tables e below (s₁.setTop (mkF m 0 #[.val (.ref a1)] [])) _
    refine XS.aloadN X0.here hx rfl (hb hby d3_0) rfl rfl ?_
    refine st1 _ ?_
    refine XS.ifnullNo X1.here hx rfl (hb hby d3_4) rfl ?_
    refine XS.iconst X1.here hx rfl (hb hby d3_7) ?_
    show Steps p.tables e below (T1.setTop (mkF m 8 #[.val (.ref a1)] [(.int (1 : Int32))])) _
    refine XS.goto X1.here hx rfl (pc0 := 8) (pc' := 12) rfl (hb hby d3_8) (by decide) (by decide) ?_
    exact retN X1 hx (t := .boolean) Bd.returns (by simp) (hb hby d3_12) hr
  · show Qrm9 Z w1 clw1 w2 clw2 a1 a2 h0 n0 _ T1.heap _
    rw [e1]
    exact ⟨rfl, N0, rfl⟩
def Qrm10 (Z : State) (w1 : Addr) (clw1 : Cell) (w2 : Addr) (clw2 : Cell) (a1 : Addr) (a2 : Addr) (h0 : Heap) (n0 : Nat) (v : Option Value) (h : Heap) (L : List Loc) : Prop := v = some (.ref a2) ∧ Fr n0 L ∧ h = h0
set_option maxRecDepth 65536 in
set_option maxHeartbeats 40000000 in
theorem rm10 (l : Launch) (Z : State) (a0 : Array Value) (hw : ∀ d ∈ tables_1, d.before a0 Z = true) (hj : ∀ d ∈ jdkStatics_1, d.before a0 Z = true) (w1 : Addr) (clw1 : Cell) (w2 : Addr) (clw2 : Cell) (hS : SF Z w1 clw1 w2 clw2) (ws : List Jvm.Cond) (a1 : Addr) (a2 : Addr) (h0 : Heap) (n0 : Nat) (O0 : Old Z n0 h0) (F1 : Fld Z h0 a1 z0 "value" z4 (.ref a2)) :
    MetFree l (⟨z0, "value", z9⟩ : MethodName) (head1 (Jvm.Cond.code (⟨z0, "value", z9⟩ : MethodName) prog_1_method_4_code 1 (some (.object z8)) :: ws) ({ frames := 0, cells := 0, slots := 0, locals := 0 } : Room)) (fun a U => a = #[(.ref a1)] ∧ Z.Warmed39 U.vm ∧ U.heap = h0) (fun _ _ _ _ _ => True) (fun _ U o U' => ∃ v L, o = .returned v ∧ Qrm10 Z w1 clw1 w2 clw2 a1 a2 h0 n0 v U'.heap L ∧ FrameEnd U o U' L ({ frames := 0, cells := 0, slots := 0, locals := 0 } : Room).cells ({ frames := 0, cells := 0, slots := 0, locals := 0 } : Room).slots) := by
  refine MetFree.of_bodySF (plainFor_of_name pn12) hisR ?_
  intro p e s m args below meth c s₁ Bd hml0 hP hK
  obtain ⟨rfl, hZ, hh⟩ := hP
  have hx := Bd.exec
  have hby := Bd.bytes
  have hml : c.maxLocals = 1 := hml0
  have hown : s.vm.findClass z0 = some m.cls := findClass_of_methodNamed Bd.named
  have hnm := (name_of_methodNamed Bd.named Bd.method).1
  have X0 : Stand p l e ({ frames := 0, cells := 0, slots := 0, locals := 0 } : Room) s m #[(.ref a1)] below meth c s₁ [] 0 0 := Stand.of_body Bd
  have e0 : s₁.heap = h0 := by rw [← hh, Bd.state]; rfl
  have N0 := Fr.nil n0
  have pre0 : ∀ t, Steps p.tables e below (s₁.setTop (mkF m 0 #[.val (.ref a1)] [])) t → Steps p.tables e below (s₁.setTop (entryFrame m #[(.ref a1)] 1)) t := fun t k => castTop (ef11 m a1) k
  obtain ⟨T1, X1, e1, st1⟩ := getF X0 hx hZ hown (host := "") (Or.inl (hw _ m14)) Via.refl e0 F1 (g := (mkF m 1 #[.val (.ref a1)] [(.ref a1)])) rfl rfl (hb hby d7_1)
  obtain ⟨T2, X2, e2, st2⟩ := getF X1 hx hZ hown (host := "") (Or.inl (hw _ m14)) Via.refl e1 F1 (g := (mkF m 18 #[.val (.ref a1)] [(.ref a1)])) rfl rfl (hb hby d7_18)
  obtain ⟨fs, hr, hrun, hended, hW, hsame⟩ := X2.leave (v := some (.ref a2)) (fun h => by rw [Bd.returns] at h; cases h)
  refine ⟨_, _, pre0 _ ?_, hrun, hended, _, _, rfl, ?_, ⟨_, rfl⟩, hW, hsame.mono (by decide) (by decide)⟩
  · show Steps p.tables e below (s₁.setTop (mkF m 0 #[.val (.ref a1)] [])) _
    refine XS.aloadN X0.here hx rfl (hb hby d7_0) rfl rfl ?_
    refine st1 _ ?_
    refine XS.ifnonnullYes X1.here hx rfl (pc0 := 4) (pc' := 17) rfl (hb hby d7_4) rfl (by decide) (by decide) ?_
    refine XS.aloadN X1.here hx rfl (hb hby d7_17) rfl rfl ?_
    show Steps p.tables e below (T1.setTop (mkF m 18 #[.val (.ref a1)] [(.ref a1)])) _
    refine st2 _ ?_
    exact retOut X2 hx Bd.returns rfl (Or.inr (Or.inr (Or.inr (Or.inr ⟨rfl, rfl, rfl⟩)))) (hb hby d7_21) hr
  · show Qrm10 Z w1 clw1 w2 clw2 a1 a2 h0 n0 _ T2.heap _
    rw [e2]
    exact ⟨rfl, N0, rfl⟩
def Qrm11 (Z : State) (w1 : Addr) (clw1 : Cell) (w2 : Addr) (clw2 : Cell) (a1 : Addr) (a2 : Addr) (a3 : Addr) (h0 : Heap) (n0 : Nat) (v : Option Value) (h : Heap) (L : List Loc) : Prop := v = none ∧ Fr n0 L ∧ Keep h0 h [a1] ∧ Fld Z h a1 z0 "value" z4 (.ref a3)
set_option maxRecDepth 65536 in
set_option maxHeartbeats 40000000 in
theorem rm11 (l : Launch) (Z : State) (a0 : Array Value) (hw : ∀ d ∈ tables_1, d.before a0 Z = true) (hj : ∀ d ∈ jdkStatics_1, d.before a0 Z = true) (w1 : Addr) (clw1 : Cell) (w2 : Addr) (clw2 : Cell) (hS : SF Z w1 clw1 w2 clw2) (ws : List Jvm.Cond) (a1 : Addr) (a2 : Addr) (a3 : Addr) (h0 : Heap) (n0 : Nat) (O0 : Old Z n0 h0) (E1 : Exa Z h0 a1 z0) (F2 : Fld Z h0 a1 z0 "value" z4 (.ref a2)) (g3 : n0 ≤ a1) :
    MetFree l (⟨z0, "assign", z5⟩ : MethodName) (head1 (Jvm.Cond.code (⟨z0, "assign", z5⟩ : MethodName) prog_1_method_2_code 2 none :: ws) ({ frames := 0, cells := 0, slots := 0, locals := 0 } : Room)) (fun a U => a = #[(.ref a1), (.ref a3)] ∧ Z.Warmed39 U.vm ∧ U.heap = h0) (fun _ _ _ _ _ => True) (fun _ U o U' => ∃ v L, o = .returned v ∧ Qrm11 Z w1 clw1 w2 clw2 a1 a2 a3 h0 n0 v U'.heap L ∧ FrameEnd U o U' L ({ frames := 0, cells := 0, slots := 0, locals := 0 } : Room).cells ({ frames := 0, cells := 0, slots := 0, locals := 0 } : Room).slots) := by
  refine MetFree.of_bodySF (plainFor_of_name pn12) hisR ?_
  intro p e s m args below meth c s₁ Bd hml0 hP hK
  obtain ⟨rfl, hZ, hh⟩ := hP
  have hx := Bd.exec
  have hby := Bd.bytes
  have hml : c.maxLocals = 2 := hml0
  have hown : s.vm.findClass z0 = some m.cls := findClass_of_methodNamed Bd.named
  have hnm := (name_of_methodNamed Bd.named Bd.method).1
  have X0 : Stand p l e ({ frames := 0, cells := 0, slots := 0, locals := 0 } : Room) s m #[(.ref a1), (.ref a3)] below meth c s₁ [] 0 0 := Stand.of_body Bd
  have e0 : s₁.heap = h0 := by rw [← hh, Bd.state]; rfl
  have N0 := Fr.nil n0
  have pre0 : ∀ t, Steps p.tables e below (s₁.setTop (mkF m 0 #[.val (.ref a1), .val (.ref a3)] [])) t → Steps p.tables e below (s₁.setTop (entryFrame m #[(.ref a1), (.ref a3)] 2)) t := fun t k => castTop (ef108 m a1 a3) k
  obtain ⟨T1, h1, L'1, X1, e1, W1, Fw1, O1, K1, N1, st1⟩ := own_put X0 hx hZ hown (host := "") (Or.inl (hw _ m14)) Via.refl e0 O0 (Keep.refl h0 [a1]) N0 g3 (Or.inl (List.mem_of_getElem? (i := 0) rfl)) F2 E1 (Or.inl (hw _ m15)) (hw _ m1) (ty := (.object z8)) (by decide) rfl rfl (g := (mkF m 2 #[.val (.ref a1), .val (.ref a3)] [(.ref a3), (.ref a1)])) rfl rfl (hb hby d6_2)
  obtain ⟨fs, hr, hrun, hended, hW, hsame⟩ := X1.leave (v := none) (fun _ => rfl)
  refine ⟨_, _, pre0 _ ?_, hrun, hended, _, _, rfl, ?_, ⟨_, rfl⟩, hW, hsame.mono (by decide) (by decide)⟩
  · show Steps p.tables e below (s₁.setTop (mkF m 0 #[.val (.ref a1), .val (.ref a3)] [])) _
    refine XS.aloadN X0.here hx rfl (hb hby d6_0) rfl rfl ?_
    refine XS.aloadN X0.here hx rfl (hb hby d6_1) rfl rfl ?_
    refine st1 _ ?_
    exact X1.returnOut hx Bd.returns (hb hby d6_5) hr
  · show Qrm11 Z w1 clw1 w2 clw2 a1 a2 a3 h0 n0 _ T1.heap _
    rw [e1]
    exact ⟨rfl, N1, K1, Fw1⟩
def Qrm12 (Z : State) (w1 : Addr) (clw1 : Cell) (w2 : Addr) (clw2 : Cell) (q1 : Int64) (h0 : Heap) (n0 : Nat) (v : Option Value) (h : Heap) (L : List Loc) : Prop := ∃ x0 : Addr, v = some (.ref x0) ∧ Fr n0 L ∧ Keep h0 h [] ∧ h0.size ≤ x0 ∧ Exa Z h x0 z2 ∧ Fld Z h x0 z2 "value" "J" (.long q1)
set_option maxRecDepth 65536 in
set_option maxHeartbeats 40000000 in
theorem rm12 (l : Launch) (Z : State) (a0 : Array Value) (hw : ∀ d ∈ tables_1, d.before a0 Z = true) (hj : ∀ d ∈ jdkStatics_1, d.before a0 Z = true) (w1 : Addr) (clw1 : Cell) (w2 : Addr) (clw2 : Cell) (hS : SF Z w1 clw1 w2 clw2) (ws : List Jvm.Cond) (q1 : Int64) (h0 : Heap) (n0 : Nat) (O0 : Old Z n0 h0) (hc1 : ¬ (q1 < (-128 : Int64))) (hc2 : (127 : Int64) < q1) :
    MetFree l (⟨z2, "valueOf", z7⟩ : MethodName) (head1 (Jvm.Cond.code (⟨z2, "valueOf", z7⟩ : MethodName) jdk_35_method_24_code 3 (some (.object z2)) :: ws) ({ frames := 3, cells := 1, slots := 1, locals := 39 } : Room)) (fun a U => a = #[(.long q1)] ∧ Z.Warmed39 U.vm ∧ U.heap = h0) (fun _ _ _ _ _ => True) (fun _ U o U' => ∃ v L, o = .returned v ∧ Qrm12 Z w1 clw1 w2 clw2 q1 h0 n0 v U'.heap L ∧ FrameEnd U o U' L ({ frames := 3, cells := 1, slots := 1, locals := 39 } : Room).cells ({ frames := 3, cells := 1, slots := 1, locals := 39 } : Room).slots) := by
  refine MetFree.of_bodySF (plainFor_of_name pn93) hisR ?_
  intro p e s m args below meth c s₁ Bd hml0 hP hK
  obtain ⟨rfl, hZ, hh⟩ := hP
  have hx := Bd.exec
  have hby := Bd.bytes
  have hml : c.maxLocals = 3 := hml0
  have hown : s.vm.findClass z2 = some m.cls := findClass_of_methodNamed Bd.named
  have hnm := (name_of_methodNamed Bd.named Bd.method).1
  have X0 : Stand p l e ({ frames := 3, cells := 1, slots := 1, locals := 39 } : Room) s m #[(.long q1)] below meth c s₁ [] 0 0 := Stand.of_body Bd
  have e0 : s₁.heap = h0 := by rw [← hh, Bd.state]; rfl
  have N0 := Fr.nil n0
  have pre0 : ∀ t, Steps p.tables e below (s₁.setTop (mkF m 0 #[.val (.long q1), .second, .unset] [])) t → Steps p.tables e below (s₁.setTop (entryFrame m #[(.long q1)] 3)) t := fun t k => castTop (ef98 m q1) k
  obtain ⟨T1, h1, b1, X1, e1, E1, A1, D1, g1, O1, K1, st1⟩ := own_newO X0 hx hZ hown (hw _ m41) (hw _ m42) (hw _ m25) e0 O0 (Keep.refl h0 []) (g := (mkF m 31 #[.val (.long q1), .second, .val (.int (128 : Int32))] [])) rfl (hb hby d5_31) (by decide) (by decide)
  have F1_1 : Fld Z h1 b1 z2 "value" "J" (.long (0 : Int64)) := D1 (Or.inr (hw _ m55)) (ty := .long) (by decide)
  obtain ⟨_, T2, L2, hQ2, X2, st2⟩ := own_special X1 hx hZ (W := 1) rfl hown (hw _ m43) (hw _ m44) (hw _ m25) (hw _ m46) (by decide) (rm6 l Z a0 hw hj w1 clw1 w2 clw2 hS [] q1 b1 h1 n0 O1 A1 F1_1 (Nat.le_trans (own_old_le O0) g1)) e1 (a := b1) (g := (mkF m 36 #[.val (.long q1), .second, .val (.int (128 : Int32))] [(.long q1), (.ref b1), (.ref b1)])) rfl (by rw [hml]; rfl) (argsL := [(.long q1)]) (rest := [(.ref b1)]) (lenOf pd95 rfl) rfl rfl (by show 2 * 0 + _ ≤ _; exact Nat.le_of_eq rfl) (hb hby d5_36) (by decide) (by decide) (by decide) (by decide)
  obtain ⟨rfl, N2q, Kq2, q2_0⟩ := hQ2
  have N2 := Fr.app N0 N2q
  have O2 : Old Z n0 T2.heap := O1.keep Kq2 (allS (Nat.le_trans (own_old_le O0) g1) all0)
  have K2 : Keep h0 T2.heap [] := K1.trans Kq2 (allS (Or.inr (Nat.le_trans (Keep.refl h0 []).1 g1)) all0)
  have f3 : Exa Z T2.heap b1 z2 := (A1.keep Kq2)
  obtain ⟨fs, hr, hrun, hended, hW, hsame⟩ := X2.leave (v := some (.ref b1)) (fun h => by rw [Bd.returns] at h; cases h)
  refine ⟨_, _, pre0 _ ?_, hrun, hended, _, _, rfl, ?_, ⟨_, rfl⟩, hW, hsame.mono (by decide) (by decide)⟩
  · show Steps p.tables e below (s₁.setTop (mkF m 0 #[.val (.long q1), .second, .unset] [])) _
    refine XS.sipush X0.here hx rfl (hb hby d5_0) ?_
    refine XS.istoreN X0.here hx rfl (hb hby d5_3) rfl (l' := #[.val (.long q1), .second, .val (.int (128 : Int32))]) rfl ?_
    refine XS.lloadN X0.here hx rfl (hb hby d5_4) rfl ?_
    refine X0.ldc2Long hx hown (mvT hZ (hw _ m27)) (g := (mkF m 5 #[.val (.long q1), .second, .val (.int (128 : Int32))] [(.long q1)])) rfl (hb hby d5_5) _ ?_
    show Steps p.tables e below (s₁.setTop (mkF m 8 #[.val (.long q1), .second, .val (.int (128 : Int32))] [(.long (-128 : Int64)), (.long q1)])) _
    refine XS.lcmp X0.here hx rfl (hb hby d5_8) rfl ?_
    refine XS.ifNo X0.here hx rfl (hb hby d5_9) rfl ((if0 _ _).trans (flt (fun q => hc1 ((lw_lt q1 (-128 : Int64)).mp q))).1) ?_
    refine XS.lloadN X0.here hx rfl (hb hby d5_12) rfl ?_
    refine X0.ldc2Long hx hown (mvT hZ (hw _ m28)) (g := (mkF m 13 #[.val (.long q1), .second, .val (.int (128 : Int32))] [(.long q1)])) rfl (hb hby d5_13) _ ?_
    show Steps p.tables e below (s₁.setTop (mkF m 16 #[.val (.long q1), .second, .val (.int (128 : Int32))] [(.long (127 : Int64)), (.long q1)])) _
    refine XS.lcmp X0.here hx rfl (hb hby d5_16) rfl ?_
    refine XS.ifYes X0.here hx rfl (pc0 := 17) (pc' := 31) rfl (hb hby d5_17) rfl ((if0 _ _).trans (tlt ((lw_gt q1 (127 : Int64)).mpr hc2)).2.2.1) (by decide) (by decide) ?_
    refine st1 _ ?_
    refine XS.dup X1.here hx rfl (hb hby d5_34) rfl rfl ?_
    show Steps p.tables e below (T1.setTop (mkF m 35 #[.val (.long q1), .second, .val (.int (128 : Int32))] [(.ref b1), (.ref b1)])) _
    refine XS.lloadN X1.here hx rfl (hb hby d5_35) rfl ?_
    refine st2 _ ?_
    exact retOut X2 hx Bd.returns rfl (Or.inr (Or.inr (Or.inr (Or.inr ⟨rfl, rfl, rfl⟩)))) (hb hby d5_39) hr
  · show Qrm12 Z w1 clw1 w2 clw2 q1 h0 n0 _ T2.heap _
    exact ⟨b1, rfl, N2, K2, (Nat.le_trans (Keep.refl h0 []).1 g1), f3, q2_0⟩
def Qrm13 (Z : State) (w1 : Addr) (clw1 : Cell) (w2 : Addr) (clw2 : Cell) (q1 : Int64) (a2 : Addr) (h0 : Heap) (n0 : Nat) (v : Option Value) (h : Heap) (L : List Loc) : Prop := v = some (.ref a2) ∧ Fr n0 L ∧ h = h0
set_option maxRecDepth 65536 in
set_option maxHeartbeats 40000000 in
theorem rm13 (l : Launch) (Z : State) (a0 : Array Value) (hw : ∀ d ∈ tables_1, d.before a0 Z = true) (hj : ∀ d ∈ jdkStatics_1, d.before a0 Z = true) (w1 : Addr) (clw1 : Cell) (w2 : Addr) (clw2 : Cell) (hS : SF Z w1 clw1 w2 clw2) (ws : List Jvm.Cond) (q1 : Int64) (a2 : Addr) (h0 : Heap) (n0 : Nat) (O0 : Old Z n0 h0) (hc1 : ¬ (q1 < (-128 : Int64))) (hc2 : ¬ ((127 : Int64) < q1)) (ze3 : clw2.slots[(((q1.toInt32) + (128 : Int32))).toNatClampNeg]? = some (.ref a2)) (hc4 : ¬ (((q1.toInt32) + (128 : Int32)) < (0 : Int32))) (hc5 : ((q1.toInt32) + (128 : Int32)) < (256 : Int32)) :
    MetFree l (⟨z2, "valueOf", z7⟩ : MethodName) (head1 (Jvm.Cond.code (⟨z2, "valueOf", z7⟩ : MethodName) jdk_35_method_24_code 3 (some (.object z2)) :: ws) ({ frames := 0, cells := 0, slots := 0, locals := 0 } : Room)) (fun a U => a = #[(.long q1)] ∧ Z.Warmed39 U.vm ∧ U.heap = h0) (fun _ _ _ _ _ => True) (fun _ U o U' => ∃ v L, o = .returned v ∧ Qrm13 Z w1 clw1 w2 clw2 q1 a2 h0 n0 v U'.heap L ∧ FrameEnd U o U' L ({ frames := 0, cells := 0, slots := 0, locals := 0 } : Room).cells ({ frames := 0, cells := 0, slots := 0, locals := 0 } : Room).slots) := by
  refine MetFree.of_bodySF (plainFor_of_name pn93) hisR ?_
  intro p e s m args below meth c s₁ Bd hml0 hP hK
  obtain ⟨rfl, hZ, hh⟩ := hP
  have hx := Bd.exec
  have hby := Bd.bytes
  have hml : c.maxLocals = 3 := hml0
  have hown : s.vm.findClass z2 = some m.cls := findClass_of_methodNamed Bd.named
  have hnm := (name_of_methodNamed Bd.named Bd.method).1
  have X0 : Stand p l e ({ frames := 0, cells := 0, slots := 0, locals := 0 } : Room) s m #[(.long q1)] below meth c s₁ [] 0 0 := Stand.of_body Bd
  have e0 : s₁.heap = h0 := by rw [← hh, Bd.state]; rfl
  have N0 := Fr.nil n0
  have pre0 : ∀ t, Steps p.tables e below (s₁.setTop (mkF m 0 #[.val (.long q1), .second, .unset] [])) t → Steps p.tables e below (s₁.setTop (entryFrame m #[(.long q1)] 3)) t := fun t k => castTop (ef98 m q1) k
  obtain ⟨T1, X1, e1, st1⟩ := getS2 X0 hx hZ hown (host := "") (Or.inl (hw _ m29)) Via.refl e0 (hS.2.2.2.1.ext O0.2) (g := (mkF m 20 #[.val (.long q1), .second, .val (.int (128 : Int32))] [])) rfl (hb hby d5_20)
  obtain ⟨fs, hr, hrun, hended, hW, hsame⟩ := X1.leave (v := some (.ref a2)) (fun h => by rw [Bd.returns] at h; cases h)
  refine ⟨_, _, pre0 _ ?_, hrun, hended, _, _, rfl, ?_, ⟨_, rfl⟩, hW, hsame.mono (by decide) (by decide)⟩
  · show Steps p.tables e below (s₁.setTop (mkF m 0 #[.val (.long q1), .second, .unset] [])) _
    refine XS.sipush X0.here hx rfl (hb hby d5_0) ?_
    refine XS.istoreN X0.here hx rfl (hb hby d5_3) rfl (l' := #[.val (.long q1), .second, .val (.int (128 : Int32))]) rfl ?_
    refine XS.lloadN X0.here hx rfl (hb hby d5_4) rfl ?_
    refine X0.ldc2Long hx hown (mvT hZ (hw _ m27)) (g := (mkF m 5 #[.val (.long q1), .second, .val (.int (128 : Int32))] [(.long q1)])) rfl (hb hby d5_5) _ ?_
    show Steps p.tables e below (s₁.setTop (mkF m 8 #[.val (.long q1), .second, .val (.int (128 : Int32))] [(.long (-128 : Int64)), (.long q1)])) _
    refine XS.lcmp X0.here hx rfl (hb hby d5_8) rfl ?_
    refine XS.ifNo X0.here hx rfl (hb hby d5_9) rfl ((if0 _ _).trans (flt (fun q => hc1 ((lw_lt q1 (-128 : Int64)).mp q))).1) ?_
    refine XS.lloadN X0.here hx rfl (hb hby d5_12) rfl ?_
    refine X0.ldc2Long hx hown (mvT hZ (hw _ m28)) (g := (mkF m 13 #[.val (.long q1), .second, .val (.int (128 : Int32))] [(.long q1)])) rfl (hb hby d5_13) _ ?_
    show Steps p.tables e below (s₁.setTop (mkF m 16 #[.val (.long q1), .second, .val (.int (128 : Int32))] [(.long (127 : Int64)), (.long q1)])) _
    refine XS.lcmp X0.here hx rfl (hb hby d5_16) rfl ?_
    refine XS.ifNo X0.here hx rfl (hb hby d5_17) rfl ((if0 _ _).trans (flt (fun q => hc2 ((lw_gt q1 (127 : Int64)).mp q))).2.2.1) ?_
    refine st1 _ ?_
    refine XS.lloadN X1.here hx rfl (hb hby d5_23) rfl ?_
    show Steps p.tables e below (T1.setTop (mkF m 24 #[.val (.long q1), .second, .val (.int (128 : Int32))] [(.long q1), (.ref w2)])) _
    refine XS.l2i X1.here hx rfl (hb hby d5_24) rfl ?_
    refine XS.sipush X1.here hx rfl (hb hby d5_25) ?_
    refine XS.iadd X1.here hx rfl (hb hby d5_28) rfl ?_
    refine own_boxload X1 hx hZ e1 O0 hS.2.2.2.2 (j := ((q1.toInt32) + (128 : Int32))) hc4 hc5 ze3 (g := (mkF m 29 #[.val (.long q1), .second, .val (.int (128 : Int32))] [(.int ((q1.toInt32) + (128 : Int32))), (.ref w2)])) rfl rfl (hb hby d5_29) ?_
    show Steps p.tables e below (T1.setTop (mkF m 30 #[.val (.long q1), .second, .val (.int (128 : Int32))] [(.ref a2)])) _
    exact retOut X1 hx Bd.returns rfl (Or.inr (Or.inr (Or.inr (Or.inr ⟨rfl, rfl, rfl⟩)))) (hb hby d5_30) hr
  · show Qrm13 Z w1 clw1 w2 clw2 q1 a2 h0 n0 _ T1.heap _
    rw [e1]
    exact ⟨rfl, N0, rfl⟩
def Qrm14 (Z : State) (w1 : Addr) (clw1 : Cell) (w2 : Addr) (clw2 : Cell) (p1 : Int32) (h0 : Heap) (n0 : Nat) (v : Option Value) (h : Heap) (L : List Loc) : Prop := ∃ x0 : Addr, v = some (.ref x0) ∧ Fr n0 L ∧ Keep h0 h [] ∧ h0.size ≤ x0 ∧ Exa Z h x0 z1 ∧ Fld Z h x0 z1 "value" "I" (.int p1)
set_option maxRecDepth 65536 in
set_option maxHeartbeats 40000000 in
theorem rm14 (l : Launch) (Z : State) (a0 : Array Value) (hw : ∀ d ∈ tables_1, d.before a0 Z = true) (hj : ∀ d ∈ jdkStatics_1, d.before a0 Z = true) (w1 : Addr) (clw1 : Cell) (w2 : Addr) (clw2 : Cell) (hS : SF Z w1 clw1 w2 clw2) (ws : List Jvm.Cond) (p1 : Int32) (h0 : Heap) (n0 : Nat) (O0 : Old Z n0 h0) (hc1 : ¬ (p1 < (-128 : Int32))) (hc2 : (127 : Int32) < p1) :
    MetFree l (⟨z1, "valueOf", z6⟩ : MethodName) (head1 (Jvm.Cond.code (⟨z1, "valueOf", z6⟩ : MethodName) jdk_33_method_22_code 1 (some (.object z1)) :: ws) ({ frames := 3, cells := 1, slots := 1, locals := 38 } : Room)) (fun a U => a = #[(.int p1)] ∧ Z.Warmed39 U.vm ∧ U.heap = h0) (fun _ _ _ _ _ => True) (fun _ U o U' => ∃ v L, o = .returned v ∧ Qrm14 Z w1 clw1 w2 clw2 p1 h0 n0 v U'.heap L ∧ FrameEnd U o U' L ({ frames := 3, cells := 1, slots := 1, locals := 38 } : Room).cells ({ frames := 3, cells := 1, slots := 1, locals := 38 } : Room).slots) := by
  refine MetFree.of_bodySF (plainFor_of_name pn58) hisR ?_
  intro p e s m args below meth c s₁ Bd hml0 hP hK
  obtain ⟨rfl, hZ, hh⟩ := hP
  have hx := Bd.exec
  have hby := Bd.bytes
  have hml : c.maxLocals = 1 := hml0
  have hown : s.vm.findClass z1 = some m.cls := findClass_of_methodNamed Bd.named
  have hnm := (name_of_methodNamed Bd.named Bd.method).1
  have X0 : Stand p l e ({ frames := 3, cells := 1, slots := 1, locals := 38 } : Room) s m #[(.int p1)] below meth c s₁ [] 0 0 := Stand.of_body Bd
  have e0 : s₁.heap = h0 := by rw [← hh, Bd.state]; rfl
  have N0 := Fr.nil n0
  have pre0 : ∀ t, Steps p.tables e below (s₁.setTop (mkF m 0 #[.val (.int p1)] [])) t → Steps p.tables e below (s₁.setTop (entryFrame m #[(.int p1)] 1)) t := fun t k => castTop (ef63 m p1) k
  obtain ⟨T1, X1, e1, st1⟩ := getS2 X0 hx hZ hown (host := "") (Or.inl (hw _ m20)) Via.refl e0 (hS.1.ext O0.2) (g := (mkF m 7 #[.val (.int p1)] [(.int p1)])) rfl (hb hby d4_7)
  obtain ⟨T2, h2, b2, X2, e2, E2, A2, D2, g2, O2, K2, st2⟩ := own_newO X1 hx hZ hown (hw _ m56) (hw _ m57) (hw _ m18) e1 O0 (Keep.refl h0 []) (g := (mkF m 23 #[.val (.int p1)] [])) rfl (hb hby d4_23) (by decide) (by decide)
  have F2_1 : Fld Z h2 b2 z1 "value" "I" (.int (0 : Int32)) := D2 (Or.inr (hw _ m65)) (ty := .int) (by decide)
  obtain ⟨_, T3, L3, hQ3, X3, st3⟩ := own_special X2 hx hZ (W := 1) rfl hown (hw _ m58) (hw _ m59) (hw _ m18) (hw _ m61) (by decide) (rm4 l Z a0 hw hj w1 clw1 w2 clw2 hS [] p1 b2 h2 n0 O2 A2 F2_1 (Nat.le_trans (own_old_le O0) g2)) e2 (a := b2) (g := (mkF m 28 #[.val (.int p1)] [(.int p1), (.ref b2), (.ref b2)])) rfl (by rw [hml]; rfl) (argsL := [(.int p1)]) (rest := [(.ref b2)]) (lenOf pd60 rfl) rfl rfl (by show 2 * 0 + _ ≤ _; exact Nat.le_of_eq rfl) (hb hby d4_28) (by decide) (by decide) (by decide) (by decide)
  obtain ⟨rfl, N3q, Kq3, q3_0⟩ := hQ3
  have N3 := Fr.app N0 N3q
  have O3 : Old Z n0 T3.heap := O2.keep Kq3 (allS (Nat.le_trans (own_old_le O0) g2) all0)
  have K3 : Keep h0 T3.heap [] := K2.trans Kq3 (allS (Or.inr (Nat.le_trans (Keep.refl h0 []).1 g2)) all0)
  have f4 : Exa Z T3.heap b2 z1 := (A2.keep Kq3)
  obtain ⟨fs, hr, hrun, hended, hW, hsame⟩ := X3.leave (v := some (.ref b2)) (fun h => by rw [Bd.returns] at h; cases h)
  refine ⟨_, _, pre0 _ ?_, hrun, hended, _, _, rfl, ?_, ⟨_, rfl⟩, hW, hsame.mono (by decide) (by decide)⟩
  · show Steps p.tables e below (s₁.setTop (mkF m 0 #[.val (.int p1)] [])) _
    refine XS.iloadN X0.here hx rfl (hb hby d4_0) rfl ?_
    refine XS.bipush X0.here hx rfl (hb hby d4_1) ?_
    refine XS.icmpNo X0.here hx rfl (hb hby d4_3) rfl (flt hc1).1 ?_
    refine XS.iloadN X0.here hx rfl (hb hby d4_6) rfl ?_
    show Steps p.tables e below (s₁.setTop (mkF m 7 #[.val (.int p1)] [(.int p1)])) _
    refine st1 _ ?_
    refine XS.icmpYes X1.here hx rfl (pc0 := 10) (pc' := 23) rfl (hb hby d4_10) rfl (tlt hc2).2.2.1 (by decide) (by decide) ?_
    refine st2 _ ?_
    refine XS.dup X2.here hx rfl (hb hby d4_26) rfl rfl ?_
    show Steps p.tables e below (T2.setTop (mkF m 27 #[.val (.int p1)] [(.ref b2), (.ref b2)])) _
    refine XS.iloadN X2.here hx rfl (hb hby d4_27) rfl ?_
    refine st3 _ ?_
    exact retOut X3 hx Bd.returns rfl (Or.inr (Or.inr (Or.inr (Or.inr ⟨rfl, rfl, rfl⟩)))) (hb hby d4_31) hr
  · show Qrm14 Z w1 clw1 w2 clw2 p1 h0 n0 _ T3.heap _
    exact ⟨b2, rfl, N3, K3, (Nat.le_trans (Keep.refl h0 []).1 g2), f4, q3_0⟩
def Qrm15 (Z : State) (w1 : Addr) (clw1 : Cell) (w2 : Addr) (clw2 : Cell) (p1 : Int32) (a2 : Addr) (h0 : Heap) (n0 : Nat) (v : Option Value) (h : Heap) (L : List Loc) : Prop := v = some (.ref a2) ∧ Fr n0 L ∧ h = h0
set_option maxRecDepth 65536 in
set_option maxHeartbeats 40000000 in
theorem rm15 (l : Launch) (Z : State) (a0 : Array Value) (hw : ∀ d ∈ tables_1, d.before a0 Z = true) (hj : ∀ d ∈ jdkStatics_1, d.before a0 Z = true) (w1 : Addr) (clw1 : Cell) (w2 : Addr) (clw2 : Cell) (hS : SF Z w1 clw1 w2 clw2) (ws : List Jvm.Cond) (p1 : Int32) (a2 : Addr) (h0 : Heap) (n0 : Nat) (O0 : Old Z n0 h0) (hc1 : ¬ (p1 < (-128 : Int32))) (hc2 : ¬ ((127 : Int32) < p1)) (ze3 : clw1.slots[((p1 + (128 : Int32))).toNatClampNeg]? = some (.ref a2)) (hc4 : ¬ ((p1 + (128 : Int32)) < (0 : Int32))) (hc5 : (p1 + (128 : Int32)) < (256 : Int32)) :
    MetFree l (⟨z1, "valueOf", z6⟩ : MethodName) (head1 (Jvm.Cond.code (⟨z1, "valueOf", z6⟩ : MethodName) jdk_33_method_22_code 1 (some (.object z1)) :: ws) ({ frames := 0, cells := 0, slots := 0, locals := 0 } : Room)) (fun a U => a = #[(.int p1)] ∧ Z.Warmed39 U.vm ∧ U.heap = h0) (fun _ _ _ _ _ => True) (fun _ U o U' => ∃ v L, o = .returned v ∧ Qrm15 Z w1 clw1 w2 clw2 p1 a2 h0 n0 v U'.heap L ∧ FrameEnd U o U' L ({ frames := 0, cells := 0, slots := 0, locals := 0 } : Room).cells ({ frames := 0, cells := 0, slots := 0, locals := 0 } : Room).slots) := by
  refine MetFree.of_bodySF (plainFor_of_name pn58) hisR ?_
  intro p e s m args below meth c s₁ Bd hml0 hP hK
  obtain ⟨rfl, hZ, hh⟩ := hP
  have hx := Bd.exec
  have hby := Bd.bytes
  have hml : c.maxLocals = 1 := hml0
  have hown : s.vm.findClass z1 = some m.cls := findClass_of_methodNamed Bd.named
  have hnm := (name_of_methodNamed Bd.named Bd.method).1
  have X0 : Stand p l e ({ frames := 0, cells := 0, slots := 0, locals := 0 } : Room) s m #[(.int p1)] below meth c s₁ [] 0 0 := Stand.of_body Bd
  have e0 : s₁.heap = h0 := by rw [← hh, Bd.state]; rfl
  have N0 := Fr.nil n0
  have pre0 : ∀ t, Steps p.tables e below (s₁.setTop (mkF m 0 #[.val (.int p1)] [])) t → Steps p.tables e below (s₁.setTop (entryFrame m #[(.int p1)] 1)) t := fun t k => castTop (ef63 m p1) k
  obtain ⟨T1, X1, e1, st1⟩ := getS2 X0 hx hZ hown (host := "") (Or.inl (hw _ m20)) Via.refl e0 (hS.1.ext O0.2) (g := (mkF m 7 #[.val (.int p1)] [(.int p1)])) rfl (hb hby d4_7)
  obtain ⟨T2, X2, e2, st2⟩ := getS2 X1 hx hZ hown (host := "") (Or.inl (hw _ m22)) Via.refl e1 (hS.2.1.ext O0.2) (g := (mkF m 13 #[.val (.int p1)] [])) rfl (hb hby d4_13)
  obtain ⟨fs, hr, hrun, hended, hW, hsame⟩ := X2.leave (v := some (.ref a2)) (fun h => by rw [Bd.returns] at h; cases h)
  refine ⟨_, _, pre0 _ ?_, hrun, hended, _, _, rfl, ?_, ⟨_, rfl⟩, hW, hsame.mono (by decide) (by decide)⟩
  · show Steps p.tables e below (s₁.setTop (mkF m 0 #[.val (.int p1)] [])) _
    refine XS.iloadN X0.here hx rfl (hb hby d4_0) rfl ?_
    refine XS.bipush X0.here hx rfl (hb hby d4_1) ?_
    refine XS.icmpNo X0.here hx rfl (hb hby d4_3) rfl (flt hc1).1 ?_
    refine XS.iloadN X0.here hx rfl (hb hby d4_6) rfl ?_
    show Steps p.tables e below (s₁.setTop (mkF m 7 #[.val (.int p1)] [(.int p1)])) _
    refine st1 _ ?_
    refine XS.icmpNo X1.here hx rfl (hb hby d4_10) rfl (flt hc2).2.2.1 ?_
    refine st2 _ ?_
    refine XS.iloadN X2.here hx rfl (hb hby d4_16) rfl ?_
    show Steps p.tables e below (T2.setTop (mkF m 17 #[.val (.int p1)] [(.int p1), (.ref w1)])) _
    refine XS.sipush X2.here hx rfl (hb hby d4_17) ?_
    refine XS.iadd X2.here hx rfl (hb hby d4_20) rfl ?_
    refine own_boxload X2 hx hZ e2 O0 hS.2.2.1 (j := (p1 + (128 : Int32))) hc4 hc5 ze3 (g := (mkF m 21 #[.val (.int p1)] [(.int (p1 + (128 : Int32))), (.ref w1)])) rfl rfl (hb hby d4_21) ?_
    exact retOut X2 hx Bd.returns rfl (Or.inr (Or.inr (Or.inr (Or.inr ⟨rfl, rfl, rfl⟩)))) (hb hby d4_22) hr
  · show Qrm15 Z w1 clw1 w2 clw2 p1 a2 h0 n0 _ T2.heap _
    rw [e2]
    exact ⟨rfl, N0, rfl⟩
def QL (n0 : Nat) (v : Option Value) (h : Heap) (L : List Loc) : Prop := v = some (.int (1 : Int32)) ∧ Fr n0 L
set_option maxRecDepth 65536 in
set_option maxHeartbeats 40000000 in
theorem rm0 (l : Launch) (Z : State) (a0 : Array Value) (hw : ∀ d ∈ tables_1, d.before a0 Z = true) (hj : ∀ d ∈ jdkStatics_1, d.before a0 Z = true) (w1 : Addr) (clw1 : Cell) (w2 : Addr) (clw2 : Cell) (hS : SF Z w1 clw1 w2 clw2) (ws : List Jvm.Cond) (i0 : Int32) (i1 : Int64) (i2 : Int32) (h0 : Heap) (n0 : Nat) (O0 : Old Z n0 h0) :
    MetFree l x (head1 (Jvm.Cond.code x code maxLocals ret :: ws) room_1) (fun a U => a = #[(.int i0), (.long i1), (.int i2)] ∧ Z.Warmed39 U.vm ∧ U.heap = h0) (fun _ _ _ _ _ => True) (fun _ U o U' => ∃ v L, o = .returned v ∧ QL n0 v U'.heap L ∧ FrameEnd U o U' L room_1.cells room_1.slots) := by
  refine MetFree.of_bodySF (plainFor_of_name pn129) hisR ?_
  intro p e s m args below meth c s₁ Bd hml0 hP hK
  obtain ⟨rfl, hZ, hh⟩ := hP
  have hx := Bd.exec
  have hby := Bd.bytes
  have hml : c.maxLocals = 12 := hml0
  have hown : s.vm.findClass z3 = some m.cls := findClass_of_methodNamed Bd.named
  have hnm := (name_of_methodNamed Bd.named Bd.method).1
  have X0 : Stand p l e room_1 s m #[(.int i0), (.long i1), (.int i2)] below meth c s₁ [] 0 0 := Stand.of_body Bd
  have e0 : s₁.heap = h0 := by rw [← hh, Bd.state]; rfl
  have N0 := Fr.nil n0
  have pre0 : ∀ t, Steps p.tables e below (s₁.setTop (mkF m 0 #[.val (.int i0), .val (.long i1), .second, .val (.int i2), .unset, .unset, .unset, .unset, .unset, .unset, .unset, .unset] [])) t → Steps p.tables e below (s₁.setTop (entryFrame m #[(.int i0), (.long i1), (.int i2)] maxLocals)) t := fun t k => castTop (ef128 m i0 i1 i2) k
  obtain ⟨T1, h1, b1, X1, e1, E1, A1, D1, g1, O1, K1, st1⟩ := own_newO X0 hx hZ hown (hw _ m0) (hw _ m1) (hw _ m2) e0 O0 (Keep.refl h0 []) (g := (mkF m 0 #[.val (.int i0), .val (.long i1), .second, .val (.int i2), .unset, .unset, .unset, .unset, .unset, .unset, .unset, .unset] [])) rfl (hb hby at_0) (by decide) (by decide)
  have F1_1 : Fld Z h1 b1 z0 "value" z4 .null := D1 (Or.inl (hw _ m15)) (ty := (.object z8)) (by decide)
  obtain ⟨_, T2, L2, hQ2, X2, st2⟩ := own_special X1 hx hZ (W := 1) rfl hown (hw _ m3) (hw _ m4) (hw _ m2) (hw _ m5) (by decide) (rm1 l Z a0 hw hj w1 clw1 w2 clw2 hS [] b1 h1 n0 O1) e1 (a := b1) (g := (mkF m 4 #[.val (.int i0), .val (.long i1), .second, .val (.int i2), .unset, .unset, .unset, .unset, .unset, .unset, .unset, .unset] [(.ref b1), (.ref b1)])) rfl (by rw [hml]; rfl) (argsL := []) (rest := [(.ref b1)]) (lenOf pd14 rfl) rfl rfl (by show 2 * 0 + _ ≤ _; exact Nat.le_of_eq rfl) (hb hby at_4) (by decide) (by decide) (by decide) (by decide)
  obtain ⟨rfl, N2q, e2⟩ := hQ2
  have N2 := Fr.app N0 N2q
  have e2' : T2.heap = h1 := e2
  obtain ⟨_, T3, L3, hQ3, X3, st3⟩ := own_virtual X2 hx hZ (W := 0) hown (hw _ m9) (hw _ m10) (notFace_of_selects (args := #[]) (mvT hZ (hw _ m12))) (hw _ m12) (hw _ m11) (hw _ m2) (hw _ m13) (by decide) (rm2 l Z a0 hw hj w1 clw1 w2 clw2 hS [] b1 h1 n0 O1 F1_1) e2' A1 (g := (mkF m 11 #[.val (.int i0), .val (.long i1), .second, .val (.int i2), .val (.ref b1), .unset, .unset, .unset, .unset, .unset, .unset, .unset] [(.ref b1)])) rfl (by rw [hml]; rfl) (argsL := []) (rest := []) (lenOf pd25 rfl) rfl rfl (by show 2 * 0 + _ ≤ _; exact Nat.le_of_eq rfl) (hb hby at_11) (by decide) (by decide) (by decide) (by decide)
  obtain ⟨rfl, N3q, e3⟩ := hQ3
  have N3 := Fr.app N2 N3q
  have e3' : T3.heap = h1 := e3
  have pre1 : ∀ t, Steps p.tables e below (T3.setTop (mkF m 17 #[.val (.int i0), .val (.long i1), .second, .val (.int i2), .val (.ref b1), .val (.int (0 : Int32)), .unset, .unset, .unset, .unset, .unset, .unset] [(.int i0)])) t → Steps p.tables e below (s₁.setTop (entryFrame m #[(.int i0), (.long i1), (.int i2)] maxLocals)) t := fun t kt => pre0 _ (by
      show Steps p.tables e below (s₁.setTop (mkF m 0 #[.val (.int i0), .val (.long i1), .second, .val (.int i2), .unset, .unset, .unset, .unset, .unset, .unset, .unset, .unset] [])) _
      refine st1 _ ?_
      refine XS.dup X1.here hx rfl (hb hby at_3) rfl rfl ?_
      refine st2 _ ?_
      refine XS.astore X2.here hx rfl (hb hby at_7) rfl rfl (l' := #[.val (.int i0), .val (.long i1), .second, .val (.int i2), .val (.ref b1), .unset, .unset, .unset, .unset, .unset, .unset, .unset]) rfl ?_
      show Steps p.tables e below (T2.setTop (mkF m 9 #[.val (.int i0), .val (.long i1), .second, .val (.int i2), .val (.ref b1), .unset, .unset, .unset, .unset, .unset, .unset, .unset] [])) _
      refine XS.aload X2.here hx rfl (hb hby at_9) rfl rfl ?_
      refine st3 _ ?_
      refine XS.istore X3.here hx rfl (hb hby at_14) rfl (l' := #[.val (.int i0), .val (.long i1), .second, .val (.int i2), .val (.ref b1), .val (.int (0 : Int32)), .unset, .unset, .unset, .unset, .unset, .unset]) rfl ?_
      refine XS.iloadN X3.here hx rfl (hb hby at_16) rfl ?_
      exact kt)
  rcases Decidable.em (i0 < (-128 : Int32)) with hp0 | hp0
  · obtain ⟨_, T4, L4, hQ4, X4, st4⟩ := own_callS X3 hx hZ (W := 0) hown (hw _ m16) (hw _ m17) (hw _ m18) (hw _ m19) (by decide) (rm5 l Z a0 hw hj w1 clw1 w2 clw2 hS [] i0 h1 n0 O1 hp0) e3' (g := (mkF m 17 #[.val (.int i0), .val (.long i1), .second, .val (.int i2), .val (.ref b1), .val (.int (0 : Int32)), .unset, .unset, .unset, .unset, .unset, .unset] [(.int i0)])) rfl (by rw [hml]; rfl) (argsL := [(.int i0)]) (rest := []) (lenOf pd65 rfl) rfl rfl (by show 2 * 0 + _ ≤ _; exact Nat.le_of_eq rfl) (hb hby at_17) (by decide) (by decide) (by decide) (by decide)
    obtain ⟨c4_0, rfl, N4q, Kq4, lo4_0, q4_0, q4_1⟩ := hQ4
    have N4 := Fr.app N3 N4q
    have O4 : Old Z n0 T4.heap := O1.keep Kq4 all0
    have K4 : Keep h0 T4.heap [] := K1.trans Kq4 all0
    have pre2 : ∀ t, Steps p.tables e below (T4.setTop (mkF m 23 #[.val (.int i0), .val (.long i1), .second, .val (.int i2), .val (.ref b1), .val (.int (0 : Int32)), .val (.ref c4_0), .unset, .unset, .unset, .unset, .unset] [(.long i1)])) t → Steps p.tables e below (s₁.setTop (entryFrame m #[(.int i0), (.long i1), (.int i2)] maxLocals)) t := fun t kt => pre1 _ (by
        show Steps p.tables e below (T3.setTop (mkF m 17 #[.val (.int i0), .val (.long i1), .second, .val (.int i2), .val (.ref b1), .val (.int (0 : Int32)), .unset, .unset, .unset, .unset, .unset, .unset] [(.int i0)])) _
        refine st4 _ ?_
        refine XS.astore X4.here hx rfl (hb hby at_20) rfl rfl (l' := #[.val (.int i0), .val (.long i1), .second, .val (.int i2), .val (.ref b1), .val (.int (0 : Int32)), .val (.ref c4_0), .unset, .unset, .unset, .unset, .unset]) rfl ?_
        refine XS.lloadN X4.here hx rfl (hb hby at_22) rfl ?_
        exact kt)
    rcases Decidable.em (i1 < (-128 : Int64)) with hp1 | hp1
    · obtain ⟨_, T5, L5, hQ5, X5, st5⟩ := own_callS X4 hx hZ (W := 0) hown (hw _ m23) (hw _ m24) (hw _ m25) (hw _ m26) (by decide) (rm7 l Z a0 hw hj w1 clw1 w2 clw2 hS [] i1 T4.heap n0 O4 hp1) (rfl : T4.heap = T4.heap) (g := (mkF m 23 #[.val (.int i0), .val (.long i1), .second, .val (.int i2), .val (.ref b1), .val (.int (0 : Int32)), .val (.ref c4_0), .unset, .unset, .unset, .unset, .unset] [(.long i1)])) rfl (by rw [hml]; rfl) (argsL := [(.long i1)]) (rest := []) (lenOf pd100 rfl) rfl rfl (by show 2 * 0 + _ ≤ _; exact Nat.le_of_eq rfl) (hb hby at_23) (by decide) (by decide) (by decide) (by decide)
      obtain ⟨c5_0, rfl, N5q, Kq5, lo5_0, q5_0, q5_1⟩ := hQ5
      have N5 := Fr.app N4 N5q
      have O5 : Old Z n0 T5.heap := O4.keep Kq5 all0
      have K5 : Keep h0 T5.heap [] := K4.trans Kq5 all0
      have f7 : Exa Z T5.heap b1 z0 := ((A1.keep Kq4).keep Kq5)
      have f8 : Fld Z T5.heap b1 z0 "value" z4 .null := ((F1_1.keep Kq4 nin0).keep Kq5 nin0)
      obtain ⟨_, T6, L6, hQ6, X6, st6⟩ := own_virtual X5 hx hZ (W := 0) hown (hw _ m31) (hw _ m32) (notFace_of_selects (args := #[]) (mvT hZ (hw _ m34))) (hw _ m34) (hw _ m33) (hw _ m2) (hw _ m35) (by decide) (rm8 l Z a0 hw hj w1 clw1 w2 clw2 hS [] b1 c4_0 T5.heap n0 O5 f7 f8 (Nat.le_trans (own_old_le O0) g1)) (rfl : T5.heap = T5.heap) f7 (g := (mkF m 32 #[.val (.int i0), .val (.long i1), .second, .val (.int i2), .val (.ref b1), .val (.int (0 : Int32)), .val (.ref c4_0), .val (.ref c5_0), .unset, .unset, .unset, .unset] [(.ref c4_0), (.ref b1)])) rfl (by rw [hml]; rfl) (argsL := [(.ref c4_0)]) (rest := []) (lenOf pd110 rfl) rfl rfl (by show 2 * 0 + _ ≤ _; exact Nat.le_of_eq rfl) (hb hby at_32) (by decide) (by decide) (by decide) (by decide)
      obtain ⟨rfl, N6q, Kq6, q6_0⟩ := hQ6
      have N6 := Fr.app N5 N6q
      have O6 : Old Z n0 T6.heap := O5.keep Kq6 (allS (Nat.le_trans (own_old_le O0) g1) all0)
      have K6 : Keep h0 T6.heap [] := K5.trans Kq6 (allS (Or.inr (Nat.le_trans (Keep.refl h0 []).1 g1)) all0)
      have pre3 : ∀ t, Steps p.tables e below (T6.setTop (mkF m 41 #[.val (.int i0), .val (.long i1), .second, .val (.int i2), .val (.ref b1), .val (.int (0 : Int32)), .val (.ref c4_0), .val (.ref c5_0), .val (.ref c4_0), .unset, .unset, .unset] [(.int (1 : Int32)), (.int i2)])) t → Steps p.tables e below (s₁.setTop (entryFrame m #[(.int i0), (.long i1), (.int i2)] maxLocals)) t := fun t kt => pre2 _ (by
          refine st5 _ ?_
          show Steps p.tables e below (T5.setTop (mkF m 26 #[.val (.int i0), .val (.long i1), .second, .val (.int i2), .val (.ref b1), .val (.int (0 : Int32)), .val (.ref c4_0), .unset, .unset, .unset, .unset, .unset] [(.ref c5_0)])) _
          refine XS.astore X5.here hx rfl (hb hby at_26) rfl rfl (l' := #[.val (.int i0), .val (.long i1), .second, .val (.int i2), .val (.ref b1), .val (.int (0 : Int32)), .val (.ref c4_0), .val (.ref c5_0), .unset, .unset, .unset, .unset]) rfl ?_
          refine XS.aload X5.here hx rfl (hb hby at_28) rfl rfl ?_
          refine XS.aload X5.here hx rfl (hb hby at_30) rfl rfl ?_
          refine st6 _ ?_
          show Steps p.tables e below (T6.setTop (mkF m 35 #[.val (.int i0), .val (.long i1), .second, .val (.int i2), .val (.ref b1), .val (.int (0 : Int32)), .val (.ref c4_0), .val (.ref c5_0), .unset, .unset, .unset, .unset] [])) _
          refine XS.aload X6.here hx rfl (hb hby at_35) rfl rfl ?_
          refine XS.astore X6.here hx rfl (hb hby at_37) rfl rfl (l' := #[.val (.int i0), .val (.long i1), .second, .val (.int i2), .val (.ref b1), .val (.int (0 : Int32)), .val (.ref c4_0), .val (.ref c5_0), .val (.ref c4_0), .unset, .unset, .unset]) rfl ?_
          refine XS.iloadN X6.here hx rfl (hb hby at_39) rfl ?_
          refine XS.iconst X6.here hx rfl (hb hby at_40) ?_
          exact kt)
      rcases en_113 (i2 &&& (1 : Int32)) (by have q0 := own_rng i2; have q1 := (by decide : ((1 : Int32)).toInt = 1); have q2 := (own_mask i2 (1 : Int32) (by decide) : 0 ≤ ((i2 &&& (1 : Int32))).toInt ∧ ((i2 &&& (1 : Int32))).toInt ≤ 1); omega) with hp2 | hp2
      · have f10 : Exa Z T6.heap b1 z0 := (f7.keep Kq6)
        obtain ⟨_, T9, L9, hQ9, X9, st9⟩ := own_virtual X6 hx hZ (W := 0) hown (hw _ m9) (hw _ m10) (notFace_of_selects (args := #[]) (mvT hZ (hw _ m12))) (hw _ m12) (hw _ m11) (hw _ m2) (hw _ m13) (by decide) (rm9 l Z a0 hw hj w1 clw1 w2 clw2 hS [] b1 c4_0 T6.heap n0 O6 q6_0) (rfl : T6.heap = T6.heap) f10 (g := (mkF m 58 #[.val (.int i0), .val (.long i1), .second, .val (.int i2), .val (.ref b1), .val (.int (0 : Int32)), .val (.ref c4_0), .val (.ref c5_0), .val (.ref c4_0), .unset, .unset, .unset] [(.ref b1)])) rfl (by rw [hml]; rfl) (argsL := []) (rest := []) (lenOf pd25 rfl) rfl rfl (by show 2 * 0 + _ ≤ _; exact Nat.le_of_eq rfl) (hb hby at_58) (by decide) (by decide) (by decide) (by decide)
        obtain ⟨rfl, N9q, e9⟩ := hQ9
        have N9 := Fr.app N6 N9q
        have e9' : T9.heap = T6.heap := e9
        obtain ⟨_, T11, L11, hQ11, X11, st11⟩ := own_virtual X9 hx hZ (W := 0) hown (hw _ m36) (hw _ m37) (notFace_of_selects (args := #[]) (mvT hZ (hw _ m39))) (hw _ m39) (hw _ m38) (hw _ m2) (hw _ m40) (by decide) (rm10 l Z a0 hw hj w1 clw1 w2 clw2 hS [] b1 c4_0 T6.heap n0 O6 q6_0) e9' f10 (g := (mkF m 65 #[.val (.int i0), .val (.long i1), .second, .val (.int i2), .val (.ref b1), .val (.int (0 : Int32)), .val (.ref c4_0), .val (.ref c5_0), .val (.ref c4_0), .val (.int (1 : Int32)), .unset, .unset] [(.ref b1)])) rfl (by rw [hml]; rfl) (argsL := []) (rest := []) (lenOf pd125 rfl) rfl rfl (by show 2 * 0 + _ ≤ _; exact Nat.le_of_eq rfl) (hb hby at_65) (by decide) (by decide) (by decide) (by decide)
        obtain ⟨rfl, N11q, e11⟩ := hQ11
        have N11 := Fr.app N9 N11q
        have e11' : T11.heap = T6.heap := e11
        obtain ⟨_, T12, L12, hQ12, X12, st12⟩ := own_virtual X11 hx hZ (W := 0) hown (hw _ m36) (hw _ m37) (notFace_of_selects (args := #[]) (mvT hZ (hw _ m39))) (hw _ m39) (hw _ m38) (hw _ m2) (hw _ m40) (by decide) (rm10 l Z a0 hw hj w1 clw1 w2 clw2 hS [] b1 c4_0 T6.heap n0 O6 q6_0) e11' f10 (g := (mkF m 72 #[.val (.int i0), .val (.long i1), .second, .val (.int i2), .val (.ref b1), .val (.int (0 : Int32)), .val (.ref c4_0), .val (.ref c5_0), .val (.ref c4_0), .val (.int (1 : Int32)), .val (.ref c4_0), .unset] [(.ref b1)])) rfl (by rw [hml]; rfl) (argsL := []) (rest := []) (lenOf pd125 rfl) rfl rfl (by show 2 * 0 + _ ≤ _; exact Nat.le_of_eq rfl) (hb hby at_72) (by decide) (by decide) (by decide) (by decide)
        obtain ⟨rfl, N12q, e12⟩ := hQ12
        have N12 := Fr.app N11 N12q
        have e12' : T12.heap = T6.heap := e12
        obtain ⟨fs, hr, hrun, hended, hW, hsame⟩ := X12.leave (v := some (.int (1 : Int32))) (fun h => by rw [Bd.returns] at h; cases h)
        refine ⟨_, _, pre3 _ ?_, hrun, hended, _, _, rfl, ?_, ⟨_, rfl⟩, hW, hsame.mono (by decide) (by decide)⟩
        · show Steps p.tables e below (T6.setTop (mkF m 41 #[.val (.int i0), .val (.long i1), .second, .val (.int i2), .val (.ref b1), .val (.int (0 : Int32)), .val (.ref c4_0), .val (.ref c5_0), .val (.ref c4_0), .unset, .unset, .unset] [(.int (1 : Int32)), (.int i2)])) _
          refine Own.iand X6.here hx rfl (hb hby at_41) rfl hp2 ?_
          refine XS.ifYes X6.here hx rfl (pc0 := 42) (pc' := 56) rfl (hb hby at_42) rfl ((if0 _ _).trans (teq (by decide : (0 : Int32) = (0 : Int32))).1) (by decide) (by decide) ?_
          refine XS.aload X6.here hx rfl (hb hby at_56) rfl rfl ?_
          refine st9 _ ?_
          show Steps p.tables e below (T9.setTop (mkF m 61 #[.val (.int i0), .val (.long i1), .second, .val (.int i2), .val (.ref b1), .val (.int (0 : Int32)), .val (.ref c4_0), .val (.ref c5_0), .val (.ref c4_0), .unset, .unset, .unset] [(.int (1 : Int32))])) _
          refine XS.istore X9.here hx rfl (hb hby at_61) rfl (l' := #[.val (.int i0), .val (.long i1), .second, .val (.int i2), .val (.ref b1), .val (.int (0 : Int32)), .val (.ref c4_0), .val (.ref c5_0), .val (.ref c4_0), .val (.int (1 : Int32)), .unset, .unset]) rfl ?_
          refine XS.aload X9.here hx rfl (hb hby at_63) rfl rfl ?_
          refine st11 _ ?_
          refine XS.astore X11.here hx rfl (hb hby at_68) rfl rfl (l' := #[.val (.int i0), .val (.long i1), .second, .val (.int i2), .val (.ref b1), .val (.int (0 : Int32)), .val (.ref c4_0), .val (.ref c5_0), .val (.ref c4_0), .val (.int (1 : Int32)), .val (.ref c4_0), .unset]) rfl ?_
          show Steps p.tables e below (T11.setTop (mkF m 70 #[.val (.int i0), .val (.long i1), .second, .val (.int i2), .val (.ref b1), .val (.int (0 : Int32)), .val (.ref c4_0), .val (.ref c5_0), .val (.ref c4_0), .val (.int (1 : Int32)), .val (.ref c4_0), .unset] [])) _
          refine XS.aload X11.here hx rfl (hb hby at_70) rfl rfl ?_
          refine st12 _ ?_
          refine XS.astore X12.here hx rfl (hb hby at_75) rfl rfl (l' := #[.val (.int i0), .val (.long i1), .second, .val (.int i2), .val (.ref b1), .val (.int (0 : Int32)), .val (.ref c4_0), .val (.ref c5_0), .val (.ref c4_0), .val (.int (1 : Int32)), .val (.ref c4_0), .val (.ref c4_0)]) rfl ?_
          refine XS.iload X12.here hx rfl (hb hby at_77) rfl ?_
          show Steps p.tables e below (T12.setTop (mkF m 79 #[.val (.int i0), .val (.long i1), .second, .val (.int i2), .val (.ref b1), .val (.int (0 : Int32)), .val (.ref c4_0), .val (.ref c5_0), .val (.ref c4_0), .val (.int (1 : Int32)), .val (.ref c4_0), .val (.ref c4_0)] [(.int (0 : Int32))])) _
          refine XS.ifNo X12.here hx rfl (hb hby at_79) rfl ((if0 _ _).trans (teq (by decide : (0 : Int32) = (0 : Int32))).2) ?_
          refine XS.iload X12.here hx rfl (hb hby at_82) rfl ?_
          refine XS.ifNo X12.here hx rfl (hb hby at_84) rfl ((if0 _ _).trans (feq (by decide : ¬ ((1 : Int32) = (0 : Int32)))).1) ?_
          refine XS.aload X12.here hx rfl (hb hby at_87) rfl rfl ?_
          show Steps p.tables e below (T12.setTop (mkF m 89 #[.val (.int i0), .val (.long i1), .second, .val (.int i2), .val (.ref b1), .val (.int (0 : Int32)), .val (.ref c4_0), .val (.ref c5_0), .val (.ref c4_0), .val (.int (1 : Int32)), .val (.ref c4_0), .val (.ref c4_0)] [(.ref c4_0)])) _
          refine XS.aload X12.here hx rfl (hb hby at_89) rfl rfl ?_
          refine Jvm.RoadKit.acmp (g := (mkF m 91 #[.val (.int i0), .val (.long i1), .second, .val (.int i2), .val (.ref b1), .val (.int (0 : Int32)), .val (.ref c4_0), .val (.ref c5_0), .val (.ref c4_0), .val (.int (1 : Int32)), .val (.ref c4_0), .val (.ref c4_0)] [(.ref c4_0), (.ref c4_0)])) X12 hx rfl rfl rfl (pc0 := 91) (pc' := 94) (same := true) rfl (hb hby at_91) rfl (decide_eq_true rfl) (by decide) (by decide) ?_
          refine XS.aload X12.here hx rfl (hb hby at_94) rfl rfl ?_
          refine XS.aload X12.here hx rfl (hb hby at_96) rfl rfl ?_
          show Steps p.tables e below (T12.setTop (mkF m 98 #[.val (.int i0), .val (.long i1), .second, .val (.int i2), .val (.ref b1), .val (.int (0 : Int32)), .val (.ref c4_0), .val (.ref c5_0), .val (.ref c4_0), .val (.int (1 : Int32)), .val (.ref c4_0), .val (.ref c4_0)] [(.ref c4_0), (.ref c4_0)])) _
          refine Jvm.RoadKit.acmp (g := (mkF m 98 #[.val (.int i0), .val (.long i1), .second, .val (.int i2), .val (.ref b1), .val (.int (0 : Int32)), .val (.ref c4_0), .val (.ref c5_0), .val (.ref c4_0), .val (.int (1 : Int32)), .val (.ref c4_0), .val (.ref c4_0)] [(.ref c4_0), (.ref c4_0)])) X12 hx rfl rfl rfl (pc0 := 98) (pc' := 101) (same := true) rfl (hb hby at_98) rfl (decide_eq_true rfl) (by decide) (by decide) ?_
          refine XS.iconst X12.here hx rfl (hb hby at_101) ?_
          refine XS.goto X12.here hx rfl (pc0 := 102) (pc' := 106) rfl (hb hby at_102) (by decide) (by decide) ?_
          exact retN X12 hx (t := .boolean) Bd.returns (by simp) (hb hby at_106) hr
        · show QL n0 _ T12.heap _
          exact ⟨rfl, N12⟩
      · have f10 : Exa Z T6.heap b1 z0 := (f7.keep Kq6)
        obtain ⟨_, T9, L9, hQ9, X9, st9⟩ := own_virtual X6 hx hZ (W := 0) hown (hw _ m31) (hw _ m32) (notFace_of_selects (args := #[]) (mvT hZ (hw _ m34))) (hw _ m34) (hw _ m33) (hw _ m2) (hw _ m35) (by decide) (rm11 l Z a0 hw hj w1 clw1 w2 clw2 hS [] b1 c4_0 c5_0 T6.heap n0 O6 f10 q6_0 (Nat.le_trans (own_old_le O0) g1)) (rfl : T6.heap = T6.heap) f10 (g := (mkF m 49 #[.val (.int i0), .val (.long i1), .second, .val (.int i2), .val (.ref b1), .val (.int (0 : Int32)), .val (.ref c4_0), .val (.ref c5_0), .val (.ref c4_0), .unset, .unset, .unset] [(.ref c5_0), (.ref b1)])) rfl (by rw [hml]; rfl) (argsL := [(.ref c5_0)]) (rest := []) (lenOf pd110 rfl) rfl rfl (by show 2 * 0 + _ ≤ _; exact Nat.le_of_eq rfl) (hb hby at_49) (by decide) (by decide) (by decide) (by decide)
        obtain ⟨rfl, N9q, Kq9, q9_0⟩ := hQ9
        have N9 := Fr.app N6 N9q
        have O9 : Old Z n0 T9.heap := O6.keep Kq9 (allS (Nat.le_trans (own_old_le O0) g1) all0)
        have K9 : Keep h0 T9.heap [] := K6.trans Kq9 (allS (Or.inr (Nat.le_trans (Keep.refl h0 []).1 g1)) all0)
        have f12 : Exa Z T9.heap b1 z0 := (f10.keep Kq9)
        obtain ⟨_, T11, L11, hQ11, X11, st11⟩ := own_virtual X9 hx hZ (W := 0) hown (hw _ m9) (hw _ m10) (notFace_of_selects (args := #[]) (mvT hZ (hw _ m12))) (hw _ m12) (hw _ m11) (hw _ m2) (hw _ m13) (by decide) (rm9 l Z a0 hw hj w1 clw1 w2 clw2 hS [] b1 c5_0 T9.heap n0 O9 q9_0) (rfl : T9.heap = T9.heap) f12 (g := (mkF m 58 #[.val (.int i0), .val (.long i1), .second, .val (.int i2), .val (.ref b1), .val (.int (0 : Int32)), .val (.ref c4_0), .val (.ref c5_0), .val (.ref c5_0), .unset, .unset, .unset] [(.ref b1)])) rfl (by rw [hml]; rfl) (argsL := []) (rest := []) (lenOf pd25 rfl) rfl rfl (by show 2 * 0 + _ ≤ _; exact Nat.le_of_eq rfl) (hb hby at_58) (by decide) (by decide) (by decide) (by decide)
        obtain ⟨rfl, N11q, e11⟩ := hQ11
        have N11 := Fr.app N9 N11q
        have e11' : T11.heap = T9.heap := e11
        obtain ⟨_, T13, L13, hQ13, X13, st13⟩ := own_virtual X11 hx hZ (W := 0) hown (hw _ m36) (hw _ m37) (notFace_of_selects (args := #[]) (mvT hZ (hw _ m39))) (hw _ m39) (hw _ m38) (hw _ m2) (hw _ m40) (by decide) (rm10 l Z a0 hw hj w1 clw1 w2 clw2 hS [] b1 c5_0 T9.heap n0 O9 q9_0) e11' f12 (g := (mkF m 65 #[.val (.int i0), .val (.long i1), .second, .val (.int i2), .val (.ref b1), .val (.int (0 : Int32)), .val (.ref c4_0), .val (.ref c5_0), .val (.ref c5_0), .val (.int (1 : Int32)), .unset, .unset] [(.ref b1)])) rfl (by rw [hml]; rfl) (argsL := []) (rest := []) (lenOf pd125 rfl) rfl rfl (by show 2 * 0 + _ ≤ _; exact Nat.le_of_eq rfl) (hb hby at_65) (by decide) (by decide) (by decide) (by decide)
        obtain ⟨rfl, N13q, e13⟩ := hQ13
        have N13 := Fr.app N11 N13q
        have e13' : T13.heap = T9.heap := e13
        obtain ⟨_, T14, L14, hQ14, X14, st14⟩ := own_virtual X13 hx hZ (W := 0) hown (hw _ m36) (hw _ m37) (notFace_of_selects (args := #[]) (mvT hZ (hw _ m39))) (hw _ m39) (hw _ m38) (hw _ m2) (hw _ m40) (by decide) (rm10 l Z a0 hw hj w1 clw1 w2 clw2 hS [] b1 c5_0 T9.heap n0 O9 q9_0) e13' f12 (g := (mkF m 72 #[.val (.int i0), .val (.long i1), .second, .val (.int i2), .val (.ref b1), .val (.int (0 : Int32)), .val (.ref c4_0), .val (.ref c5_0), .val (.ref c5_0), .val (.int (1 : Int32)), .val (.ref c5_0), .unset] [(.ref b1)])) rfl (by rw [hml]; rfl) (argsL := []) (rest := []) (lenOf pd125 rfl) rfl rfl (by show 2 * 0 + _ ≤ _; exact Nat.le_of_eq rfl) (hb hby at_72) (by decide) (by decide) (by decide) (by decide)
        obtain ⟨rfl, N14q, e14⟩ := hQ14
        have N14 := Fr.app N13 N14q
        have e14' : T14.heap = T9.heap := e14
        obtain ⟨fs, hr, hrun, hended, hW, hsame⟩ := X14.leave (v := some (.int (1 : Int32))) (fun h => by rw [Bd.returns] at h; cases h)
        refine ⟨_, _, pre3 _ ?_, hrun, hended, _, _, rfl, ?_, ⟨_, rfl⟩, hW, hsame.mono (by decide) (by decide)⟩
        · show Steps p.tables e below (T6.setTop (mkF m 41 #[.val (.int i0), .val (.long i1), .second, .val (.int i2), .val (.ref b1), .val (.int (0 : Int32)), .val (.ref c4_0), .val (.ref c5_0), .val (.ref c4_0), .unset, .unset, .unset] [(.int (1 : Int32)), (.int i2)])) _
          refine Own.iand X6.here hx rfl (hb hby at_41) rfl hp2 ?_
          refine XS.ifNo X6.here hx rfl (hb hby at_42) rfl ((if0 _ _).trans (feq (by decide : ¬ ((1 : Int32) = (0 : Int32)))).1) ?_
          refine XS.aload X6.here hx rfl (hb hby at_45) rfl rfl ?_
          refine XS.aload X6.here hx rfl (hb hby at_47) rfl rfl ?_
          show Steps p.tables e below (T6.setTop (mkF m 49 #[.val (.int i0), .val (.long i1), .second, .val (.int i2), .val (.ref b1), .val (.int (0 : Int32)), .val (.ref c4_0), .val (.ref c5_0), .val (.ref c4_0), .unset, .unset, .unset] [(.ref c5_0), (.ref b1)])) _
          refine st9 _ ?_
          refine XS.aload X9.here hx rfl (hb hby at_52) rfl rfl ?_
          refine XS.astore X9.here hx rfl (hb hby at_54) rfl rfl (l' := #[.val (.int i0), .val (.long i1), .second, .val (.int i2), .val (.ref b1), .val (.int (0 : Int32)), .val (.ref c4_0), .val (.ref c5_0), .val (.ref c5_0), .unset, .unset, .unset]) rfl ?_
          refine XS.aload X9.here hx rfl (hb hby at_56) rfl rfl ?_
          show Steps p.tables e below (T9.setTop (mkF m 58 #[.val (.int i0), .val (.long i1), .second, .val (.int i2), .val (.ref b1), .val (.int (0 : Int32)), .val (.ref c4_0), .val (.ref c5_0), .val (.ref c5_0), .unset, .unset, .unset] [(.ref b1)])) _
          refine st11 _ ?_
          refine XS.istore X11.here hx rfl (hb hby at_61) rfl (l' := #[.val (.int i0), .val (.long i1), .second, .val (.int i2), .val (.ref b1), .val (.int (0 : Int32)), .val (.ref c4_0), .val (.ref c5_0), .val (.ref c5_0), .val (.int (1 : Int32)), .unset, .unset]) rfl ?_
          refine XS.aload X11.here hx rfl (hb hby at_63) rfl rfl ?_
          refine st13 _ ?_
          show Steps p.tables e below (T13.setTop (mkF m 68 #[.val (.int i0), .val (.long i1), .second, .val (.int i2), .val (.ref b1), .val (.int (0 : Int32)), .val (.ref c4_0), .val (.ref c5_0), .val (.ref c5_0), .val (.int (1 : Int32)), .unset, .unset] [(.ref c5_0)])) _
          refine XS.astore X13.here hx rfl (hb hby at_68) rfl rfl (l' := #[.val (.int i0), .val (.long i1), .second, .val (.int i2), .val (.ref b1), .val (.int (0 : Int32)), .val (.ref c4_0), .val (.ref c5_0), .val (.ref c5_0), .val (.int (1 : Int32)), .val (.ref c5_0), .unset]) rfl ?_
          refine XS.aload X13.here hx rfl (hb hby at_70) rfl rfl ?_
          refine st14 _ ?_
          refine XS.astore X14.here hx rfl (hb hby at_75) rfl rfl (l' := #[.val (.int i0), .val (.long i1), .second, .val (.int i2), .val (.ref b1), .val (.int (0 : Int32)), .val (.ref c4_0), .val (.ref c5_0), .val (.ref c5_0), .val (.int (1 : Int32)), .val (.ref c5_0), .val (.ref c5_0)]) rfl ?_
          show Steps p.tables e below (T14.setTop (mkF m 77 #[.val (.int i0), .val (.long i1), .second, .val (.int i2), .val (.ref b1), .val (.int (0 : Int32)), .val (.ref c4_0), .val (.ref c5_0), .val (.ref c5_0), .val (.int (1 : Int32)), .val (.ref c5_0), .val (.ref c5_0)] [])) _
          refine XS.iload X14.here hx rfl (hb hby at_77) rfl ?_
          refine XS.ifNo X14.here hx rfl (hb hby at_79) rfl ((if0 _ _).trans (teq (by decide : (0 : Int32) = (0 : Int32))).2) ?_
          refine XS.iload X14.here hx rfl (hb hby at_82) rfl ?_
          refine XS.ifNo X14.here hx rfl (hb hby at_84) rfl ((if0 _ _).trans (feq (by decide : ¬ ((1 : Int32) = (0 : Int32)))).1) ?_
          show Steps p.tables e below (T14.setTop (mkF m 87 #[.val (.int i0), .val (.long i1), .second, .val (.int i2), .val (.ref b1), .val (.int (0 : Int32)), .val (.ref c4_0), .val (.ref c5_0), .val (.ref c5_0), .val (.int (1 : Int32)), .val (.ref c5_0), .val (.ref c5_0)] [])) _
          refine XS.aload X14.here hx rfl (hb hby at_87) rfl rfl ?_
          refine XS.aload X14.here hx rfl (hb hby at_89) rfl rfl ?_
          refine Jvm.RoadKit.acmp (g := (mkF m 91 #[.val (.int i0), .val (.long i1), .second, .val (.int i2), .val (.ref b1), .val (.int (0 : Int32)), .val (.ref c4_0), .val (.ref c5_0), .val (.ref c5_0), .val (.int (1 : Int32)), .val (.ref c5_0), .val (.ref c5_0)] [(.ref c5_0), (.ref c5_0)])) X14 hx rfl rfl rfl (pc0 := 91) (pc' := 94) (same := true) rfl (hb hby at_91) rfl (decide_eq_true rfl) (by decide) (by decide) ?_
          refine XS.aload X14.here hx rfl (hb hby at_94) rfl rfl ?_
          show Steps p.tables e below (T14.setTop (mkF m 96 #[.val (.int i0), .val (.long i1), .second, .val (.int i2), .val (.ref b1), .val (.int (0 : Int32)), .val (.ref c4_0), .val (.ref c5_0), .val (.ref c5_0), .val (.int (1 : Int32)), .val (.ref c5_0), .val (.ref c5_0)] [(.ref c5_0)])) _
          refine XS.aload X14.here hx rfl (hb hby at_96) rfl rfl ?_
          refine Jvm.RoadKit.acmp (g := (mkF m 98 #[.val (.int i0), .val (.long i1), .second, .val (.int i2), .val (.ref b1), .val (.int (0 : Int32)), .val (.ref c4_0), .val (.ref c5_0), .val (.ref c5_0), .val (.int (1 : Int32)), .val (.ref c5_0), .val (.ref c5_0)] [(.ref c5_0), (.ref c5_0)])) X14 hx rfl rfl rfl (pc0 := 98) (pc' := 101) (same := true) rfl (hb hby at_98) rfl (decide_eq_true rfl) (by decide) (by decide) ?_
          refine XS.iconst X14.here hx rfl (hb hby at_101) ?_
          refine XS.goto X14.here hx rfl (pc0 := 102) (pc' := 106) rfl (hb hby at_102) (by decide) (by decide) ?_
          show Steps p.tables e below (T14.setTop (mkF m 106 #[.val (.int i0), .val (.long i1), .second, .val (.int i2), .val (.ref b1), .val (.int (0 : Int32)), .val (.ref c4_0), .val (.ref c5_0), .val (.ref c5_0), .val (.int (1 : Int32)), .val (.ref c5_0), .val (.ref c5_0)] [(.int (1 : Int32))])) _
          exact retN X14 hx (t := .boolean) Bd.returns (by simp) (hb hby at_106) hr
        · show QL n0 _ T14.heap _
          exact ⟨rfl, N14⟩
    · rcases Decidable.em ((127 : Int64) < i1) with hp2 | hp2
      · obtain ⟨_, T5, L5, hQ5, X5, st5⟩ := own_callS X4 hx hZ (W := 0) hown (hw _ m23) (hw _ m24) (hw _ m25) (hw _ m26) (by decide) (rm12 l Z a0 hw hj w1 clw1 w2 clw2 hS [] i1 T4.heap n0 O4 hp1 hp2) (rfl : T4.heap = T4.heap) (g := (mkF m 23 #[.val (.int i0), .val (.long i1), .second, .val (.int i2), .val (.ref b1), .val (.int (0 : Int32)), .val (.ref c4_0), .unset, .unset, .unset, .unset, .unset] [(.long i1)])) rfl (by rw [hml]; rfl) (argsL := [(.long i1)]) (rest := []) (lenOf pd100 rfl) rfl rfl (by show 2 * 0 + _ ≤ _; exact Nat.le_of_eq rfl) (hb hby at_23) (by decide) (by decide) (by decide) (by decide)
        obtain ⟨c5_0, rfl, N5q, Kq5, lo5_0, q5_0, q5_1⟩ := hQ5
        have N5 := Fr.app N4 N5q
        have O5 : Old Z n0 T5.heap := O4.keep Kq5 all0
        have K5 : Keep h0 T5.heap [] := K4.trans Kq5 all0
        have f7 : Exa Z T5.heap b1 z0 := ((A1.keep Kq4).keep Kq5)
        have f8 : Fld Z T5.heap b1 z0 "value" z4 .null := ((F1_1.keep Kq4 nin0).keep Kq5 nin0)
        obtain ⟨_, T6, L6, hQ6, X6, st6⟩ := own_virtual X5 hx hZ (W := 0) hown (hw _ m31) (hw _ m32) (notFace_of_selects (args := #[]) (mvT hZ (hw _ m34))) (hw _ m34) (hw _ m33) (hw _ m2) (hw _ m35) (by decide) (rm8 l Z a0 hw hj w1 clw1 w2 clw2 hS [] b1 c4_0 T5.heap n0 O5 f7 f8 (Nat.le_trans (own_old_le O0) g1)) (rfl : T5.heap = T5.heap) f7 (g := (mkF m 32 #[.val (.int i0), .val (.long i1), .second, .val (.int i2), .val (.ref b1), .val (.int (0 : Int32)), .val (.ref c4_0), .val (.ref c5_0), .unset, .unset, .unset, .unset] [(.ref c4_0), (.ref b1)])) rfl (by rw [hml]; rfl) (argsL := [(.ref c4_0)]) (rest := []) (lenOf pd110 rfl) rfl rfl (by show 2 * 0 + _ ≤ _; exact Nat.le_of_eq rfl) (hb hby at_32) (by decide) (by decide) (by decide) (by decide)
        obtain ⟨rfl, N6q, Kq6, q6_0⟩ := hQ6
        have N6 := Fr.app N5 N6q
        have O6 : Old Z n0 T6.heap := O5.keep Kq6 (allS (Nat.le_trans (own_old_le O0) g1) all0)
        have K6 : Keep h0 T6.heap [] := K5.trans Kq6 (allS (Or.inr (Nat.le_trans (Keep.refl h0 []).1 g1)) all0)
        have pre3 : ∀ t, Steps p.tables e below (T6.setTop (mkF m 41 #[.val (.int i0), .val (.long i1), .second, .val (.int i2), .val (.ref b1), .val (.int (0 : Int32)), .val (.ref c4_0), .val (.ref c5_0), .val (.ref c4_0), .unset, .unset, .unset] [(.int (1 : Int32)), (.int i2)])) t → Steps p.tables e below (s₁.setTop (entryFrame m #[(.int i0), (.long i1), (.int i2)] maxLocals)) t := fun t kt => pre2 _ (by
            refine st5 _ ?_
            show Steps p.tables e below (T5.setTop (mkF m 26 #[.val (.int i0), .val (.long i1), .second, .val (.int i2), .val (.ref b1), .val (.int (0 : Int32)), .val (.ref c4_0), .unset, .unset, .unset, .unset, .unset] [(.ref c5_0)])) _
            refine XS.astore X5.here hx rfl (hb hby at_26) rfl rfl (l' := #[.val (.int i0), .val (.long i1), .second, .val (.int i2), .val (.ref b1), .val (.int (0 : Int32)), .val (.ref c4_0), .val (.ref c5_0), .unset, .unset, .unset, .unset]) rfl ?_
            refine XS.aload X5.here hx rfl (hb hby at_28) rfl rfl ?_
            refine XS.aload X5.here hx rfl (hb hby at_30) rfl rfl ?_
            refine st6 _ ?_
            show Steps p.tables e below (T6.setTop (mkF m 35 #[.val (.int i0), .val (.long i1), .second, .val (.int i2), .val (.ref b1), .val (.int (0 : Int32)), .val (.ref c4_0), .val (.ref c5_0), .unset, .unset, .unset, .unset] [])) _
            refine XS.aload X6.here hx rfl (hb hby at_35) rfl rfl ?_
            refine XS.astore X6.here hx rfl (hb hby at_37) rfl rfl (l' := #[.val (.int i0), .val (.long i1), .second, .val (.int i2), .val (.ref b1), .val (.int (0 : Int32)), .val (.ref c4_0), .val (.ref c5_0), .val (.ref c4_0), .unset, .unset, .unset]) rfl ?_
            refine XS.iloadN X6.here hx rfl (hb hby at_39) rfl ?_
            refine XS.iconst X6.here hx rfl (hb hby at_40) ?_
            exact kt)
        rcases en_113 (i2 &&& (1 : Int32)) (by have q0 := own_rng i2; have q1 := (by decide : ((1 : Int32)).toInt = 1); have q2 := (own_mask i2 (1 : Int32) (by decide) : 0 ≤ ((i2 &&& (1 : Int32))).toInt ∧ ((i2 &&& (1 : Int32))).toInt ≤ 1); omega) with hp3 | hp3
        · have f10 : Exa Z T6.heap b1 z0 := (f7.keep Kq6)
          obtain ⟨_, T9, L9, hQ9, X9, st9⟩ := own_virtual X6 hx hZ (W := 0) hown (hw _ m9) (hw _ m10) (notFace_of_selects (args := #[]) (mvT hZ (hw _ m12))) (hw _ m12) (hw _ m11) (hw _ m2) (hw _ m13) (by decide) (rm9 l Z a0 hw hj w1 clw1 w2 clw2 hS [] b1 c4_0 T6.heap n0 O6 q6_0) (rfl : T6.heap = T6.heap) f10 (g := (mkF m 58 #[.val (.int i0), .val (.long i1), .second, .val (.int i2), .val (.ref b1), .val (.int (0 : Int32)), .val (.ref c4_0), .val (.ref c5_0), .val (.ref c4_0), .unset, .unset, .unset] [(.ref b1)])) rfl (by rw [hml]; rfl) (argsL := []) (rest := []) (lenOf pd25 rfl) rfl rfl (by show 2 * 0 + _ ≤ _; exact Nat.le_of_eq rfl) (hb hby at_58) (by decide) (by decide) (by decide) (by decide)
          obtain ⟨rfl, N9q, e9⟩ := hQ9
          have N9 := Fr.app N6 N9q
          have e9' : T9.heap = T6.heap := e9
          obtain ⟨_, T11, L11, hQ11, X11, st11⟩ := own_virtual X9 hx hZ (W := 0) hown (hw _ m36) (hw _ m37) (notFace_of_selects (args := #[]) (mvT hZ (hw _ m39))) (hw _ m39) (hw _ m38) (hw _ m2) (hw _ m40) (by decide) (rm10 l Z a0 hw hj w1 clw1 w2 clw2 hS [] b1 c4_0 T6.heap n0 O6 q6_0) e9' f10 (g := (mkF m 65 #[.val (.int i0), .val (.long i1), .second, .val (.int i2), .val (.ref b1), .val (.int (0 : Int32)), .val (.ref c4_0), .val (.ref c5_0), .val (.ref c4_0), .val (.int (1 : Int32)), .unset, .unset] [(.ref b1)])) rfl (by rw [hml]; rfl) (argsL := []) (rest := []) (lenOf pd125 rfl) rfl rfl (by show 2 * 0 + _ ≤ _; exact Nat.le_of_eq rfl) (hb hby at_65) (by decide) (by decide) (by decide) (by decide)
          obtain ⟨rfl, N11q, e11⟩ := hQ11
          have N11 := Fr.app N9 N11q
          have e11' : T11.heap = T6.heap := e11
          obtain ⟨_, T12, L12, hQ12, X12, st12⟩ := own_virtual X11 hx hZ (W := 0) hown (hw _ m36) (hw _ m37) (notFace_of_selects (args := #[]) (mvT hZ (hw _ m39))) (hw _ m39) (hw _ m38) (hw _ m2) (hw _ m40) (by decide) (rm10 l Z a0 hw hj w1 clw1 w2 clw2 hS [] b1 c4_0 T6.heap n0 O6 q6_0) e11' f10 (g := (mkF m 72 #[.val (.int i0), .val (.long i1), .second, .val (.int i2), .val (.ref b1), .val (.int (0 : Int32)), .val (.ref c4_0), .val (.ref c5_0), .val (.ref c4_0), .val (.int (1 : Int32)), .val (.ref c4_0), .unset] [(.ref b1)])) rfl (by rw [hml]; rfl) (argsL := []) (rest := []) (lenOf pd125 rfl) rfl rfl (by show 2 * 0 + _ ≤ _; exact Nat.le_of_eq rfl) (hb hby at_72) (by decide) (by decide) (by decide) (by decide)
          obtain ⟨rfl, N12q, e12⟩ := hQ12
          have N12 := Fr.app N11 N12q
          have e12' : T12.heap = T6.heap := e12
          obtain ⟨fs, hr, hrun, hended, hW, hsame⟩ := X12.leave (v := some (.int (1 : Int32))) (fun h => by rw [Bd.returns] at h; cases h)
          refine ⟨_, _, pre3 _ ?_, hrun, hended, _, _, rfl, ?_, ⟨_, rfl⟩, hW, hsame.mono (by decide) (by decide)⟩
          · show Steps p.tables e below (T6.setTop (mkF m 41 #[.val (.int i0), .val (.long i1), .second, .val (.int i2), .val (.ref b1), .val (.int (0 : Int32)), .val (.ref c4_0), .val (.ref c5_0), .val (.ref c4_0), .unset, .unset, .unset] [(.int (1 : Int32)), (.int i2)])) _
            refine Own.iand X6.here hx rfl (hb hby at_41) rfl hp3 ?_
            refine XS.ifYes X6.here hx rfl (pc0 := 42) (pc' := 56) rfl (hb hby at_42) rfl ((if0 _ _).trans (teq (by decide : (0 : Int32) = (0 : Int32))).1) (by decide) (by decide) ?_
            refine XS.aload X6.here hx rfl (hb hby at_56) rfl rfl ?_
            refine st9 _ ?_
            show Steps p.tables e below (T9.setTop (mkF m 61 #[.val (.int i0), .val (.long i1), .second, .val (.int i2), .val (.ref b1), .val (.int (0 : Int32)), .val (.ref c4_0), .val (.ref c5_0), .val (.ref c4_0), .unset, .unset, .unset] [(.int (1 : Int32))])) _
            refine XS.istore X9.here hx rfl (hb hby at_61) rfl (l' := #[.val (.int i0), .val (.long i1), .second, .val (.int i2), .val (.ref b1), .val (.int (0 : Int32)), .val (.ref c4_0), .val (.ref c5_0), .val (.ref c4_0), .val (.int (1 : Int32)), .unset, .unset]) rfl ?_
            refine XS.aload X9.here hx rfl (hb hby at_63) rfl rfl ?_
            refine st11 _ ?_
            refine XS.astore X11.here hx rfl (hb hby at_68) rfl rfl (l' := #[.val (.int i0), .val (.long i1), .second, .val (.int i2), .val (.ref b1), .val (.int (0 : Int32)), .val (.ref c4_0), .val (.ref c5_0), .val (.ref c4_0), .val (.int (1 : Int32)), .val (.ref c4_0), .unset]) rfl ?_
            show Steps p.tables e below (T11.setTop (mkF m 70 #[.val (.int i0), .val (.long i1), .second, .val (.int i2), .val (.ref b1), .val (.int (0 : Int32)), .val (.ref c4_0), .val (.ref c5_0), .val (.ref c4_0), .val (.int (1 : Int32)), .val (.ref c4_0), .unset] [])) _
            refine XS.aload X11.here hx rfl (hb hby at_70) rfl rfl ?_
            refine st12 _ ?_
            refine XS.astore X12.here hx rfl (hb hby at_75) rfl rfl (l' := #[.val (.int i0), .val (.long i1), .second, .val (.int i2), .val (.ref b1), .val (.int (0 : Int32)), .val (.ref c4_0), .val (.ref c5_0), .val (.ref c4_0), .val (.int (1 : Int32)), .val (.ref c4_0), .val (.ref c4_0)]) rfl ?_
            refine XS.iload X12.here hx rfl (hb hby at_77) rfl ?_
            show Steps p.tables e below (T12.setTop (mkF m 79 #[.val (.int i0), .val (.long i1), .second, .val (.int i2), .val (.ref b1), .val (.int (0 : Int32)), .val (.ref c4_0), .val (.ref c5_0), .val (.ref c4_0), .val (.int (1 : Int32)), .val (.ref c4_0), .val (.ref c4_0)] [(.int (0 : Int32))])) _
            refine XS.ifNo X12.here hx rfl (hb hby at_79) rfl ((if0 _ _).trans (teq (by decide : (0 : Int32) = (0 : Int32))).2) ?_
            refine XS.iload X12.here hx rfl (hb hby at_82) rfl ?_
            refine XS.ifNo X12.here hx rfl (hb hby at_84) rfl ((if0 _ _).trans (feq (by decide : ¬ ((1 : Int32) = (0 : Int32)))).1) ?_
            refine XS.aload X12.here hx rfl (hb hby at_87) rfl rfl ?_
            show Steps p.tables e below (T12.setTop (mkF m 89 #[.val (.int i0), .val (.long i1), .second, .val (.int i2), .val (.ref b1), .val (.int (0 : Int32)), .val (.ref c4_0), .val (.ref c5_0), .val (.ref c4_0), .val (.int (1 : Int32)), .val (.ref c4_0), .val (.ref c4_0)] [(.ref c4_0)])) _
            refine XS.aload X12.here hx rfl (hb hby at_89) rfl rfl ?_
            refine Jvm.RoadKit.acmp (g := (mkF m 91 #[.val (.int i0), .val (.long i1), .second, .val (.int i2), .val (.ref b1), .val (.int (0 : Int32)), .val (.ref c4_0), .val (.ref c5_0), .val (.ref c4_0), .val (.int (1 : Int32)), .val (.ref c4_0), .val (.ref c4_0)] [(.ref c4_0), (.ref c4_0)])) X12 hx rfl rfl rfl (pc0 := 91) (pc' := 94) (same := true) rfl (hb hby at_91) rfl (decide_eq_true rfl) (by decide) (by decide) ?_
            refine XS.aload X12.here hx rfl (hb hby at_94) rfl rfl ?_
            refine XS.aload X12.here hx rfl (hb hby at_96) rfl rfl ?_
            show Steps p.tables e below (T12.setTop (mkF m 98 #[.val (.int i0), .val (.long i1), .second, .val (.int i2), .val (.ref b1), .val (.int (0 : Int32)), .val (.ref c4_0), .val (.ref c5_0), .val (.ref c4_0), .val (.int (1 : Int32)), .val (.ref c4_0), .val (.ref c4_0)] [(.ref c4_0), (.ref c4_0)])) _
            refine Jvm.RoadKit.acmp (g := (mkF m 98 #[.val (.int i0), .val (.long i1), .second, .val (.int i2), .val (.ref b1), .val (.int (0 : Int32)), .val (.ref c4_0), .val (.ref c5_0), .val (.ref c4_0), .val (.int (1 : Int32)), .val (.ref c4_0), .val (.ref c4_0)] [(.ref c4_0), (.ref c4_0)])) X12 hx rfl rfl rfl (pc0 := 98) (pc' := 101) (same := true) rfl (hb hby at_98) rfl (decide_eq_true rfl) (by decide) (by decide) ?_
            refine XS.iconst X12.here hx rfl (hb hby at_101) ?_
            refine XS.goto X12.here hx rfl (pc0 := 102) (pc' := 106) rfl (hb hby at_102) (by decide) (by decide) ?_
            exact retN X12 hx (t := .boolean) Bd.returns (by simp) (hb hby at_106) hr
          · show QL n0 _ T12.heap _
            exact ⟨rfl, N12⟩
        · have f10 : Exa Z T6.heap b1 z0 := (f7.keep Kq6)
          obtain ⟨_, T9, L9, hQ9, X9, st9⟩ := own_virtual X6 hx hZ (W := 0) hown (hw _ m31) (hw _ m32) (notFace_of_selects (args := #[]) (mvT hZ (hw _ m34))) (hw _ m34) (hw _ m33) (hw _ m2) (hw _ m35) (by decide) (rm11 l Z a0 hw hj w1 clw1 w2 clw2 hS [] b1 c4_0 c5_0 T6.heap n0 O6 f10 q6_0 (Nat.le_trans (own_old_le O0) g1)) (rfl : T6.heap = T6.heap) f10 (g := (mkF m 49 #[.val (.int i0), .val (.long i1), .second, .val (.int i2), .val (.ref b1), .val (.int (0 : Int32)), .val (.ref c4_0), .val (.ref c5_0), .val (.ref c4_0), .unset, .unset, .unset] [(.ref c5_0), (.ref b1)])) rfl (by rw [hml]; rfl) (argsL := [(.ref c5_0)]) (rest := []) (lenOf pd110 rfl) rfl rfl (by show 2 * 0 + _ ≤ _; exact Nat.le_of_eq rfl) (hb hby at_49) (by decide) (by decide) (by decide) (by decide)
          obtain ⟨rfl, N9q, Kq9, q9_0⟩ := hQ9
          have N9 := Fr.app N6 N9q
          have O9 : Old Z n0 T9.heap := O6.keep Kq9 (allS (Nat.le_trans (own_old_le O0) g1) all0)
          have K9 : Keep h0 T9.heap [] := K6.trans Kq9 (allS (Or.inr (Nat.le_trans (Keep.refl h0 []).1 g1)) all0)
          have f12 : Exa Z T9.heap b1 z0 := (f10.keep Kq9)
          obtain ⟨_, T11, L11, hQ11, X11, st11⟩ := own_virtual X9 hx hZ (W := 0) hown (hw _ m9) (hw _ m10) (notFace_of_selects (args := #[]) (mvT hZ (hw _ m12))) (hw _ m12) (hw _ m11) (hw _ m2) (hw _ m13) (by decide) (rm9 l Z a0 hw hj w1 clw1 w2 clw2 hS [] b1 c5_0 T9.heap n0 O9 q9_0) (rfl : T9.heap = T9.heap) f12 (g := (mkF m 58 #[.val (.int i0), .val (.long i1), .second, .val (.int i2), .val (.ref b1), .val (.int (0 : Int32)), .val (.ref c4_0), .val (.ref c5_0), .val (.ref c5_0), .unset, .unset, .unset] [(.ref b1)])) rfl (by rw [hml]; rfl) (argsL := []) (rest := []) (lenOf pd25 rfl) rfl rfl (by show 2 * 0 + _ ≤ _; exact Nat.le_of_eq rfl) (hb hby at_58) (by decide) (by decide) (by decide) (by decide)
          obtain ⟨rfl, N11q, e11⟩ := hQ11
          have N11 := Fr.app N9 N11q
          have e11' : T11.heap = T9.heap := e11
          obtain ⟨_, T13, L13, hQ13, X13, st13⟩ := own_virtual X11 hx hZ (W := 0) hown (hw _ m36) (hw _ m37) (notFace_of_selects (args := #[]) (mvT hZ (hw _ m39))) (hw _ m39) (hw _ m38) (hw _ m2) (hw _ m40) (by decide) (rm10 l Z a0 hw hj w1 clw1 w2 clw2 hS [] b1 c5_0 T9.heap n0 O9 q9_0) e11' f12 (g := (mkF m 65 #[.val (.int i0), .val (.long i1), .second, .val (.int i2), .val (.ref b1), .val (.int (0 : Int32)), .val (.ref c4_0), .val (.ref c5_0), .val (.ref c5_0), .val (.int (1 : Int32)), .unset, .unset] [(.ref b1)])) rfl (by rw [hml]; rfl) (argsL := []) (rest := []) (lenOf pd125 rfl) rfl rfl (by show 2 * 0 + _ ≤ _; exact Nat.le_of_eq rfl) (hb hby at_65) (by decide) (by decide) (by decide) (by decide)
          obtain ⟨rfl, N13q, e13⟩ := hQ13
          have N13 := Fr.app N11 N13q
          have e13' : T13.heap = T9.heap := e13
          obtain ⟨_, T14, L14, hQ14, X14, st14⟩ := own_virtual X13 hx hZ (W := 0) hown (hw _ m36) (hw _ m37) (notFace_of_selects (args := #[]) (mvT hZ (hw _ m39))) (hw _ m39) (hw _ m38) (hw _ m2) (hw _ m40) (by decide) (rm10 l Z a0 hw hj w1 clw1 w2 clw2 hS [] b1 c5_0 T9.heap n0 O9 q9_0) e13' f12 (g := (mkF m 72 #[.val (.int i0), .val (.long i1), .second, .val (.int i2), .val (.ref b1), .val (.int (0 : Int32)), .val (.ref c4_0), .val (.ref c5_0), .val (.ref c5_0), .val (.int (1 : Int32)), .val (.ref c5_0), .unset] [(.ref b1)])) rfl (by rw [hml]; rfl) (argsL := []) (rest := []) (lenOf pd125 rfl) rfl rfl (by show 2 * 0 + _ ≤ _; exact Nat.le_of_eq rfl) (hb hby at_72) (by decide) (by decide) (by decide) (by decide)
          obtain ⟨rfl, N14q, e14⟩ := hQ14
          have N14 := Fr.app N13 N14q
          have e14' : T14.heap = T9.heap := e14
          obtain ⟨fs, hr, hrun, hended, hW, hsame⟩ := X14.leave (v := some (.int (1 : Int32))) (fun h => by rw [Bd.returns] at h; cases h)
          refine ⟨_, _, pre3 _ ?_, hrun, hended, _, _, rfl, ?_, ⟨_, rfl⟩, hW, hsame.mono (by decide) (by decide)⟩
          · show Steps p.tables e below (T6.setTop (mkF m 41 #[.val (.int i0), .val (.long i1), .second, .val (.int i2), .val (.ref b1), .val (.int (0 : Int32)), .val (.ref c4_0), .val (.ref c5_0), .val (.ref c4_0), .unset, .unset, .unset] [(.int (1 : Int32)), (.int i2)])) _
            refine Own.iand X6.here hx rfl (hb hby at_41) rfl hp3 ?_
            refine XS.ifNo X6.here hx rfl (hb hby at_42) rfl ((if0 _ _).trans (feq (by decide : ¬ ((1 : Int32) = (0 : Int32)))).1) ?_
            refine XS.aload X6.here hx rfl (hb hby at_45) rfl rfl ?_
            refine XS.aload X6.here hx rfl (hb hby at_47) rfl rfl ?_
            show Steps p.tables e below (T6.setTop (mkF m 49 #[.val (.int i0), .val (.long i1), .second, .val (.int i2), .val (.ref b1), .val (.int (0 : Int32)), .val (.ref c4_0), .val (.ref c5_0), .val (.ref c4_0), .unset, .unset, .unset] [(.ref c5_0), (.ref b1)])) _
            refine st9 _ ?_
            refine XS.aload X9.here hx rfl (hb hby at_52) rfl rfl ?_
            refine XS.astore X9.here hx rfl (hb hby at_54) rfl rfl (l' := #[.val (.int i0), .val (.long i1), .second, .val (.int i2), .val (.ref b1), .val (.int (0 : Int32)), .val (.ref c4_0), .val (.ref c5_0), .val (.ref c5_0), .unset, .unset, .unset]) rfl ?_
            refine XS.aload X9.here hx rfl (hb hby at_56) rfl rfl ?_
            show Steps p.tables e below (T9.setTop (mkF m 58 #[.val (.int i0), .val (.long i1), .second, .val (.int i2), .val (.ref b1), .val (.int (0 : Int32)), .val (.ref c4_0), .val (.ref c5_0), .val (.ref c5_0), .unset, .unset, .unset] [(.ref b1)])) _
            refine st11 _ ?_
            refine XS.istore X11.here hx rfl (hb hby at_61) rfl (l' := #[.val (.int i0), .val (.long i1), .second, .val (.int i2), .val (.ref b1), .val (.int (0 : Int32)), .val (.ref c4_0), .val (.ref c5_0), .val (.ref c5_0), .val (.int (1 : Int32)), .unset, .unset]) rfl ?_
            refine XS.aload X11.here hx rfl (hb hby at_63) rfl rfl ?_
            refine st13 _ ?_
            show Steps p.tables e below (T13.setTop (mkF m 68 #[.val (.int i0), .val (.long i1), .second, .val (.int i2), .val (.ref b1), .val (.int (0 : Int32)), .val (.ref c4_0), .val (.ref c5_0), .val (.ref c5_0), .val (.int (1 : Int32)), .unset, .unset] [(.ref c5_0)])) _
            refine XS.astore X13.here hx rfl (hb hby at_68) rfl rfl (l' := #[.val (.int i0), .val (.long i1), .second, .val (.int i2), .val (.ref b1), .val (.int (0 : Int32)), .val (.ref c4_0), .val (.ref c5_0), .val (.ref c5_0), .val (.int (1 : Int32)), .val (.ref c5_0), .unset]) rfl ?_
            refine XS.aload X13.here hx rfl (hb hby at_70) rfl rfl ?_
            refine st14 _ ?_
            refine XS.astore X14.here hx rfl (hb hby at_75) rfl rfl (l' := #[.val (.int i0), .val (.long i1), .second, .val (.int i2), .val (.ref b1), .val (.int (0 : Int32)), .val (.ref c4_0), .val (.ref c5_0), .val (.ref c5_0), .val (.int (1 : Int32)), .val (.ref c5_0), .val (.ref c5_0)]) rfl ?_
            show Steps p.tables e below (T14.setTop (mkF m 77 #[.val (.int i0), .val (.long i1), .second, .val (.int i2), .val (.ref b1), .val (.int (0 : Int32)), .val (.ref c4_0), .val (.ref c5_0), .val (.ref c5_0), .val (.int (1 : Int32)), .val (.ref c5_0), .val (.ref c5_0)] [])) _
            refine XS.iload X14.here hx rfl (hb hby at_77) rfl ?_
            refine XS.ifNo X14.here hx rfl (hb hby at_79) rfl ((if0 _ _).trans (teq (by decide : (0 : Int32) = (0 : Int32))).2) ?_
            refine XS.iload X14.here hx rfl (hb hby at_82) rfl ?_
            refine XS.ifNo X14.here hx rfl (hb hby at_84) rfl ((if0 _ _).trans (feq (by decide : ¬ ((1 : Int32) = (0 : Int32)))).1) ?_
            show Steps p.tables e below (T14.setTop (mkF m 87 #[.val (.int i0), .val (.long i1), .second, .val (.int i2), .val (.ref b1), .val (.int (0 : Int32)), .val (.ref c4_0), .val (.ref c5_0), .val (.ref c5_0), .val (.int (1 : Int32)), .val (.ref c5_0), .val (.ref c5_0)] [])) _
            refine XS.aload X14.here hx rfl (hb hby at_87) rfl rfl ?_
            refine XS.aload X14.here hx rfl (hb hby at_89) rfl rfl ?_
            refine Jvm.RoadKit.acmp (g := (mkF m 91 #[.val (.int i0), .val (.long i1), .second, .val (.int i2), .val (.ref b1), .val (.int (0 : Int32)), .val (.ref c4_0), .val (.ref c5_0), .val (.ref c5_0), .val (.int (1 : Int32)), .val (.ref c5_0), .val (.ref c5_0)] [(.ref c5_0), (.ref c5_0)])) X14 hx rfl rfl rfl (pc0 := 91) (pc' := 94) (same := true) rfl (hb hby at_91) rfl (decide_eq_true rfl) (by decide) (by decide) ?_
            refine XS.aload X14.here hx rfl (hb hby at_94) rfl rfl ?_
            show Steps p.tables e below (T14.setTop (mkF m 96 #[.val (.int i0), .val (.long i1), .second, .val (.int i2), .val (.ref b1), .val (.int (0 : Int32)), .val (.ref c4_0), .val (.ref c5_0), .val (.ref c5_0), .val (.int (1 : Int32)), .val (.ref c5_0), .val (.ref c5_0)] [(.ref c5_0)])) _
            refine XS.aload X14.here hx rfl (hb hby at_96) rfl rfl ?_
            refine Jvm.RoadKit.acmp (g := (mkF m 98 #[.val (.int i0), .val (.long i1), .second, .val (.int i2), .val (.ref b1), .val (.int (0 : Int32)), .val (.ref c4_0), .val (.ref c5_0), .val (.ref c5_0), .val (.int (1 : Int32)), .val (.ref c5_0), .val (.ref c5_0)] [(.ref c5_0), (.ref c5_0)])) X14 hx rfl rfl rfl (pc0 := 98) (pc' := 101) (same := true) rfl (hb hby at_98) rfl (decide_eq_true rfl) (by decide) (by decide) ?_
            refine XS.iconst X14.here hx rfl (hb hby at_101) ?_
            refine XS.goto X14.here hx rfl (pc0 := 102) (pc' := 106) rfl (hb hby at_102) (by decide) (by decide) ?_
            show Steps p.tables e below (T14.setTop (mkF m 106 #[.val (.int i0), .val (.long i1), .second, .val (.int i2), .val (.ref b1), .val (.int (0 : Int32)), .val (.ref c4_0), .val (.ref c5_0), .val (.ref c5_0), .val (.int (1 : Int32)), .val (.ref c5_0), .val (.ref c5_0)] [(.int (1 : Int32))])) _
            exact retN X14 hx (t := .boolean) Bd.returns (by simp) (hb hby at_106) hr
          · show QL n0 _ T14.heap _
            exact ⟨rfl, N14⟩
      · obtain ⟨r5, re5, rx5, rv5⟩ := own_box hS.2.2.2.2 (by have q0 := own_rngL i1; have q1 := c_l2i i1; have q2 := own_rng (i1.toInt32); have q3 := (by decide : ((128 : Int32)).toInt = 128); have q4 := c_iadd (i1.toInt32) (128 : Int32); have q5 := own_rng ((i1.toInt32) + (128 : Int32)); have q6 := (by decide : ((0 : Int32)).toInt = 0); have q7 := (by decide : ((-128 : Int64)).toInt = -128); have q8 := own_ltF'L hp1; have q9 := (by decide : ((127 : Int64)).toInt = 127); have q10 := own_ltF'L hp2; exact own_ltF (by omega) : ¬ (((i1.toInt32) + (128 : Int32)) < (0 : Int32))) (by have q0 := own_rngL i1; have q1 := c_l2i i1; have q2 := own_rng (i1.toInt32); have q3 := (by decide : ((128 : Int32)).toInt = 128); have q4 := c_iadd (i1.toInt32) (128 : Int32); have q5 := own_rng ((i1.toInt32) + (128 : Int32)); have q6 := (by decide : ((256 : Int32)).toInt = 256); have q7 := (by decide : ((-128 : Int64)).toInt = -128); have q8 := own_ltF'L hp1; have q9 := (by decide : ((127 : Int64)).toInt = 127); have q10 := own_ltF'L hp2; exact own_ltT (by omega) : ((i1.toInt32) + (128 : Int32)) < (256 : Int32))
        obtain ⟨_, T6, L6, hQ6, X6, st6⟩ := own_callS X4 hx hZ (W := 0) hown (hw _ m23) (hw _ m24) (hw _ m25) (hw _ m26) (by decide) (rm13 l Z a0 hw hj w1 clw1 w2 clw2 hS [] i1 r5 T4.heap n0 O4 hp1 hp2 re5 (by have q0 := own_rngL i1; have q1 := c_l2i i1; have q2 := own_rng (i1.toInt32); have q3 := (by decide : ((128 : Int32)).toInt = 128); have q4 := c_iadd (i1.toInt32) (128 : Int32); have q5 := own_rng ((i1.toInt32) + (128 : Int32)); have q6 := (by decide : ((0 : Int32)).toInt = 0); have q7 := (by decide : ((-128 : Int64)).toInt = -128); have q8 := own_ltF'L hp1; have q9 := (by decide : ((127 : Int64)).toInt = 127); have q10 := own_ltF'L hp2; exact own_ltF (by omega) : ¬ (((i1.toInt32) + (128 : Int32)) < (0 : Int32))) (by have q0 := own_rngL i1; have q1 := c_l2i i1; have q2 := own_rng (i1.toInt32); have q3 := (by decide : ((128 : Int32)).toInt = 128); have q4 := c_iadd (i1.toInt32) (128 : Int32); have q5 := own_rng ((i1.toInt32) + (128 : Int32)); have q6 := (by decide : ((256 : Int32)).toInt = 256); have q7 := (by decide : ((-128 : Int64)).toInt = -128); have q8 := own_ltF'L hp1; have q9 := (by decide : ((127 : Int64)).toInt = 127); have q10 := own_ltF'L hp2; exact own_ltT (by omega) : ((i1.toInt32) + (128 : Int32)) < (256 : Int32))) (rfl : T4.heap = T4.heap) (g := (mkF m 23 #[.val (.int i0), .val (.long i1), .second, .val (.int i2), .val (.ref b1), .val (.int (0 : Int32)), .val (.ref c4_0), .unset, .unset, .unset, .unset, .unset] [(.long i1)])) rfl (by rw [hml]; rfl) (argsL := [(.long i1)]) (rest := []) (lenOf pd100 rfl) rfl rfl (by show 2 * 0 + _ ≤ _; exact Nat.le_of_eq rfl) (hb hby at_23) (by decide) (by decide) (by decide) (by decide)
        obtain ⟨rfl, N6q, e6⟩ := hQ6
        have N6 := Fr.app N4 N6q
        have e6' : T6.heap = T4.heap := e6
        have f8 : Exa Z T4.heap b1 z0 := (A1.keep Kq4)
        have f9 : Fld Z T4.heap b1 z0 "value" z4 .null := (F1_1.keep Kq4 nin0)
        obtain ⟨_, T7, L7, hQ7, X7, st7⟩ := own_virtual X6 hx hZ (W := 0) hown (hw _ m31) (hw _ m32) (notFace_of_selects (args := #[]) (mvT hZ (hw _ m34))) (hw _ m34) (hw _ m33) (hw _ m2) (hw _ m35) (by decide) (rm8 l Z a0 hw hj w1 clw1 w2 clw2 hS [] b1 c4_0 T4.heap n0 O4 f8 f9 (Nat.le_trans (own_old_le O0) g1)) e6' f8 (g := (mkF m 32 #[.val (.int i0), .val (.long i1), .second, .val (.int i2), .val (.ref b1), .val (.int (0 : Int32)), .val (.ref c4_0), .val (.ref r5), .unset, .unset, .unset, .unset] [(.ref c4_0), (.ref b1)])) rfl (by rw [hml]; rfl) (argsL := [(.ref c4_0)]) (rest := []) (lenOf pd110 rfl) rfl rfl (by show 2 * 0 + _ ≤ _; exact Nat.le_of_eq rfl) (hb hby at_32) (by decide) (by decide) (by decide) (by decide)
        obtain ⟨rfl, N7q, Kq7, q7_0⟩ := hQ7
        have N7 := Fr.app N6 N7q
        have O7 : Old Z n0 T7.heap := O4.keep Kq7 (allS (Nat.le_trans (own_old_le O0) g1) all0)
        have K7 : Keep h0 T7.heap [] := K4.trans Kq7 (allS (Or.inr (Nat.le_trans (Keep.refl h0 []).1 g1)) all0)
        have pre3 : ∀ t, Steps p.tables e below (T7.setTop (mkF m 41 #[.val (.int i0), .val (.long i1), .second, .val (.int i2), .val (.ref b1), .val (.int (0 : Int32)), .val (.ref c4_0), .val (.ref r5), .val (.ref c4_0), .unset, .unset, .unset] [(.int (1 : Int32)), (.int i2)])) t → Steps p.tables e below (s₁.setTop (entryFrame m #[(.int i0), (.long i1), (.int i2)] maxLocals)) t := fun t kt => pre2 _ (by
            refine st6 _ ?_
            show Steps p.tables e below (T6.setTop (mkF m 26 #[.val (.int i0), .val (.long i1), .second, .val (.int i2), .val (.ref b1), .val (.int (0 : Int32)), .val (.ref c4_0), .unset, .unset, .unset, .unset, .unset] [(.ref r5)])) _
            refine XS.astore X6.here hx rfl (hb hby at_26) rfl rfl (l' := #[.val (.int i0), .val (.long i1), .second, .val (.int i2), .val (.ref b1), .val (.int (0 : Int32)), .val (.ref c4_0), .val (.ref r5), .unset, .unset, .unset, .unset]) rfl ?_
            refine XS.aload X6.here hx rfl (hb hby at_28) rfl rfl ?_
            refine XS.aload X6.here hx rfl (hb hby at_30) rfl rfl ?_
            refine st7 _ ?_
            show Steps p.tables e below (T7.setTop (mkF m 35 #[.val (.int i0), .val (.long i1), .second, .val (.int i2), .val (.ref b1), .val (.int (0 : Int32)), .val (.ref c4_0), .val (.ref r5), .unset, .unset, .unset, .unset] [])) _
            refine XS.aload X7.here hx rfl (hb hby at_35) rfl rfl ?_
            refine XS.astore X7.here hx rfl (hb hby at_37) rfl rfl (l' := #[.val (.int i0), .val (.long i1), .second, .val (.int i2), .val (.ref b1), .val (.int (0 : Int32)), .val (.ref c4_0), .val (.ref r5), .val (.ref c4_0), .unset, .unset, .unset]) rfl ?_
            refine XS.iloadN X7.here hx rfl (hb hby at_39) rfl ?_
            refine XS.iconst X7.here hx rfl (hb hby at_40) ?_
            exact kt)
        rcases en_113 (i2 &&& (1 : Int32)) (by have q0 := own_rng i2; have q1 := (by decide : ((1 : Int32)).toInt = 1); have q2 := (own_mask i2 (1 : Int32) (by decide) : 0 ≤ ((i2 &&& (1 : Int32))).toInt ∧ ((i2 &&& (1 : Int32))).toInt ≤ 1); omega) with hp3 | hp3
        · have f11 : Exa Z T7.heap b1 z0 := (f8.keep Kq7)
          obtain ⟨_, T10, L10, hQ10, X10, st10⟩ := own_virtual X7 hx hZ (W := 0) hown (hw _ m9) (hw _ m10) (notFace_of_selects (args := #[]) (mvT hZ (hw _ m12))) (hw _ m12) (hw _ m11) (hw _ m2) (hw _ m13) (by decide) (rm9 l Z a0 hw hj w1 clw1 w2 clw2 hS [] b1 c4_0 T7.heap n0 O7 q7_0) (rfl : T7.heap = T7.heap) f11 (g := (mkF m 58 #[.val (.int i0), .val (.long i1), .second, .val (.int i2), .val (.ref b1), .val (.int (0 : Int32)), .val (.ref c4_0), .val (.ref r5), .val (.ref c4_0), .unset, .unset, .unset] [(.ref b1)])) rfl (by rw [hml]; rfl) (argsL := []) (rest := []) (lenOf pd25 rfl) rfl rfl (by show 2 * 0 + _ ≤ _; exact Nat.le_of_eq rfl) (hb hby at_58) (by decide) (by decide) (by decide) (by decide)
          obtain ⟨rfl, N10q, e10⟩ := hQ10
          have N10 := Fr.app N7 N10q
          have e10' : T10.heap = T7.heap := e10
          obtain ⟨_, T12, L12, hQ12, X12, st12⟩ := own_virtual X10 hx hZ (W := 0) hown (hw _ m36) (hw _ m37) (notFace_of_selects (args := #[]) (mvT hZ (hw _ m39))) (hw _ m39) (hw _ m38) (hw _ m2) (hw _ m40) (by decide) (rm10 l Z a0 hw hj w1 clw1 w2 clw2 hS [] b1 c4_0 T7.heap n0 O7 q7_0) e10' f11 (g := (mkF m 65 #[.val (.int i0), .val (.long i1), .second, .val (.int i2), .val (.ref b1), .val (.int (0 : Int32)), .val (.ref c4_0), .val (.ref r5), .val (.ref c4_0), .val (.int (1 : Int32)), .unset, .unset] [(.ref b1)])) rfl (by rw [hml]; rfl) (argsL := []) (rest := []) (lenOf pd125 rfl) rfl rfl (by show 2 * 0 + _ ≤ _; exact Nat.le_of_eq rfl) (hb hby at_65) (by decide) (by decide) (by decide) (by decide)
          obtain ⟨rfl, N12q, e12⟩ := hQ12
          have N12 := Fr.app N10 N12q
          have e12' : T12.heap = T7.heap := e12
          obtain ⟨_, T13, L13, hQ13, X13, st13⟩ := own_virtual X12 hx hZ (W := 0) hown (hw _ m36) (hw _ m37) (notFace_of_selects (args := #[]) (mvT hZ (hw _ m39))) (hw _ m39) (hw _ m38) (hw _ m2) (hw _ m40) (by decide) (rm10 l Z a0 hw hj w1 clw1 w2 clw2 hS [] b1 c4_0 T7.heap n0 O7 q7_0) e12' f11 (g := (mkF m 72 #[.val (.int i0), .val (.long i1), .second, .val (.int i2), .val (.ref b1), .val (.int (0 : Int32)), .val (.ref c4_0), .val (.ref r5), .val (.ref c4_0), .val (.int (1 : Int32)), .val (.ref c4_0), .unset] [(.ref b1)])) rfl (by rw [hml]; rfl) (argsL := []) (rest := []) (lenOf pd125 rfl) rfl rfl (by show 2 * 0 + _ ≤ _; exact Nat.le_of_eq rfl) (hb hby at_72) (by decide) (by decide) (by decide) (by decide)
          obtain ⟨rfl, N13q, e13⟩ := hQ13
          have N13 := Fr.app N12 N13q
          have e13' : T13.heap = T7.heap := e13
          obtain ⟨fs, hr, hrun, hended, hW, hsame⟩ := X13.leave (v := some (.int (1 : Int32))) (fun h => by rw [Bd.returns] at h; cases h)
          refine ⟨_, _, pre3 _ ?_, hrun, hended, _, _, rfl, ?_, ⟨_, rfl⟩, hW, hsame.mono (by decide) (by decide)⟩
          · show Steps p.tables e below (T7.setTop (mkF m 41 #[.val (.int i0), .val (.long i1), .second, .val (.int i2), .val (.ref b1), .val (.int (0 : Int32)), .val (.ref c4_0), .val (.ref r5), .val (.ref c4_0), .unset, .unset, .unset] [(.int (1 : Int32)), (.int i2)])) _
            refine Own.iand X7.here hx rfl (hb hby at_41) rfl hp3 ?_
            refine XS.ifYes X7.here hx rfl (pc0 := 42) (pc' := 56) rfl (hb hby at_42) rfl ((if0 _ _).trans (teq (by decide : (0 : Int32) = (0 : Int32))).1) (by decide) (by decide) ?_
            refine XS.aload X7.here hx rfl (hb hby at_56) rfl rfl ?_
            refine st10 _ ?_
            show Steps p.tables e below (T10.setTop (mkF m 61 #[.val (.int i0), .val (.long i1), .second, .val (.int i2), .val (.ref b1), .val (.int (0 : Int32)), .val (.ref c4_0), .val (.ref r5), .val (.ref c4_0), .unset, .unset, .unset] [(.int (1 : Int32))])) _
            refine XS.istore X10.here hx rfl (hb hby at_61) rfl (l' := #[.val (.int i0), .val (.long i1), .second, .val (.int i2), .val (.ref b1), .val (.int (0 : Int32)), .val (.ref c4_0), .val (.ref r5), .val (.ref c4_0), .val (.int (1 : Int32)), .unset, .unset]) rfl ?_
            refine XS.aload X10.here hx rfl (hb hby at_63) rfl rfl ?_
            refine st12 _ ?_
            refine XS.astore X12.here hx rfl (hb hby at_68) rfl rfl (l' := #[.val (.int i0), .val (.long i1), .second, .val (.int i2), .val (.ref b1), .val (.int (0 : Int32)), .val (.ref c4_0), .val (.ref r5), .val (.ref c4_0), .val (.int (1 : Int32)), .val (.ref c4_0), .unset]) rfl ?_
            show Steps p.tables e below (T12.setTop (mkF m 70 #[.val (.int i0), .val (.long i1), .second, .val (.int i2), .val (.ref b1), .val (.int (0 : Int32)), .val (.ref c4_0), .val (.ref r5), .val (.ref c4_0), .val (.int (1 : Int32)), .val (.ref c4_0), .unset] [])) _
            refine XS.aload X12.here hx rfl (hb hby at_70) rfl rfl ?_
            refine st13 _ ?_
            refine XS.astore X13.here hx rfl (hb hby at_75) rfl rfl (l' := #[.val (.int i0), .val (.long i1), .second, .val (.int i2), .val (.ref b1), .val (.int (0 : Int32)), .val (.ref c4_0), .val (.ref r5), .val (.ref c4_0), .val (.int (1 : Int32)), .val (.ref c4_0), .val (.ref c4_0)]) rfl ?_
            refine XS.iload X13.here hx rfl (hb hby at_77) rfl ?_
            show Steps p.tables e below (T13.setTop (mkF m 79 #[.val (.int i0), .val (.long i1), .second, .val (.int i2), .val (.ref b1), .val (.int (0 : Int32)), .val (.ref c4_0), .val (.ref r5), .val (.ref c4_0), .val (.int (1 : Int32)), .val (.ref c4_0), .val (.ref c4_0)] [(.int (0 : Int32))])) _
            refine XS.ifNo X13.here hx rfl (hb hby at_79) rfl ((if0 _ _).trans (teq (by decide : (0 : Int32) = (0 : Int32))).2) ?_
            refine XS.iload X13.here hx rfl (hb hby at_82) rfl ?_
            refine XS.ifNo X13.here hx rfl (hb hby at_84) rfl ((if0 _ _).trans (feq (by decide : ¬ ((1 : Int32) = (0 : Int32)))).1) ?_
            refine XS.aload X13.here hx rfl (hb hby at_87) rfl rfl ?_
            show Steps p.tables e below (T13.setTop (mkF m 89 #[.val (.int i0), .val (.long i1), .second, .val (.int i2), .val (.ref b1), .val (.int (0 : Int32)), .val (.ref c4_0), .val (.ref r5), .val (.ref c4_0), .val (.int (1 : Int32)), .val (.ref c4_0), .val (.ref c4_0)] [(.ref c4_0)])) _
            refine XS.aload X13.here hx rfl (hb hby at_89) rfl rfl ?_
            refine Jvm.RoadKit.acmp (g := (mkF m 91 #[.val (.int i0), .val (.long i1), .second, .val (.int i2), .val (.ref b1), .val (.int (0 : Int32)), .val (.ref c4_0), .val (.ref r5), .val (.ref c4_0), .val (.int (1 : Int32)), .val (.ref c4_0), .val (.ref c4_0)] [(.ref c4_0), (.ref c4_0)])) X13 hx rfl rfl rfl (pc0 := 91) (pc' := 94) (same := true) rfl (hb hby at_91) rfl (decide_eq_true rfl) (by decide) (by decide) ?_
            refine XS.aload X13.here hx rfl (hb hby at_94) rfl rfl ?_
            refine XS.aload X13.here hx rfl (hb hby at_96) rfl rfl ?_
            show Steps p.tables e below (T13.setTop (mkF m 98 #[.val (.int i0), .val (.long i1), .second, .val (.int i2), .val (.ref b1), .val (.int (0 : Int32)), .val (.ref c4_0), .val (.ref r5), .val (.ref c4_0), .val (.int (1 : Int32)), .val (.ref c4_0), .val (.ref c4_0)] [(.ref c4_0), (.ref c4_0)])) _
            refine Jvm.RoadKit.acmp (g := (mkF m 98 #[.val (.int i0), .val (.long i1), .second, .val (.int i2), .val (.ref b1), .val (.int (0 : Int32)), .val (.ref c4_0), .val (.ref r5), .val (.ref c4_0), .val (.int (1 : Int32)), .val (.ref c4_0), .val (.ref c4_0)] [(.ref c4_0), (.ref c4_0)])) X13 hx rfl rfl rfl (pc0 := 98) (pc' := 101) (same := true) rfl (hb hby at_98) rfl (decide_eq_true rfl) (by decide) (by decide) ?_
            refine XS.iconst X13.here hx rfl (hb hby at_101) ?_
            refine XS.goto X13.here hx rfl (pc0 := 102) (pc' := 106) rfl (hb hby at_102) (by decide) (by decide) ?_
            exact retN X13 hx (t := .boolean) Bd.returns (by simp) (hb hby at_106) hr
          · show QL n0 _ T13.heap _
            exact ⟨rfl, N13⟩
        · have f11 : Exa Z T7.heap b1 z0 := (f8.keep Kq7)
          obtain ⟨_, T10, L10, hQ10, X10, st10⟩ := own_virtual X7 hx hZ (W := 0) hown (hw _ m31) (hw _ m32) (notFace_of_selects (args := #[]) (mvT hZ (hw _ m34))) (hw _ m34) (hw _ m33) (hw _ m2) (hw _ m35) (by decide) (rm11 l Z a0 hw hj w1 clw1 w2 clw2 hS [] b1 c4_0 r5 T7.heap n0 O7 f11 q7_0 (Nat.le_trans (own_old_le O0) g1)) (rfl : T7.heap = T7.heap) f11 (g := (mkF m 49 #[.val (.int i0), .val (.long i1), .second, .val (.int i2), .val (.ref b1), .val (.int (0 : Int32)), .val (.ref c4_0), .val (.ref r5), .val (.ref c4_0), .unset, .unset, .unset] [(.ref r5), (.ref b1)])) rfl (by rw [hml]; rfl) (argsL := [(.ref r5)]) (rest := []) (lenOf pd110 rfl) rfl rfl (by show 2 * 0 + _ ≤ _; exact Nat.le_of_eq rfl) (hb hby at_49) (by decide) (by decide) (by decide) (by decide)
          obtain ⟨rfl, N10q, Kq10, q10_0⟩ := hQ10
          have N10 := Fr.app N7 N10q
          have O10 : Old Z n0 T10.heap := O7.keep Kq10 (allS (Nat.le_trans (own_old_le O0) g1) all0)
          have K10 : Keep h0 T10.heap [] := K7.trans Kq10 (allS (Or.inr (Nat.le_trans (Keep.refl h0 []).1 g1)) all0)
          have f13 : Exa Z T10.heap b1 z0 := (f11.keep Kq10)
          obtain ⟨_, T12, L12, hQ12, X12, st12⟩ := own_virtual X10 hx hZ (W := 0) hown (hw _ m9) (hw _ m10) (notFace_of_selects (args := #[]) (mvT hZ (hw _ m12))) (hw _ m12) (hw _ m11) (hw _ m2) (hw _ m13) (by decide) (rm9 l Z a0 hw hj w1 clw1 w2 clw2 hS [] b1 r5 T10.heap n0 O10 q10_0) (rfl : T10.heap = T10.heap) f13 (g := (mkF m 58 #[.val (.int i0), .val (.long i1), .second, .val (.int i2), .val (.ref b1), .val (.int (0 : Int32)), .val (.ref c4_0), .val (.ref r5), .val (.ref r5), .unset, .unset, .unset] [(.ref b1)])) rfl (by rw [hml]; rfl) (argsL := []) (rest := []) (lenOf pd25 rfl) rfl rfl (by show 2 * 0 + _ ≤ _; exact Nat.le_of_eq rfl) (hb hby at_58) (by decide) (by decide) (by decide) (by decide)
          obtain ⟨rfl, N12q, e12⟩ := hQ12
          have N12 := Fr.app N10 N12q
          have e12' : T12.heap = T10.heap := e12
          obtain ⟨_, T14, L14, hQ14, X14, st14⟩ := own_virtual X12 hx hZ (W := 0) hown (hw _ m36) (hw _ m37) (notFace_of_selects (args := #[]) (mvT hZ (hw _ m39))) (hw _ m39) (hw _ m38) (hw _ m2) (hw _ m40) (by decide) (rm10 l Z a0 hw hj w1 clw1 w2 clw2 hS [] b1 r5 T10.heap n0 O10 q10_0) e12' f13 (g := (mkF m 65 #[.val (.int i0), .val (.long i1), .second, .val (.int i2), .val (.ref b1), .val (.int (0 : Int32)), .val (.ref c4_0), .val (.ref r5), .val (.ref r5), .val (.int (1 : Int32)), .unset, .unset] [(.ref b1)])) rfl (by rw [hml]; rfl) (argsL := []) (rest := []) (lenOf pd125 rfl) rfl rfl (by show 2 * 0 + _ ≤ _; exact Nat.le_of_eq rfl) (hb hby at_65) (by decide) (by decide) (by decide) (by decide)
          obtain ⟨rfl, N14q, e14⟩ := hQ14
          have N14 := Fr.app N12 N14q
          have e14' : T14.heap = T10.heap := e14
          obtain ⟨_, T15, L15, hQ15, X15, st15⟩ := own_virtual X14 hx hZ (W := 0) hown (hw _ m36) (hw _ m37) (notFace_of_selects (args := #[]) (mvT hZ (hw _ m39))) (hw _ m39) (hw _ m38) (hw _ m2) (hw _ m40) (by decide) (rm10 l Z a0 hw hj w1 clw1 w2 clw2 hS [] b1 r5 T10.heap n0 O10 q10_0) e14' f13 (g := (mkF m 72 #[.val (.int i0), .val (.long i1), .second, .val (.int i2), .val (.ref b1), .val (.int (0 : Int32)), .val (.ref c4_0), .val (.ref r5), .val (.ref r5), .val (.int (1 : Int32)), .val (.ref r5), .unset] [(.ref b1)])) rfl (by rw [hml]; rfl) (argsL := []) (rest := []) (lenOf pd125 rfl) rfl rfl (by show 2 * 0 + _ ≤ _; exact Nat.le_of_eq rfl) (hb hby at_72) (by decide) (by decide) (by decide) (by decide)
          obtain ⟨rfl, N15q, e15⟩ := hQ15
          have N15 := Fr.app N14 N15q
          have e15' : T15.heap = T10.heap := e15
          obtain ⟨fs, hr, hrun, hended, hW, hsame⟩ := X15.leave (v := some (.int (1 : Int32))) (fun h => by rw [Bd.returns] at h; cases h)
          refine ⟨_, _, pre3 _ ?_, hrun, hended, _, _, rfl, ?_, ⟨_, rfl⟩, hW, hsame.mono (by decide) (by decide)⟩
          · show Steps p.tables e below (T7.setTop (mkF m 41 #[.val (.int i0), .val (.long i1), .second, .val (.int i2), .val (.ref b1), .val (.int (0 : Int32)), .val (.ref c4_0), .val (.ref r5), .val (.ref c4_0), .unset, .unset, .unset] [(.int (1 : Int32)), (.int i2)])) _
            refine Own.iand X7.here hx rfl (hb hby at_41) rfl hp3 ?_
            refine XS.ifNo X7.here hx rfl (hb hby at_42) rfl ((if0 _ _).trans (feq (by decide : ¬ ((1 : Int32) = (0 : Int32)))).1) ?_
            refine XS.aload X7.here hx rfl (hb hby at_45) rfl rfl ?_
            refine XS.aload X7.here hx rfl (hb hby at_47) rfl rfl ?_
            show Steps p.tables e below (T7.setTop (mkF m 49 #[.val (.int i0), .val (.long i1), .second, .val (.int i2), .val (.ref b1), .val (.int (0 : Int32)), .val (.ref c4_0), .val (.ref r5), .val (.ref c4_0), .unset, .unset, .unset] [(.ref r5), (.ref b1)])) _
            refine st10 _ ?_
            refine XS.aload X10.here hx rfl (hb hby at_52) rfl rfl ?_
            refine XS.astore X10.here hx rfl (hb hby at_54) rfl rfl (l' := #[.val (.int i0), .val (.long i1), .second, .val (.int i2), .val (.ref b1), .val (.int (0 : Int32)), .val (.ref c4_0), .val (.ref r5), .val (.ref r5), .unset, .unset, .unset]) rfl ?_
            refine XS.aload X10.here hx rfl (hb hby at_56) rfl rfl ?_
            show Steps p.tables e below (T10.setTop (mkF m 58 #[.val (.int i0), .val (.long i1), .second, .val (.int i2), .val (.ref b1), .val (.int (0 : Int32)), .val (.ref c4_0), .val (.ref r5), .val (.ref r5), .unset, .unset, .unset] [(.ref b1)])) _
            refine st12 _ ?_
            refine XS.istore X12.here hx rfl (hb hby at_61) rfl (l' := #[.val (.int i0), .val (.long i1), .second, .val (.int i2), .val (.ref b1), .val (.int (0 : Int32)), .val (.ref c4_0), .val (.ref r5), .val (.ref r5), .val (.int (1 : Int32)), .unset, .unset]) rfl ?_
            refine XS.aload X12.here hx rfl (hb hby at_63) rfl rfl ?_
            refine st14 _ ?_
            show Steps p.tables e below (T14.setTop (mkF m 68 #[.val (.int i0), .val (.long i1), .second, .val (.int i2), .val (.ref b1), .val (.int (0 : Int32)), .val (.ref c4_0), .val (.ref r5), .val (.ref r5), .val (.int (1 : Int32)), .unset, .unset] [(.ref r5)])) _
            refine XS.astore X14.here hx rfl (hb hby at_68) rfl rfl (l' := #[.val (.int i0), .val (.long i1), .second, .val (.int i2), .val (.ref b1), .val (.int (0 : Int32)), .val (.ref c4_0), .val (.ref r5), .val (.ref r5), .val (.int (1 : Int32)), .val (.ref r5), .unset]) rfl ?_
            refine XS.aload X14.here hx rfl (hb hby at_70) rfl rfl ?_
            refine st15 _ ?_
            refine XS.astore X15.here hx rfl (hb hby at_75) rfl rfl (l' := #[.val (.int i0), .val (.long i1), .second, .val (.int i2), .val (.ref b1), .val (.int (0 : Int32)), .val (.ref c4_0), .val (.ref r5), .val (.ref r5), .val (.int (1 : Int32)), .val (.ref r5), .val (.ref r5)]) rfl ?_
            show Steps p.tables e below (T15.setTop (mkF m 77 #[.val (.int i0), .val (.long i1), .second, .val (.int i2), .val (.ref b1), .val (.int (0 : Int32)), .val (.ref c4_0), .val (.ref r5), .val (.ref r5), .val (.int (1 : Int32)), .val (.ref r5), .val (.ref r5)] [])) _
            refine XS.iload X15.here hx rfl (hb hby at_77) rfl ?_
            refine XS.ifNo X15.here hx rfl (hb hby at_79) rfl ((if0 _ _).trans (teq (by decide : (0 : Int32) = (0 : Int32))).2) ?_
            refine XS.iload X15.here hx rfl (hb hby at_82) rfl ?_
            refine XS.ifNo X15.here hx rfl (hb hby at_84) rfl ((if0 _ _).trans (feq (by decide : ¬ ((1 : Int32) = (0 : Int32)))).1) ?_
            show Steps p.tables e below (T15.setTop (mkF m 87 #[.val (.int i0), .val (.long i1), .second, .val (.int i2), .val (.ref b1), .val (.int (0 : Int32)), .val (.ref c4_0), .val (.ref r5), .val (.ref r5), .val (.int (1 : Int32)), .val (.ref r5), .val (.ref r5)] [])) _
            refine XS.aload X15.here hx rfl (hb hby at_87) rfl rfl ?_
            refine XS.aload X15.here hx rfl (hb hby at_89) rfl rfl ?_
            refine Jvm.RoadKit.acmp (g := (mkF m 91 #[.val (.int i0), .val (.long i1), .second, .val (.int i2), .val (.ref b1), .val (.int (0 : Int32)), .val (.ref c4_0), .val (.ref r5), .val (.ref r5), .val (.int (1 : Int32)), .val (.ref r5), .val (.ref r5)] [(.ref r5), (.ref r5)])) X15 hx rfl rfl rfl (pc0 := 91) (pc' := 94) (same := true) rfl (hb hby at_91) rfl (decide_eq_true rfl) (by decide) (by decide) ?_
            refine XS.aload X15.here hx rfl (hb hby at_94) rfl rfl ?_
            show Steps p.tables e below (T15.setTop (mkF m 96 #[.val (.int i0), .val (.long i1), .second, .val (.int i2), .val (.ref b1), .val (.int (0 : Int32)), .val (.ref c4_0), .val (.ref r5), .val (.ref r5), .val (.int (1 : Int32)), .val (.ref r5), .val (.ref r5)] [(.ref r5)])) _
            refine XS.aload X15.here hx rfl (hb hby at_96) rfl rfl ?_
            refine Jvm.RoadKit.acmp (g := (mkF m 98 #[.val (.int i0), .val (.long i1), .second, .val (.int i2), .val (.ref b1), .val (.int (0 : Int32)), .val (.ref c4_0), .val (.ref r5), .val (.ref r5), .val (.int (1 : Int32)), .val (.ref r5), .val (.ref r5)] [(.ref r5), (.ref r5)])) X15 hx rfl rfl rfl (pc0 := 98) (pc' := 101) (same := true) rfl (hb hby at_98) rfl (decide_eq_true rfl) (by decide) (by decide) ?_
            refine XS.iconst X15.here hx rfl (hb hby at_101) ?_
            refine XS.goto X15.here hx rfl (pc0 := 102) (pc' := 106) rfl (hb hby at_102) (by decide) (by decide) ?_
            show Steps p.tables e below (T15.setTop (mkF m 106 #[.val (.int i0), .val (.long i1), .second, .val (.int i2), .val (.ref b1), .val (.int (0 : Int32)), .val (.ref c4_0), .val (.ref r5), .val (.ref r5), .val (.int (1 : Int32)), .val (.ref r5), .val (.ref r5)] [(.int (1 : Int32))])) _
            exact retN X15 hx (t := .boolean) Bd.returns (by simp) (hb hby at_106) hr
          · show QL n0 _ T15.heap _
            exact ⟨rfl, N15⟩
  · rcases Decidable.em ((127 : Int32) < i0) with hp1 | hp1
    · obtain ⟨_, T4, L4, hQ4, X4, st4⟩ := own_callS X3 hx hZ (W := 0) hown (hw _ m16) (hw _ m17) (hw _ m18) (hw _ m19) (by decide) (rm14 l Z a0 hw hj w1 clw1 w2 clw2 hS [] i0 h1 n0 O1 hp0 hp1) e3' (g := (mkF m 17 #[.val (.int i0), .val (.long i1), .second, .val (.int i2), .val (.ref b1), .val (.int (0 : Int32)), .unset, .unset, .unset, .unset, .unset, .unset] [(.int i0)])) rfl (by rw [hml]; rfl) (argsL := [(.int i0)]) (rest := []) (lenOf pd65 rfl) rfl rfl (by show 2 * 0 + _ ≤ _; exact Nat.le_of_eq rfl) (hb hby at_17) (by decide) (by decide) (by decide) (by decide)
      obtain ⟨c4_0, rfl, N4q, Kq4, lo4_0, q4_0, q4_1⟩ := hQ4
      have N4 := Fr.app N3 N4q
      have O4 : Old Z n0 T4.heap := O1.keep Kq4 all0
      have K4 : Keep h0 T4.heap [] := K1.trans Kq4 all0
      have pre2 : ∀ t, Steps p.tables e below (T4.setTop (mkF m 23 #[.val (.int i0), .val (.long i1), .second, .val (.int i2), .val (.ref b1), .val (.int (0 : Int32)), .val (.ref c4_0), .unset, .unset, .unset, .unset, .unset] [(.long i1)])) t → Steps p.tables e below (s₁.setTop (entryFrame m #[(.int i0), (.long i1), (.int i2)] maxLocals)) t := fun t kt => pre1 _ (by
          show Steps p.tables e below (T3.setTop (mkF m 17 #[.val (.int i0), .val (.long i1), .second, .val (.int i2), .val (.ref b1), .val (.int (0 : Int32)), .unset, .unset, .unset, .unset, .unset, .unset] [(.int i0)])) _
          refine st4 _ ?_
          refine XS.astore X4.here hx rfl (hb hby at_20) rfl rfl (l' := #[.val (.int i0), .val (.long i1), .second, .val (.int i2), .val (.ref b1), .val (.int (0 : Int32)), .val (.ref c4_0), .unset, .unset, .unset, .unset, .unset]) rfl ?_
          refine XS.lloadN X4.here hx rfl (hb hby at_22) rfl ?_
          exact kt)
      rcases Decidable.em (i1 < (-128 : Int64)) with hp2 | hp2
      · obtain ⟨_, T5, L5, hQ5, X5, st5⟩ := own_callS X4 hx hZ (W := 0) hown (hw _ m23) (hw _ m24) (hw _ m25) (hw _ m26) (by decide) (rm7 l Z a0 hw hj w1 clw1 w2 clw2 hS [] i1 T4.heap n0 O4 hp2) (rfl : T4.heap = T4.heap) (g := (mkF m 23 #[.val (.int i0), .val (.long i1), .second, .val (.int i2), .val (.ref b1), .val (.int (0 : Int32)), .val (.ref c4_0), .unset, .unset, .unset, .unset, .unset] [(.long i1)])) rfl (by rw [hml]; rfl) (argsL := [(.long i1)]) (rest := []) (lenOf pd100 rfl) rfl rfl (by show 2 * 0 + _ ≤ _; exact Nat.le_of_eq rfl) (hb hby at_23) (by decide) (by decide) (by decide) (by decide)
        obtain ⟨c5_0, rfl, N5q, Kq5, lo5_0, q5_0, q5_1⟩ := hQ5
        have N5 := Fr.app N4 N5q
        have O5 : Old Z n0 T5.heap := O4.keep Kq5 all0
        have K5 : Keep h0 T5.heap [] := K4.trans Kq5 all0
        have f7 : Exa Z T5.heap b1 z0 := ((A1.keep Kq4).keep Kq5)
        have f8 : Fld Z T5.heap b1 z0 "value" z4 .null := ((F1_1.keep Kq4 nin0).keep Kq5 nin0)
        obtain ⟨_, T6, L6, hQ6, X6, st6⟩ := own_virtual X5 hx hZ (W := 0) hown (hw _ m31) (hw _ m32) (notFace_of_selects (args := #[]) (mvT hZ (hw _ m34))) (hw _ m34) (hw _ m33) (hw _ m2) (hw _ m35) (by decide) (rm8 l Z a0 hw hj w1 clw1 w2 clw2 hS [] b1 c4_0 T5.heap n0 O5 f7 f8 (Nat.le_trans (own_old_le O0) g1)) (rfl : T5.heap = T5.heap) f7 (g := (mkF m 32 #[.val (.int i0), .val (.long i1), .second, .val (.int i2), .val (.ref b1), .val (.int (0 : Int32)), .val (.ref c4_0), .val (.ref c5_0), .unset, .unset, .unset, .unset] [(.ref c4_0), (.ref b1)])) rfl (by rw [hml]; rfl) (argsL := [(.ref c4_0)]) (rest := []) (lenOf pd110 rfl) rfl rfl (by show 2 * 0 + _ ≤ _; exact Nat.le_of_eq rfl) (hb hby at_32) (by decide) (by decide) (by decide) (by decide)
        obtain ⟨rfl, N6q, Kq6, q6_0⟩ := hQ6
        have N6 := Fr.app N5 N6q
        have O6 : Old Z n0 T6.heap := O5.keep Kq6 (allS (Nat.le_trans (own_old_le O0) g1) all0)
        have K6 : Keep h0 T6.heap [] := K5.trans Kq6 (allS (Or.inr (Nat.le_trans (Keep.refl h0 []).1 g1)) all0)
        have pre3 : ∀ t, Steps p.tables e below (T6.setTop (mkF m 41 #[.val (.int i0), .val (.long i1), .second, .val (.int i2), .val (.ref b1), .val (.int (0 : Int32)), .val (.ref c4_0), .val (.ref c5_0), .val (.ref c4_0), .unset, .unset, .unset] [(.int (1 : Int32)), (.int i2)])) t → Steps p.tables e below (s₁.setTop (entryFrame m #[(.int i0), (.long i1), (.int i2)] maxLocals)) t := fun t kt => pre2 _ (by
            refine st5 _ ?_
            show Steps p.tables e below (T5.setTop (mkF m 26 #[.val (.int i0), .val (.long i1), .second, .val (.int i2), .val (.ref b1), .val (.int (0 : Int32)), .val (.ref c4_0), .unset, .unset, .unset, .unset, .unset] [(.ref c5_0)])) _
            refine XS.astore X5.here hx rfl (hb hby at_26) rfl rfl (l' := #[.val (.int i0), .val (.long i1), .second, .val (.int i2), .val (.ref b1), .val (.int (0 : Int32)), .val (.ref c4_0), .val (.ref c5_0), .unset, .unset, .unset, .unset]) rfl ?_
            refine XS.aload X5.here hx rfl (hb hby at_28) rfl rfl ?_
            refine XS.aload X5.here hx rfl (hb hby at_30) rfl rfl ?_
            refine st6 _ ?_
            show Steps p.tables e below (T6.setTop (mkF m 35 #[.val (.int i0), .val (.long i1), .second, .val (.int i2), .val (.ref b1), .val (.int (0 : Int32)), .val (.ref c4_0), .val (.ref c5_0), .unset, .unset, .unset, .unset] [])) _
            refine XS.aload X6.here hx rfl (hb hby at_35) rfl rfl ?_
            refine XS.astore X6.here hx rfl (hb hby at_37) rfl rfl (l' := #[.val (.int i0), .val (.long i1), .second, .val (.int i2), .val (.ref b1), .val (.int (0 : Int32)), .val (.ref c4_0), .val (.ref c5_0), .val (.ref c4_0), .unset, .unset, .unset]) rfl ?_
            refine XS.iloadN X6.here hx rfl (hb hby at_39) rfl ?_
            refine XS.iconst X6.here hx rfl (hb hby at_40) ?_
            exact kt)
        rcases en_113 (i2 &&& (1 : Int32)) (by have q0 := own_rng i2; have q1 := (by decide : ((1 : Int32)).toInt = 1); have q2 := (own_mask i2 (1 : Int32) (by decide) : 0 ≤ ((i2 &&& (1 : Int32))).toInt ∧ ((i2 &&& (1 : Int32))).toInt ≤ 1); omega) with hp3 | hp3
        · have f10 : Exa Z T6.heap b1 z0 := (f7.keep Kq6)
          obtain ⟨_, T9, L9, hQ9, X9, st9⟩ := own_virtual X6 hx hZ (W := 0) hown (hw _ m9) (hw _ m10) (notFace_of_selects (args := #[]) (mvT hZ (hw _ m12))) (hw _ m12) (hw _ m11) (hw _ m2) (hw _ m13) (by decide) (rm9 l Z a0 hw hj w1 clw1 w2 clw2 hS [] b1 c4_0 T6.heap n0 O6 q6_0) (rfl : T6.heap = T6.heap) f10 (g := (mkF m 58 #[.val (.int i0), .val (.long i1), .second, .val (.int i2), .val (.ref b1), .val (.int (0 : Int32)), .val (.ref c4_0), .val (.ref c5_0), .val (.ref c4_0), .unset, .unset, .unset] [(.ref b1)])) rfl (by rw [hml]; rfl) (argsL := []) (rest := []) (lenOf pd25 rfl) rfl rfl (by show 2 * 0 + _ ≤ _; exact Nat.le_of_eq rfl) (hb hby at_58) (by decide) (by decide) (by decide) (by decide)
          obtain ⟨rfl, N9q, e9⟩ := hQ9
          have N9 := Fr.app N6 N9q
          have e9' : T9.heap = T6.heap := e9
          obtain ⟨_, T11, L11, hQ11, X11, st11⟩ := own_virtual X9 hx hZ (W := 0) hown (hw _ m36) (hw _ m37) (notFace_of_selects (args := #[]) (mvT hZ (hw _ m39))) (hw _ m39) (hw _ m38) (hw _ m2) (hw _ m40) (by decide) (rm10 l Z a0 hw hj w1 clw1 w2 clw2 hS [] b1 c4_0 T6.heap n0 O6 q6_0) e9' f10 (g := (mkF m 65 #[.val (.int i0), .val (.long i1), .second, .val (.int i2), .val (.ref b1), .val (.int (0 : Int32)), .val (.ref c4_0), .val (.ref c5_0), .val (.ref c4_0), .val (.int (1 : Int32)), .unset, .unset] [(.ref b1)])) rfl (by rw [hml]; rfl) (argsL := []) (rest := []) (lenOf pd125 rfl) rfl rfl (by show 2 * 0 + _ ≤ _; exact Nat.le_of_eq rfl) (hb hby at_65) (by decide) (by decide) (by decide) (by decide)
          obtain ⟨rfl, N11q, e11⟩ := hQ11
          have N11 := Fr.app N9 N11q
          have e11' : T11.heap = T6.heap := e11
          obtain ⟨_, T12, L12, hQ12, X12, st12⟩ := own_virtual X11 hx hZ (W := 0) hown (hw _ m36) (hw _ m37) (notFace_of_selects (args := #[]) (mvT hZ (hw _ m39))) (hw _ m39) (hw _ m38) (hw _ m2) (hw _ m40) (by decide) (rm10 l Z a0 hw hj w1 clw1 w2 clw2 hS [] b1 c4_0 T6.heap n0 O6 q6_0) e11' f10 (g := (mkF m 72 #[.val (.int i0), .val (.long i1), .second, .val (.int i2), .val (.ref b1), .val (.int (0 : Int32)), .val (.ref c4_0), .val (.ref c5_0), .val (.ref c4_0), .val (.int (1 : Int32)), .val (.ref c4_0), .unset] [(.ref b1)])) rfl (by rw [hml]; rfl) (argsL := []) (rest := []) (lenOf pd125 rfl) rfl rfl (by show 2 * 0 + _ ≤ _; exact Nat.le_of_eq rfl) (hb hby at_72) (by decide) (by decide) (by decide) (by decide)
          obtain ⟨rfl, N12q, e12⟩ := hQ12
          have N12 := Fr.app N11 N12q
          have e12' : T12.heap = T6.heap := e12
          obtain ⟨fs, hr, hrun, hended, hW, hsame⟩ := X12.leave (v := some (.int (1 : Int32))) (fun h => by rw [Bd.returns] at h; cases h)
          refine ⟨_, _, pre3 _ ?_, hrun, hended, _, _, rfl, ?_, ⟨_, rfl⟩, hW, hsame.mono (by decide) (by decide)⟩
          · show Steps p.tables e below (T6.setTop (mkF m 41 #[.val (.int i0), .val (.long i1), .second, .val (.int i2), .val (.ref b1), .val (.int (0 : Int32)), .val (.ref c4_0), .val (.ref c5_0), .val (.ref c4_0), .unset, .unset, .unset] [(.int (1 : Int32)), (.int i2)])) _
            refine Own.iand X6.here hx rfl (hb hby at_41) rfl hp3 ?_
            refine XS.ifYes X6.here hx rfl (pc0 := 42) (pc' := 56) rfl (hb hby at_42) rfl ((if0 _ _).trans (teq (by decide : (0 : Int32) = (0 : Int32))).1) (by decide) (by decide) ?_
            refine XS.aload X6.here hx rfl (hb hby at_56) rfl rfl ?_
            refine st9 _ ?_
            show Steps p.tables e below (T9.setTop (mkF m 61 #[.val (.int i0), .val (.long i1), .second, .val (.int i2), .val (.ref b1), .val (.int (0 : Int32)), .val (.ref c4_0), .val (.ref c5_0), .val (.ref c4_0), .unset, .unset, .unset] [(.int (1 : Int32))])) _
            refine XS.istore X9.here hx rfl (hb hby at_61) rfl (l' := #[.val (.int i0), .val (.long i1), .second, .val (.int i2), .val (.ref b1), .val (.int (0 : Int32)), .val (.ref c4_0), .val (.ref c5_0), .val (.ref c4_0), .val (.int (1 : Int32)), .unset, .unset]) rfl ?_
            refine XS.aload X9.here hx rfl (hb hby at_63) rfl rfl ?_
            refine st11 _ ?_
            refine XS.astore X11.here hx rfl (hb hby at_68) rfl rfl (l' := #[.val (.int i0), .val (.long i1), .second, .val (.int i2), .val (.ref b1), .val (.int (0 : Int32)), .val (.ref c4_0), .val (.ref c5_0), .val (.ref c4_0), .val (.int (1 : Int32)), .val (.ref c4_0), .unset]) rfl ?_
            show Steps p.tables e below (T11.setTop (mkF m 70 #[.val (.int i0), .val (.long i1), .second, .val (.int i2), .val (.ref b1), .val (.int (0 : Int32)), .val (.ref c4_0), .val (.ref c5_0), .val (.ref c4_0), .val (.int (1 : Int32)), .val (.ref c4_0), .unset] [])) _
            refine XS.aload X11.here hx rfl (hb hby at_70) rfl rfl ?_
            refine st12 _ ?_
            refine XS.astore X12.here hx rfl (hb hby at_75) rfl rfl (l' := #[.val (.int i0), .val (.long i1), .second, .val (.int i2), .val (.ref b1), .val (.int (0 : Int32)), .val (.ref c4_0), .val (.ref c5_0), .val (.ref c4_0), .val (.int (1 : Int32)), .val (.ref c4_0), .val (.ref c4_0)]) rfl ?_
            refine XS.iload X12.here hx rfl (hb hby at_77) rfl ?_
            show Steps p.tables e below (T12.setTop (mkF m 79 #[.val (.int i0), .val (.long i1), .second, .val (.int i2), .val (.ref b1), .val (.int (0 : Int32)), .val (.ref c4_0), .val (.ref c5_0), .val (.ref c4_0), .val (.int (1 : Int32)), .val (.ref c4_0), .val (.ref c4_0)] [(.int (0 : Int32))])) _
            refine XS.ifNo X12.here hx rfl (hb hby at_79) rfl ((if0 _ _).trans (teq (by decide : (0 : Int32) = (0 : Int32))).2) ?_
            refine XS.iload X12.here hx rfl (hb hby at_82) rfl ?_
            refine XS.ifNo X12.here hx rfl (hb hby at_84) rfl ((if0 _ _).trans (feq (by decide : ¬ ((1 : Int32) = (0 : Int32)))).1) ?_
            refine XS.aload X12.here hx rfl (hb hby at_87) rfl rfl ?_
            show Steps p.tables e below (T12.setTop (mkF m 89 #[.val (.int i0), .val (.long i1), .second, .val (.int i2), .val (.ref b1), .val (.int (0 : Int32)), .val (.ref c4_0), .val (.ref c5_0), .val (.ref c4_0), .val (.int (1 : Int32)), .val (.ref c4_0), .val (.ref c4_0)] [(.ref c4_0)])) _
            refine XS.aload X12.here hx rfl (hb hby at_89) rfl rfl ?_
            refine Jvm.RoadKit.acmp (g := (mkF m 91 #[.val (.int i0), .val (.long i1), .second, .val (.int i2), .val (.ref b1), .val (.int (0 : Int32)), .val (.ref c4_0), .val (.ref c5_0), .val (.ref c4_0), .val (.int (1 : Int32)), .val (.ref c4_0), .val (.ref c4_0)] [(.ref c4_0), (.ref c4_0)])) X12 hx rfl rfl rfl (pc0 := 91) (pc' := 94) (same := true) rfl (hb hby at_91) rfl (decide_eq_true rfl) (by decide) (by decide) ?_
            refine XS.aload X12.here hx rfl (hb hby at_94) rfl rfl ?_
            refine XS.aload X12.here hx rfl (hb hby at_96) rfl rfl ?_
            show Steps p.tables e below (T12.setTop (mkF m 98 #[.val (.int i0), .val (.long i1), .second, .val (.int i2), .val (.ref b1), .val (.int (0 : Int32)), .val (.ref c4_0), .val (.ref c5_0), .val (.ref c4_0), .val (.int (1 : Int32)), .val (.ref c4_0), .val (.ref c4_0)] [(.ref c4_0), (.ref c4_0)])) _
            refine Jvm.RoadKit.acmp (g := (mkF m 98 #[.val (.int i0), .val (.long i1), .second, .val (.int i2), .val (.ref b1), .val (.int (0 : Int32)), .val (.ref c4_0), .val (.ref c5_0), .val (.ref c4_0), .val (.int (1 : Int32)), .val (.ref c4_0), .val (.ref c4_0)] [(.ref c4_0), (.ref c4_0)])) X12 hx rfl rfl rfl (pc0 := 98) (pc' := 101) (same := true) rfl (hb hby at_98) rfl (decide_eq_true rfl) (by decide) (by decide) ?_
            refine XS.iconst X12.here hx rfl (hb hby at_101) ?_
            refine XS.goto X12.here hx rfl (pc0 := 102) (pc' := 106) rfl (hb hby at_102) (by decide) (by decide) ?_
            exact retN X12 hx (t := .boolean) Bd.returns (by simp) (hb hby at_106) hr
          · show QL n0 _ T12.heap _
            exact ⟨rfl, N12⟩
        · have f10 : Exa Z T6.heap b1 z0 := (f7.keep Kq6)
          obtain ⟨_, T9, L9, hQ9, X9, st9⟩ := own_virtual X6 hx hZ (W := 0) hown (hw _ m31) (hw _ m32) (notFace_of_selects (args := #[]) (mvT hZ (hw _ m34))) (hw _ m34) (hw _ m33) (hw _ m2) (hw _ m35) (by decide) (rm11 l Z a0 hw hj w1 clw1 w2 clw2 hS [] b1 c4_0 c5_0 T6.heap n0 O6 f10 q6_0 (Nat.le_trans (own_old_le O0) g1)) (rfl : T6.heap = T6.heap) f10 (g := (mkF m 49 #[.val (.int i0), .val (.long i1), .second, .val (.int i2), .val (.ref b1), .val (.int (0 : Int32)), .val (.ref c4_0), .val (.ref c5_0), .val (.ref c4_0), .unset, .unset, .unset] [(.ref c5_0), (.ref b1)])) rfl (by rw [hml]; rfl) (argsL := [(.ref c5_0)]) (rest := []) (lenOf pd110 rfl) rfl rfl (by show 2 * 0 + _ ≤ _; exact Nat.le_of_eq rfl) (hb hby at_49) (by decide) (by decide) (by decide) (by decide)
          obtain ⟨rfl, N9q, Kq9, q9_0⟩ := hQ9
          have N9 := Fr.app N6 N9q
          have O9 : Old Z n0 T9.heap := O6.keep Kq9 (allS (Nat.le_trans (own_old_le O0) g1) all0)
          have K9 : Keep h0 T9.heap [] := K6.trans Kq9 (allS (Or.inr (Nat.le_trans (Keep.refl h0 []).1 g1)) all0)
          have f12 : Exa Z T9.heap b1 z0 := (f10.keep Kq9)
          obtain ⟨_, T11, L11, hQ11, X11, st11⟩ := own_virtual X9 hx hZ (W := 0) hown (hw _ m9) (hw _ m10) (notFace_of_selects (args := #[]) (mvT hZ (hw _ m12))) (hw _ m12) (hw _ m11) (hw _ m2) (hw _ m13) (by decide) (rm9 l Z a0 hw hj w1 clw1 w2 clw2 hS [] b1 c5_0 T9.heap n0 O9 q9_0) (rfl : T9.heap = T9.heap) f12 (g := (mkF m 58 #[.val (.int i0), .val (.long i1), .second, .val (.int i2), .val (.ref b1), .val (.int (0 : Int32)), .val (.ref c4_0), .val (.ref c5_0), .val (.ref c5_0), .unset, .unset, .unset] [(.ref b1)])) rfl (by rw [hml]; rfl) (argsL := []) (rest := []) (lenOf pd25 rfl) rfl rfl (by show 2 * 0 + _ ≤ _; exact Nat.le_of_eq rfl) (hb hby at_58) (by decide) (by decide) (by decide) (by decide)
          obtain ⟨rfl, N11q, e11⟩ := hQ11
          have N11 := Fr.app N9 N11q
          have e11' : T11.heap = T9.heap := e11
          obtain ⟨_, T13, L13, hQ13, X13, st13⟩ := own_virtual X11 hx hZ (W := 0) hown (hw _ m36) (hw _ m37) (notFace_of_selects (args := #[]) (mvT hZ (hw _ m39))) (hw _ m39) (hw _ m38) (hw _ m2) (hw _ m40) (by decide) (rm10 l Z a0 hw hj w1 clw1 w2 clw2 hS [] b1 c5_0 T9.heap n0 O9 q9_0) e11' f12 (g := (mkF m 65 #[.val (.int i0), .val (.long i1), .second, .val (.int i2), .val (.ref b1), .val (.int (0 : Int32)), .val (.ref c4_0), .val (.ref c5_0), .val (.ref c5_0), .val (.int (1 : Int32)), .unset, .unset] [(.ref b1)])) rfl (by rw [hml]; rfl) (argsL := []) (rest := []) (lenOf pd125 rfl) rfl rfl (by show 2 * 0 + _ ≤ _; exact Nat.le_of_eq rfl) (hb hby at_65) (by decide) (by decide) (by decide) (by decide)
          obtain ⟨rfl, N13q, e13⟩ := hQ13
          have N13 := Fr.app N11 N13q
          have e13' : T13.heap = T9.heap := e13
          obtain ⟨_, T14, L14, hQ14, X14, st14⟩ := own_virtual X13 hx hZ (W := 0) hown (hw _ m36) (hw _ m37) (notFace_of_selects (args := #[]) (mvT hZ (hw _ m39))) (hw _ m39) (hw _ m38) (hw _ m2) (hw _ m40) (by decide) (rm10 l Z a0 hw hj w1 clw1 w2 clw2 hS [] b1 c5_0 T9.heap n0 O9 q9_0) e13' f12 (g := (mkF m 72 #[.val (.int i0), .val (.long i1), .second, .val (.int i2), .val (.ref b1), .val (.int (0 : Int32)), .val (.ref c4_0), .val (.ref c5_0), .val (.ref c5_0), .val (.int (1 : Int32)), .val (.ref c5_0), .unset] [(.ref b1)])) rfl (by rw [hml]; rfl) (argsL := []) (rest := []) (lenOf pd125 rfl) rfl rfl (by show 2 * 0 + _ ≤ _; exact Nat.le_of_eq rfl) (hb hby at_72) (by decide) (by decide) (by decide) (by decide)
          obtain ⟨rfl, N14q, e14⟩ := hQ14
          have N14 := Fr.app N13 N14q
          have e14' : T14.heap = T9.heap := e14
          obtain ⟨fs, hr, hrun, hended, hW, hsame⟩ := X14.leave (v := some (.int (1 : Int32))) (fun h => by rw [Bd.returns] at h; cases h)
          refine ⟨_, _, pre3 _ ?_, hrun, hended, _, _, rfl, ?_, ⟨_, rfl⟩, hW, hsame.mono (by decide) (by decide)⟩
          · show Steps p.tables e below (T6.setTop (mkF m 41 #[.val (.int i0), .val (.long i1), .second, .val (.int i2), .val (.ref b1), .val (.int (0 : Int32)), .val (.ref c4_0), .val (.ref c5_0), .val (.ref c4_0), .unset, .unset, .unset] [(.int (1 : Int32)), (.int i2)])) _
            refine Own.iand X6.here hx rfl (hb hby at_41) rfl hp3 ?_
            refine XS.ifNo X6.here hx rfl (hb hby at_42) rfl ((if0 _ _).trans (feq (by decide : ¬ ((1 : Int32) = (0 : Int32)))).1) ?_
            refine XS.aload X6.here hx rfl (hb hby at_45) rfl rfl ?_
            refine XS.aload X6.here hx rfl (hb hby at_47) rfl rfl ?_
            show Steps p.tables e below (T6.setTop (mkF m 49 #[.val (.int i0), .val (.long i1), .second, .val (.int i2), .val (.ref b1), .val (.int (0 : Int32)), .val (.ref c4_0), .val (.ref c5_0), .val (.ref c4_0), .unset, .unset, .unset] [(.ref c5_0), (.ref b1)])) _
            refine st9 _ ?_
            refine XS.aload X9.here hx rfl (hb hby at_52) rfl rfl ?_
            refine XS.astore X9.here hx rfl (hb hby at_54) rfl rfl (l' := #[.val (.int i0), .val (.long i1), .second, .val (.int i2), .val (.ref b1), .val (.int (0 : Int32)), .val (.ref c4_0), .val (.ref c5_0), .val (.ref c5_0), .unset, .unset, .unset]) rfl ?_
            refine XS.aload X9.here hx rfl (hb hby at_56) rfl rfl ?_
            show Steps p.tables e below (T9.setTop (mkF m 58 #[.val (.int i0), .val (.long i1), .second, .val (.int i2), .val (.ref b1), .val (.int (0 : Int32)), .val (.ref c4_0), .val (.ref c5_0), .val (.ref c5_0), .unset, .unset, .unset] [(.ref b1)])) _
            refine st11 _ ?_
            refine XS.istore X11.here hx rfl (hb hby at_61) rfl (l' := #[.val (.int i0), .val (.long i1), .second, .val (.int i2), .val (.ref b1), .val (.int (0 : Int32)), .val (.ref c4_0), .val (.ref c5_0), .val (.ref c5_0), .val (.int (1 : Int32)), .unset, .unset]) rfl ?_
            refine XS.aload X11.here hx rfl (hb hby at_63) rfl rfl ?_
            refine st13 _ ?_
            show Steps p.tables e below (T13.setTop (mkF m 68 #[.val (.int i0), .val (.long i1), .second, .val (.int i2), .val (.ref b1), .val (.int (0 : Int32)), .val (.ref c4_0), .val (.ref c5_0), .val (.ref c5_0), .val (.int (1 : Int32)), .unset, .unset] [(.ref c5_0)])) _
            refine XS.astore X13.here hx rfl (hb hby at_68) rfl rfl (l' := #[.val (.int i0), .val (.long i1), .second, .val (.int i2), .val (.ref b1), .val (.int (0 : Int32)), .val (.ref c4_0), .val (.ref c5_0), .val (.ref c5_0), .val (.int (1 : Int32)), .val (.ref c5_0), .unset]) rfl ?_
            refine XS.aload X13.here hx rfl (hb hby at_70) rfl rfl ?_
            refine st14 _ ?_
            refine XS.astore X14.here hx rfl (hb hby at_75) rfl rfl (l' := #[.val (.int i0), .val (.long i1), .second, .val (.int i2), .val (.ref b1), .val (.int (0 : Int32)), .val (.ref c4_0), .val (.ref c5_0), .val (.ref c5_0), .val (.int (1 : Int32)), .val (.ref c5_0), .val (.ref c5_0)]) rfl ?_
            show Steps p.tables e below (T14.setTop (mkF m 77 #[.val (.int i0), .val (.long i1), .second, .val (.int i2), .val (.ref b1), .val (.int (0 : Int32)), .val (.ref c4_0), .val (.ref c5_0), .val (.ref c5_0), .val (.int (1 : Int32)), .val (.ref c5_0), .val (.ref c5_0)] [])) _
            refine XS.iload X14.here hx rfl (hb hby at_77) rfl ?_
            refine XS.ifNo X14.here hx rfl (hb hby at_79) rfl ((if0 _ _).trans (teq (by decide : (0 : Int32) = (0 : Int32))).2) ?_
            refine XS.iload X14.here hx rfl (hb hby at_82) rfl ?_
            refine XS.ifNo X14.here hx rfl (hb hby at_84) rfl ((if0 _ _).trans (feq (by decide : ¬ ((1 : Int32) = (0 : Int32)))).1) ?_
            show Steps p.tables e below (T14.setTop (mkF m 87 #[.val (.int i0), .val (.long i1), .second, .val (.int i2), .val (.ref b1), .val (.int (0 : Int32)), .val (.ref c4_0), .val (.ref c5_0), .val (.ref c5_0), .val (.int (1 : Int32)), .val (.ref c5_0), .val (.ref c5_0)] [])) _
            refine XS.aload X14.here hx rfl (hb hby at_87) rfl rfl ?_
            refine XS.aload X14.here hx rfl (hb hby at_89) rfl rfl ?_
            refine Jvm.RoadKit.acmp (g := (mkF m 91 #[.val (.int i0), .val (.long i1), .second, .val (.int i2), .val (.ref b1), .val (.int (0 : Int32)), .val (.ref c4_0), .val (.ref c5_0), .val (.ref c5_0), .val (.int (1 : Int32)), .val (.ref c5_0), .val (.ref c5_0)] [(.ref c5_0), (.ref c5_0)])) X14 hx rfl rfl rfl (pc0 := 91) (pc' := 94) (same := true) rfl (hb hby at_91) rfl (decide_eq_true rfl) (by decide) (by decide) ?_
            refine XS.aload X14.here hx rfl (hb hby at_94) rfl rfl ?_
            show Steps p.tables e below (T14.setTop (mkF m 96 #[.val (.int i0), .val (.long i1), .second, .val (.int i2), .val (.ref b1), .val (.int (0 : Int32)), .val (.ref c4_0), .val (.ref c5_0), .val (.ref c5_0), .val (.int (1 : Int32)), .val (.ref c5_0), .val (.ref c5_0)] [(.ref c5_0)])) _
            refine XS.aload X14.here hx rfl (hb hby at_96) rfl rfl ?_
            refine Jvm.RoadKit.acmp (g := (mkF m 98 #[.val (.int i0), .val (.long i1), .second, .val (.int i2), .val (.ref b1), .val (.int (0 : Int32)), .val (.ref c4_0), .val (.ref c5_0), .val (.ref c5_0), .val (.int (1 : Int32)), .val (.ref c5_0), .val (.ref c5_0)] [(.ref c5_0), (.ref c5_0)])) X14 hx rfl rfl rfl (pc0 := 98) (pc' := 101) (same := true) rfl (hb hby at_98) rfl (decide_eq_true rfl) (by decide) (by decide) ?_
            refine XS.iconst X14.here hx rfl (hb hby at_101) ?_
            refine XS.goto X14.here hx rfl (pc0 := 102) (pc' := 106) rfl (hb hby at_102) (by decide) (by decide) ?_
            show Steps p.tables e below (T14.setTop (mkF m 106 #[.val (.int i0), .val (.long i1), .second, .val (.int i2), .val (.ref b1), .val (.int (0 : Int32)), .val (.ref c4_0), .val (.ref c5_0), .val (.ref c5_0), .val (.int (1 : Int32)), .val (.ref c5_0), .val (.ref c5_0)] [(.int (1 : Int32))])) _
            exact retN X14 hx (t := .boolean) Bd.returns (by simp) (hb hby at_106) hr
          · show QL n0 _ T14.heap _
            exact ⟨rfl, N14⟩
      · rcases Decidable.em ((127 : Int64) < i1) with hp3 | hp3
        · obtain ⟨_, T5, L5, hQ5, X5, st5⟩ := own_callS X4 hx hZ (W := 0) hown (hw _ m23) (hw _ m24) (hw _ m25) (hw _ m26) (by decide) (rm12 l Z a0 hw hj w1 clw1 w2 clw2 hS [] i1 T4.heap n0 O4 hp2 hp3) (rfl : T4.heap = T4.heap) (g := (mkF m 23 #[.val (.int i0), .val (.long i1), .second, .val (.int i2), .val (.ref b1), .val (.int (0 : Int32)), .val (.ref c4_0), .unset, .unset, .unset, .unset, .unset] [(.long i1)])) rfl (by rw [hml]; rfl) (argsL := [(.long i1)]) (rest := []) (lenOf pd100 rfl) rfl rfl (by show 2 * 0 + _ ≤ _; exact Nat.le_of_eq rfl) (hb hby at_23) (by decide) (by decide) (by decide) (by decide)
          obtain ⟨c5_0, rfl, N5q, Kq5, lo5_0, q5_0, q5_1⟩ := hQ5
          have N5 := Fr.app N4 N5q
          have O5 : Old Z n0 T5.heap := O4.keep Kq5 all0
          have K5 : Keep h0 T5.heap [] := K4.trans Kq5 all0
          have f7 : Exa Z T5.heap b1 z0 := ((A1.keep Kq4).keep Kq5)
          have f8 : Fld Z T5.heap b1 z0 "value" z4 .null := ((F1_1.keep Kq4 nin0).keep Kq5 nin0)
          obtain ⟨_, T6, L6, hQ6, X6, st6⟩ := own_virtual X5 hx hZ (W := 0) hown (hw _ m31) (hw _ m32) (notFace_of_selects (args := #[]) (mvT hZ (hw _ m34))) (hw _ m34) (hw _ m33) (hw _ m2) (hw _ m35) (by decide) (rm8 l Z a0 hw hj w1 clw1 w2 clw2 hS [] b1 c4_0 T5.heap n0 O5 f7 f8 (Nat.le_trans (own_old_le O0) g1)) (rfl : T5.heap = T5.heap) f7 (g := (mkF m 32 #[.val (.int i0), .val (.long i1), .second, .val (.int i2), .val (.ref b1), .val (.int (0 : Int32)), .val (.ref c4_0), .val (.ref c5_0), .unset, .unset, .unset, .unset] [(.ref c4_0), (.ref b1)])) rfl (by rw [hml]; rfl) (argsL := [(.ref c4_0)]) (rest := []) (lenOf pd110 rfl) rfl rfl (by show 2 * 0 + _ ≤ _; exact Nat.le_of_eq rfl) (hb hby at_32) (by decide) (by decide) (by decide) (by decide)
          obtain ⟨rfl, N6q, Kq6, q6_0⟩ := hQ6
          have N6 := Fr.app N5 N6q
          have O6 : Old Z n0 T6.heap := O5.keep Kq6 (allS (Nat.le_trans (own_old_le O0) g1) all0)
          have K6 : Keep h0 T6.heap [] := K5.trans Kq6 (allS (Or.inr (Nat.le_trans (Keep.refl h0 []).1 g1)) all0)
          have pre3 : ∀ t, Steps p.tables e below (T6.setTop (mkF m 41 #[.val (.int i0), .val (.long i1), .second, .val (.int i2), .val (.ref b1), .val (.int (0 : Int32)), .val (.ref c4_0), .val (.ref c5_0), .val (.ref c4_0), .unset, .unset, .unset] [(.int (1 : Int32)), (.int i2)])) t → Steps p.tables e below (s₁.setTop (entryFrame m #[(.int i0), (.long i1), (.int i2)] maxLocals)) t := fun t kt => pre2 _ (by
              refine st5 _ ?_
              show Steps p.tables e below (T5.setTop (mkF m 26 #[.val (.int i0), .val (.long i1), .second, .val (.int i2), .val (.ref b1), .val (.int (0 : Int32)), .val (.ref c4_0), .unset, .unset, .unset, .unset, .unset] [(.ref c5_0)])) _
              refine XS.astore X5.here hx rfl (hb hby at_26) rfl rfl (l' := #[.val (.int i0), .val (.long i1), .second, .val (.int i2), .val (.ref b1), .val (.int (0 : Int32)), .val (.ref c4_0), .val (.ref c5_0), .unset, .unset, .unset, .unset]) rfl ?_
              refine XS.aload X5.here hx rfl (hb hby at_28) rfl rfl ?_
              refine XS.aload X5.here hx rfl (hb hby at_30) rfl rfl ?_
              refine st6 _ ?_
              show Steps p.tables e below (T6.setTop (mkF m 35 #[.val (.int i0), .val (.long i1), .second, .val (.int i2), .val (.ref b1), .val (.int (0 : Int32)), .val (.ref c4_0), .val (.ref c5_0), .unset, .unset, .unset, .unset] [])) _
              refine XS.aload X6.here hx rfl (hb hby at_35) rfl rfl ?_
              refine XS.astore X6.here hx rfl (hb hby at_37) rfl rfl (l' := #[.val (.int i0), .val (.long i1), .second, .val (.int i2), .val (.ref b1), .val (.int (0 : Int32)), .val (.ref c4_0), .val (.ref c5_0), .val (.ref c4_0), .unset, .unset, .unset]) rfl ?_
              refine XS.iloadN X6.here hx rfl (hb hby at_39) rfl ?_
              refine XS.iconst X6.here hx rfl (hb hby at_40) ?_
              exact kt)
          rcases en_113 (i2 &&& (1 : Int32)) (by have q0 := own_rng i2; have q1 := (by decide : ((1 : Int32)).toInt = 1); have q2 := (own_mask i2 (1 : Int32) (by decide) : 0 ≤ ((i2 &&& (1 : Int32))).toInt ∧ ((i2 &&& (1 : Int32))).toInt ≤ 1); omega) with hp4 | hp4
          · have f10 : Exa Z T6.heap b1 z0 := (f7.keep Kq6)
            obtain ⟨_, T9, L9, hQ9, X9, st9⟩ := own_virtual X6 hx hZ (W := 0) hown (hw _ m9) (hw _ m10) (notFace_of_selects (args := #[]) (mvT hZ (hw _ m12))) (hw _ m12) (hw _ m11) (hw _ m2) (hw _ m13) (by decide) (rm9 l Z a0 hw hj w1 clw1 w2 clw2 hS [] b1 c4_0 T6.heap n0 O6 q6_0) (rfl : T6.heap = T6.heap) f10 (g := (mkF m 58 #[.val (.int i0), .val (.long i1), .second, .val (.int i2), .val (.ref b1), .val (.int (0 : Int32)), .val (.ref c4_0), .val (.ref c5_0), .val (.ref c4_0), .unset, .unset, .unset] [(.ref b1)])) rfl (by rw [hml]; rfl) (argsL := []) (rest := []) (lenOf pd25 rfl) rfl rfl (by show 2 * 0 + _ ≤ _; exact Nat.le_of_eq rfl) (hb hby at_58) (by decide) (by decide) (by decide) (by decide)
            obtain ⟨rfl, N9q, e9⟩ := hQ9
            have N9 := Fr.app N6 N9q
            have e9' : T9.heap = T6.heap := e9
            obtain ⟨_, T11, L11, hQ11, X11, st11⟩ := own_virtual X9 hx hZ (W := 0) hown (hw _ m36) (hw _ m37) (notFace_of_selects (args := #[]) (mvT hZ (hw _ m39))) (hw _ m39) (hw _ m38) (hw _ m2) (hw _ m40) (by decide) (rm10 l Z a0 hw hj w1 clw1 w2 clw2 hS [] b1 c4_0 T6.heap n0 O6 q6_0) e9' f10 (g := (mkF m 65 #[.val (.int i0), .val (.long i1), .second, .val (.int i2), .val (.ref b1), .val (.int (0 : Int32)), .val (.ref c4_0), .val (.ref c5_0), .val (.ref c4_0), .val (.int (1 : Int32)), .unset, .unset] [(.ref b1)])) rfl (by rw [hml]; rfl) (argsL := []) (rest := []) (lenOf pd125 rfl) rfl rfl (by show 2 * 0 + _ ≤ _; exact Nat.le_of_eq rfl) (hb hby at_65) (by decide) (by decide) (by decide) (by decide)
            obtain ⟨rfl, N11q, e11⟩ := hQ11
            have N11 := Fr.app N9 N11q
            have e11' : T11.heap = T6.heap := e11
            obtain ⟨_, T12, L12, hQ12, X12, st12⟩ := own_virtual X11 hx hZ (W := 0) hown (hw _ m36) (hw _ m37) (notFace_of_selects (args := #[]) (mvT hZ (hw _ m39))) (hw _ m39) (hw _ m38) (hw _ m2) (hw _ m40) (by decide) (rm10 l Z a0 hw hj w1 clw1 w2 clw2 hS [] b1 c4_0 T6.heap n0 O6 q6_0) e11' f10 (g := (mkF m 72 #[.val (.int i0), .val (.long i1), .second, .val (.int i2), .val (.ref b1), .val (.int (0 : Int32)), .val (.ref c4_0), .val (.ref c5_0), .val (.ref c4_0), .val (.int (1 : Int32)), .val (.ref c4_0), .unset] [(.ref b1)])) rfl (by rw [hml]; rfl) (argsL := []) (rest := []) (lenOf pd125 rfl) rfl rfl (by show 2 * 0 + _ ≤ _; exact Nat.le_of_eq rfl) (hb hby at_72) (by decide) (by decide) (by decide) (by decide)
            obtain ⟨rfl, N12q, e12⟩ := hQ12
            have N12 := Fr.app N11 N12q
            have e12' : T12.heap = T6.heap := e12
            obtain ⟨fs, hr, hrun, hended, hW, hsame⟩ := X12.leave (v := some (.int (1 : Int32))) (fun h => by rw [Bd.returns] at h; cases h)
            refine ⟨_, _, pre3 _ ?_, hrun, hended, _, _, rfl, ?_, ⟨_, rfl⟩, hW, hsame.mono (by decide) (by decide)⟩
            · show Steps p.tables e below (T6.setTop (mkF m 41 #[.val (.int i0), .val (.long i1), .second, .val (.int i2), .val (.ref b1), .val (.int (0 : Int32)), .val (.ref c4_0), .val (.ref c5_0), .val (.ref c4_0), .unset, .unset, .unset] [(.int (1 : Int32)), (.int i2)])) _
              refine Own.iand X6.here hx rfl (hb hby at_41) rfl hp4 ?_
              refine XS.ifYes X6.here hx rfl (pc0 := 42) (pc' := 56) rfl (hb hby at_42) rfl ((if0 _ _).trans (teq (by decide : (0 : Int32) = (0 : Int32))).1) (by decide) (by decide) ?_
              refine XS.aload X6.here hx rfl (hb hby at_56) rfl rfl ?_
              refine st9 _ ?_
              show Steps p.tables e below (T9.setTop (mkF m 61 #[.val (.int i0), .val (.long i1), .second, .val (.int i2), .val (.ref b1), .val (.int (0 : Int32)), .val (.ref c4_0), .val (.ref c5_0), .val (.ref c4_0), .unset, .unset, .unset] [(.int (1 : Int32))])) _
              refine XS.istore X9.here hx rfl (hb hby at_61) rfl (l' := #[.val (.int i0), .val (.long i1), .second, .val (.int i2), .val (.ref b1), .val (.int (0 : Int32)), .val (.ref c4_0), .val (.ref c5_0), .val (.ref c4_0), .val (.int (1 : Int32)), .unset, .unset]) rfl ?_
              refine XS.aload X9.here hx rfl (hb hby at_63) rfl rfl ?_
              refine st11 _ ?_
              refine XS.astore X11.here hx rfl (hb hby at_68) rfl rfl (l' := #[.val (.int i0), .val (.long i1), .second, .val (.int i2), .val (.ref b1), .val (.int (0 : Int32)), .val (.ref c4_0), .val (.ref c5_0), .val (.ref c4_0), .val (.int (1 : Int32)), .val (.ref c4_0), .unset]) rfl ?_
              show Steps p.tables e below (T11.setTop (mkF m 70 #[.val (.int i0), .val (.long i1), .second, .val (.int i2), .val (.ref b1), .val (.int (0 : Int32)), .val (.ref c4_0), .val (.ref c5_0), .val (.ref c4_0), .val (.int (1 : Int32)), .val (.ref c4_0), .unset] [])) _
              refine XS.aload X11.here hx rfl (hb hby at_70) rfl rfl ?_
              refine st12 _ ?_
              refine XS.astore X12.here hx rfl (hb hby at_75) rfl rfl (l' := #[.val (.int i0), .val (.long i1), .second, .val (.int i2), .val (.ref b1), .val (.int (0 : Int32)), .val (.ref c4_0), .val (.ref c5_0), .val (.ref c4_0), .val (.int (1 : Int32)), .val (.ref c4_0), .val (.ref c4_0)]) rfl ?_
              refine XS.iload X12.here hx rfl (hb hby at_77) rfl ?_
              show Steps p.tables e below (T12.setTop (mkF m 79 #[.val (.int i0), .val (.long i1), .second, .val (.int i2), .val (.ref b1), .val (.int (0 : Int32)), .val (.ref c4_0), .val (.ref c5_0), .val (.ref c4_0), .val (.int (1 : Int32)), .val (.ref c4_0), .val (.ref c4_0)] [(.int (0 : Int32))])) _
              refine XS.ifNo X12.here hx rfl (hb hby at_79) rfl ((if0 _ _).trans (teq (by decide : (0 : Int32) = (0 : Int32))).2) ?_
              refine XS.iload X12.here hx rfl (hb hby at_82) rfl ?_
              refine XS.ifNo X12.here hx rfl (hb hby at_84) rfl ((if0 _ _).trans (feq (by decide : ¬ ((1 : Int32) = (0 : Int32)))).1) ?_
              refine XS.aload X12.here hx rfl (hb hby at_87) rfl rfl ?_
              show Steps p.tables e below (T12.setTop (mkF m 89 #[.val (.int i0), .val (.long i1), .second, .val (.int i2), .val (.ref b1), .val (.int (0 : Int32)), .val (.ref c4_0), .val (.ref c5_0), .val (.ref c4_0), .val (.int (1 : Int32)), .val (.ref c4_0), .val (.ref c4_0)] [(.ref c4_0)])) _
              refine XS.aload X12.here hx rfl (hb hby at_89) rfl rfl ?_
              refine Jvm.RoadKit.acmp (g := (mkF m 91 #[.val (.int i0), .val (.long i1), .second, .val (.int i2), .val (.ref b1), .val (.int (0 : Int32)), .val (.ref c4_0), .val (.ref c5_0), .val (.ref c4_0), .val (.int (1 : Int32)), .val (.ref c4_0), .val (.ref c4_0)] [(.ref c4_0), (.ref c4_0)])) X12 hx rfl rfl rfl (pc0 := 91) (pc' := 94) (same := true) rfl (hb hby at_91) rfl (decide_eq_true rfl) (by decide) (by decide) ?_
              refine XS.aload X12.here hx rfl (hb hby at_94) rfl rfl ?_
              refine XS.aload X12.here hx rfl (hb hby at_96) rfl rfl ?_
              show Steps p.tables e below (T12.setTop (mkF m 98 #[.val (.int i0), .val (.long i1), .second, .val (.int i2), .val (.ref b1), .val (.int (0 : Int32)), .val (.ref c4_0), .val (.ref c5_0), .val (.ref c4_0), .val (.int (1 : Int32)), .val (.ref c4_0), .val (.ref c4_0)] [(.ref c4_0), (.ref c4_0)])) _
              refine Jvm.RoadKit.acmp (g := (mkF m 98 #[.val (.int i0), .val (.long i1), .second, .val (.int i2), .val (.ref b1), .val (.int (0 : Int32)), .val (.ref c4_0), .val (.ref c5_0), .val (.ref c4_0), .val (.int (1 : Int32)), .val (.ref c4_0), .val (.ref c4_0)] [(.ref c4_0), (.ref c4_0)])) X12 hx rfl rfl rfl (pc0 := 98) (pc' := 101) (same := true) rfl (hb hby at_98) rfl (decide_eq_true rfl) (by decide) (by decide) ?_
              refine XS.iconst X12.here hx rfl (hb hby at_101) ?_
              refine XS.goto X12.here hx rfl (pc0 := 102) (pc' := 106) rfl (hb hby at_102) (by decide) (by decide) ?_
              exact retN X12 hx (t := .boolean) Bd.returns (by simp) (hb hby at_106) hr
            · show QL n0 _ T12.heap _
              exact ⟨rfl, N12⟩
          · have f10 : Exa Z T6.heap b1 z0 := (f7.keep Kq6)
            obtain ⟨_, T9, L9, hQ9, X9, st9⟩ := own_virtual X6 hx hZ (W := 0) hown (hw _ m31) (hw _ m32) (notFace_of_selects (args := #[]) (mvT hZ (hw _ m34))) (hw _ m34) (hw _ m33) (hw _ m2) (hw _ m35) (by decide) (rm11 l Z a0 hw hj w1 clw1 w2 clw2 hS [] b1 c4_0 c5_0 T6.heap n0 O6 f10 q6_0 (Nat.le_trans (own_old_le O0) g1)) (rfl : T6.heap = T6.heap) f10 (g := (mkF m 49 #[.val (.int i0), .val (.long i1), .second, .val (.int i2), .val (.ref b1), .val (.int (0 : Int32)), .val (.ref c4_0), .val (.ref c5_0), .val (.ref c4_0), .unset, .unset, .unset] [(.ref c5_0), (.ref b1)])) rfl (by rw [hml]; rfl) (argsL := [(.ref c5_0)]) (rest := []) (lenOf pd110 rfl) rfl rfl (by show 2 * 0 + _ ≤ _; exact Nat.le_of_eq rfl) (hb hby at_49) (by decide) (by decide) (by decide) (by decide)
            obtain ⟨rfl, N9q, Kq9, q9_0⟩ := hQ9
            have N9 := Fr.app N6 N9q
            have O9 : Old Z n0 T9.heap := O6.keep Kq9 (allS (Nat.le_trans (own_old_le O0) g1) all0)
            have K9 : Keep h0 T9.heap [] := K6.trans Kq9 (allS (Or.inr (Nat.le_trans (Keep.refl h0 []).1 g1)) all0)
            have f12 : Exa Z T9.heap b1 z0 := (f10.keep Kq9)
            obtain ⟨_, T11, L11, hQ11, X11, st11⟩ := own_virtual X9 hx hZ (W := 0) hown (hw _ m9) (hw _ m10) (notFace_of_selects (args := #[]) (mvT hZ (hw _ m12))) (hw _ m12) (hw _ m11) (hw _ m2) (hw _ m13) (by decide) (rm9 l Z a0 hw hj w1 clw1 w2 clw2 hS [] b1 c5_0 T9.heap n0 O9 q9_0) (rfl : T9.heap = T9.heap) f12 (g := (mkF m 58 #[.val (.int i0), .val (.long i1), .second, .val (.int i2), .val (.ref b1), .val (.int (0 : Int32)), .val (.ref c4_0), .val (.ref c5_0), .val (.ref c5_0), .unset, .unset, .unset] [(.ref b1)])) rfl (by rw [hml]; rfl) (argsL := []) (rest := []) (lenOf pd25 rfl) rfl rfl (by show 2 * 0 + _ ≤ _; exact Nat.le_of_eq rfl) (hb hby at_58) (by decide) (by decide) (by decide) (by decide)
            obtain ⟨rfl, N11q, e11⟩ := hQ11
            have N11 := Fr.app N9 N11q
            have e11' : T11.heap = T9.heap := e11
            obtain ⟨_, T13, L13, hQ13, X13, st13⟩ := own_virtual X11 hx hZ (W := 0) hown (hw _ m36) (hw _ m37) (notFace_of_selects (args := #[]) (mvT hZ (hw _ m39))) (hw _ m39) (hw _ m38) (hw _ m2) (hw _ m40) (by decide) (rm10 l Z a0 hw hj w1 clw1 w2 clw2 hS [] b1 c5_0 T9.heap n0 O9 q9_0) e11' f12 (g := (mkF m 65 #[.val (.int i0), .val (.long i1), .second, .val (.int i2), .val (.ref b1), .val (.int (0 : Int32)), .val (.ref c4_0), .val (.ref c5_0), .val (.ref c5_0), .val (.int (1 : Int32)), .unset, .unset] [(.ref b1)])) rfl (by rw [hml]; rfl) (argsL := []) (rest := []) (lenOf pd125 rfl) rfl rfl (by show 2 * 0 + _ ≤ _; exact Nat.le_of_eq rfl) (hb hby at_65) (by decide) (by decide) (by decide) (by decide)
            obtain ⟨rfl, N13q, e13⟩ := hQ13
            have N13 := Fr.app N11 N13q
            have e13' : T13.heap = T9.heap := e13
            obtain ⟨_, T14, L14, hQ14, X14, st14⟩ := own_virtual X13 hx hZ (W := 0) hown (hw _ m36) (hw _ m37) (notFace_of_selects (args := #[]) (mvT hZ (hw _ m39))) (hw _ m39) (hw _ m38) (hw _ m2) (hw _ m40) (by decide) (rm10 l Z a0 hw hj w1 clw1 w2 clw2 hS [] b1 c5_0 T9.heap n0 O9 q9_0) e13' f12 (g := (mkF m 72 #[.val (.int i0), .val (.long i1), .second, .val (.int i2), .val (.ref b1), .val (.int (0 : Int32)), .val (.ref c4_0), .val (.ref c5_0), .val (.ref c5_0), .val (.int (1 : Int32)), .val (.ref c5_0), .unset] [(.ref b1)])) rfl (by rw [hml]; rfl) (argsL := []) (rest := []) (lenOf pd125 rfl) rfl rfl (by show 2 * 0 + _ ≤ _; exact Nat.le_of_eq rfl) (hb hby at_72) (by decide) (by decide) (by decide) (by decide)
            obtain ⟨rfl, N14q, e14⟩ := hQ14
            have N14 := Fr.app N13 N14q
            have e14' : T14.heap = T9.heap := e14
            obtain ⟨fs, hr, hrun, hended, hW, hsame⟩ := X14.leave (v := some (.int (1 : Int32))) (fun h => by rw [Bd.returns] at h; cases h)
            refine ⟨_, _, pre3 _ ?_, hrun, hended, _, _, rfl, ?_, ⟨_, rfl⟩, hW, hsame.mono (by decide) (by decide)⟩
            · show Steps p.tables e below (T6.setTop (mkF m 41 #[.val (.int i0), .val (.long i1), .second, .val (.int i2), .val (.ref b1), .val (.int (0 : Int32)), .val (.ref c4_0), .val (.ref c5_0), .val (.ref c4_0), .unset, .unset, .unset] [(.int (1 : Int32)), (.int i2)])) _
              refine Own.iand X6.here hx rfl (hb hby at_41) rfl hp4 ?_
              refine XS.ifNo X6.here hx rfl (hb hby at_42) rfl ((if0 _ _).trans (feq (by decide : ¬ ((1 : Int32) = (0 : Int32)))).1) ?_
              refine XS.aload X6.here hx rfl (hb hby at_45) rfl rfl ?_
              refine XS.aload X6.here hx rfl (hb hby at_47) rfl rfl ?_
              show Steps p.tables e below (T6.setTop (mkF m 49 #[.val (.int i0), .val (.long i1), .second, .val (.int i2), .val (.ref b1), .val (.int (0 : Int32)), .val (.ref c4_0), .val (.ref c5_0), .val (.ref c4_0), .unset, .unset, .unset] [(.ref c5_0), (.ref b1)])) _
              refine st9 _ ?_
              refine XS.aload X9.here hx rfl (hb hby at_52) rfl rfl ?_
              refine XS.astore X9.here hx rfl (hb hby at_54) rfl rfl (l' := #[.val (.int i0), .val (.long i1), .second, .val (.int i2), .val (.ref b1), .val (.int (0 : Int32)), .val (.ref c4_0), .val (.ref c5_0), .val (.ref c5_0), .unset, .unset, .unset]) rfl ?_
              refine XS.aload X9.here hx rfl (hb hby at_56) rfl rfl ?_
              show Steps p.tables e below (T9.setTop (mkF m 58 #[.val (.int i0), .val (.long i1), .second, .val (.int i2), .val (.ref b1), .val (.int (0 : Int32)), .val (.ref c4_0), .val (.ref c5_0), .val (.ref c5_0), .unset, .unset, .unset] [(.ref b1)])) _
              refine st11 _ ?_
              refine XS.istore X11.here hx rfl (hb hby at_61) rfl (l' := #[.val (.int i0), .val (.long i1), .second, .val (.int i2), .val (.ref b1), .val (.int (0 : Int32)), .val (.ref c4_0), .val (.ref c5_0), .val (.ref c5_0), .val (.int (1 : Int32)), .unset, .unset]) rfl ?_
              refine XS.aload X11.here hx rfl (hb hby at_63) rfl rfl ?_
              refine st13 _ ?_
              show Steps p.tables e below (T13.setTop (mkF m 68 #[.val (.int i0), .val (.long i1), .second, .val (.int i2), .val (.ref b1), .val (.int (0 : Int32)), .val (.ref c4_0), .val (.ref c5_0), .val (.ref c5_0), .val (.int (1 : Int32)), .unset, .unset] [(.ref c5_0)])) _
              refine XS.astore X13.here hx rfl (hb hby at_68) rfl rfl (l' := #[.val (.int i0), .val (.long i1), .second, .val (.int i2), .val (.ref b1), .val (.int (0 : Int32)), .val (.ref c4_0), .val (.ref c5_0), .val (.ref c5_0), .val (.int (1 : Int32)), .val (.ref c5_0), .unset]) rfl ?_
              refine XS.aload X13.here hx rfl (hb hby at_70) rfl rfl ?_
              refine st14 _ ?_
              refine XS.astore X14.here hx rfl (hb hby at_75) rfl rfl (l' := #[.val (.int i0), .val (.long i1), .second, .val (.int i2), .val (.ref b1), .val (.int (0 : Int32)), .val (.ref c4_0), .val (.ref c5_0), .val (.ref c5_0), .val (.int (1 : Int32)), .val (.ref c5_0), .val (.ref c5_0)]) rfl ?_
              show Steps p.tables e below (T14.setTop (mkF m 77 #[.val (.int i0), .val (.long i1), .second, .val (.int i2), .val (.ref b1), .val (.int (0 : Int32)), .val (.ref c4_0), .val (.ref c5_0), .val (.ref c5_0), .val (.int (1 : Int32)), .val (.ref c5_0), .val (.ref c5_0)] [])) _
              refine XS.iload X14.here hx rfl (hb hby at_77) rfl ?_
              refine XS.ifNo X14.here hx rfl (hb hby at_79) rfl ((if0 _ _).trans (teq (by decide : (0 : Int32) = (0 : Int32))).2) ?_
              refine XS.iload X14.here hx rfl (hb hby at_82) rfl ?_
              refine XS.ifNo X14.here hx rfl (hb hby at_84) rfl ((if0 _ _).trans (feq (by decide : ¬ ((1 : Int32) = (0 : Int32)))).1) ?_
              show Steps p.tables e below (T14.setTop (mkF m 87 #[.val (.int i0), .val (.long i1), .second, .val (.int i2), .val (.ref b1), .val (.int (0 : Int32)), .val (.ref c4_0), .val (.ref c5_0), .val (.ref c5_0), .val (.int (1 : Int32)), .val (.ref c5_0), .val (.ref c5_0)] [])) _
              refine XS.aload X14.here hx rfl (hb hby at_87) rfl rfl ?_
              refine XS.aload X14.here hx rfl (hb hby at_89) rfl rfl ?_
              refine Jvm.RoadKit.acmp (g := (mkF m 91 #[.val (.int i0), .val (.long i1), .second, .val (.int i2), .val (.ref b1), .val (.int (0 : Int32)), .val (.ref c4_0), .val (.ref c5_0), .val (.ref c5_0), .val (.int (1 : Int32)), .val (.ref c5_0), .val (.ref c5_0)] [(.ref c5_0), (.ref c5_0)])) X14 hx rfl rfl rfl (pc0 := 91) (pc' := 94) (same := true) rfl (hb hby at_91) rfl (decide_eq_true rfl) (by decide) (by decide) ?_
              refine XS.aload X14.here hx rfl (hb hby at_94) rfl rfl ?_
              show Steps p.tables e below (T14.setTop (mkF m 96 #[.val (.int i0), .val (.long i1), .second, .val (.int i2), .val (.ref b1), .val (.int (0 : Int32)), .val (.ref c4_0), .val (.ref c5_0), .val (.ref c5_0), .val (.int (1 : Int32)), .val (.ref c5_0), .val (.ref c5_0)] [(.ref c5_0)])) _
              refine XS.aload X14.here hx rfl (hb hby at_96) rfl rfl ?_
              refine Jvm.RoadKit.acmp (g := (mkF m 98 #[.val (.int i0), .val (.long i1), .second, .val (.int i2), .val (.ref b1), .val (.int (0 : Int32)), .val (.ref c4_0), .val (.ref c5_0), .val (.ref c5_0), .val (.int (1 : Int32)), .val (.ref c5_0), .val (.ref c5_0)] [(.ref c5_0), (.ref c5_0)])) X14 hx rfl rfl rfl (pc0 := 98) (pc' := 101) (same := true) rfl (hb hby at_98) rfl (decide_eq_true rfl) (by decide) (by decide) ?_
              refine XS.iconst X14.here hx rfl (hb hby at_101) ?_
              refine XS.goto X14.here hx rfl (pc0 := 102) (pc' := 106) rfl (hb hby at_102) (by decide) (by decide) ?_
              show Steps p.tables e below (T14.setTop (mkF m 106 #[.val (.int i0), .val (.long i1), .second, .val (.int i2), .val (.ref b1), .val (.int (0 : Int32)), .val (.ref c4_0), .val (.ref c5_0), .val (.ref c5_0), .val (.int (1 : Int32)), .val (.ref c5_0), .val (.ref c5_0)] [(.int (1 : Int32))])) _
              exact retN X14 hx (t := .boolean) Bd.returns (by simp) (hb hby at_106) hr
            · show QL n0 _ T14.heap _
              exact ⟨rfl, N14⟩
        · obtain ⟨r5, re5, rx5, rv5⟩ := own_box hS.2.2.2.2 (by have q0 := own_rngL i1; have q1 := c_l2i i1; have q2 := own_rng (i1.toInt32); have q3 := (by decide : ((128 : Int32)).toInt = 128); have q4 := c_iadd (i1.toInt32) (128 : Int32); have q5 := own_rng ((i1.toInt32) + (128 : Int32)); have q6 := (by decide : ((0 : Int32)).toInt = 0); have q7 := (by decide : ((-128 : Int64)).toInt = -128); have q8 := own_ltF'L hp2; have q9 := (by decide : ((127 : Int64)).toInt = 127); have q10 := own_ltF'L hp3; exact own_ltF (by omega) : ¬ (((i1.toInt32) + (128 : Int32)) < (0 : Int32))) (by have q0 := own_rngL i1; have q1 := c_l2i i1; have q2 := own_rng (i1.toInt32); have q3 := (by decide : ((128 : Int32)).toInt = 128); have q4 := c_iadd (i1.toInt32) (128 : Int32); have q5 := own_rng ((i1.toInt32) + (128 : Int32)); have q6 := (by decide : ((256 : Int32)).toInt = 256); have q7 := (by decide : ((-128 : Int64)).toInt = -128); have q8 := own_ltF'L hp2; have q9 := (by decide : ((127 : Int64)).toInt = 127); have q10 := own_ltF'L hp3; exact own_ltT (by omega) : ((i1.toInt32) + (128 : Int32)) < (256 : Int32))
          obtain ⟨_, T6, L6, hQ6, X6, st6⟩ := own_callS X4 hx hZ (W := 0) hown (hw _ m23) (hw _ m24) (hw _ m25) (hw _ m26) (by decide) (rm13 l Z a0 hw hj w1 clw1 w2 clw2 hS [] i1 r5 T4.heap n0 O4 hp2 hp3 re5 (by have q0 := own_rngL i1; have q1 := c_l2i i1; have q2 := own_rng (i1.toInt32); have q3 := (by decide : ((128 : Int32)).toInt = 128); have q4 := c_iadd (i1.toInt32) (128 : Int32); have q5 := own_rng ((i1.toInt32) + (128 : Int32)); have q6 := (by decide : ((0 : Int32)).toInt = 0); have q7 := (by decide : ((-128 : Int64)).toInt = -128); have q8 := own_ltF'L hp2; have q9 := (by decide : ((127 : Int64)).toInt = 127); have q10 := own_ltF'L hp3; exact own_ltF (by omega) : ¬ (((i1.toInt32) + (128 : Int32)) < (0 : Int32))) (by have q0 := own_rngL i1; have q1 := c_l2i i1; have q2 := own_rng (i1.toInt32); have q3 := (by decide : ((128 : Int32)).toInt = 128); have q4 := c_iadd (i1.toInt32) (128 : Int32); have q5 := own_rng ((i1.toInt32) + (128 : Int32)); have q6 := (by decide : ((256 : Int32)).toInt = 256); have q7 := (by decide : ((-128 : Int64)).toInt = -128); have q8 := own_ltF'L hp2; have q9 := (by decide : ((127 : Int64)).toInt = 127); have q10 := own_ltF'L hp3; exact own_ltT (by omega) : ((i1.toInt32) + (128 : Int32)) < (256 : Int32))) (rfl : T4.heap = T4.heap) (g := (mkF m 23 #[.val (.int i0), .val (.long i1), .second, .val (.int i2), .val (.ref b1), .val (.int (0 : Int32)), .val (.ref c4_0), .unset, .unset, .unset, .unset, .unset] [(.long i1)])) rfl (by rw [hml]; rfl) (argsL := [(.long i1)]) (rest := []) (lenOf pd100 rfl) rfl rfl (by show 2 * 0 + _ ≤ _; exact Nat.le_of_eq rfl) (hb hby at_23) (by decide) (by decide) (by decide) (by decide)
          obtain ⟨rfl, N6q, e6⟩ := hQ6
          have N6 := Fr.app N4 N6q
          have e6' : T6.heap = T4.heap := e6
          have f8 : Exa Z T4.heap b1 z0 := (A1.keep Kq4)
          have f9 : Fld Z T4.heap b1 z0 "value" z4 .null := (F1_1.keep Kq4 nin0)
          obtain ⟨_, T7, L7, hQ7, X7, st7⟩ := own_virtual X6 hx hZ (W := 0) hown (hw _ m31) (hw _ m32) (notFace_of_selects (args := #[]) (mvT hZ (hw _ m34))) (hw _ m34) (hw _ m33) (hw _ m2) (hw _ m35) (by decide) (rm8 l Z a0 hw hj w1 clw1 w2 clw2 hS [] b1 c4_0 T4.heap n0 O4 f8 f9 (Nat.le_trans (own_old_le O0) g1)) e6' f8 (g := (mkF m 32 #[.val (.int i0), .val (.long i1), .second, .val (.int i2), .val (.ref b1), .val (.int (0 : Int32)), .val (.ref c4_0), .val (.ref r5), .unset, .unset, .unset, .unset] [(.ref c4_0), (.ref b1)])) rfl (by rw [hml]; rfl) (argsL := [(.ref c4_0)]) (rest := []) (lenOf pd110 rfl) rfl rfl (by show 2 * 0 + _ ≤ _; exact Nat.le_of_eq rfl) (hb hby at_32) (by decide) (by decide) (by decide) (by decide)
          obtain ⟨rfl, N7q, Kq7, q7_0⟩ := hQ7
          have N7 := Fr.app N6 N7q
          have O7 : Old Z n0 T7.heap := O4.keep Kq7 (allS (Nat.le_trans (own_old_le O0) g1) all0)
          have K7 : Keep h0 T7.heap [] := K4.trans Kq7 (allS (Or.inr (Nat.le_trans (Keep.refl h0 []).1 g1)) all0)
          have pre3 : ∀ t, Steps p.tables e below (T7.setTop (mkF m 41 #[.val (.int i0), .val (.long i1), .second, .val (.int i2), .val (.ref b1), .val (.int (0 : Int32)), .val (.ref c4_0), .val (.ref r5), .val (.ref c4_0), .unset, .unset, .unset] [(.int (1 : Int32)), (.int i2)])) t → Steps p.tables e below (s₁.setTop (entryFrame m #[(.int i0), (.long i1), (.int i2)] maxLocals)) t := fun t kt => pre2 _ (by
              refine st6 _ ?_
              show Steps p.tables e below (T6.setTop (mkF m 26 #[.val (.int i0), .val (.long i1), .second, .val (.int i2), .val (.ref b1), .val (.int (0 : Int32)), .val (.ref c4_0), .unset, .unset, .unset, .unset, .unset] [(.ref r5)])) _
              refine XS.astore X6.here hx rfl (hb hby at_26) rfl rfl (l' := #[.val (.int i0), .val (.long i1), .second, .val (.int i2), .val (.ref b1), .val (.int (0 : Int32)), .val (.ref c4_0), .val (.ref r5), .unset, .unset, .unset, .unset]) rfl ?_
              refine XS.aload X6.here hx rfl (hb hby at_28) rfl rfl ?_
              refine XS.aload X6.here hx rfl (hb hby at_30) rfl rfl ?_
              refine st7 _ ?_
              show Steps p.tables e below (T7.setTop (mkF m 35 #[.val (.int i0), .val (.long i1), .second, .val (.int i2), .val (.ref b1), .val (.int (0 : Int32)), .val (.ref c4_0), .val (.ref r5), .unset, .unset, .unset, .unset] [])) _
              refine XS.aload X7.here hx rfl (hb hby at_35) rfl rfl ?_
              refine XS.astore X7.here hx rfl (hb hby at_37) rfl rfl (l' := #[.val (.int i0), .val (.long i1), .second, .val (.int i2), .val (.ref b1), .val (.int (0 : Int32)), .val (.ref c4_0), .val (.ref r5), .val (.ref c4_0), .unset, .unset, .unset]) rfl ?_
              refine XS.iloadN X7.here hx rfl (hb hby at_39) rfl ?_
              refine XS.iconst X7.here hx rfl (hb hby at_40) ?_
              exact kt)
          rcases en_113 (i2 &&& (1 : Int32)) (by have q0 := own_rng i2; have q1 := (by decide : ((1 : Int32)).toInt = 1); have q2 := (own_mask i2 (1 : Int32) (by decide) : 0 ≤ ((i2 &&& (1 : Int32))).toInt ∧ ((i2 &&& (1 : Int32))).toInt ≤ 1); omega) with hp4 | hp4
          · have f11 : Exa Z T7.heap b1 z0 := (f8.keep Kq7)
            obtain ⟨_, T10, L10, hQ10, X10, st10⟩ := own_virtual X7 hx hZ (W := 0) hown (hw _ m9) (hw _ m10) (notFace_of_selects (args := #[]) (mvT hZ (hw _ m12))) (hw _ m12) (hw _ m11) (hw _ m2) (hw _ m13) (by decide) (rm9 l Z a0 hw hj w1 clw1 w2 clw2 hS [] b1 c4_0 T7.heap n0 O7 q7_0) (rfl : T7.heap = T7.heap) f11 (g := (mkF m 58 #[.val (.int i0), .val (.long i1), .second, .val (.int i2), .val (.ref b1), .val (.int (0 : Int32)), .val (.ref c4_0), .val (.ref r5), .val (.ref c4_0), .unset, .unset, .unset] [(.ref b1)])) rfl (by rw [hml]; rfl) (argsL := []) (rest := []) (lenOf pd25 rfl) rfl rfl (by show 2 * 0 + _ ≤ _; exact Nat.le_of_eq rfl) (hb hby at_58) (by decide) (by decide) (by decide) (by decide)
            obtain ⟨rfl, N10q, e10⟩ := hQ10
            have N10 := Fr.app N7 N10q
            have e10' : T10.heap = T7.heap := e10
            obtain ⟨_, T12, L12, hQ12, X12, st12⟩ := own_virtual X10 hx hZ (W := 0) hown (hw _ m36) (hw _ m37) (notFace_of_selects (args := #[]) (mvT hZ (hw _ m39))) (hw _ m39) (hw _ m38) (hw _ m2) (hw _ m40) (by decide) (rm10 l Z a0 hw hj w1 clw1 w2 clw2 hS [] b1 c4_0 T7.heap n0 O7 q7_0) e10' f11 (g := (mkF m 65 #[.val (.int i0), .val (.long i1), .second, .val (.int i2), .val (.ref b1), .val (.int (0 : Int32)), .val (.ref c4_0), .val (.ref r5), .val (.ref c4_0), .val (.int (1 : Int32)), .unset, .unset] [(.ref b1)])) rfl (by rw [hml]; rfl) (argsL := []) (rest := []) (lenOf pd125 rfl) rfl rfl (by show 2 * 0 + _ ≤ _; exact Nat.le_of_eq rfl) (hb hby at_65) (by decide) (by decide) (by decide) (by decide)
            obtain ⟨rfl, N12q, e12⟩ := hQ12
            have N12 := Fr.app N10 N12q
            have e12' : T12.heap = T7.heap := e12
            obtain ⟨_, T13, L13, hQ13, X13, st13⟩ := own_virtual X12 hx hZ (W := 0) hown (hw _ m36) (hw _ m37) (notFace_of_selects (args := #[]) (mvT hZ (hw _ m39))) (hw _ m39) (hw _ m38) (hw _ m2) (hw _ m40) (by decide) (rm10 l Z a0 hw hj w1 clw1 w2 clw2 hS [] b1 c4_0 T7.heap n0 O7 q7_0) e12' f11 (g := (mkF m 72 #[.val (.int i0), .val (.long i1), .second, .val (.int i2), .val (.ref b1), .val (.int (0 : Int32)), .val (.ref c4_0), .val (.ref r5), .val (.ref c4_0), .val (.int (1 : Int32)), .val (.ref c4_0), .unset] [(.ref b1)])) rfl (by rw [hml]; rfl) (argsL := []) (rest := []) (lenOf pd125 rfl) rfl rfl (by show 2 * 0 + _ ≤ _; exact Nat.le_of_eq rfl) (hb hby at_72) (by decide) (by decide) (by decide) (by decide)
            obtain ⟨rfl, N13q, e13⟩ := hQ13
            have N13 := Fr.app N12 N13q
            have e13' : T13.heap = T7.heap := e13
            obtain ⟨fs, hr, hrun, hended, hW, hsame⟩ := X13.leave (v := some (.int (1 : Int32))) (fun h => by rw [Bd.returns] at h; cases h)
            refine ⟨_, _, pre3 _ ?_, hrun, hended, _, _, rfl, ?_, ⟨_, rfl⟩, hW, hsame.mono (by decide) (by decide)⟩
            · show Steps p.tables e below (T7.setTop (mkF m 41 #[.val (.int i0), .val (.long i1), .second, .val (.int i2), .val (.ref b1), .val (.int (0 : Int32)), .val (.ref c4_0), .val (.ref r5), .val (.ref c4_0), .unset, .unset, .unset] [(.int (1 : Int32)), (.int i2)])) _
              refine Own.iand X7.here hx rfl (hb hby at_41) rfl hp4 ?_
              refine XS.ifYes X7.here hx rfl (pc0 := 42) (pc' := 56) rfl (hb hby at_42) rfl ((if0 _ _).trans (teq (by decide : (0 : Int32) = (0 : Int32))).1) (by decide) (by decide) ?_
              refine XS.aload X7.here hx rfl (hb hby at_56) rfl rfl ?_
              refine st10 _ ?_
              show Steps p.tables e below (T10.setTop (mkF m 61 #[.val (.int i0), .val (.long i1), .second, .val (.int i2), .val (.ref b1), .val (.int (0 : Int32)), .val (.ref c4_0), .val (.ref r5), .val (.ref c4_0), .unset, .unset, .unset] [(.int (1 : Int32))])) _
              refine XS.istore X10.here hx rfl (hb hby at_61) rfl (l' := #[.val (.int i0), .val (.long i1), .second, .val (.int i2), .val (.ref b1), .val (.int (0 : Int32)), .val (.ref c4_0), .val (.ref r5), .val (.ref c4_0), .val (.int (1 : Int32)), .unset, .unset]) rfl ?_
              refine XS.aload X10.here hx rfl (hb hby at_63) rfl rfl ?_
              refine st12 _ ?_
              refine XS.astore X12.here hx rfl (hb hby at_68) rfl rfl (l' := #[.val (.int i0), .val (.long i1), .second, .val (.int i2), .val (.ref b1), .val (.int (0 : Int32)), .val (.ref c4_0), .val (.ref r5), .val (.ref c4_0), .val (.int (1 : Int32)), .val (.ref c4_0), .unset]) rfl ?_
              show Steps p.tables e below (T12.setTop (mkF m 70 #[.val (.int i0), .val (.long i1), .second, .val (.int i2), .val (.ref b1), .val (.int (0 : Int32)), .val (.ref c4_0), .val (.ref r5), .val (.ref c4_0), .val (.int (1 : Int32)), .val (.ref c4_0), .unset] [])) _
              refine XS.aload X12.here hx rfl (hb hby at_70) rfl rfl ?_
              refine st13 _ ?_
              refine XS.astore X13.here hx rfl (hb hby at_75) rfl rfl (l' := #[.val (.int i0), .val (.long i1), .second, .val (.int i2), .val (.ref b1), .val (.int (0 : Int32)), .val (.ref c4_0), .val (.ref r5), .val (.ref c4_0), .val (.int (1 : Int32)), .val (.ref c4_0), .val (.ref c4_0)]) rfl ?_
              refine XS.iload X13.here hx rfl (hb hby at_77) rfl ?_
              show Steps p.tables e below (T13.setTop (mkF m 79 #[.val (.int i0), .val (.long i1), .second, .val (.int i2), .val (.ref b1), .val (.int (0 : Int32)), .val (.ref c4_0), .val (.ref r5), .val (.ref c4_0), .val (.int (1 : Int32)), .val (.ref c4_0), .val (.ref c4_0)] [(.int (0 : Int32))])) _
              refine XS.ifNo X13.here hx rfl (hb hby at_79) rfl ((if0 _ _).trans (teq (by decide : (0 : Int32) = (0 : Int32))).2) ?_
              refine XS.iload X13.here hx rfl (hb hby at_82) rfl ?_
              refine XS.ifNo X13.here hx rfl (hb hby at_84) rfl ((if0 _ _).trans (feq (by decide : ¬ ((1 : Int32) = (0 : Int32)))).1) ?_
              refine XS.aload X13.here hx rfl (hb hby at_87) rfl rfl ?_
              show Steps p.tables e below (T13.setTop (mkF m 89 #[.val (.int i0), .val (.long i1), .second, .val (.int i2), .val (.ref b1), .val (.int (0 : Int32)), .val (.ref c4_0), .val (.ref r5), .val (.ref c4_0), .val (.int (1 : Int32)), .val (.ref c4_0), .val (.ref c4_0)] [(.ref c4_0)])) _
              refine XS.aload X13.here hx rfl (hb hby at_89) rfl rfl ?_
              refine Jvm.RoadKit.acmp (g := (mkF m 91 #[.val (.int i0), .val (.long i1), .second, .val (.int i2), .val (.ref b1), .val (.int (0 : Int32)), .val (.ref c4_0), .val (.ref r5), .val (.ref c4_0), .val (.int (1 : Int32)), .val (.ref c4_0), .val (.ref c4_0)] [(.ref c4_0), (.ref c4_0)])) X13 hx rfl rfl rfl (pc0 := 91) (pc' := 94) (same := true) rfl (hb hby at_91) rfl (decide_eq_true rfl) (by decide) (by decide) ?_
              refine XS.aload X13.here hx rfl (hb hby at_94) rfl rfl ?_
              refine XS.aload X13.here hx rfl (hb hby at_96) rfl rfl ?_
              show Steps p.tables e below (T13.setTop (mkF m 98 #[.val (.int i0), .val (.long i1), .second, .val (.int i2), .val (.ref b1), .val (.int (0 : Int32)), .val (.ref c4_0), .val (.ref r5), .val (.ref c4_0), .val (.int (1 : Int32)), .val (.ref c4_0), .val (.ref c4_0)] [(.ref c4_0), (.ref c4_0)])) _
              refine Jvm.RoadKit.acmp (g := (mkF m 98 #[.val (.int i0), .val (.long i1), .second, .val (.int i2), .val (.ref b1), .val (.int (0 : Int32)), .val (.ref c4_0), .val (.ref r5), .val (.ref c4_0), .val (.int (1 : Int32)), .val (.ref c4_0), .val (.ref c4_0)] [(.ref c4_0), (.ref c4_0)])) X13 hx rfl rfl rfl (pc0 := 98) (pc' := 101) (same := true) rfl (hb hby at_98) rfl (decide_eq_true rfl) (by decide) (by decide) ?_
              refine XS.iconst X13.here hx rfl (hb hby at_101) ?_
              refine XS.goto X13.here hx rfl (pc0 := 102) (pc' := 106) rfl (hb hby at_102) (by decide) (by decide) ?_
              exact retN X13 hx (t := .boolean) Bd.returns (by simp) (hb hby at_106) hr
            · show QL n0 _ T13.heap _
              exact ⟨rfl, N13⟩
          · have f11 : Exa Z T7.heap b1 z0 := (f8.keep Kq7)
            obtain ⟨_, T10, L10, hQ10, X10, st10⟩ := own_virtual X7 hx hZ (W := 0) hown (hw _ m31) (hw _ m32) (notFace_of_selects (args := #[]) (mvT hZ (hw _ m34))) (hw _ m34) (hw _ m33) (hw _ m2) (hw _ m35) (by decide) (rm11 l Z a0 hw hj w1 clw1 w2 clw2 hS [] b1 c4_0 r5 T7.heap n0 O7 f11 q7_0 (Nat.le_trans (own_old_le O0) g1)) (rfl : T7.heap = T7.heap) f11 (g := (mkF m 49 #[.val (.int i0), .val (.long i1), .second, .val (.int i2), .val (.ref b1), .val (.int (0 : Int32)), .val (.ref c4_0), .val (.ref r5), .val (.ref c4_0), .unset, .unset, .unset] [(.ref r5), (.ref b1)])) rfl (by rw [hml]; rfl) (argsL := [(.ref r5)]) (rest := []) (lenOf pd110 rfl) rfl rfl (by show 2 * 0 + _ ≤ _; exact Nat.le_of_eq rfl) (hb hby at_49) (by decide) (by decide) (by decide) (by decide)
            obtain ⟨rfl, N10q, Kq10, q10_0⟩ := hQ10
            have N10 := Fr.app N7 N10q
            have O10 : Old Z n0 T10.heap := O7.keep Kq10 (allS (Nat.le_trans (own_old_le O0) g1) all0)
            have K10 : Keep h0 T10.heap [] := K7.trans Kq10 (allS (Or.inr (Nat.le_trans (Keep.refl h0 []).1 g1)) all0)
            have f13 : Exa Z T10.heap b1 z0 := (f11.keep Kq10)
            obtain ⟨_, T12, L12, hQ12, X12, st12⟩ := own_virtual X10 hx hZ (W := 0) hown (hw _ m9) (hw _ m10) (notFace_of_selects (args := #[]) (mvT hZ (hw _ m12))) (hw _ m12) (hw _ m11) (hw _ m2) (hw _ m13) (by decide) (rm9 l Z a0 hw hj w1 clw1 w2 clw2 hS [] b1 r5 T10.heap n0 O10 q10_0) (rfl : T10.heap = T10.heap) f13 (g := (mkF m 58 #[.val (.int i0), .val (.long i1), .second, .val (.int i2), .val (.ref b1), .val (.int (0 : Int32)), .val (.ref c4_0), .val (.ref r5), .val (.ref r5), .unset, .unset, .unset] [(.ref b1)])) rfl (by rw [hml]; rfl) (argsL := []) (rest := []) (lenOf pd25 rfl) rfl rfl (by show 2 * 0 + _ ≤ _; exact Nat.le_of_eq rfl) (hb hby at_58) (by decide) (by decide) (by decide) (by decide)
            obtain ⟨rfl, N12q, e12⟩ := hQ12
            have N12 := Fr.app N10 N12q
            have e12' : T12.heap = T10.heap := e12
            obtain ⟨_, T14, L14, hQ14, X14, st14⟩ := own_virtual X12 hx hZ (W := 0) hown (hw _ m36) (hw _ m37) (notFace_of_selects (args := #[]) (mvT hZ (hw _ m39))) (hw _ m39) (hw _ m38) (hw _ m2) (hw _ m40) (by decide) (rm10 l Z a0 hw hj w1 clw1 w2 clw2 hS [] b1 r5 T10.heap n0 O10 q10_0) e12' f13 (g := (mkF m 65 #[.val (.int i0), .val (.long i1), .second, .val (.int i2), .val (.ref b1), .val (.int (0 : Int32)), .val (.ref c4_0), .val (.ref r5), .val (.ref r5), .val (.int (1 : Int32)), .unset, .unset] [(.ref b1)])) rfl (by rw [hml]; rfl) (argsL := []) (rest := []) (lenOf pd125 rfl) rfl rfl (by show 2 * 0 + _ ≤ _; exact Nat.le_of_eq rfl) (hb hby at_65) (by decide) (by decide) (by decide) (by decide)
            obtain ⟨rfl, N14q, e14⟩ := hQ14
            have N14 := Fr.app N12 N14q
            have e14' : T14.heap = T10.heap := e14
            obtain ⟨_, T15, L15, hQ15, X15, st15⟩ := own_virtual X14 hx hZ (W := 0) hown (hw _ m36) (hw _ m37) (notFace_of_selects (args := #[]) (mvT hZ (hw _ m39))) (hw _ m39) (hw _ m38) (hw _ m2) (hw _ m40) (by decide) (rm10 l Z a0 hw hj w1 clw1 w2 clw2 hS [] b1 r5 T10.heap n0 O10 q10_0) e14' f13 (g := (mkF m 72 #[.val (.int i0), .val (.long i1), .second, .val (.int i2), .val (.ref b1), .val (.int (0 : Int32)), .val (.ref c4_0), .val (.ref r5), .val (.ref r5), .val (.int (1 : Int32)), .val (.ref r5), .unset] [(.ref b1)])) rfl (by rw [hml]; rfl) (argsL := []) (rest := []) (lenOf pd125 rfl) rfl rfl (by show 2 * 0 + _ ≤ _; exact Nat.le_of_eq rfl) (hb hby at_72) (by decide) (by decide) (by decide) (by decide)
            obtain ⟨rfl, N15q, e15⟩ := hQ15
            have N15 := Fr.app N14 N15q
            have e15' : T15.heap = T10.heap := e15
            obtain ⟨fs, hr, hrun, hended, hW, hsame⟩ := X15.leave (v := some (.int (1 : Int32))) (fun h => by rw [Bd.returns] at h; cases h)
            refine ⟨_, _, pre3 _ ?_, hrun, hended, _, _, rfl, ?_, ⟨_, rfl⟩, hW, hsame.mono (by decide) (by decide)⟩
            · show Steps p.tables e below (T7.setTop (mkF m 41 #[.val (.int i0), .val (.long i1), .second, .val (.int i2), .val (.ref b1), .val (.int (0 : Int32)), .val (.ref c4_0), .val (.ref r5), .val (.ref c4_0), .unset, .unset, .unset] [(.int (1 : Int32)), (.int i2)])) _
              refine Own.iand X7.here hx rfl (hb hby at_41) rfl hp4 ?_
              refine XS.ifNo X7.here hx rfl (hb hby at_42) rfl ((if0 _ _).trans (feq (by decide : ¬ ((1 : Int32) = (0 : Int32)))).1) ?_
              refine XS.aload X7.here hx rfl (hb hby at_45) rfl rfl ?_
              refine XS.aload X7.here hx rfl (hb hby at_47) rfl rfl ?_
              show Steps p.tables e below (T7.setTop (mkF m 49 #[.val (.int i0), .val (.long i1), .second, .val (.int i2), .val (.ref b1), .val (.int (0 : Int32)), .val (.ref c4_0), .val (.ref r5), .val (.ref c4_0), .unset, .unset, .unset] [(.ref r5), (.ref b1)])) _
              refine st10 _ ?_
              refine XS.aload X10.here hx rfl (hb hby at_52) rfl rfl ?_
              refine XS.astore X10.here hx rfl (hb hby at_54) rfl rfl (l' := #[.val (.int i0), .val (.long i1), .second, .val (.int i2), .val (.ref b1), .val (.int (0 : Int32)), .val (.ref c4_0), .val (.ref r5), .val (.ref r5), .unset, .unset, .unset]) rfl ?_
              refine XS.aload X10.here hx rfl (hb hby at_56) rfl rfl ?_
              show Steps p.tables e below (T10.setTop (mkF m 58 #[.val (.int i0), .val (.long i1), .second, .val (.int i2), .val (.ref b1), .val (.int (0 : Int32)), .val (.ref c4_0), .val (.ref r5), .val (.ref r5), .unset, .unset, .unset] [(.ref b1)])) _
              refine st12 _ ?_
              refine XS.istore X12.here hx rfl (hb hby at_61) rfl (l' := #[.val (.int i0), .val (.long i1), .second, .val (.int i2), .val (.ref b1), .val (.int (0 : Int32)), .val (.ref c4_0), .val (.ref r5), .val (.ref r5), .val (.int (1 : Int32)), .unset, .unset]) rfl ?_
              refine XS.aload X12.here hx rfl (hb hby at_63) rfl rfl ?_
              refine st14 _ ?_
              show Steps p.tables e below (T14.setTop (mkF m 68 #[.val (.int i0), .val (.long i1), .second, .val (.int i2), .val (.ref b1), .val (.int (0 : Int32)), .val (.ref c4_0), .val (.ref r5), .val (.ref r5), .val (.int (1 : Int32)), .unset, .unset] [(.ref r5)])) _
              refine XS.astore X14.here hx rfl (hb hby at_68) rfl rfl (l' := #[.val (.int i0), .val (.long i1), .second, .val (.int i2), .val (.ref b1), .val (.int (0 : Int32)), .val (.ref c4_0), .val (.ref r5), .val (.ref r5), .val (.int (1 : Int32)), .val (.ref r5), .unset]) rfl ?_
              refine XS.aload X14.here hx rfl (hb hby at_70) rfl rfl ?_
              refine st15 _ ?_
              refine XS.astore X15.here hx rfl (hb hby at_75) rfl rfl (l' := #[.val (.int i0), .val (.long i1), .second, .val (.int i2), .val (.ref b1), .val (.int (0 : Int32)), .val (.ref c4_0), .val (.ref r5), .val (.ref r5), .val (.int (1 : Int32)), .val (.ref r5), .val (.ref r5)]) rfl ?_
              show Steps p.tables e below (T15.setTop (mkF m 77 #[.val (.int i0), .val (.long i1), .second, .val (.int i2), .val (.ref b1), .val (.int (0 : Int32)), .val (.ref c4_0), .val (.ref r5), .val (.ref r5), .val (.int (1 : Int32)), .val (.ref r5), .val (.ref r5)] [])) _
              refine XS.iload X15.here hx rfl (hb hby at_77) rfl ?_
              refine XS.ifNo X15.here hx rfl (hb hby at_79) rfl ((if0 _ _).trans (teq (by decide : (0 : Int32) = (0 : Int32))).2) ?_
              refine XS.iload X15.here hx rfl (hb hby at_82) rfl ?_
              refine XS.ifNo X15.here hx rfl (hb hby at_84) rfl ((if0 _ _).trans (feq (by decide : ¬ ((1 : Int32) = (0 : Int32)))).1) ?_
              show Steps p.tables e below (T15.setTop (mkF m 87 #[.val (.int i0), .val (.long i1), .second, .val (.int i2), .val (.ref b1), .val (.int (0 : Int32)), .val (.ref c4_0), .val (.ref r5), .val (.ref r5), .val (.int (1 : Int32)), .val (.ref r5), .val (.ref r5)] [])) _
              refine XS.aload X15.here hx rfl (hb hby at_87) rfl rfl ?_
              refine XS.aload X15.here hx rfl (hb hby at_89) rfl rfl ?_
              refine Jvm.RoadKit.acmp (g := (mkF m 91 #[.val (.int i0), .val (.long i1), .second, .val (.int i2), .val (.ref b1), .val (.int (0 : Int32)), .val (.ref c4_0), .val (.ref r5), .val (.ref r5), .val (.int (1 : Int32)), .val (.ref r5), .val (.ref r5)] [(.ref r5), (.ref r5)])) X15 hx rfl rfl rfl (pc0 := 91) (pc' := 94) (same := true) rfl (hb hby at_91) rfl (decide_eq_true rfl) (by decide) (by decide) ?_
              refine XS.aload X15.here hx rfl (hb hby at_94) rfl rfl ?_
              show Steps p.tables e below (T15.setTop (mkF m 96 #[.val (.int i0), .val (.long i1), .second, .val (.int i2), .val (.ref b1), .val (.int (0 : Int32)), .val (.ref c4_0), .val (.ref r5), .val (.ref r5), .val (.int (1 : Int32)), .val (.ref r5), .val (.ref r5)] [(.ref r5)])) _
              refine XS.aload X15.here hx rfl (hb hby at_96) rfl rfl ?_
              refine Jvm.RoadKit.acmp (g := (mkF m 98 #[.val (.int i0), .val (.long i1), .second, .val (.int i2), .val (.ref b1), .val (.int (0 : Int32)), .val (.ref c4_0), .val (.ref r5), .val (.ref r5), .val (.int (1 : Int32)), .val (.ref r5), .val (.ref r5)] [(.ref r5), (.ref r5)])) X15 hx rfl rfl rfl (pc0 := 98) (pc' := 101) (same := true) rfl (hb hby at_98) rfl (decide_eq_true rfl) (by decide) (by decide) ?_
              refine XS.iconst X15.here hx rfl (hb hby at_101) ?_
              refine XS.goto X15.here hx rfl (pc0 := 102) (pc' := 106) rfl (hb hby at_102) (by decide) (by decide) ?_
              show Steps p.tables e below (T15.setTop (mkF m 106 #[.val (.int i0), .val (.long i1), .second, .val (.int i2), .val (.ref b1), .val (.int (0 : Int32)), .val (.ref c4_0), .val (.ref r5), .val (.ref r5), .val (.int (1 : Int32)), .val (.ref r5), .val (.ref r5)] [(.int (1 : Int32))])) _
              exact retN X15 hx (t := .boolean) Bd.returns (by simp) (hb hby at_106) hr
            · show QL n0 _ T15.heap _
              exact ⟨rfl, N15⟩
    · obtain ⟨r4, re4, rx4, rv4⟩ := own_box hS.2.2.1 (by have q0 := own_rng i0; have q1 := (by decide : ((128 : Int32)).toInt = 128); have q2 := c_iadd i0 (128 : Int32); have q3 := own_rng (i0 + (128 : Int32)); have q4 := (by decide : ((0 : Int32)).toInt = 0); have q5 := (by decide : ((-128 : Int32)).toInt = -128); have q6 := own_ltF' hp0; have q7 := (by decide : ((127 : Int32)).toInt = 127); have q8 := own_ltF' hp1; exact own_ltF (by omega) : ¬ ((i0 + (128 : Int32)) < (0 : Int32))) (by have q0 := own_rng i0; have q1 := (by decide : ((128 : Int32)).toInt = 128); have q2 := c_iadd i0 (128 : Int32); have q3 := own_rng (i0 + (128 : Int32)); have q4 := (by decide : ((256 : Int32)).toInt = 256); have q5 := (by decide : ((-128 : Int32)).toInt = -128); have q6 := own_ltF' hp0; have q7 := (by decide : ((127 : Int32)).toInt = 127); have q8 := own_ltF' hp1; exact own_ltT (by omega) : (i0 + (128 : Int32)) < (256 : Int32))
      obtain ⟨_, T5, L5, hQ5, X5, st5⟩ := own_callS X3 hx hZ (W := 0) hown (hw _ m16) (hw _ m17) (hw _ m18) (hw _ m19) (by decide) (rm15 l Z a0 hw hj w1 clw1 w2 clw2 hS [] i0 r4 h1 n0 O1 hp0 hp1 re4 (by have q0 := own_rng i0; have q1 := (by decide : ((128 : Int32)).toInt = 128); have q2 := c_iadd i0 (128 : Int32); have q3 := own_rng (i0 + (128 : Int32)); have q4 := (by decide : ((0 : Int32)).toInt = 0); have q5 := (by decide : ((-128 : Int32)).toInt = -128); have q6 := own_ltF' hp0; have q7 := (by decide : ((127 : Int32)).toInt = 127); have q8 := own_ltF' hp1; exact own_ltF (by omega) : ¬ ((i0 + (128 : Int32)) < (0 : Int32))) (by have q0 := own_rng i0; have q1 := (by decide : ((128 : Int32)).toInt = 128); have q2 := c_iadd i0 (128 : Int32); have q3 := own_rng (i0 + (128 : Int32)); have q4 := (by decide : ((256 : Int32)).toInt = 256); have q5 := (by decide : ((-128 : Int32)).toInt = -128); have q6 := own_ltF' hp0; have q7 := (by decide : ((127 : Int32)).toInt = 127); have q8 := own_ltF' hp1; exact own_ltT (by omega) : (i0 + (128 : Int32)) < (256 : Int32))) e3' (g := (mkF m 17 #[.val (.int i0), .val (.long i1), .second, .val (.int i2), .val (.ref b1), .val (.int (0 : Int32)), .unset, .unset, .unset, .unset, .unset, .unset] [(.int i0)])) rfl (by rw [hml]; rfl) (argsL := [(.int i0)]) (rest := []) (lenOf pd65 rfl) rfl rfl (by show 2 * 0 + _ ≤ _; exact Nat.le_of_eq rfl) (hb hby at_17) (by decide) (by decide) (by decide) (by decide)
      obtain ⟨rfl, N5q, e5⟩ := hQ5
      have N5 := Fr.app N3 N5q
      have e5' : T5.heap = h1 := e5
      have pre2 : ∀ t, Steps p.tables e below (T5.setTop (mkF m 23 #[.val (.int i0), .val (.long i1), .second, .val (.int i2), .val (.ref b1), .val (.int (0 : Int32)), .val (.ref r4), .unset, .unset, .unset, .unset, .unset] [(.long i1)])) t → Steps p.tables e below (s₁.setTop (entryFrame m #[(.int i0), (.long i1), (.int i2)] maxLocals)) t := fun t kt => pre1 _ (by
          show Steps p.tables e below (T3.setTop (mkF m 17 #[.val (.int i0), .val (.long i1), .second, .val (.int i2), .val (.ref b1), .val (.int (0 : Int32)), .unset, .unset, .unset, .unset, .unset, .unset] [(.int i0)])) _
          refine st5 _ ?_
          refine XS.astore X5.here hx rfl (hb hby at_20) rfl rfl (l' := #[.val (.int i0), .val (.long i1), .second, .val (.int i2), .val (.ref b1), .val (.int (0 : Int32)), .val (.ref r4), .unset, .unset, .unset, .unset, .unset]) rfl ?_
          refine XS.lloadN X5.here hx rfl (hb hby at_22) rfl ?_
          exact kt)
      rcases Decidable.em (i1 < (-128 : Int64)) with hp2 | hp2
      · obtain ⟨_, T6, L6, hQ6, X6, st6⟩ := own_callS X5 hx hZ (W := 0) hown (hw _ m23) (hw _ m24) (hw _ m25) (hw _ m26) (by decide) (rm7 l Z a0 hw hj w1 clw1 w2 clw2 hS [] i1 h1 n0 O1 hp2) e5' (g := (mkF m 23 #[.val (.int i0), .val (.long i1), .second, .val (.int i2), .val (.ref b1), .val (.int (0 : Int32)), .val (.ref r4), .unset, .unset, .unset, .unset, .unset] [(.long i1)])) rfl (by rw [hml]; rfl) (argsL := [(.long i1)]) (rest := []) (lenOf pd100 rfl) rfl rfl (by show 2 * 0 + _ ≤ _; exact Nat.le_of_eq rfl) (hb hby at_23) (by decide) (by decide) (by decide) (by decide)
        obtain ⟨c6_0, rfl, N6q, Kq6, lo6_0, q6_0, q6_1⟩ := hQ6
        have N6 := Fr.app N5 N6q
        have O6 : Old Z n0 T6.heap := O1.keep Kq6 all0
        have K6 : Keep h0 T6.heap [] := K1.trans Kq6 all0
        have f8 : Exa Z T6.heap b1 z0 := (A1.keep Kq6)
        have f9 : Fld Z T6.heap b1 z0 "value" z4 .null := (F1_1.keep Kq6 nin0)
        obtain ⟨_, T7, L7, hQ7, X7, st7⟩ := own_virtual X6 hx hZ (W := 0) hown (hw _ m31) (hw _ m32) (notFace_of_selects (args := #[]) (mvT hZ (hw _ m34))) (hw _ m34) (hw _ m33) (hw _ m2) (hw _ m35) (by decide) (rm8 l Z a0 hw hj w1 clw1 w2 clw2 hS [] b1 r4 T6.heap n0 O6 f8 f9 (Nat.le_trans (own_old_le O0) g1)) (rfl : T6.heap = T6.heap) f8 (g := (mkF m 32 #[.val (.int i0), .val (.long i1), .second, .val (.int i2), .val (.ref b1), .val (.int (0 : Int32)), .val (.ref r4), .val (.ref c6_0), .unset, .unset, .unset, .unset] [(.ref r4), (.ref b1)])) rfl (by rw [hml]; rfl) (argsL := [(.ref r4)]) (rest := []) (lenOf pd110 rfl) rfl rfl (by show 2 * 0 + _ ≤ _; exact Nat.le_of_eq rfl) (hb hby at_32) (by decide) (by decide) (by decide) (by decide)
        obtain ⟨rfl, N7q, Kq7, q7_0⟩ := hQ7
        have N7 := Fr.app N6 N7q
        have O7 : Old Z n0 T7.heap := O6.keep Kq7 (allS (Nat.le_trans (own_old_le O0) g1) all0)
        have K7 : Keep h0 T7.heap [] := K6.trans Kq7 (allS (Or.inr (Nat.le_trans (Keep.refl h0 []).1 g1)) all0)
        have pre3 : ∀ t, Steps p.tables e below (T7.setTop (mkF m 41 #[.val (.int i0), .val (.long i1), .second, .val (.int i2), .val (.ref b1), .val (.int (0 : Int32)), .val (.ref r4), .val (.ref c6_0), .val (.ref r4), .unset, .unset, .unset] [(.int (1 : Int32)), (.int i2)])) t → Steps p.tables e below (s₁.setTop (entryFrame m #[(.int i0), (.long i1), (.int i2)] maxLocals)) t := fun t kt => pre2 _ (by
            refine st6 _ ?_
            show Steps p.tables e below (T6.setTop (mkF m 26 #[.val (.int i0), .val (.long i1), .second, .val (.int i2), .val (.ref b1), .val (.int (0 : Int32)), .val (.ref r4), .unset, .unset, .unset, .unset, .unset] [(.ref c6_0)])) _
            refine XS.astore X6.here hx rfl (hb hby at_26) rfl rfl (l' := #[.val (.int i0), .val (.long i1), .second, .val (.int i2), .val (.ref b1), .val (.int (0 : Int32)), .val (.ref r4), .val (.ref c6_0), .unset, .unset, .unset, .unset]) rfl ?_
            refine XS.aload X6.here hx rfl (hb hby at_28) rfl rfl ?_
            refine XS.aload X6.here hx rfl (hb hby at_30) rfl rfl ?_
            refine st7 _ ?_
            show Steps p.tables e below (T7.setTop (mkF m 35 #[.val (.int i0), .val (.long i1), .second, .val (.int i2), .val (.ref b1), .val (.int (0 : Int32)), .val (.ref r4), .val (.ref c6_0), .unset, .unset, .unset, .unset] [])) _
            refine XS.aload X7.here hx rfl (hb hby at_35) rfl rfl ?_
            refine XS.astore X7.here hx rfl (hb hby at_37) rfl rfl (l' := #[.val (.int i0), .val (.long i1), .second, .val (.int i2), .val (.ref b1), .val (.int (0 : Int32)), .val (.ref r4), .val (.ref c6_0), .val (.ref r4), .unset, .unset, .unset]) rfl ?_
            refine XS.iloadN X7.here hx rfl (hb hby at_39) rfl ?_
            refine XS.iconst X7.here hx rfl (hb hby at_40) ?_
            exact kt)
        rcases en_113 (i2 &&& (1 : Int32)) (by have q0 := own_rng i2; have q1 := (by decide : ((1 : Int32)).toInt = 1); have q2 := (own_mask i2 (1 : Int32) (by decide) : 0 ≤ ((i2 &&& (1 : Int32))).toInt ∧ ((i2 &&& (1 : Int32))).toInt ≤ 1); omega) with hp3 | hp3
        · have f11 : Exa Z T7.heap b1 z0 := (f8.keep Kq7)
          obtain ⟨_, T10, L10, hQ10, X10, st10⟩ := own_virtual X7 hx hZ (W := 0) hown (hw _ m9) (hw _ m10) (notFace_of_selects (args := #[]) (mvT hZ (hw _ m12))) (hw _ m12) (hw _ m11) (hw _ m2) (hw _ m13) (by decide) (rm9 l Z a0 hw hj w1 clw1 w2 clw2 hS [] b1 r4 T7.heap n0 O7 q7_0) (rfl : T7.heap = T7.heap) f11 (g := (mkF m 58 #[.val (.int i0), .val (.long i1), .second, .val (.int i2), .val (.ref b1), .val (.int (0 : Int32)), .val (.ref r4), .val (.ref c6_0), .val (.ref r4), .unset, .unset, .unset] [(.ref b1)])) rfl (by rw [hml]; rfl) (argsL := []) (rest := []) (lenOf pd25 rfl) rfl rfl (by show 2 * 0 + _ ≤ _; exact Nat.le_of_eq rfl) (hb hby at_58) (by decide) (by decide) (by decide) (by decide)
          obtain ⟨rfl, N10q, e10⟩ := hQ10
          have N10 := Fr.app N7 N10q
          have e10' : T10.heap = T7.heap := e10
          obtain ⟨_, T12, L12, hQ12, X12, st12⟩ := own_virtual X10 hx hZ (W := 0) hown (hw _ m36) (hw _ m37) (notFace_of_selects (args := #[]) (mvT hZ (hw _ m39))) (hw _ m39) (hw _ m38) (hw _ m2) (hw _ m40) (by decide) (rm10 l Z a0 hw hj w1 clw1 w2 clw2 hS [] b1 r4 T7.heap n0 O7 q7_0) e10' f11 (g := (mkF m 65 #[.val (.int i0), .val (.long i1), .second, .val (.int i2), .val (.ref b1), .val (.int (0 : Int32)), .val (.ref r4), .val (.ref c6_0), .val (.ref r4), .val (.int (1 : Int32)), .unset, .unset] [(.ref b1)])) rfl (by rw [hml]; rfl) (argsL := []) (rest := []) (lenOf pd125 rfl) rfl rfl (by show 2 * 0 + _ ≤ _; exact Nat.le_of_eq rfl) (hb hby at_65) (by decide) (by decide) (by decide) (by decide)
          obtain ⟨rfl, N12q, e12⟩ := hQ12
          have N12 := Fr.app N10 N12q
          have e12' : T12.heap = T7.heap := e12
          obtain ⟨_, T13, L13, hQ13, X13, st13⟩ := own_virtual X12 hx hZ (W := 0) hown (hw _ m36) (hw _ m37) (notFace_of_selects (args := #[]) (mvT hZ (hw _ m39))) (hw _ m39) (hw _ m38) (hw _ m2) (hw _ m40) (by decide) (rm10 l Z a0 hw hj w1 clw1 w2 clw2 hS [] b1 r4 T7.heap n0 O7 q7_0) e12' f11 (g := (mkF m 72 #[.val (.int i0), .val (.long i1), .second, .val (.int i2), .val (.ref b1), .val (.int (0 : Int32)), .val (.ref r4), .val (.ref c6_0), .val (.ref r4), .val (.int (1 : Int32)), .val (.ref r4), .unset] [(.ref b1)])) rfl (by rw [hml]; rfl) (argsL := []) (rest := []) (lenOf pd125 rfl) rfl rfl (by show 2 * 0 + _ ≤ _; exact Nat.le_of_eq rfl) (hb hby at_72) (by decide) (by decide) (by decide) (by decide)
          obtain ⟨rfl, N13q, e13⟩ := hQ13
          have N13 := Fr.app N12 N13q
          have e13' : T13.heap = T7.heap := e13
          obtain ⟨fs, hr, hrun, hended, hW, hsame⟩ := X13.leave (v := some (.int (1 : Int32))) (fun h => by rw [Bd.returns] at h; cases h)
          refine ⟨_, _, pre3 _ ?_, hrun, hended, _, _, rfl, ?_, ⟨_, rfl⟩, hW, hsame.mono (by decide) (by decide)⟩
          · show Steps p.tables e below (T7.setTop (mkF m 41 #[.val (.int i0), .val (.long i1), .second, .val (.int i2), .val (.ref b1), .val (.int (0 : Int32)), .val (.ref r4), .val (.ref c6_0), .val (.ref r4), .unset, .unset, .unset] [(.int (1 : Int32)), (.int i2)])) _
            refine Own.iand X7.here hx rfl (hb hby at_41) rfl hp3 ?_
            refine XS.ifYes X7.here hx rfl (pc0 := 42) (pc' := 56) rfl (hb hby at_42) rfl ((if0 _ _).trans (teq (by decide : (0 : Int32) = (0 : Int32))).1) (by decide) (by decide) ?_
            refine XS.aload X7.here hx rfl (hb hby at_56) rfl rfl ?_
            refine st10 _ ?_
            show Steps p.tables e below (T10.setTop (mkF m 61 #[.val (.int i0), .val (.long i1), .second, .val (.int i2), .val (.ref b1), .val (.int (0 : Int32)), .val (.ref r4), .val (.ref c6_0), .val (.ref r4), .unset, .unset, .unset] [(.int (1 : Int32))])) _
            refine XS.istore X10.here hx rfl (hb hby at_61) rfl (l' := #[.val (.int i0), .val (.long i1), .second, .val (.int i2), .val (.ref b1), .val (.int (0 : Int32)), .val (.ref r4), .val (.ref c6_0), .val (.ref r4), .val (.int (1 : Int32)), .unset, .unset]) rfl ?_
            refine XS.aload X10.here hx rfl (hb hby at_63) rfl rfl ?_
            refine st12 _ ?_
            refine XS.astore X12.here hx rfl (hb hby at_68) rfl rfl (l' := #[.val (.int i0), .val (.long i1), .second, .val (.int i2), .val (.ref b1), .val (.int (0 : Int32)), .val (.ref r4), .val (.ref c6_0), .val (.ref r4), .val (.int (1 : Int32)), .val (.ref r4), .unset]) rfl ?_
            show Steps p.tables e below (T12.setTop (mkF m 70 #[.val (.int i0), .val (.long i1), .second, .val (.int i2), .val (.ref b1), .val (.int (0 : Int32)), .val (.ref r4), .val (.ref c6_0), .val (.ref r4), .val (.int (1 : Int32)), .val (.ref r4), .unset] [])) _
            refine XS.aload X12.here hx rfl (hb hby at_70) rfl rfl ?_
            refine st13 _ ?_
            refine XS.astore X13.here hx rfl (hb hby at_75) rfl rfl (l' := #[.val (.int i0), .val (.long i1), .second, .val (.int i2), .val (.ref b1), .val (.int (0 : Int32)), .val (.ref r4), .val (.ref c6_0), .val (.ref r4), .val (.int (1 : Int32)), .val (.ref r4), .val (.ref r4)]) rfl ?_
            refine XS.iload X13.here hx rfl (hb hby at_77) rfl ?_
            show Steps p.tables e below (T13.setTop (mkF m 79 #[.val (.int i0), .val (.long i1), .second, .val (.int i2), .val (.ref b1), .val (.int (0 : Int32)), .val (.ref r4), .val (.ref c6_0), .val (.ref r4), .val (.int (1 : Int32)), .val (.ref r4), .val (.ref r4)] [(.int (0 : Int32))])) _
            refine XS.ifNo X13.here hx rfl (hb hby at_79) rfl ((if0 _ _).trans (teq (by decide : (0 : Int32) = (0 : Int32))).2) ?_
            refine XS.iload X13.here hx rfl (hb hby at_82) rfl ?_
            refine XS.ifNo X13.here hx rfl (hb hby at_84) rfl ((if0 _ _).trans (feq (by decide : ¬ ((1 : Int32) = (0 : Int32)))).1) ?_
            refine XS.aload X13.here hx rfl (hb hby at_87) rfl rfl ?_
            show Steps p.tables e below (T13.setTop (mkF m 89 #[.val (.int i0), .val (.long i1), .second, .val (.int i2), .val (.ref b1), .val (.int (0 : Int32)), .val (.ref r4), .val (.ref c6_0), .val (.ref r4), .val (.int (1 : Int32)), .val (.ref r4), .val (.ref r4)] [(.ref r4)])) _
            refine XS.aload X13.here hx rfl (hb hby at_89) rfl rfl ?_
            refine Jvm.RoadKit.acmp (g := (mkF m 91 #[.val (.int i0), .val (.long i1), .second, .val (.int i2), .val (.ref b1), .val (.int (0 : Int32)), .val (.ref r4), .val (.ref c6_0), .val (.ref r4), .val (.int (1 : Int32)), .val (.ref r4), .val (.ref r4)] [(.ref r4), (.ref r4)])) X13 hx rfl rfl rfl (pc0 := 91) (pc' := 94) (same := true) rfl (hb hby at_91) rfl (decide_eq_true rfl) (by decide) (by decide) ?_
            refine XS.aload X13.here hx rfl (hb hby at_94) rfl rfl ?_
            refine XS.aload X13.here hx rfl (hb hby at_96) rfl rfl ?_
            show Steps p.tables e below (T13.setTop (mkF m 98 #[.val (.int i0), .val (.long i1), .second, .val (.int i2), .val (.ref b1), .val (.int (0 : Int32)), .val (.ref r4), .val (.ref c6_0), .val (.ref r4), .val (.int (1 : Int32)), .val (.ref r4), .val (.ref r4)] [(.ref r4), (.ref r4)])) _
            refine Jvm.RoadKit.acmp (g := (mkF m 98 #[.val (.int i0), .val (.long i1), .second, .val (.int i2), .val (.ref b1), .val (.int (0 : Int32)), .val (.ref r4), .val (.ref c6_0), .val (.ref r4), .val (.int (1 : Int32)), .val (.ref r4), .val (.ref r4)] [(.ref r4), (.ref r4)])) X13 hx rfl rfl rfl (pc0 := 98) (pc' := 101) (same := true) rfl (hb hby at_98) rfl (decide_eq_true rfl) (by decide) (by decide) ?_
            refine XS.iconst X13.here hx rfl (hb hby at_101) ?_
            refine XS.goto X13.here hx rfl (pc0 := 102) (pc' := 106) rfl (hb hby at_102) (by decide) (by decide) ?_
            exact retN X13 hx (t := .boolean) Bd.returns (by simp) (hb hby at_106) hr
          · show QL n0 _ T13.heap _
            exact ⟨rfl, N13⟩
        · have f11 : Exa Z T7.heap b1 z0 := (f8.keep Kq7)
          obtain ⟨_, T10, L10, hQ10, X10, st10⟩ := own_virtual X7 hx hZ (W := 0) hown (hw _ m31) (hw _ m32) (notFace_of_selects (args := #[]) (mvT hZ (hw _ m34))) (hw _ m34) (hw _ m33) (hw _ m2) (hw _ m35) (by decide) (rm11 l Z a0 hw hj w1 clw1 w2 clw2 hS [] b1 r4 c6_0 T7.heap n0 O7 f11 q7_0 (Nat.le_trans (own_old_le O0) g1)) (rfl : T7.heap = T7.heap) f11 (g := (mkF m 49 #[.val (.int i0), .val (.long i1), .second, .val (.int i2), .val (.ref b1), .val (.int (0 : Int32)), .val (.ref r4), .val (.ref c6_0), .val (.ref r4), .unset, .unset, .unset] [(.ref c6_0), (.ref b1)])) rfl (by rw [hml]; rfl) (argsL := [(.ref c6_0)]) (rest := []) (lenOf pd110 rfl) rfl rfl (by show 2 * 0 + _ ≤ _; exact Nat.le_of_eq rfl) (hb hby at_49) (by decide) (by decide) (by decide) (by decide)
          obtain ⟨rfl, N10q, Kq10, q10_0⟩ := hQ10
          have N10 := Fr.app N7 N10q
          have O10 : Old Z n0 T10.heap := O7.keep Kq10 (allS (Nat.le_trans (own_old_le O0) g1) all0)
          have K10 : Keep h0 T10.heap [] := K7.trans Kq10 (allS (Or.inr (Nat.le_trans (Keep.refl h0 []).1 g1)) all0)
          have f13 : Exa Z T10.heap b1 z0 := (f11.keep Kq10)
          obtain ⟨_, T12, L12, hQ12, X12, st12⟩ := own_virtual X10 hx hZ (W := 0) hown (hw _ m9) (hw _ m10) (notFace_of_selects (args := #[]) (mvT hZ (hw _ m12))) (hw _ m12) (hw _ m11) (hw _ m2) (hw _ m13) (by decide) (rm9 l Z a0 hw hj w1 clw1 w2 clw2 hS [] b1 c6_0 T10.heap n0 O10 q10_0) (rfl : T10.heap = T10.heap) f13 (g := (mkF m 58 #[.val (.int i0), .val (.long i1), .second, .val (.int i2), .val (.ref b1), .val (.int (0 : Int32)), .val (.ref r4), .val (.ref c6_0), .val (.ref c6_0), .unset, .unset, .unset] [(.ref b1)])) rfl (by rw [hml]; rfl) (argsL := []) (rest := []) (lenOf pd25 rfl) rfl rfl (by show 2 * 0 + _ ≤ _; exact Nat.le_of_eq rfl) (hb hby at_58) (by decide) (by decide) (by decide) (by decide)
          obtain ⟨rfl, N12q, e12⟩ := hQ12
          have N12 := Fr.app N10 N12q
          have e12' : T12.heap = T10.heap := e12
          obtain ⟨_, T14, L14, hQ14, X14, st14⟩ := own_virtual X12 hx hZ (W := 0) hown (hw _ m36) (hw _ m37) (notFace_of_selects (args := #[]) (mvT hZ (hw _ m39))) (hw _ m39) (hw _ m38) (hw _ m2) (hw _ m40) (by decide) (rm10 l Z a0 hw hj w1 clw1 w2 clw2 hS [] b1 c6_0 T10.heap n0 O10 q10_0) e12' f13 (g := (mkF m 65 #[.val (.int i0), .val (.long i1), .second, .val (.int i2), .val (.ref b1), .val (.int (0 : Int32)), .val (.ref r4), .val (.ref c6_0), .val (.ref c6_0), .val (.int (1 : Int32)), .unset, .unset] [(.ref b1)])) rfl (by rw [hml]; rfl) (argsL := []) (rest := []) (lenOf pd125 rfl) rfl rfl (by show 2 * 0 + _ ≤ _; exact Nat.le_of_eq rfl) (hb hby at_65) (by decide) (by decide) (by decide) (by decide)
          obtain ⟨rfl, N14q, e14⟩ := hQ14
          have N14 := Fr.app N12 N14q
          have e14' : T14.heap = T10.heap := e14
          obtain ⟨_, T15, L15, hQ15, X15, st15⟩ := own_virtual X14 hx hZ (W := 0) hown (hw _ m36) (hw _ m37) (notFace_of_selects (args := #[]) (mvT hZ (hw _ m39))) (hw _ m39) (hw _ m38) (hw _ m2) (hw _ m40) (by decide) (rm10 l Z a0 hw hj w1 clw1 w2 clw2 hS [] b1 c6_0 T10.heap n0 O10 q10_0) e14' f13 (g := (mkF m 72 #[.val (.int i0), .val (.long i1), .second, .val (.int i2), .val (.ref b1), .val (.int (0 : Int32)), .val (.ref r4), .val (.ref c6_0), .val (.ref c6_0), .val (.int (1 : Int32)), .val (.ref c6_0), .unset] [(.ref b1)])) rfl (by rw [hml]; rfl) (argsL := []) (rest := []) (lenOf pd125 rfl) rfl rfl (by show 2 * 0 + _ ≤ _; exact Nat.le_of_eq rfl) (hb hby at_72) (by decide) (by decide) (by decide) (by decide)
          obtain ⟨rfl, N15q, e15⟩ := hQ15
          have N15 := Fr.app N14 N15q
          have e15' : T15.heap = T10.heap := e15
          obtain ⟨fs, hr, hrun, hended, hW, hsame⟩ := X15.leave (v := some (.int (1 : Int32))) (fun h => by rw [Bd.returns] at h; cases h)
          refine ⟨_, _, pre3 _ ?_, hrun, hended, _, _, rfl, ?_, ⟨_, rfl⟩, hW, hsame.mono (by decide) (by decide)⟩
          · show Steps p.tables e below (T7.setTop (mkF m 41 #[.val (.int i0), .val (.long i1), .second, .val (.int i2), .val (.ref b1), .val (.int (0 : Int32)), .val (.ref r4), .val (.ref c6_0), .val (.ref r4), .unset, .unset, .unset] [(.int (1 : Int32)), (.int i2)])) _
            refine Own.iand X7.here hx rfl (hb hby at_41) rfl hp3 ?_
            refine XS.ifNo X7.here hx rfl (hb hby at_42) rfl ((if0 _ _).trans (feq (by decide : ¬ ((1 : Int32) = (0 : Int32)))).1) ?_
            refine XS.aload X7.here hx rfl (hb hby at_45) rfl rfl ?_
            refine XS.aload X7.here hx rfl (hb hby at_47) rfl rfl ?_
            show Steps p.tables e below (T7.setTop (mkF m 49 #[.val (.int i0), .val (.long i1), .second, .val (.int i2), .val (.ref b1), .val (.int (0 : Int32)), .val (.ref r4), .val (.ref c6_0), .val (.ref r4), .unset, .unset, .unset] [(.ref c6_0), (.ref b1)])) _
            refine st10 _ ?_
            refine XS.aload X10.here hx rfl (hb hby at_52) rfl rfl ?_
            refine XS.astore X10.here hx rfl (hb hby at_54) rfl rfl (l' := #[.val (.int i0), .val (.long i1), .second, .val (.int i2), .val (.ref b1), .val (.int (0 : Int32)), .val (.ref r4), .val (.ref c6_0), .val (.ref c6_0), .unset, .unset, .unset]) rfl ?_
            refine XS.aload X10.here hx rfl (hb hby at_56) rfl rfl ?_
            show Steps p.tables e below (T10.setTop (mkF m 58 #[.val (.int i0), .val (.long i1), .second, .val (.int i2), .val (.ref b1), .val (.int (0 : Int32)), .val (.ref r4), .val (.ref c6_0), .val (.ref c6_0), .unset, .unset, .unset] [(.ref b1)])) _
            refine st12 _ ?_
            refine XS.istore X12.here hx rfl (hb hby at_61) rfl (l' := #[.val (.int i0), .val (.long i1), .second, .val (.int i2), .val (.ref b1), .val (.int (0 : Int32)), .val (.ref r4), .val (.ref c6_0), .val (.ref c6_0), .val (.int (1 : Int32)), .unset, .unset]) rfl ?_
            refine XS.aload X12.here hx rfl (hb hby at_63) rfl rfl ?_
            refine st14 _ ?_
            show Steps p.tables e below (T14.setTop (mkF m 68 #[.val (.int i0), .val (.long i1), .second, .val (.int i2), .val (.ref b1), .val (.int (0 : Int32)), .val (.ref r4), .val (.ref c6_0), .val (.ref c6_0), .val (.int (1 : Int32)), .unset, .unset] [(.ref c6_0)])) _
            refine XS.astore X14.here hx rfl (hb hby at_68) rfl rfl (l' := #[.val (.int i0), .val (.long i1), .second, .val (.int i2), .val (.ref b1), .val (.int (0 : Int32)), .val (.ref r4), .val (.ref c6_0), .val (.ref c6_0), .val (.int (1 : Int32)), .val (.ref c6_0), .unset]) rfl ?_
            refine XS.aload X14.here hx rfl (hb hby at_70) rfl rfl ?_
            refine st15 _ ?_
            refine XS.astore X15.here hx rfl (hb hby at_75) rfl rfl (l' := #[.val (.int i0), .val (.long i1), .second, .val (.int i2), .val (.ref b1), .val (.int (0 : Int32)), .val (.ref r4), .val (.ref c6_0), .val (.ref c6_0), .val (.int (1 : Int32)), .val (.ref c6_0), .val (.ref c6_0)]) rfl ?_
            show Steps p.tables e below (T15.setTop (mkF m 77 #[.val (.int i0), .val (.long i1), .second, .val (.int i2), .val (.ref b1), .val (.int (0 : Int32)), .val (.ref r4), .val (.ref c6_0), .val (.ref c6_0), .val (.int (1 : Int32)), .val (.ref c6_0), .val (.ref c6_0)] [])) _
            refine XS.iload X15.here hx rfl (hb hby at_77) rfl ?_
            refine XS.ifNo X15.here hx rfl (hb hby at_79) rfl ((if0 _ _).trans (teq (by decide : (0 : Int32) = (0 : Int32))).2) ?_
            refine XS.iload X15.here hx rfl (hb hby at_82) rfl ?_
            refine XS.ifNo X15.here hx rfl (hb hby at_84) rfl ((if0 _ _).trans (feq (by decide : ¬ ((1 : Int32) = (0 : Int32)))).1) ?_
            show Steps p.tables e below (T15.setTop (mkF m 87 #[.val (.int i0), .val (.long i1), .second, .val (.int i2), .val (.ref b1), .val (.int (0 : Int32)), .val (.ref r4), .val (.ref c6_0), .val (.ref c6_0), .val (.int (1 : Int32)), .val (.ref c6_0), .val (.ref c6_0)] [])) _
            refine XS.aload X15.here hx rfl (hb hby at_87) rfl rfl ?_
            refine XS.aload X15.here hx rfl (hb hby at_89) rfl rfl ?_
            refine Jvm.RoadKit.acmp (g := (mkF m 91 #[.val (.int i0), .val (.long i1), .second, .val (.int i2), .val (.ref b1), .val (.int (0 : Int32)), .val (.ref r4), .val (.ref c6_0), .val (.ref c6_0), .val (.int (1 : Int32)), .val (.ref c6_0), .val (.ref c6_0)] [(.ref c6_0), (.ref c6_0)])) X15 hx rfl rfl rfl (pc0 := 91) (pc' := 94) (same := true) rfl (hb hby at_91) rfl (decide_eq_true rfl) (by decide) (by decide) ?_
            refine XS.aload X15.here hx rfl (hb hby at_94) rfl rfl ?_
            show Steps p.tables e below (T15.setTop (mkF m 96 #[.val (.int i0), .val (.long i1), .second, .val (.int i2), .val (.ref b1), .val (.int (0 : Int32)), .val (.ref r4), .val (.ref c6_0), .val (.ref c6_0), .val (.int (1 : Int32)), .val (.ref c6_0), .val (.ref c6_0)] [(.ref c6_0)])) _
            refine XS.aload X15.here hx rfl (hb hby at_96) rfl rfl ?_
            refine Jvm.RoadKit.acmp (g := (mkF m 98 #[.val (.int i0), .val (.long i1), .second, .val (.int i2), .val (.ref b1), .val (.int (0 : Int32)), .val (.ref r4), .val (.ref c6_0), .val (.ref c6_0), .val (.int (1 : Int32)), .val (.ref c6_0), .val (.ref c6_0)] [(.ref c6_0), (.ref c6_0)])) X15 hx rfl rfl rfl (pc0 := 98) (pc' := 101) (same := true) rfl (hb hby at_98) rfl (decide_eq_true rfl) (by decide) (by decide) ?_
            refine XS.iconst X15.here hx rfl (hb hby at_101) ?_
            refine XS.goto X15.here hx rfl (pc0 := 102) (pc' := 106) rfl (hb hby at_102) (by decide) (by decide) ?_
            show Steps p.tables e below (T15.setTop (mkF m 106 #[.val (.int i0), .val (.long i1), .second, .val (.int i2), .val (.ref b1), .val (.int (0 : Int32)), .val (.ref r4), .val (.ref c6_0), .val (.ref c6_0), .val (.int (1 : Int32)), .val (.ref c6_0), .val (.ref c6_0)] [(.int (1 : Int32))])) _
            exact retN X15 hx (t := .boolean) Bd.returns (by simp) (hb hby at_106) hr
          · show QL n0 _ T15.heap _
            exact ⟨rfl, N15⟩
      · rcases Decidable.em ((127 : Int64) < i1) with hp3 | hp3
        · obtain ⟨_, T6, L6, hQ6, X6, st6⟩ := own_callS X5 hx hZ (W := 0) hown (hw _ m23) (hw _ m24) (hw _ m25) (hw _ m26) (by decide) (rm12 l Z a0 hw hj w1 clw1 w2 clw2 hS [] i1 h1 n0 O1 hp2 hp3) e5' (g := (mkF m 23 #[.val (.int i0), .val (.long i1), .second, .val (.int i2), .val (.ref b1), .val (.int (0 : Int32)), .val (.ref r4), .unset, .unset, .unset, .unset, .unset] [(.long i1)])) rfl (by rw [hml]; rfl) (argsL := [(.long i1)]) (rest := []) (lenOf pd100 rfl) rfl rfl (by show 2 * 0 + _ ≤ _; exact Nat.le_of_eq rfl) (hb hby at_23) (by decide) (by decide) (by decide) (by decide)
          obtain ⟨c6_0, rfl, N6q, Kq6, lo6_0, q6_0, q6_1⟩ := hQ6
          have N6 := Fr.app N5 N6q
          have O6 : Old Z n0 T6.heap := O1.keep Kq6 all0
          have K6 : Keep h0 T6.heap [] := K1.trans Kq6 all0
          have f8 : Exa Z T6.heap b1 z0 := (A1.keep Kq6)
          have f9 : Fld Z T6.heap b1 z0 "value" z4 .null := (F1_1.keep Kq6 nin0)
          obtain ⟨_, T7, L7, hQ7, X7, st7⟩ := own_virtual X6 hx hZ (W := 0) hown (hw _ m31) (hw _ m32) (notFace_of_selects (args := #[]) (mvT hZ (hw _ m34))) (hw _ m34) (hw _ m33) (hw _ m2) (hw _ m35) (by decide) (rm8 l Z a0 hw hj w1 clw1 w2 clw2 hS [] b1 r4 T6.heap n0 O6 f8 f9 (Nat.le_trans (own_old_le O0) g1)) (rfl : T6.heap = T6.heap) f8 (g := (mkF m 32 #[.val (.int i0), .val (.long i1), .second, .val (.int i2), .val (.ref b1), .val (.int (0 : Int32)), .val (.ref r4), .val (.ref c6_0), .unset, .unset, .unset, .unset] [(.ref r4), (.ref b1)])) rfl (by rw [hml]; rfl) (argsL := [(.ref r4)]) (rest := []) (lenOf pd110 rfl) rfl rfl (by show 2 * 0 + _ ≤ _; exact Nat.le_of_eq rfl) (hb hby at_32) (by decide) (by decide) (by decide) (by decide)
          obtain ⟨rfl, N7q, Kq7, q7_0⟩ := hQ7
          have N7 := Fr.app N6 N7q
          have O7 : Old Z n0 T7.heap := O6.keep Kq7 (allS (Nat.le_trans (own_old_le O0) g1) all0)
          have K7 : Keep h0 T7.heap [] := K6.trans Kq7 (allS (Or.inr (Nat.le_trans (Keep.refl h0 []).1 g1)) all0)
          have pre3 : ∀ t, Steps p.tables e below (T7.setTop (mkF m 41 #[.val (.int i0), .val (.long i1), .second, .val (.int i2), .val (.ref b1), .val (.int (0 : Int32)), .val (.ref r4), .val (.ref c6_0), .val (.ref r4), .unset, .unset, .unset] [(.int (1 : Int32)), (.int i2)])) t → Steps p.tables e below (s₁.setTop (entryFrame m #[(.int i0), (.long i1), (.int i2)] maxLocals)) t := fun t kt => pre2 _ (by
              refine st6 _ ?_
              show Steps p.tables e below (T6.setTop (mkF m 26 #[.val (.int i0), .val (.long i1), .second, .val (.int i2), .val (.ref b1), .val (.int (0 : Int32)), .val (.ref r4), .unset, .unset, .unset, .unset, .unset] [(.ref c6_0)])) _
              refine XS.astore X6.here hx rfl (hb hby at_26) rfl rfl (l' := #[.val (.int i0), .val (.long i1), .second, .val (.int i2), .val (.ref b1), .val (.int (0 : Int32)), .val (.ref r4), .val (.ref c6_0), .unset, .unset, .unset, .unset]) rfl ?_
              refine XS.aload X6.here hx rfl (hb hby at_28) rfl rfl ?_
              refine XS.aload X6.here hx rfl (hb hby at_30) rfl rfl ?_
              refine st7 _ ?_
              show Steps p.tables e below (T7.setTop (mkF m 35 #[.val (.int i0), .val (.long i1), .second, .val (.int i2), .val (.ref b1), .val (.int (0 : Int32)), .val (.ref r4), .val (.ref c6_0), .unset, .unset, .unset, .unset] [])) _
              refine XS.aload X7.here hx rfl (hb hby at_35) rfl rfl ?_
              refine XS.astore X7.here hx rfl (hb hby at_37) rfl rfl (l' := #[.val (.int i0), .val (.long i1), .second, .val (.int i2), .val (.ref b1), .val (.int (0 : Int32)), .val (.ref r4), .val (.ref c6_0), .val (.ref r4), .unset, .unset, .unset]) rfl ?_
              refine XS.iloadN X7.here hx rfl (hb hby at_39) rfl ?_
              refine XS.iconst X7.here hx rfl (hb hby at_40) ?_
              exact kt)
          rcases en_113 (i2 &&& (1 : Int32)) (by have q0 := own_rng i2; have q1 := (by decide : ((1 : Int32)).toInt = 1); have q2 := (own_mask i2 (1 : Int32) (by decide) : 0 ≤ ((i2 &&& (1 : Int32))).toInt ∧ ((i2 &&& (1 : Int32))).toInt ≤ 1); omega) with hp4 | hp4
          · have f11 : Exa Z T7.heap b1 z0 := (f8.keep Kq7)
            obtain ⟨_, T10, L10, hQ10, X10, st10⟩ := own_virtual X7 hx hZ (W := 0) hown (hw _ m9) (hw _ m10) (notFace_of_selects (args := #[]) (mvT hZ (hw _ m12))) (hw _ m12) (hw _ m11) (hw _ m2) (hw _ m13) (by decide) (rm9 l Z a0 hw hj w1 clw1 w2 clw2 hS [] b1 r4 T7.heap n0 O7 q7_0) (rfl : T7.heap = T7.heap) f11 (g := (mkF m 58 #[.val (.int i0), .val (.long i1), .second, .val (.int i2), .val (.ref b1), .val (.int (0 : Int32)), .val (.ref r4), .val (.ref c6_0), .val (.ref r4), .unset, .unset, .unset] [(.ref b1)])) rfl (by rw [hml]; rfl) (argsL := []) (rest := []) (lenOf pd25 rfl) rfl rfl (by show 2 * 0 + _ ≤ _; exact Nat.le_of_eq rfl) (hb hby at_58) (by decide) (by decide) (by decide) (by decide)
            obtain ⟨rfl, N10q, e10⟩ := hQ10
            have N10 := Fr.app N7 N10q
            have e10' : T10.heap = T7.heap := e10
            obtain ⟨_, T12, L12, hQ12, X12, st12⟩ := own_virtual X10 hx hZ (W := 0) hown (hw _ m36) (hw _ m37) (notFace_of_selects (args := #[]) (mvT hZ (hw _ m39))) (hw _ m39) (hw _ m38) (hw _ m2) (hw _ m40) (by decide) (rm10 l Z a0 hw hj w1 clw1 w2 clw2 hS [] b1 r4 T7.heap n0 O7 q7_0) e10' f11 (g := (mkF m 65 #[.val (.int i0), .val (.long i1), .second, .val (.int i2), .val (.ref b1), .val (.int (0 : Int32)), .val (.ref r4), .val (.ref c6_0), .val (.ref r4), .val (.int (1 : Int32)), .unset, .unset] [(.ref b1)])) rfl (by rw [hml]; rfl) (argsL := []) (rest := []) (lenOf pd125 rfl) rfl rfl (by show 2 * 0 + _ ≤ _; exact Nat.le_of_eq rfl) (hb hby at_65) (by decide) (by decide) (by decide) (by decide)
            obtain ⟨rfl, N12q, e12⟩ := hQ12
            have N12 := Fr.app N10 N12q
            have e12' : T12.heap = T7.heap := e12
            obtain ⟨_, T13, L13, hQ13, X13, st13⟩ := own_virtual X12 hx hZ (W := 0) hown (hw _ m36) (hw _ m37) (notFace_of_selects (args := #[]) (mvT hZ (hw _ m39))) (hw _ m39) (hw _ m38) (hw _ m2) (hw _ m40) (by decide) (rm10 l Z a0 hw hj w1 clw1 w2 clw2 hS [] b1 r4 T7.heap n0 O7 q7_0) e12' f11 (g := (mkF m 72 #[.val (.int i0), .val (.long i1), .second, .val (.int i2), .val (.ref b1), .val (.int (0 : Int32)), .val (.ref r4), .val (.ref c6_0), .val (.ref r4), .val (.int (1 : Int32)), .val (.ref r4), .unset] [(.ref b1)])) rfl (by rw [hml]; rfl) (argsL := []) (rest := []) (lenOf pd125 rfl) rfl rfl (by show 2 * 0 + _ ≤ _; exact Nat.le_of_eq rfl) (hb hby at_72) (by decide) (by decide) (by decide) (by decide)
            obtain ⟨rfl, N13q, e13⟩ := hQ13
            have N13 := Fr.app N12 N13q
            have e13' : T13.heap = T7.heap := e13
            obtain ⟨fs, hr, hrun, hended, hW, hsame⟩ := X13.leave (v := some (.int (1 : Int32))) (fun h => by rw [Bd.returns] at h; cases h)
            refine ⟨_, _, pre3 _ ?_, hrun, hended, _, _, rfl, ?_, ⟨_, rfl⟩, hW, hsame.mono (by decide) (by decide)⟩
            · show Steps p.tables e below (T7.setTop (mkF m 41 #[.val (.int i0), .val (.long i1), .second, .val (.int i2), .val (.ref b1), .val (.int (0 : Int32)), .val (.ref r4), .val (.ref c6_0), .val (.ref r4), .unset, .unset, .unset] [(.int (1 : Int32)), (.int i2)])) _
              refine Own.iand X7.here hx rfl (hb hby at_41) rfl hp4 ?_
              refine XS.ifYes X7.here hx rfl (pc0 := 42) (pc' := 56) rfl (hb hby at_42) rfl ((if0 _ _).trans (teq (by decide : (0 : Int32) = (0 : Int32))).1) (by decide) (by decide) ?_
              refine XS.aload X7.here hx rfl (hb hby at_56) rfl rfl ?_
              refine st10 _ ?_
              show Steps p.tables e below (T10.setTop (mkF m 61 #[.val (.int i0), .val (.long i1), .second, .val (.int i2), .val (.ref b1), .val (.int (0 : Int32)), .val (.ref r4), .val (.ref c6_0), .val (.ref r4), .unset, .unset, .unset] [(.int (1 : Int32))])) _
              refine XS.istore X10.here hx rfl (hb hby at_61) rfl (l' := #[.val (.int i0), .val (.long i1), .second, .val (.int i2), .val (.ref b1), .val (.int (0 : Int32)), .val (.ref r4), .val (.ref c6_0), .val (.ref r4), .val (.int (1 : Int32)), .unset, .unset]) rfl ?_
              refine XS.aload X10.here hx rfl (hb hby at_63) rfl rfl ?_
              refine st12 _ ?_
              refine XS.astore X12.here hx rfl (hb hby at_68) rfl rfl (l' := #[.val (.int i0), .val (.long i1), .second, .val (.int i2), .val (.ref b1), .val (.int (0 : Int32)), .val (.ref r4), .val (.ref c6_0), .val (.ref r4), .val (.int (1 : Int32)), .val (.ref r4), .unset]) rfl ?_
              show Steps p.tables e below (T12.setTop (mkF m 70 #[.val (.int i0), .val (.long i1), .second, .val (.int i2), .val (.ref b1), .val (.int (0 : Int32)), .val (.ref r4), .val (.ref c6_0), .val (.ref r4), .val (.int (1 : Int32)), .val (.ref r4), .unset] [])) _
              refine XS.aload X12.here hx rfl (hb hby at_70) rfl rfl ?_
              refine st13 _ ?_
              refine XS.astore X13.here hx rfl (hb hby at_75) rfl rfl (l' := #[.val (.int i0), .val (.long i1), .second, .val (.int i2), .val (.ref b1), .val (.int (0 : Int32)), .val (.ref r4), .val (.ref c6_0), .val (.ref r4), .val (.int (1 : Int32)), .val (.ref r4), .val (.ref r4)]) rfl ?_
              refine XS.iload X13.here hx rfl (hb hby at_77) rfl ?_
              show Steps p.tables e below (T13.setTop (mkF m 79 #[.val (.int i0), .val (.long i1), .second, .val (.int i2), .val (.ref b1), .val (.int (0 : Int32)), .val (.ref r4), .val (.ref c6_0), .val (.ref r4), .val (.int (1 : Int32)), .val (.ref r4), .val (.ref r4)] [(.int (0 : Int32))])) _
              refine XS.ifNo X13.here hx rfl (hb hby at_79) rfl ((if0 _ _).trans (teq (by decide : (0 : Int32) = (0 : Int32))).2) ?_
              refine XS.iload X13.here hx rfl (hb hby at_82) rfl ?_
              refine XS.ifNo X13.here hx rfl (hb hby at_84) rfl ((if0 _ _).trans (feq (by decide : ¬ ((1 : Int32) = (0 : Int32)))).1) ?_
              refine XS.aload X13.here hx rfl (hb hby at_87) rfl rfl ?_
              show Steps p.tables e below (T13.setTop (mkF m 89 #[.val (.int i0), .val (.long i1), .second, .val (.int i2), .val (.ref b1), .val (.int (0 : Int32)), .val (.ref r4), .val (.ref c6_0), .val (.ref r4), .val (.int (1 : Int32)), .val (.ref r4), .val (.ref r4)] [(.ref r4)])) _
              refine XS.aload X13.here hx rfl (hb hby at_89) rfl rfl ?_
              refine Jvm.RoadKit.acmp (g := (mkF m 91 #[.val (.int i0), .val (.long i1), .second, .val (.int i2), .val (.ref b1), .val (.int (0 : Int32)), .val (.ref r4), .val (.ref c6_0), .val (.ref r4), .val (.int (1 : Int32)), .val (.ref r4), .val (.ref r4)] [(.ref r4), (.ref r4)])) X13 hx rfl rfl rfl (pc0 := 91) (pc' := 94) (same := true) rfl (hb hby at_91) rfl (decide_eq_true rfl) (by decide) (by decide) ?_
              refine XS.aload X13.here hx rfl (hb hby at_94) rfl rfl ?_
              refine XS.aload X13.here hx rfl (hb hby at_96) rfl rfl ?_
              show Steps p.tables e below (T13.setTop (mkF m 98 #[.val (.int i0), .val (.long i1), .second, .val (.int i2), .val (.ref b1), .val (.int (0 : Int32)), .val (.ref r4), .val (.ref c6_0), .val (.ref r4), .val (.int (1 : Int32)), .val (.ref r4), .val (.ref r4)] [(.ref r4), (.ref r4)])) _
              refine Jvm.RoadKit.acmp (g := (mkF m 98 #[.val (.int i0), .val (.long i1), .second, .val (.int i2), .val (.ref b1), .val (.int (0 : Int32)), .val (.ref r4), .val (.ref c6_0), .val (.ref r4), .val (.int (1 : Int32)), .val (.ref r4), .val (.ref r4)] [(.ref r4), (.ref r4)])) X13 hx rfl rfl rfl (pc0 := 98) (pc' := 101) (same := true) rfl (hb hby at_98) rfl (decide_eq_true rfl) (by decide) (by decide) ?_
              refine XS.iconst X13.here hx rfl (hb hby at_101) ?_
              refine XS.goto X13.here hx rfl (pc0 := 102) (pc' := 106) rfl (hb hby at_102) (by decide) (by decide) ?_
              exact retN X13 hx (t := .boolean) Bd.returns (by simp) (hb hby at_106) hr
            · show QL n0 _ T13.heap _
              exact ⟨rfl, N13⟩
          · have f11 : Exa Z T7.heap b1 z0 := (f8.keep Kq7)
            obtain ⟨_, T10, L10, hQ10, X10, st10⟩ := own_virtual X7 hx hZ (W := 0) hown (hw _ m31) (hw _ m32) (notFace_of_selects (args := #[]) (mvT hZ (hw _ m34))) (hw _ m34) (hw _ m33) (hw _ m2) (hw _ m35) (by decide) (rm11 l Z a0 hw hj w1 clw1 w2 clw2 hS [] b1 r4 c6_0 T7.heap n0 O7 f11 q7_0 (Nat.le_trans (own_old_le O0) g1)) (rfl : T7.heap = T7.heap) f11 (g := (mkF m 49 #[.val (.int i0), .val (.long i1), .second, .val (.int i2), .val (.ref b1), .val (.int (0 : Int32)), .val (.ref r4), .val (.ref c6_0), .val (.ref r4), .unset, .unset, .unset] [(.ref c6_0), (.ref b1)])) rfl (by rw [hml]; rfl) (argsL := [(.ref c6_0)]) (rest := []) (lenOf pd110 rfl) rfl rfl (by show 2 * 0 + _ ≤ _; exact Nat.le_of_eq rfl) (hb hby at_49) (by decide) (by decide) (by decide) (by decide)
            obtain ⟨rfl, N10q, Kq10, q10_0⟩ := hQ10
            have N10 := Fr.app N7 N10q
            have O10 : Old Z n0 T10.heap := O7.keep Kq10 (allS (Nat.le_trans (own_old_le O0) g1) all0)
            have K10 : Keep h0 T10.heap [] := K7.trans Kq10 (allS (Or.inr (Nat.le_trans (Keep.refl h0 []).1 g1)) all0)
            have f13 : Exa Z T10.heap b1 z0 := (f11.keep Kq10)
            obtain ⟨_, T12, L12, hQ12, X12, st12⟩ := own_virtual X10 hx hZ (W := 0) hown (hw _ m9) (hw _ m10) (notFace_of_selects (args := #[]) (mvT hZ (hw _ m12))) (hw _ m12) (hw _ m11) (hw _ m2) (hw _ m13) (by decide) (rm9 l Z a0 hw hj w1 clw1 w2 clw2 hS [] b1 c6_0 T10.heap n0 O10 q10_0) (rfl : T10.heap = T10.heap) f13 (g := (mkF m 58 #[.val (.int i0), .val (.long i1), .second, .val (.int i2), .val (.ref b1), .val (.int (0 : Int32)), .val (.ref r4), .val (.ref c6_0), .val (.ref c6_0), .unset, .unset, .unset] [(.ref b1)])) rfl (by rw [hml]; rfl) (argsL := []) (rest := []) (lenOf pd25 rfl) rfl rfl (by show 2 * 0 + _ ≤ _; exact Nat.le_of_eq rfl) (hb hby at_58) (by decide) (by decide) (by decide) (by decide)
            obtain ⟨rfl, N12q, e12⟩ := hQ12
            have N12 := Fr.app N10 N12q
            have e12' : T12.heap = T10.heap := e12
            obtain ⟨_, T14, L14, hQ14, X14, st14⟩ := own_virtual X12 hx hZ (W := 0) hown (hw _ m36) (hw _ m37) (notFace_of_selects (args := #[]) (mvT hZ (hw _ m39))) (hw _ m39) (hw _ m38) (hw _ m2) (hw _ m40) (by decide) (rm10 l Z a0 hw hj w1 clw1 w2 clw2 hS [] b1 c6_0 T10.heap n0 O10 q10_0) e12' f13 (g := (mkF m 65 #[.val (.int i0), .val (.long i1), .second, .val (.int i2), .val (.ref b1), .val (.int (0 : Int32)), .val (.ref r4), .val (.ref c6_0), .val (.ref c6_0), .val (.int (1 : Int32)), .unset, .unset] [(.ref b1)])) rfl (by rw [hml]; rfl) (argsL := []) (rest := []) (lenOf pd125 rfl) rfl rfl (by show 2 * 0 + _ ≤ _; exact Nat.le_of_eq rfl) (hb hby at_65) (by decide) (by decide) (by decide) (by decide)
            obtain ⟨rfl, N14q, e14⟩ := hQ14
            have N14 := Fr.app N12 N14q
            have e14' : T14.heap = T10.heap := e14
            obtain ⟨_, T15, L15, hQ15, X15, st15⟩ := own_virtual X14 hx hZ (W := 0) hown (hw _ m36) (hw _ m37) (notFace_of_selects (args := #[]) (mvT hZ (hw _ m39))) (hw _ m39) (hw _ m38) (hw _ m2) (hw _ m40) (by decide) (rm10 l Z a0 hw hj w1 clw1 w2 clw2 hS [] b1 c6_0 T10.heap n0 O10 q10_0) e14' f13 (g := (mkF m 72 #[.val (.int i0), .val (.long i1), .second, .val (.int i2), .val (.ref b1), .val (.int (0 : Int32)), .val (.ref r4), .val (.ref c6_0), .val (.ref c6_0), .val (.int (1 : Int32)), .val (.ref c6_0), .unset] [(.ref b1)])) rfl (by rw [hml]; rfl) (argsL := []) (rest := []) (lenOf pd125 rfl) rfl rfl (by show 2 * 0 + _ ≤ _; exact Nat.le_of_eq rfl) (hb hby at_72) (by decide) (by decide) (by decide) (by decide)
            obtain ⟨rfl, N15q, e15⟩ := hQ15
            have N15 := Fr.app N14 N15q
            have e15' : T15.heap = T10.heap := e15
            obtain ⟨fs, hr, hrun, hended, hW, hsame⟩ := X15.leave (v := some (.int (1 : Int32))) (fun h => by rw [Bd.returns] at h; cases h)
            refine ⟨_, _, pre3 _ ?_, hrun, hended, _, _, rfl, ?_, ⟨_, rfl⟩, hW, hsame.mono (by decide) (by decide)⟩
            · show Steps p.tables e below (T7.setTop (mkF m 41 #[.val (.int i0), .val (.long i1), .second, .val (.int i2), .val (.ref b1), .val (.int (0 : Int32)), .val (.ref r4), .val (.ref c6_0), .val (.ref r4), .unset, .unset, .unset] [(.int (1 : Int32)), (.int i2)])) _
              refine Own.iand X7.here hx rfl (hb hby at_41) rfl hp4 ?_
              refine XS.ifNo X7.here hx rfl (hb hby at_42) rfl ((if0 _ _).trans (feq (by decide : ¬ ((1 : Int32) = (0 : Int32)))).1) ?_
              refine XS.aload X7.here hx rfl (hb hby at_45) rfl rfl ?_
              refine XS.aload X7.here hx rfl (hb hby at_47) rfl rfl ?_
              show Steps p.tables e below (T7.setTop (mkF m 49 #[.val (.int i0), .val (.long i1), .second, .val (.int i2), .val (.ref b1), .val (.int (0 : Int32)), .val (.ref r4), .val (.ref c6_0), .val (.ref r4), .unset, .unset, .unset] [(.ref c6_0), (.ref b1)])) _
              refine st10 _ ?_
              refine XS.aload X10.here hx rfl (hb hby at_52) rfl rfl ?_
              refine XS.astore X10.here hx rfl (hb hby at_54) rfl rfl (l' := #[.val (.int i0), .val (.long i1), .second, .val (.int i2), .val (.ref b1), .val (.int (0 : Int32)), .val (.ref r4), .val (.ref c6_0), .val (.ref c6_0), .unset, .unset, .unset]) rfl ?_
              refine XS.aload X10.here hx rfl (hb hby at_56) rfl rfl ?_
              show Steps p.tables e below (T10.setTop (mkF m 58 #[.val (.int i0), .val (.long i1), .second, .val (.int i2), .val (.ref b1), .val (.int (0 : Int32)), .val (.ref r4), .val (.ref c6_0), .val (.ref c6_0), .unset, .unset, .unset] [(.ref b1)])) _
              refine st12 _ ?_
              refine XS.istore X12.here hx rfl (hb hby at_61) rfl (l' := #[.val (.int i0), .val (.long i1), .second, .val (.int i2), .val (.ref b1), .val (.int (0 : Int32)), .val (.ref r4), .val (.ref c6_0), .val (.ref c6_0), .val (.int (1 : Int32)), .unset, .unset]) rfl ?_
              refine XS.aload X12.here hx rfl (hb hby at_63) rfl rfl ?_
              refine st14 _ ?_
              show Steps p.tables e below (T14.setTop (mkF m 68 #[.val (.int i0), .val (.long i1), .second, .val (.int i2), .val (.ref b1), .val (.int (0 : Int32)), .val (.ref r4), .val (.ref c6_0), .val (.ref c6_0), .val (.int (1 : Int32)), .unset, .unset] [(.ref c6_0)])) _
              refine XS.astore X14.here hx rfl (hb hby at_68) rfl rfl (l' := #[.val (.int i0), .val (.long i1), .second, .val (.int i2), .val (.ref b1), .val (.int (0 : Int32)), .val (.ref r4), .val (.ref c6_0), .val (.ref c6_0), .val (.int (1 : Int32)), .val (.ref c6_0), .unset]) rfl ?_
              refine XS.aload X14.here hx rfl (hb hby at_70) rfl rfl ?_
              refine st15 _ ?_
              refine XS.astore X15.here hx rfl (hb hby at_75) rfl rfl (l' := #[.val (.int i0), .val (.long i1), .second, .val (.int i2), .val (.ref b1), .val (.int (0 : Int32)), .val (.ref r4), .val (.ref c6_0), .val (.ref c6_0), .val (.int (1 : Int32)), .val (.ref c6_0), .val (.ref c6_0)]) rfl ?_
              show Steps p.tables e below (T15.setTop (mkF m 77 #[.val (.int i0), .val (.long i1), .second, .val (.int i2), .val (.ref b1), .val (.int (0 : Int32)), .val (.ref r4), .val (.ref c6_0), .val (.ref c6_0), .val (.int (1 : Int32)), .val (.ref c6_0), .val (.ref c6_0)] [])) _
              refine XS.iload X15.here hx rfl (hb hby at_77) rfl ?_
              refine XS.ifNo X15.here hx rfl (hb hby at_79) rfl ((if0 _ _).trans (teq (by decide : (0 : Int32) = (0 : Int32))).2) ?_
              refine XS.iload X15.here hx rfl (hb hby at_82) rfl ?_
              refine XS.ifNo X15.here hx rfl (hb hby at_84) rfl ((if0 _ _).trans (feq (by decide : ¬ ((1 : Int32) = (0 : Int32)))).1) ?_
              show Steps p.tables e below (T15.setTop (mkF m 87 #[.val (.int i0), .val (.long i1), .second, .val (.int i2), .val (.ref b1), .val (.int (0 : Int32)), .val (.ref r4), .val (.ref c6_0), .val (.ref c6_0), .val (.int (1 : Int32)), .val (.ref c6_0), .val (.ref c6_0)] [])) _
              refine XS.aload X15.here hx rfl (hb hby at_87) rfl rfl ?_
              refine XS.aload X15.here hx rfl (hb hby at_89) rfl rfl ?_
              refine Jvm.RoadKit.acmp (g := (mkF m 91 #[.val (.int i0), .val (.long i1), .second, .val (.int i2), .val (.ref b1), .val (.int (0 : Int32)), .val (.ref r4), .val (.ref c6_0), .val (.ref c6_0), .val (.int (1 : Int32)), .val (.ref c6_0), .val (.ref c6_0)] [(.ref c6_0), (.ref c6_0)])) X15 hx rfl rfl rfl (pc0 := 91) (pc' := 94) (same := true) rfl (hb hby at_91) rfl (decide_eq_true rfl) (by decide) (by decide) ?_
              refine XS.aload X15.here hx rfl (hb hby at_94) rfl rfl ?_
              show Steps p.tables e below (T15.setTop (mkF m 96 #[.val (.int i0), .val (.long i1), .second, .val (.int i2), .val (.ref b1), .val (.int (0 : Int32)), .val (.ref r4), .val (.ref c6_0), .val (.ref c6_0), .val (.int (1 : Int32)), .val (.ref c6_0), .val (.ref c6_0)] [(.ref c6_0)])) _
              refine XS.aload X15.here hx rfl (hb hby at_96) rfl rfl ?_
              refine Jvm.RoadKit.acmp (g := (mkF m 98 #[.val (.int i0), .val (.long i1), .second, .val (.int i2), .val (.ref b1), .val (.int (0 : Int32)), .val (.ref r4), .val (.ref c6_0), .val (.ref c6_0), .val (.int (1 : Int32)), .val (.ref c6_0), .val (.ref c6_0)] [(.ref c6_0), (.ref c6_0)])) X15 hx rfl rfl rfl (pc0 := 98) (pc' := 101) (same := true) rfl (hb hby at_98) rfl (decide_eq_true rfl) (by decide) (by decide) ?_
              refine XS.iconst X15.here hx rfl (hb hby at_101) ?_
              refine XS.goto X15.here hx rfl (pc0 := 102) (pc' := 106) rfl (hb hby at_102) (by decide) (by decide) ?_
              show Steps p.tables e below (T15.setTop (mkF m 106 #[.val (.int i0), .val (.long i1), .second, .val (.int i2), .val (.ref b1), .val (.int (0 : Int32)), .val (.ref r4), .val (.ref c6_0), .val (.ref c6_0), .val (.int (1 : Int32)), .val (.ref c6_0), .val (.ref c6_0)] [(.int (1 : Int32))])) _
              exact retN X15 hx (t := .boolean) Bd.returns (by simp) (hb hby at_106) hr
            · show QL n0 _ T15.heap _
              exact ⟨rfl, N15⟩
        · obtain ⟨r6, re6, rx6, rv6⟩ := own_box hS.2.2.2.2 (by have q0 := own_rngL i1; have q1 := c_l2i i1; have q2 := own_rng (i1.toInt32); have q3 := (by decide : ((128 : Int32)).toInt = 128); have q4 := c_iadd (i1.toInt32) (128 : Int32); have q5 := own_rng ((i1.toInt32) + (128 : Int32)); have q6 := (by decide : ((0 : Int32)).toInt = 0); have q7 := (by decide : ((-128 : Int64)).toInt = -128); have q8 := own_ltF'L hp2; have q9 := (by decide : ((127 : Int64)).toInt = 127); have q10 := own_ltF'L hp3; exact own_ltF (by omega) : ¬ (((i1.toInt32) + (128 : Int32)) < (0 : Int32))) (by have q0 := own_rngL i1; have q1 := c_l2i i1; have q2 := own_rng (i1.toInt32); have q3 := (by decide : ((128 : Int32)).toInt = 128); have q4 := c_iadd (i1.toInt32) (128 : Int32); have q5 := own_rng ((i1.toInt32) + (128 : Int32)); have q6 := (by decide : ((256 : Int32)).toInt = 256); have q7 := (by decide : ((-128 : Int64)).toInt = -128); have q8 := own_ltF'L hp2; have q9 := (by decide : ((127 : Int64)).toInt = 127); have q10 := own_ltF'L hp3; exact own_ltT (by omega) : ((i1.toInt32) + (128 : Int32)) < (256 : Int32))
          obtain ⟨_, T7, L7, hQ7, X7, st7⟩ := own_callS X5 hx hZ (W := 0) hown (hw _ m23) (hw _ m24) (hw _ m25) (hw _ m26) (by decide) (rm13 l Z a0 hw hj w1 clw1 w2 clw2 hS [] i1 r6 h1 n0 O1 hp2 hp3 re6 (by have q0 := own_rngL i1; have q1 := c_l2i i1; have q2 := own_rng (i1.toInt32); have q3 := (by decide : ((128 : Int32)).toInt = 128); have q4 := c_iadd (i1.toInt32) (128 : Int32); have q5 := own_rng ((i1.toInt32) + (128 : Int32)); have q6 := (by decide : ((0 : Int32)).toInt = 0); have q7 := (by decide : ((-128 : Int64)).toInt = -128); have q8 := own_ltF'L hp2; have q9 := (by decide : ((127 : Int64)).toInt = 127); have q10 := own_ltF'L hp3; exact own_ltF (by omega) : ¬ (((i1.toInt32) + (128 : Int32)) < (0 : Int32))) (by have q0 := own_rngL i1; have q1 := c_l2i i1; have q2 := own_rng (i1.toInt32); have q3 := (by decide : ((128 : Int32)).toInt = 128); have q4 := c_iadd (i1.toInt32) (128 : Int32); have q5 := own_rng ((i1.toInt32) + (128 : Int32)); have q6 := (by decide : ((256 : Int32)).toInt = 256); have q7 := (by decide : ((-128 : Int64)).toInt = -128); have q8 := own_ltF'L hp2; have q9 := (by decide : ((127 : Int64)).toInt = 127); have q10 := own_ltF'L hp3; exact own_ltT (by omega) : ((i1.toInt32) + (128 : Int32)) < (256 : Int32))) e5' (g := (mkF m 23 #[.val (.int i0), .val (.long i1), .second, .val (.int i2), .val (.ref b1), .val (.int (0 : Int32)), .val (.ref r4), .unset, .unset, .unset, .unset, .unset] [(.long i1)])) rfl (by rw [hml]; rfl) (argsL := [(.long i1)]) (rest := []) (lenOf pd100 rfl) rfl rfl (by show 2 * 0 + _ ≤ _; exact Nat.le_of_eq rfl) (hb hby at_23) (by decide) (by decide) (by decide) (by decide)
          obtain ⟨rfl, N7q, e7⟩ := hQ7
          have N7 := Fr.app N5 N7q
          have e7' : T7.heap = h1 := e7
          obtain ⟨_, T8, L8, hQ8, X8, st8⟩ := own_virtual X7 hx hZ (W := 0) hown (hw _ m31) (hw _ m32) (notFace_of_selects (args := #[]) (mvT hZ (hw _ m34))) (hw _ m34) (hw _ m33) (hw _ m2) (hw _ m35) (by decide) (rm8 l Z a0 hw hj w1 clw1 w2 clw2 hS [] b1 r4 h1 n0 O1 A1 F1_1 (Nat.le_trans (own_old_le O0) g1)) e7' A1 (g := (mkF m 32 #[.val (.int i0), .val (.long i1), .second, .val (.int i2), .val (.ref b1), .val (.int (0 : Int32)), .val (.ref r4), .val (.ref r6), .unset, .unset, .unset, .unset] [(.ref r4), (.ref b1)])) rfl (by rw [hml]; rfl) (argsL := [(.ref r4)]) (rest := []) (lenOf pd110 rfl) rfl rfl (by show 2 * 0 + _ ≤ _; exact Nat.le_of_eq rfl) (hb hby at_32) (by decide) (by decide) (by decide) (by decide)
          obtain ⟨rfl, N8q, Kq8, q8_0⟩ := hQ8
          have N8 := Fr.app N7 N8q
          have O8 : Old Z n0 T8.heap := O1.keep Kq8 (allS (Nat.le_trans (own_old_le O0) g1) all0)
          have K8 : Keep h0 T8.heap [] := K1.trans Kq8 (allS (Or.inr (Nat.le_trans (Keep.refl h0 []).1 g1)) all0)
          have pre3 : ∀ t, Steps p.tables e below (T8.setTop (mkF m 41 #[.val (.int i0), .val (.long i1), .second, .val (.int i2), .val (.ref b1), .val (.int (0 : Int32)), .val (.ref r4), .val (.ref r6), .val (.ref r4), .unset, .unset, .unset] [(.int (1 : Int32)), (.int i2)])) t → Steps p.tables e below (s₁.setTop (entryFrame m #[(.int i0), (.long i1), (.int i2)] maxLocals)) t := fun t kt => pre2 _ (by
              refine st7 _ ?_
              show Steps p.tables e below (T7.setTop (mkF m 26 #[.val (.int i0), .val (.long i1), .second, .val (.int i2), .val (.ref b1), .val (.int (0 : Int32)), .val (.ref r4), .unset, .unset, .unset, .unset, .unset] [(.ref r6)])) _
              refine XS.astore X7.here hx rfl (hb hby at_26) rfl rfl (l' := #[.val (.int i0), .val (.long i1), .second, .val (.int i2), .val (.ref b1), .val (.int (0 : Int32)), .val (.ref r4), .val (.ref r6), .unset, .unset, .unset, .unset]) rfl ?_
              refine XS.aload X7.here hx rfl (hb hby at_28) rfl rfl ?_
              refine XS.aload X7.here hx rfl (hb hby at_30) rfl rfl ?_
              refine st8 _ ?_
              show Steps p.tables e below (T8.setTop (mkF m 35 #[.val (.int i0), .val (.long i1), .second, .val (.int i2), .val (.ref b1), .val (.int (0 : Int32)), .val (.ref r4), .val (.ref r6), .unset, .unset, .unset, .unset] [])) _
              refine XS.aload X8.here hx rfl (hb hby at_35) rfl rfl ?_
              refine XS.astore X8.here hx rfl (hb hby at_37) rfl rfl (l' := #[.val (.int i0), .val (.long i1), .second, .val (.int i2), .val (.ref b1), .val (.int (0 : Int32)), .val (.ref r4), .val (.ref r6), .val (.ref r4), .unset, .unset, .unset]) rfl ?_
              refine XS.iloadN X8.here hx rfl (hb hby at_39) rfl ?_
              refine XS.iconst X8.here hx rfl (hb hby at_40) ?_
              exact kt)
          rcases en_113 (i2 &&& (1 : Int32)) (by have q0 := own_rng i2; have q1 := (by decide : ((1 : Int32)).toInt = 1); have q2 := (own_mask i2 (1 : Int32) (by decide) : 0 ≤ ((i2 &&& (1 : Int32))).toInt ∧ ((i2 &&& (1 : Int32))).toInt ≤ 1); omega) with hp4 | hp4
          · have f10 : Exa Z T8.heap b1 z0 := (A1.keep Kq8)
            obtain ⟨_, T9, L9, hQ9, X9, st9⟩ := own_virtual X8 hx hZ (W := 0) hown (hw _ m9) (hw _ m10) (notFace_of_selects (args := #[]) (mvT hZ (hw _ m12))) (hw _ m12) (hw _ m11) (hw _ m2) (hw _ m13) (by decide) (rm9 l Z a0 hw hj w1 clw1 w2 clw2 hS [] b1 r4 T8.heap n0 O8 q8_0) (rfl : T8.heap = T8.heap) f10 (g := (mkF m 58 #[.val (.int i0), .val (.long i1), .second, .val (.int i2), .val (.ref b1), .val (.int (0 : Int32)), .val (.ref r4), .val (.ref r6), .val (.ref r4), .unset, .unset, .unset] [(.ref b1)])) rfl (by rw [hml]; rfl) (argsL := []) (rest := []) (lenOf pd25 rfl) rfl rfl (by show 2 * 0 + _ ≤ _; exact Nat.le_of_eq rfl) (hb hby at_58) (by decide) (by decide) (by decide) (by decide)
            obtain ⟨rfl, N9q, e9⟩ := hQ9
            have N9 := Fr.app N8 N9q
            have e9' : T9.heap = T8.heap := e9
            obtain ⟨_, T11, L11, hQ11, X11, st11⟩ := own_virtual X9 hx hZ (W := 0) hown (hw _ m36) (hw _ m37) (notFace_of_selects (args := #[]) (mvT hZ (hw _ m39))) (hw _ m39) (hw _ m38) (hw _ m2) (hw _ m40) (by decide) (rm10 l Z a0 hw hj w1 clw1 w2 clw2 hS [] b1 r4 T8.heap n0 O8 q8_0) e9' f10 (g := (mkF m 65 #[.val (.int i0), .val (.long i1), .second, .val (.int i2), .val (.ref b1), .val (.int (0 : Int32)), .val (.ref r4), .val (.ref r6), .val (.ref r4), .val (.int (1 : Int32)), .unset, .unset] [(.ref b1)])) rfl (by rw [hml]; rfl) (argsL := []) (rest := []) (lenOf pd125 rfl) rfl rfl (by show 2 * 0 + _ ≤ _; exact Nat.le_of_eq rfl) (hb hby at_65) (by decide) (by decide) (by decide) (by decide)
            obtain ⟨rfl, N11q, e11⟩ := hQ11
            have N11 := Fr.app N9 N11q
            have e11' : T11.heap = T8.heap := e11
            obtain ⟨_, T12, L12, hQ12, X12, st12⟩ := own_virtual X11 hx hZ (W := 0) hown (hw _ m36) (hw _ m37) (notFace_of_selects (args := #[]) (mvT hZ (hw _ m39))) (hw _ m39) (hw _ m38) (hw _ m2) (hw _ m40) (by decide) (rm10 l Z a0 hw hj w1 clw1 w2 clw2 hS [] b1 r4 T8.heap n0 O8 q8_0) e11' f10 (g := (mkF m 72 #[.val (.int i0), .val (.long i1), .second, .val (.int i2), .val (.ref b1), .val (.int (0 : Int32)), .val (.ref r4), .val (.ref r6), .val (.ref r4), .val (.int (1 : Int32)), .val (.ref r4), .unset] [(.ref b1)])) rfl (by rw [hml]; rfl) (argsL := []) (rest := []) (lenOf pd125 rfl) rfl rfl (by show 2 * 0 + _ ≤ _; exact Nat.le_of_eq rfl) (hb hby at_72) (by decide) (by decide) (by decide) (by decide)
            obtain ⟨rfl, N12q, e12⟩ := hQ12
            have N12 := Fr.app N11 N12q
            have e12' : T12.heap = T8.heap := e12
            obtain ⟨fs, hr, hrun, hended, hW, hsame⟩ := X12.leave (v := some (.int (1 : Int32))) (fun h => by rw [Bd.returns] at h; cases h)
            refine ⟨_, _, pre3 _ ?_, hrun, hended, _, _, rfl, ?_, ⟨_, rfl⟩, hW, hsame.mono (by decide) (by decide)⟩
            · show Steps p.tables e below (T8.setTop (mkF m 41 #[.val (.int i0), .val (.long i1), .second, .val (.int i2), .val (.ref b1), .val (.int (0 : Int32)), .val (.ref r4), .val (.ref r6), .val (.ref r4), .unset, .unset, .unset] [(.int (1 : Int32)), (.int i2)])) _
              refine Own.iand X8.here hx rfl (hb hby at_41) rfl hp4 ?_
              refine XS.ifYes X8.here hx rfl (pc0 := 42) (pc' := 56) rfl (hb hby at_42) rfl ((if0 _ _).trans (teq (by decide : (0 : Int32) = (0 : Int32))).1) (by decide) (by decide) ?_
              refine XS.aload X8.here hx rfl (hb hby at_56) rfl rfl ?_
              refine st9 _ ?_
              show Steps p.tables e below (T9.setTop (mkF m 61 #[.val (.int i0), .val (.long i1), .second, .val (.int i2), .val (.ref b1), .val (.int (0 : Int32)), .val (.ref r4), .val (.ref r6), .val (.ref r4), .unset, .unset, .unset] [(.int (1 : Int32))])) _
              refine XS.istore X9.here hx rfl (hb hby at_61) rfl (l' := #[.val (.int i0), .val (.long i1), .second, .val (.int i2), .val (.ref b1), .val (.int (0 : Int32)), .val (.ref r4), .val (.ref r6), .val (.ref r4), .val (.int (1 : Int32)), .unset, .unset]) rfl ?_
              refine XS.aload X9.here hx rfl (hb hby at_63) rfl rfl ?_
              refine st11 _ ?_
              refine XS.astore X11.here hx rfl (hb hby at_68) rfl rfl (l' := #[.val (.int i0), .val (.long i1), .second, .val (.int i2), .val (.ref b1), .val (.int (0 : Int32)), .val (.ref r4), .val (.ref r6), .val (.ref r4), .val (.int (1 : Int32)), .val (.ref r4), .unset]) rfl ?_
              show Steps p.tables e below (T11.setTop (mkF m 70 #[.val (.int i0), .val (.long i1), .second, .val (.int i2), .val (.ref b1), .val (.int (0 : Int32)), .val (.ref r4), .val (.ref r6), .val (.ref r4), .val (.int (1 : Int32)), .val (.ref r4), .unset] [])) _
              refine XS.aload X11.here hx rfl (hb hby at_70) rfl rfl ?_
              refine st12 _ ?_
              refine XS.astore X12.here hx rfl (hb hby at_75) rfl rfl (l' := #[.val (.int i0), .val (.long i1), .second, .val (.int i2), .val (.ref b1), .val (.int (0 : Int32)), .val (.ref r4), .val (.ref r6), .val (.ref r4), .val (.int (1 : Int32)), .val (.ref r4), .val (.ref r4)]) rfl ?_
              refine XS.iload X12.here hx rfl (hb hby at_77) rfl ?_
              show Steps p.tables e below (T12.setTop (mkF m 79 #[.val (.int i0), .val (.long i1), .second, .val (.int i2), .val (.ref b1), .val (.int (0 : Int32)), .val (.ref r4), .val (.ref r6), .val (.ref r4), .val (.int (1 : Int32)), .val (.ref r4), .val (.ref r4)] [(.int (0 : Int32))])) _
              refine XS.ifNo X12.here hx rfl (hb hby at_79) rfl ((if0 _ _).trans (teq (by decide : (0 : Int32) = (0 : Int32))).2) ?_
              refine XS.iload X12.here hx rfl (hb hby at_82) rfl ?_
              refine XS.ifNo X12.here hx rfl (hb hby at_84) rfl ((if0 _ _).trans (feq (by decide : ¬ ((1 : Int32) = (0 : Int32)))).1) ?_
              refine XS.aload X12.here hx rfl (hb hby at_87) rfl rfl ?_
              show Steps p.tables e below (T12.setTop (mkF m 89 #[.val (.int i0), .val (.long i1), .second, .val (.int i2), .val (.ref b1), .val (.int (0 : Int32)), .val (.ref r4), .val (.ref r6), .val (.ref r4), .val (.int (1 : Int32)), .val (.ref r4), .val (.ref r4)] [(.ref r4)])) _
              refine XS.aload X12.here hx rfl (hb hby at_89) rfl rfl ?_
              refine Jvm.RoadKit.acmp (g := (mkF m 91 #[.val (.int i0), .val (.long i1), .second, .val (.int i2), .val (.ref b1), .val (.int (0 : Int32)), .val (.ref r4), .val (.ref r6), .val (.ref r4), .val (.int (1 : Int32)), .val (.ref r4), .val (.ref r4)] [(.ref r4), (.ref r4)])) X12 hx rfl rfl rfl (pc0 := 91) (pc' := 94) (same := true) rfl (hb hby at_91) rfl (decide_eq_true rfl) (by decide) (by decide) ?_
              refine XS.aload X12.here hx rfl (hb hby at_94) rfl rfl ?_
              refine XS.aload X12.here hx rfl (hb hby at_96) rfl rfl ?_
              show Steps p.tables e below (T12.setTop (mkF m 98 #[.val (.int i0), .val (.long i1), .second, .val (.int i2), .val (.ref b1), .val (.int (0 : Int32)), .val (.ref r4), .val (.ref r6), .val (.ref r4), .val (.int (1 : Int32)), .val (.ref r4), .val (.ref r4)] [(.ref r4), (.ref r4)])) _
              refine Jvm.RoadKit.acmp (g := (mkF m 98 #[.val (.int i0), .val (.long i1), .second, .val (.int i2), .val (.ref b1), .val (.int (0 : Int32)), .val (.ref r4), .val (.ref r6), .val (.ref r4), .val (.int (1 : Int32)), .val (.ref r4), .val (.ref r4)] [(.ref r4), (.ref r4)])) X12 hx rfl rfl rfl (pc0 := 98) (pc' := 101) (same := true) rfl (hb hby at_98) rfl (decide_eq_true rfl) (by decide) (by decide) ?_
              refine XS.iconst X12.here hx rfl (hb hby at_101) ?_
              refine XS.goto X12.here hx rfl (pc0 := 102) (pc' := 106) rfl (hb hby at_102) (by decide) (by decide) ?_
              exact retN X12 hx (t := .boolean) Bd.returns (by simp) (hb hby at_106) hr
            · show QL n0 _ T12.heap _
              exact ⟨rfl, N12⟩
          · have f10 : Exa Z T8.heap b1 z0 := (A1.keep Kq8)
            obtain ⟨_, T9, L9, hQ9, X9, st9⟩ := own_virtual X8 hx hZ (W := 0) hown (hw _ m31) (hw _ m32) (notFace_of_selects (args := #[]) (mvT hZ (hw _ m34))) (hw _ m34) (hw _ m33) (hw _ m2) (hw _ m35) (by decide) (rm11 l Z a0 hw hj w1 clw1 w2 clw2 hS [] b1 r4 r6 T8.heap n0 O8 f10 q8_0 (Nat.le_trans (own_old_le O0) g1)) (rfl : T8.heap = T8.heap) f10 (g := (mkF m 49 #[.val (.int i0), .val (.long i1), .second, .val (.int i2), .val (.ref b1), .val (.int (0 : Int32)), .val (.ref r4), .val (.ref r6), .val (.ref r4), .unset, .unset, .unset] [(.ref r6), (.ref b1)])) rfl (by rw [hml]; rfl) (argsL := [(.ref r6)]) (rest := []) (lenOf pd110 rfl) rfl rfl (by show 2 * 0 + _ ≤ _; exact Nat.le_of_eq rfl) (hb hby at_49) (by decide) (by decide) (by decide) (by decide)
            obtain ⟨rfl, N9q, Kq9, q9_0⟩ := hQ9
            have N9 := Fr.app N8 N9q
            have O9 : Old Z n0 T9.heap := O8.keep Kq9 (allS (Nat.le_trans (own_old_le O0) g1) all0)
            have K9 : Keep h0 T9.heap [] := K8.trans Kq9 (allS (Or.inr (Nat.le_trans (Keep.refl h0 []).1 g1)) all0)
            have f12 : Exa Z T9.heap b1 z0 := (f10.keep Kq9)
            obtain ⟨_, T11, L11, hQ11, X11, st11⟩ := own_virtual X9 hx hZ (W := 0) hown (hw _ m9) (hw _ m10) (notFace_of_selects (args := #[]) (mvT hZ (hw _ m12))) (hw _ m12) (hw _ m11) (hw _ m2) (hw _ m13) (by decide) (rm9 l Z a0 hw hj w1 clw1 w2 clw2 hS [] b1 r6 T9.heap n0 O9 q9_0) (rfl : T9.heap = T9.heap) f12 (g := (mkF m 58 #[.val (.int i0), .val (.long i1), .second, .val (.int i2), .val (.ref b1), .val (.int (0 : Int32)), .val (.ref r4), .val (.ref r6), .val (.ref r6), .unset, .unset, .unset] [(.ref b1)])) rfl (by rw [hml]; rfl) (argsL := []) (rest := []) (lenOf pd25 rfl) rfl rfl (by show 2 * 0 + _ ≤ _; exact Nat.le_of_eq rfl) (hb hby at_58) (by decide) (by decide) (by decide) (by decide)
            obtain ⟨rfl, N11q, e11⟩ := hQ11
            have N11 := Fr.app N9 N11q
            have e11' : T11.heap = T9.heap := e11
            obtain ⟨_, T13, L13, hQ13, X13, st13⟩ := own_virtual X11 hx hZ (W := 0) hown (hw _ m36) (hw _ m37) (notFace_of_selects (args := #[]) (mvT hZ (hw _ m39))) (hw _ m39) (hw _ m38) (hw _ m2) (hw _ m40) (by decide) (rm10 l Z a0 hw hj w1 clw1 w2 clw2 hS [] b1 r6 T9.heap n0 O9 q9_0) e11' f12 (g := (mkF m 65 #[.val (.int i0), .val (.long i1), .second, .val (.int i2), .val (.ref b1), .val (.int (0 : Int32)), .val (.ref r4), .val (.ref r6), .val (.ref r6), .val (.int (1 : Int32)), .unset, .unset] [(.ref b1)])) rfl (by rw [hml]; rfl) (argsL := []) (rest := []) (lenOf pd125 rfl) rfl rfl (by show 2 * 0 + _ ≤ _; exact Nat.le_of_eq rfl) (hb hby at_65) (by decide) (by decide) (by decide) (by decide)
            obtain ⟨rfl, N13q, e13⟩ := hQ13
            have N13 := Fr.app N11 N13q
            have e13' : T13.heap = T9.heap := e13
            obtain ⟨_, T14, L14, hQ14, X14, st14⟩ := own_virtual X13 hx hZ (W := 0) hown (hw _ m36) (hw _ m37) (notFace_of_selects (args := #[]) (mvT hZ (hw _ m39))) (hw _ m39) (hw _ m38) (hw _ m2) (hw _ m40) (by decide) (rm10 l Z a0 hw hj w1 clw1 w2 clw2 hS [] b1 r6 T9.heap n0 O9 q9_0) e13' f12 (g := (mkF m 72 #[.val (.int i0), .val (.long i1), .second, .val (.int i2), .val (.ref b1), .val (.int (0 : Int32)), .val (.ref r4), .val (.ref r6), .val (.ref r6), .val (.int (1 : Int32)), .val (.ref r6), .unset] [(.ref b1)])) rfl (by rw [hml]; rfl) (argsL := []) (rest := []) (lenOf pd125 rfl) rfl rfl (by show 2 * 0 + _ ≤ _; exact Nat.le_of_eq rfl) (hb hby at_72) (by decide) (by decide) (by decide) (by decide)
            obtain ⟨rfl, N14q, e14⟩ := hQ14
            have N14 := Fr.app N13 N14q
            have e14' : T14.heap = T9.heap := e14
            obtain ⟨fs, hr, hrun, hended, hW, hsame⟩ := X14.leave (v := some (.int (1 : Int32))) (fun h => by rw [Bd.returns] at h; cases h)
            refine ⟨_, _, pre3 _ ?_, hrun, hended, _, _, rfl, ?_, ⟨_, rfl⟩, hW, hsame.mono (by decide) (by decide)⟩
            · show Steps p.tables e below (T8.setTop (mkF m 41 #[.val (.int i0), .val (.long i1), .second, .val (.int i2), .val (.ref b1), .val (.int (0 : Int32)), .val (.ref r4), .val (.ref r6), .val (.ref r4), .unset, .unset, .unset] [(.int (1 : Int32)), (.int i2)])) _
              refine Own.iand X8.here hx rfl (hb hby at_41) rfl hp4 ?_
              refine XS.ifNo X8.here hx rfl (hb hby at_42) rfl ((if0 _ _).trans (feq (by decide : ¬ ((1 : Int32) = (0 : Int32)))).1) ?_
              refine XS.aload X8.here hx rfl (hb hby at_45) rfl rfl ?_
              refine XS.aload X8.here hx rfl (hb hby at_47) rfl rfl ?_
              show Steps p.tables e below (T8.setTop (mkF m 49 #[.val (.int i0), .val (.long i1), .second, .val (.int i2), .val (.ref b1), .val (.int (0 : Int32)), .val (.ref r4), .val (.ref r6), .val (.ref r4), .unset, .unset, .unset] [(.ref r6), (.ref b1)])) _
              refine st9 _ ?_
              refine XS.aload X9.here hx rfl (hb hby at_52) rfl rfl ?_
              refine XS.astore X9.here hx rfl (hb hby at_54) rfl rfl (l' := #[.val (.int i0), .val (.long i1), .second, .val (.int i2), .val (.ref b1), .val (.int (0 : Int32)), .val (.ref r4), .val (.ref r6), .val (.ref r6), .unset, .unset, .unset]) rfl ?_
              refine XS.aload X9.here hx rfl (hb hby at_56) rfl rfl ?_
              show Steps p.tables e below (T9.setTop (mkF m 58 #[.val (.int i0), .val (.long i1), .second, .val (.int i2), .val (.ref b1), .val (.int (0 : Int32)), .val (.ref r4), .val (.ref r6), .val (.ref r6), .unset, .unset, .unset] [(.ref b1)])) _
              refine st11 _ ?_
              refine XS.istore X11.here hx rfl (hb hby at_61) rfl (l' := #[.val (.int i0), .val (.long i1), .second, .val (.int i2), .val (.ref b1), .val (.int (0 : Int32)), .val (.ref r4), .val (.ref r6), .val (.ref r6), .val (.int (1 : Int32)), .unset, .unset]) rfl ?_
              refine XS.aload X11.here hx rfl (hb hby at_63) rfl rfl ?_
              refine st13 _ ?_
              show Steps p.tables e below (T13.setTop (mkF m 68 #[.val (.int i0), .val (.long i1), .second, .val (.int i2), .val (.ref b1), .val (.int (0 : Int32)), .val (.ref r4), .val (.ref r6), .val (.ref r6), .val (.int (1 : Int32)), .unset, .unset] [(.ref r6)])) _
              refine XS.astore X13.here hx rfl (hb hby at_68) rfl rfl (l' := #[.val (.int i0), .val (.long i1), .second, .val (.int i2), .val (.ref b1), .val (.int (0 : Int32)), .val (.ref r4), .val (.ref r6), .val (.ref r6), .val (.int (1 : Int32)), .val (.ref r6), .unset]) rfl ?_
              refine XS.aload X13.here hx rfl (hb hby at_70) rfl rfl ?_
              refine st14 _ ?_
              refine XS.astore X14.here hx rfl (hb hby at_75) rfl rfl (l' := #[.val (.int i0), .val (.long i1), .second, .val (.int i2), .val (.ref b1), .val (.int (0 : Int32)), .val (.ref r4), .val (.ref r6), .val (.ref r6), .val (.int (1 : Int32)), .val (.ref r6), .val (.ref r6)]) rfl ?_
              show Steps p.tables e below (T14.setTop (mkF m 77 #[.val (.int i0), .val (.long i1), .second, .val (.int i2), .val (.ref b1), .val (.int (0 : Int32)), .val (.ref r4), .val (.ref r6), .val (.ref r6), .val (.int (1 : Int32)), .val (.ref r6), .val (.ref r6)] [])) _
              refine XS.iload X14.here hx rfl (hb hby at_77) rfl ?_
              refine XS.ifNo X14.here hx rfl (hb hby at_79) rfl ((if0 _ _).trans (teq (by decide : (0 : Int32) = (0 : Int32))).2) ?_
              refine XS.iload X14.here hx rfl (hb hby at_82) rfl ?_
              refine XS.ifNo X14.here hx rfl (hb hby at_84) rfl ((if0 _ _).trans (feq (by decide : ¬ ((1 : Int32) = (0 : Int32)))).1) ?_
              show Steps p.tables e below (T14.setTop (mkF m 87 #[.val (.int i0), .val (.long i1), .second, .val (.int i2), .val (.ref b1), .val (.int (0 : Int32)), .val (.ref r4), .val (.ref r6), .val (.ref r6), .val (.int (1 : Int32)), .val (.ref r6), .val (.ref r6)] [])) _
              refine XS.aload X14.here hx rfl (hb hby at_87) rfl rfl ?_
              refine XS.aload X14.here hx rfl (hb hby at_89) rfl rfl ?_
              refine Jvm.RoadKit.acmp (g := (mkF m 91 #[.val (.int i0), .val (.long i1), .second, .val (.int i2), .val (.ref b1), .val (.int (0 : Int32)), .val (.ref r4), .val (.ref r6), .val (.ref r6), .val (.int (1 : Int32)), .val (.ref r6), .val (.ref r6)] [(.ref r6), (.ref r6)])) X14 hx rfl rfl rfl (pc0 := 91) (pc' := 94) (same := true) rfl (hb hby at_91) rfl (decide_eq_true rfl) (by decide) (by decide) ?_
              refine XS.aload X14.here hx rfl (hb hby at_94) rfl rfl ?_
              show Steps p.tables e below (T14.setTop (mkF m 96 #[.val (.int i0), .val (.long i1), .second, .val (.int i2), .val (.ref b1), .val (.int (0 : Int32)), .val (.ref r4), .val (.ref r6), .val (.ref r6), .val (.int (1 : Int32)), .val (.ref r6), .val (.ref r6)] [(.ref r6)])) _
              refine XS.aload X14.here hx rfl (hb hby at_96) rfl rfl ?_
              refine Jvm.RoadKit.acmp (g := (mkF m 98 #[.val (.int i0), .val (.long i1), .second, .val (.int i2), .val (.ref b1), .val (.int (0 : Int32)), .val (.ref r4), .val (.ref r6), .val (.ref r6), .val (.int (1 : Int32)), .val (.ref r6), .val (.ref r6)] [(.ref r6), (.ref r6)])) X14 hx rfl rfl rfl (pc0 := 98) (pc' := 101) (same := true) rfl (hb hby at_98) rfl (decide_eq_true rfl) (by decide) (by decide) ?_
              refine XS.iconst X14.here hx rfl (hb hby at_101) ?_
              refine XS.goto X14.here hx rfl (pc0 := 102) (pc' := 106) rfl (hb hby at_102) (by decide) (by decide) ?_
              show Steps p.tables e below (T14.setTop (mkF m 106 #[.val (.int i0), .val (.long i1), .second, .val (.int i2), .val (.ref b1), .val (.int (0 : Int32)), .val (.ref r4), .val (.ref r6), .val (.ref r6), .val (.int (1 : Int32)), .val (.ref r6), .val (.ref r6)] [(.int (1 : Int32))])) _
              exact retN X14 hx (t := .boolean) Bd.returns (by simp) (hb hby at_106) hr
            · show QL n0 _ T14.heap _
              exact ⟨rfl, N14⟩
set_option maxRecDepth 65536 in
set_option maxHeartbeats 40000000 in
theorem comes_1 {Post : Tables → Env → Array Value → State → Outcome → State → Prop} (hpost : ∀ tb e args s v u, (limb_1_1.after args s (.returned v) u = true ∧ limb_1_2.after args s (.returned v) u = true ∧ True) → FrameEnd s (.returned v) u (Jvm.fieldLocs frame_1_writes args s ++ Jvm.arrayLocs frame_1_arrays args s ++ Jvm.staticLocs frame_1_statics s) 16 128 → Post tb e args s (.returned v) u) :
    ArmFor flags0 classFile x code maxLocals ret World_1 tables_1 room_1 Calls_1 rest_1 Pre_1 Post := by
  intro l hfl _ _ p e ha hc hk s m args below hf hA hF happ hP
  obtain ⟨hcalls, hrest, hpre⟩ := hP
  obtain ⟨-, -, -, hnamed, -, -, -, hat⟩ := (Spec.applies_iff hf).mp happ
  obtain ⟨hg, hn⟩ := and_e (Cond.before_iff.mp (show (Jvm.Cond.and given_1 narrow_1).before args s = true from hpre))
  obtain ⟨g1a, g1b⟩ := and_e hg
  obtain ⟨g2a, g2b⟩ := and_e g1b
  obtain ⟨g3a, g3b⟩ := and_e g2b
  obtain ⟨v0, v1, v2, rfl⟩ : ∃ v0 v1 v2 : Value, args = #[v0, v1, v2] := by
    have hs : args.size = 3 := by simpa [Cond.value, given_1] using g1a
    obtain ⟨L⟩ := args
    match L, hs with
    | [v0, v1, v2], _ => exact ⟨v0, v1, v2, rfl⟩
  have hw := fun d (hd : d ∈ tables_1) => atoms_spec (ws := Jvm.Cond.code x code maxLocals ret :: tables_1) hat d (List.mem_cons_of_mem _ hd)
  have hfit : Fit s := fun {y c} hc i hi => by
    obtain ⟨ha, rfl⟩ := Array.getElem?_eq_some_iff.mp hc
    have q := List.all_eq_true.mp ((Array.all_eq_true_iff_forall_mem.mp hF) _ (Array.getElem_mem ha)) i (List.mem_range.mpr hi)
    simpa [Array.getElem?_eq_getElem hi] using q
  obtain ⟨hj, hown0⟩ := atoms_of _ (rest_1_c_eq ▸ (show rest_1_c.before _ s = true from hrest))
  obtain ⟨i0, ei0⟩ := is_v g2a
  obtain rfl : v0 = (.int i0) := Option.some.inj ei0
  obtain ⟨i1, ei1⟩ := isL_v g3a
  obtain rfl : v1 = (.long i1) := Option.some.inj ei1
  obtain ⟨i2, ei2⟩ := is_v g3b
  obtain rfl : v2 = (.int i2) := Option.some.inj ei2
  obtain ⟨w1, evw1⟩ := arr_v (Cond.before_iff.mp (hj _ (List.mem_of_getElem? (i := 4) rfl)))
  obtain ⟨clw1, Aw1⟩ := Arr.start evw1 (Cond.before_iff.mp (hj _ (List.mem_of_getElem? (i := 4) rfl)))
  have lw1 := own_len evw1 Aw1 (Cond.before_iff.mp (hj _ (List.mem_of_getElem? (i := 6) rfl)))
  obtain ⟨w2, evw2⟩ := arr_v (Cond.before_iff.mp (hj _ (List.mem_of_getElem? (i := 10) rfl)))
  obtain ⟨clw2, Aw2⟩ := Arr.start evw2 (Cond.before_iff.mp (hj _ (List.mem_of_getElem? (i := 10) rfl)))
  have lw2 := own_len evw2 Aw2 (Cond.before_iff.mp (hj _ (List.mem_of_getElem? (i := 12) rfl)))
  have hS : SF s w1 clw1 w2 clw2 := ⟨Sta.start (own_sta (Cond.before_iff.mp (hj _ (List.mem_of_getElem? (i := 3) rfl)))) (Or.inl (hj _ j1)), Sta.start evw1 (Or.inr ⟨(hw _ m21), (hj _ j2)⟩), Bxs.start (fun _ => evw1) Aw1 lw1.1 lw1.2 (by decide) (Cond.before_iff.mp (hj _ (List.mem_of_getElem? (i := 7) rfl))) (fun X j nn h => eqv_i (own_sub (idx_at nn) (Term.int_eval _)) h), Sta.start evw2 (Or.inl (hj _ j9)), Bxs.start (fun _ => evw2) Aw2 lw2.1 lw2.2 (by decide) (Cond.before_iff.mp (hj _ (List.mem_of_getElem? (i := 13) rfl))) (fun X j nn h => eqv_l (i2l_at (own_sub (idx_at nn) (Term.int_eval _))) h)⟩
  obtain ⟨n, o, h1, h2, h3, _, L, rfl, ⟨rfl, N⟩, hq⟩ := rm0 l s _ hw hj w1 clw1 w2 clw2 hS tables_1 i0 i1 i2 s.heap s.heap.size (Old.start s) p e ha hc hk s m _ below hf ((Spec.applies_iff_loose hf).mp happ).1 ⟨rfl, State.Warmed39.refl s, rfl⟩ trivial
  refine ⟨n, _, h1, h2, h3, hpost _ _ _ _ _ _ ⟨Cond.after_iff.mpr rfl, Cond.after_iff.mpr (eq_i res_at (Term.int_eval (1)) rfl), trivial⟩ ⟨hq.1, hq.2.1, (hq.2.2.sift fun y hy => Or.inr (N y hy)).mono (by decide) (by decide)⟩⟩
theorem main_1_1 : Claimed_1_1 := comes_1 fun _ _ _ _ _ _ h hF => ⟨h.1, hF⟩
theorem main_1_2 : Claimed_1_2 := comes_1 fun _ _ _ _ _ _ h hF => ⟨h.2.1, hF⟩
end Jvm.Pilot.@@N@@
namespace Jvm.Pilot.@@N@@
open Jvm Jvm.ClassFile Sem Op Lib Jvm.Free Jvm.Stand Jvm.Pilot.@@N@@.Jvm.D
/-! MADE BY PROGRAM (witnessworld.py) out of the Statement's table words and the real class files: 19 classes; the members and pool entries that the words name. The judged class is class 1, her method 1. -/
namespace start1
open Jvm.ClassFile
def u (s : String) : CpInfo := .utf8 (stringToUtf16 s)
/-- a pool by its gaps: so many unusable entries, then the entry; so many at the end -/
def gap : Nat → List CpInfo → List CpInfo
  | 0, r => r
  | n + 1, r => .unusable :: gap n r
def poolList (es : List (Nat × CpInfo)) (last : Nat) : List CpInfo := es.foldr (fun e r => gap e.1 (e.2 :: r)) (gap last [])
def pool (es : List (Nat × CpInfo)) (last : Nat) : Array CpInfo := ⟨poolList es last⟩
def fileOf (pool : Array CpInfo) (this : Nat) (attrs : Array Attribute := #[]) (ms : Array MethodInfo := #[]) (fl : Nat := 33) (sup : Nat := 0) (ifs : Array Nat := #[]) (fds : Array FieldInfo := #[]) : ClassFile where
  minorVersion := 0
  majorVersion := 65
  constantPool := pool
  accessFlags := fl
  thisClass := this
  superClass := sup
  interfaces := ifs
  fields := fds
  methods := ms
  attributes := attrs
def plain (name : String) (sup : Option ClassId) : Class where
  name := name
  kind := .ordinary
  loader := none
  accessFlags := 33
  super := sup
  interfaces := #[]
  cf := none
  fields := #[]
  methods := #[]
  instanceTypes := #[]
  staticTypes := #[]
  resolved := #[]
  callSites := []
  init := .initialized
  statics := none
  mirror := none

def pool0 : Array CpInfo := pool [(5, u "<init>"), (0, u "()V"), (1, .class_ 10), (1, u "java/lang/Object")] 113

def k0c0 : Code := { maxStack := 0, maxLocals := 1, code := object_method_1_code, exceptionTable := #[], attributes := #[] }
def k0m0 : Method := { name := "<init>", desc := "()V", sig := { parameters := [], returnType := none }, accessFlags := 1, code := some k0c0 }
/-- java/lang/Object -/
def k0 : Class := { plain "java/lang/Object" none with
  accessFlags := 33
  interfaces := #[]
  cf := some (fileOf pool0 8 #[] #[{ accessFlags := 1, nameIndex := 5, descriptorIndex := 6, attributes := #[] }] 33 0 #[] #[])
  fields := #[]
  methods := #[k0m0]
  instanceTypes := #[]
  staticTypes := #[]
  resolved := Array.replicate 124 none
  statics := none }

def pool1 : Array CpInfo := pool [(2, .class_ 4), (0, .nameAndType 5 6), (0, u "java/lang/Object"), (0, u "<init>"), (0, u "()V"), (0, .class_ 8), (0, u "com/example/pinyon_jay/pinyonjay/engine/PendingId"), (0, .methodref 7 3), (0, .methodref 7 11), (0, .nameAndType 12 13), (0, u "isAssigned"), (0, u "()Z"), (0, .methodref 15 16), (0, .class_ 17), (0, .nameAndType 18 19), (0, u "java/lang/Integer"), (0, u "valueOf"), (0, u "(I)Ljava/lang/Integer;"), (0, .methodref 21 22), (0, .class_ 23), (0, .nameAndType 18 24), (0, u "java/lang/Long"), (0, u "(J)Ljava/lang/Long;"), (0, .methodref 7 26), (0, .nameAndType 27 28), (0, u "assign"), (0, u "(Ljava/lang/Object;)V"), (0, .methodref 7 30), (0, .nameAndType 31 32), (0, u "value"), (0, u "()Ljava/lang/Object;"), (0, .class_ 34), (0, u "com/example/pinyon_jay/pinyonjay/engine/PendingIdValuePinLaw"), (2, u "law"), (0, u "(IJI)Z")] 3

def k1m0 : Method := { name := "<init>", desc := "()V", sig := { parameters := [], returnType := none }, accessFlags := 1, code := none }
def k1c1 : Code := { maxStack := 2, maxLocals := 12, code := code, exceptionTable := #[], attributes := #[] }
def k1m1 : Method := { name := "law", desc := "(IJI)Z", sig := { parameters := [.int, .long, .int], returnType := some .boolean }, accessFlags := 9, code := some k1c1 }
/-- com/example/pinyon_jay/pinyonjay/engine/PendingIdValuePinLaw -/
def k1 : Class := { plain "com/example/pinyon_jay/pinyonjay/engine/PendingIdValuePinLaw" (some 0) with
  accessFlags := 49
  interfaces := #[]
  cf := some (fileOf pool1 33 #[] #[{ accessFlags := 1, nameIndex := 5, descriptorIndex := 6, attributes := #[] }, { accessFlags := 9, nameIndex := 37, descriptorIndex := 38, attributes := #[] }] 49 2 #[] #[])
  fields := #[]
  methods := #[k1m0, k1m1]
  instanceTypes := #[]
  staticTypes := #[]
  resolved := Array.replicate 42 none
  statics := none }

def pool2 : Array CpInfo := pool [(1, .methodref 2 3), (0, .class_ 4), (0, .nameAndType 5 6), (0, u "java/lang/Object"), (0, u "<init>"), (0, u "()V"), (0, .fieldref 8 9), (0, .class_ 10), (0, .nameAndType 11 12), (0, u "com/example/pinyon_jay/pinyonjay/engine/PendingId"), (0, u "value"), (0, u "Ljava/lang/Object;"), (15, u "assign"), (0, u "(Ljava/lang/Object;)V"), (0, u "isAssigned"), (0, u "()Z"), (1, u "()Ljava/lang/Object;")] 4

def k2c0 : Code := { maxStack := 1, maxLocals := 1, code := prog_1_method_1_code, exceptionTable := #[], attributes := #[] }
def k2m0 : Method := { name := "<init>", desc := "()V", sig := { parameters := [], returnType := none }, accessFlags := 0, code := some k2c0 }
def k2c1 : Code := { maxStack := 2, maxLocals := 2, code := prog_1_method_2_code, exceptionTable := #[], attributes := #[] }
def k2m1 : Method := { name := "assign", desc := "(Ljava/lang/Object;)V", sig := { parameters := [(.object "java/lang/Object")], returnType := none }, accessFlags := 0, code := some k2c1 }
def k2c2 : Code := { maxStack := 1, maxLocals := 1, code := prog_1_method_3_code, exceptionTable := #[], attributes := #[] }
def k2m2 : Method := { name := "isAssigned", desc := "()Z", sig := { parameters := [], returnType := some .boolean }, accessFlags := 0, code := some k2c2 }
def k2c3 : Code := { maxStack := 3, maxLocals := 1, code := prog_1_method_4_code, exceptionTable := #[], attributes := #[] }
def k2m3 : Method := { name := "value", desc := "()Ljava/lang/Object;", sig := { parameters := [], returnType := some (.object "java/lang/Object") }, accessFlags := 0, code := some k2c3 }
/-- com/example/pinyon_jay/pinyonjay/engine/PendingId -/
def k2 : Class := { plain "com/example/pinyon_jay/pinyonjay/engine/PendingId" (some 0) with
  accessFlags := 32
  interfaces := #[]
  cf := some (fileOf pool2 8 #[] #[{ accessFlags := 0, nameIndex := 5, descriptorIndex := 6, attributes := #[] }, { accessFlags := 0, nameIndex := 28, descriptorIndex := 29, attributes := #[] }, { accessFlags := 0, nameIndex := 30, descriptorIndex := 31, attributes := #[] }, { accessFlags := 0, nameIndex := 11, descriptorIndex := 33, attributes := #[] }] 32 2 #[] #[{ accessFlags := 2, nameIndex := 11, descriptorIndex := 12, attributes := #[] }])
  fields := #[{ name := "value", type := (.object "java/lang/Object"), accessFlags := 2, slot := 0, constantValue := 0 }]
  methods := #[k2m0, k2m1, k2m2, k2m3]
  instanceTypes := #[(.object "java/lang/Object")]
  staticTypes := #[]
  resolved := Array.replicate 38 none
  statics := none }

def pool3 : Array CpInfo := pool [(1, .class_ 2), (0, u "java/io/Serializable"), (0, .class_ 4), (0, u "java/lang/Object")] 2

/-- java/io/Serializable -/
def k3 : Class := { plain "java/io/Serializable" (some 0) with
  accessFlags := 1537
  interfaces := #[]
  cf := some (fileOf pool3 1 #[] #[] 1537 3 #[] #[])
  fields := #[]
  methods := #[]
  instanceTypes := #[]
  staticTypes := #[]
  resolved := Array.replicate 7 none
  statics := none }

def pool4 : Array CpInfo := pool [(1, .methodref 2 3), (0, .class_ 4), (0, .nameAndType 5 6), (0, u "java/lang/Object"), (0, u "<init>"), (0, u "()V"), (1, .class_ 10), (1, u "java/lang/Number"), (2, .class_ 14), (0, u "java/io/Serializable"), (0, u "serialVersionUID"), (0, u "J")] 20

def k4c0 : Code := { maxStack := 1, maxLocals := 1, code := jdk_18_method_1_code, exceptionTable := #[], attributes := #[] }
def k4m0 : Method := { name := "<init>", desc := "()V", sig := { parameters := [], returnType := none }, accessFlags := 1, code := some k4c0 }
/-- java/lang/Number -/
def k4 : Class := { plain "java/lang/Number" (some 0) with
  accessFlags := 1057
  interfaces := #[3]
  cf := some (fileOf pool4 8 #[] #[{ accessFlags := 1, nameIndex := 5, descriptorIndex := 6, attributes := #[] }] 1057 2 #[13] #[{ accessFlags := 26, nameIndex := 15, descriptorIndex := 16, attributes := #[] }])
  fields := #[{ name := "serialVersionUID", type := .long, accessFlags := 26, slot := 0, constantValue := 0 }]
  methods := #[k4m0]
  instanceTypes := #[]
  staticTypes := #[.long]
  resolved := Array.replicate 37 none
  statics := none }

def pool5 : Array CpInfo := pool [(1, .class_ 2), (0, u "java/lang/Comparable"), (0, .class_ 4), (0, u "java/lang/Object")] 7

/-- java/lang/Comparable -/
def k5 : Class := { plain "java/lang/Comparable" (some 0) with
  accessFlags := 1537
  interfaces := #[]
  cf := some (fileOf pool5 1 #[] #[] 1537 3 #[] #[])
  fields := #[]
  methods := #[]
  instanceTypes := #[]
  staticTypes := #[]
  resolved := Array.replicate 12 none
  statics := none }

def pool6 : Array CpInfo := pool [(1, .class_ 2), (0, u "java/lang/constant/Constable"), (0, .class_ 4), (0, u "java/lang/Object")] 6

/-- java/lang/constant/Constable -/
def k6 : Class := { plain "java/lang/constant/Constable" (some 0) with
  accessFlags := 1537
  interfaces := #[]
  cf := some (fileOf pool6 1 #[] #[] 1537 3 #[] #[])
  fields := #[]
  methods := #[]
  instanceTypes := #[]
  staticTypes := #[]
  resolved := Array.replicate 11 none
  statics := none }

def pool7 : Array CpInfo := pool [(1, .class_ 2), (0, u "java/lang/constant/ConstantDesc"), (0, .class_ 4), (0, u "java/lang/Object")] 32

/-- java/lang/constant/ConstantDesc -/
def k7 : Class := { plain "java/lang/constant/ConstantDesc" (some 0) with
  accessFlags := 1537
  interfaces := #[]
  cf := some (fileOf pool7 1 #[] #[] 1537 3 #[] #[])
  fields := #[]
  methods := #[]
  instanceTypes := #[]
  staticTypes := #[]
  resolved := Array.replicate 37 none
  statics := none }

def pool8 : Array CpInfo := pool [(1, .class_ 2), (0, u "java/lang/Integer"), (16, u "digits"), (0, u "[C"), (46, u "<init>"), (17, u "DigitOnes"), (0, u "[B"), (2, u "DigitTens"), (10, .nameAndType 67 101), (0, u "()V"), (85, u "valueOf"), (0, u "(I)Ljava/lang/Integer;"), (0, .class_ 190), (0, u "java/lang/Integer$IntegerCache"), (0, .fieldref 189 192), (0, .nameAndType 193 194), (0, u "high"), (0, u "I"), (0, .fieldref 189 196), (0, .nameAndType 197 198), (0, u "cache"), (0, u "[Ljava/lang/Integer;"), (0, .methodref 1 200), (0, .nameAndType 67 201), (0, u "(I)V"), (0, .methodref 203 100), (0, .class_ 204), (0, u "java/lang/Number"), (0, .fieldref 1 206), (0, .nameAndType 207 194), (0, u "value"), (94, u "TYPE"), (0, u "Ljava/lang/Class;"), (0, .class_ 305), (0, u "java/lang/Comparable"), (0, .class_ 307), (0, u "java/lang/constant/Constable"), (0, .class_ 309), (0, u "java/lang/constant/ConstantDesc"), (0, u "MIN_VALUE"), (1, u "MAX_VALUE"), (3, u "SIZE"), (1, u "BYTES"), (1, u "serialVersionUID"), (0, u "J")] 131

def k8c0 : Code := { maxStack := 3, maxLocals := 1, code := jdk_33_method_22_code, exceptionTable := #[], attributes := #[] }
def k8m0 : Method := { name := "valueOf", desc := "(I)Ljava/lang/Integer;", sig := { parameters := [.int], returnType := some (.object "java/lang/Integer") }, accessFlags := 9, code := some k8c0 }
def k8c1 : Code := { maxStack := 2, maxLocals := 2, code := jdk_33_method_23_code, exceptionTable := #[], attributes := #[] }
def k8m1 : Method := { name := "<init>", desc := "(I)V", sig := { parameters := [.int], returnType := none }, accessFlags := 1, code := some k8c1 }
/-- java/lang/Integer -/
def k8 : Class := { plain "java/lang/Integer" (some 4) with
  accessFlags := 49
  interfaces := #[5, 6, 7]
  cf := some (fileOf pool8 1 #[.nestMembers #[189]] #[{ accessFlags := 9, nameIndex := 187, descriptorIndex := 188, attributes := #[] }, { accessFlags := 1, nameIndex := 67, descriptorIndex := 201, attributes := #[] }] 49 203 #[304, 306, 308] #[{ accessFlags := 25, nameIndex := 310, descriptorIndex := 194, attributes := #[] }, { accessFlags := 25, nameIndex := 312, descriptorIndex := 194, attributes := #[] }, { accessFlags := 25, nameIndex := 302, descriptorIndex := 303, attributes := #[] }, { accessFlags := 24, nameIndex := 19, descriptorIndex := 20, attributes := #[] }, { accessFlags := 24, nameIndex := 89, descriptorIndex := 86, attributes := #[] }, { accessFlags := 24, nameIndex := 85, descriptorIndex := 86, attributes := #[] }, { accessFlags := 18, nameIndex := 207, descriptorIndex := 194, attributes := #[] }, { accessFlags := 25, nameIndex := 316, descriptorIndex := 194, attributes := #[] }, { accessFlags := 25, nameIndex := 318, descriptorIndex := 194, attributes := #[] }, { accessFlags := 26, nameIndex := 320, descriptorIndex := 321, attributes := #[] }])
  fields := #[{ name := "MIN_VALUE", type := .int, accessFlags := 25, slot := 0, constantValue := 0 }, { name := "MAX_VALUE", type := .int, accessFlags := 25, slot := 1, constantValue := 0 }, { name := "TYPE", type := (.object "java/lang/Class"), accessFlags := 25, slot := 2, constantValue := 0 }, { name := "digits", type := (.array .char), accessFlags := 24, slot := 3, constantValue := 0 }, { name := "DigitTens", type := (.array .byte), accessFlags := 24, slot := 4, constantValue := 0 }, { name := "DigitOnes", type := (.array .byte), accessFlags := 24, slot := 5, constantValue := 0 }, { name := "value", type := .int, accessFlags := 18, slot := 0, constantValue := 0 }, { name := "SIZE", type := .int, accessFlags := 25, slot := 6, constantValue := 0 }, { name := "BYTES", type := .int, accessFlags := 25, slot := 7, constantValue := 0 }, { name := "serialVersionUID", type := .long, accessFlags := 26, slot := 8, constantValue := 0 }]
  methods := #[k8m0, k8m1]
  instanceTypes := #[.int]
  staticTypes := #[.int, .int, (.object "java/lang/Class"), (.array .char), (.array .byte), (.array .byte), .int, .int, .long]
  resolved := Array.replicate 453 none
  statics := none }

def pool9 : Array CpInfo := pool [(2, .class_ 4), (1, u "java/lang/Object"), (0, u "<init>"), (0, u "()V"), (0, .class_ 8), (0, u "java/lang/Integer"), (7, .class_ 18), (1, u "java/lang/Integer$IntegerCache"), (0, u "$assertionsDisabled"), (0, u "Z"), (26, u "high"), (0, u "I"), (8, u "archivedCache"), (0, u "[Ljava/lang/Integer;"), (12, u "cache"), (0, u "low")] 27

def k9m0 : Method := { name := "<init>", desc := "()V", sig := { parameters := [], returnType := none }, accessFlags := 2, code := none }
/-- java/lang/Integer$IntegerCache -/
def k9 : Class := { plain "java/lang/Integer$IntegerCache" (some 0) with
  accessFlags := 48
  interfaces := #[]
  cf := some (fileOf pool9 16 #[.nestHost 7] #[{ accessFlags := 2, nameIndex := 5, descriptorIndex := 6, attributes := #[] }] 48 2 #[] #[{ accessFlags := 24, nameIndex := 72, descriptorIndex := 48, attributes := #[] }, { accessFlags := 24, nameIndex := 47, descriptorIndex := 48, attributes := #[] }, { accessFlags := 24, nameIndex := 71, descriptorIndex := 58, attributes := #[] }, { accessFlags := 8, nameIndex := 57, descriptorIndex := 58, attributes := #[] }, { accessFlags := 4120, nameIndex := 19, descriptorIndex := 20, attributes := #[] }])
  fields := #[{ name := "low", type := .int, accessFlags := 24, slot := 0, constantValue := 0 }, { name := "high", type := .int, accessFlags := 24, slot := 1, constantValue := 0 }, { name := "cache", type := (.array (.object "java/lang/Integer")), accessFlags := 24, slot := 2, constantValue := 0 }, { name := "archivedCache", type := (.array (.object "java/lang/Integer")), accessFlags := 8, slot := 3, constantValue := 0 }, { name := "$assertionsDisabled", type := .boolean, accessFlags := 4120, slot := 4, constantValue := 0 }]
  methods := #[k9m0]
  instanceTypes := #[]
  staticTypes := #[.int, .int, (.array (.object "java/lang/Integer")), (.array (.object "java/lang/Integer")), .boolean]
  resolved := Array.replicate 100 none
  statics := some 0 }

def pool10 : Array CpInfo := pool [(1, .class_ 2), (0, u "java/lang/Long"), (55, .nameAndType 59 60), (0, u "<init>"), (0, u "()V"), (24, u "valueOf"), (143, u "(J)Ljava/lang/Long;"), (0, .long 18446744073709551488), (1, .long 127), (1, .fieldref 235 236), (0, .class_ 237), (0, .nameAndType 238 239), (0, u "java/lang/Long$LongCache"), (0, u "cache"), (0, u "[Ljava/lang/Long;"), (0, .methodref 1 241), (0, .nameAndType 59 242), (0, u "(J)V"), (27, .methodref 271 58), (0, .class_ 272), (0, u "java/lang/Number"), (0, .fieldref 1 274), (0, .nameAndType 275 276), (0, u "value"), (0, u "J"), (84, u "TYPE"), (0, u "Ljava/lang/Class;"), (0, .class_ 364), (0, u "java/lang/Comparable"), (0, .class_ 366), (0, u "java/lang/constant/Constable"), (0, .class_ 368), (0, u "java/lang/constant/ConstantDesc"), (0, u "MIN_VALUE"), (1, u "MAX_VALUE"), (4, u "SIZE"), (0, u "I"), (1, u "BYTES"), (1, u "serialVersionUID")] 142

def k10c0 : Code := { maxStack := 4, maxLocals := 3, code := jdk_35_method_24_code, exceptionTable := #[], attributes := #[] }
def k10m0 : Method := { name := "valueOf", desc := "(J)Ljava/lang/Long;", sig := { parameters := [.long], returnType := some (.object "java/lang/Long") }, accessFlags := 9, code := some k10c0 }
def k10c1 : Code := { maxStack := 3, maxLocals := 3, code := jdk_35_method_26_code, exceptionTable := #[], attributes := #[] }
def k10m1 : Method := { name := "<init>", desc := "(J)V", sig := { parameters := [.long], returnType := none }, accessFlags := 1, code := some k10c1 }
/-- java/lang/Long -/
def k10 : Class := { plain "java/lang/Long" (some 4) with
  accessFlags := 49
  interfaces := #[5, 6, 7]
  cf := some (fileOf pool10 1 #[.nestMembers #[235]] #[{ accessFlags := 9, nameIndex := 85, descriptorIndex := 229, attributes := #[] }, { accessFlags := 1, nameIndex := 59, descriptorIndex := 242, attributes := #[] }] 49 271 #[363, 365, 367] #[{ accessFlags := 25, nameIndex := 369, descriptorIndex := 276, attributes := #[] }, { accessFlags := 25, nameIndex := 371, descriptorIndex := 276, attributes := #[] }, { accessFlags := 25, nameIndex := 361, descriptorIndex := 362, attributes := #[] }, { accessFlags := 18, nameIndex := 275, descriptorIndex := 276, attributes := #[] }, { accessFlags := 25, nameIndex := 376, descriptorIndex := 377, attributes := #[] }, { accessFlags := 25, nameIndex := 379, descriptorIndex := 377, attributes := #[] }, { accessFlags := 26, nameIndex := 381, descriptorIndex := 276, attributes := #[] }])
  fields := #[{ name := "MIN_VALUE", type := .long, accessFlags := 25, slot := 0, constantValue := 0 }, { name := "MAX_VALUE", type := .long, accessFlags := 25, slot := 1, constantValue := 0 }, { name := "TYPE", type := (.object "java/lang/Class"), accessFlags := 25, slot := 2, constantValue := 0 }, { name := "value", type := .long, accessFlags := 18, slot := 0, constantValue := 0 }, { name := "SIZE", type := .int, accessFlags := 25, slot := 3, constantValue := 0 }, { name := "BYTES", type := .int, accessFlags := 25, slot := 4, constantValue := 0 }, { name := "serialVersionUID", type := .long, accessFlags := 26, slot := 5, constantValue := 0 }]
  methods := #[k10m0, k10m1]
  instanceTypes := #[.long]
  staticTypes := #[.long, .long, (.object "java/lang/Class"), .int, .int, .long]
  resolved := Array.replicate 524 none
  statics := none }

def pool11 : Array CpInfo := pool [(2, .class_ 4), (1, u "java/lang/Object"), (0, u "<init>"), (0, u "()V"), (0, .class_ 8), (0, u "java/lang/Long"), (7, .class_ 18), (1, u "java/lang/Long$LongCache"), (0, u "$assertionsDisabled"), (0, u "Z"), (8, u "archivedCache"), (0, u "[Ljava/lang/Long;"), (7, u "cache")] 24

def k11m0 : Method := { name := "<init>", desc := "()V", sig := { parameters := [], returnType := none }, accessFlags := 2, code := none }
/-- java/lang/Long$LongCache -/
def k11 : Class := { plain "java/lang/Long$LongCache" (some 0) with
  accessFlags := 48
  interfaces := #[]
  cf := some (fileOf pool11 16 #[.nestHost 7] #[{ accessFlags := 2, nameIndex := 5, descriptorIndex := 6, attributes := #[] }] 48 2 #[] #[{ accessFlags := 24, nameIndex := 38, descriptorIndex := 30, attributes := #[] }, { accessFlags := 8, nameIndex := 29, descriptorIndex := 30, attributes := #[] }, { accessFlags := 4120, nameIndex := 19, descriptorIndex := 20, attributes := #[] }])
  fields := #[{ name := "cache", type := (.array (.object "java/lang/Long")), accessFlags := 24, slot := 0, constantValue := 0 }, { name := "archivedCache", type := (.array (.object "java/lang/Long")), accessFlags := 8, slot := 1, constantValue := 0 }, { name := "$assertionsDisabled", type := .boolean, accessFlags := 4120, slot := 2, constantValue := 0 }]
  methods := #[k11m0]
  instanceTypes := #[]
  staticTypes := #[(.array (.object "java/lang/Long")), (.array (.object "java/lang/Long")), .boolean]
  resolved := Array.replicate 63 none
  statics := some 1 }

def pool12 : Array CpInfo := pool [(1, u "java/lang/Cloneable"), (0, .class_ 1), (0, u "java/lang/Object"), (0, .class_ 3)] 3

/-- java/lang/Cloneable -/
def k12 : Class := { plain "java/lang/Cloneable" (some 0) with
  accessFlags := 1537
  interfaces := #[]
  cf := some (fileOf pool12 2 #[] #[] 1537 4 #[] #[])
  fields := #[]
  methods := #[]
  instanceTypes := #[]
  staticTypes := #[]
  resolved := Array.replicate 8 none
  statics := none }

/-- the primitive byte -/
def k13 : Class := { plain "byte" none with kind := .primitive 'B', accessFlags := 0x411 }
/-- [B -/
def k14 : Class := { plain "[B" (some 0) with kind := .array 13 .byte, interfaces := #[12, 3], accessFlags := 1041 }

/-- the primitive int -/
def k15 : Class := { plain "int" none with kind := .primitive 'I', accessFlags := 0x411 }
/-- [I -/
def k16 : Class := { plain "[I" (some 0) with kind := .array 15 .int, interfaces := #[12, 3], accessFlags := 1041 }

/-- [Ljava/lang/Integer; -/
def k17 : Class := { plain "[Ljava/lang/Integer;" (some 0) with kind := .array 8 (.object "java/lang/Integer"), interfaces := #[12, 3], accessFlags := 1041 }

/-- [Ljava/lang/Long; -/
def k18 : Class := { plain "[Ljava/lang/Long;" (some 0) with kind := .array 10 (.object "java/lang/Long"), interfaces := #[12, 3], accessFlags := 1041 }

def heap : Heap := #[{ cls := 9, slots := #[.int 0, .int 127, .ref 2, .null, .int 0], vm := .statics 9 },
  { cls := 11, slots := #[.ref 3, .null, .int 0], vm := .statics 11 },
  { cls := 17, slots := #[.ref 4, .ref 5, .ref 6, .ref 7, .ref 8, .ref 9, .ref 10, .ref 11, .ref 12, .ref 13, .ref 14, .ref 15, .ref 16, .ref 17, .ref 18, .ref 19, .ref 20, .ref 21, .ref 22, .ref 23, .ref 24, .ref 25, .ref 26, .ref 27, .ref 28, .ref 29, .ref 30, .ref 31, .ref 32, .ref 33, .ref 34, .ref 35, .ref 36, .ref 37, .ref 38, .ref 39, .ref 40, .ref 41, .ref 42, .ref 43, .ref 44, .ref 45, .ref 46, .ref 47, .ref 48, .ref 49, .ref 50, .ref 51, .ref 52, .ref 53, .ref 54, .ref 55, .ref 56, .ref 57, .ref 58, .ref 59, .ref 60, .ref 61, .ref 62, .ref 63, .ref 64, .ref 65, .ref 66, .ref 67, .ref 68, .ref 69, .ref 70, .ref 71, .ref 72, .ref 73, .ref 74, .ref 75, .ref 76, .ref 77, .ref 78, .ref 79, .ref 80, .ref 81, .ref 82, .ref 83, .ref 84, .ref 85, .ref 86, .ref 87, .ref 88, .ref 89, .ref 90, .ref 91, .ref 92, .ref 93, .ref 94, .ref 95, .ref 96, .ref 97, .ref 98, .ref 99, .ref 100, .ref 101, .ref 102, .ref 103, .ref 104, .ref 105, .ref 106, .ref 107, .ref 108, .ref 109, .ref 110, .ref 111, .ref 112, .ref 113, .ref 114, .ref 115, .ref 116, .ref 117, .ref 118, .ref 119, .ref 120, .ref 121, .ref 122, .ref 123, .ref 124, .ref 125, .ref 126, .ref 127, .ref 128, .ref 129, .ref 130, .ref 131, .ref 132, .ref 133, .ref 134, .ref 135, .ref 136, .ref 137, .ref 138, .ref 139, .ref 140, .ref 141, .ref 142, .ref 143, .ref 144, .ref 145, .ref 146, .ref 147, .ref 148, .ref 149, .ref 150, .ref 151, .ref 152, .ref 153, .ref 154, .ref 155, .ref 156, .ref 157, .ref 158, .ref 159, .ref 160, .ref 161, .ref 162, .ref 163, .ref 164, .ref 165, .ref 166, .ref 167, .ref 168, .ref 169, .ref 170, .ref 171, .ref 172, .ref 173, .ref 174, .ref 175, .ref 176, .ref 177, .ref 178, .ref 179, .ref 180, .ref 181, .ref 182, .ref 183, .ref 184, .ref 185, .ref 186, .ref 187, .ref 188, .ref 189, .ref 190, .ref 191, .ref 192, .ref 193, .ref 194, .ref 195, .ref 196, .ref 197, .ref 198, .ref 199, .ref 200, .ref 201, .ref 202, .ref 203, .ref 204, .ref 205, .ref 206, .ref 207, .ref 208, .ref 209, .ref 210, .ref 211, .ref 212, .ref 213, .ref 214, .ref 215, .ref 216, .ref 217, .ref 218, .ref 219, .ref 220, .ref 221, .ref 222, .ref 223, .ref 224, .ref 225, .ref 226, .ref 227, .ref 228, .ref 229, .ref 230, .ref 231, .ref 232, .ref 233, .ref 234, .ref 235, .ref 236, .ref 237, .ref 238, .ref 239, .ref 240, .ref 241, .ref 242, .ref 243, .ref 244, .ref 245, .ref 246, .ref 247, .ref 248, .ref 249, .ref 250, .ref 251, .ref 252, .ref 253, .ref 254, .ref 255, .ref 256, .ref 257, .ref 258, .ref 259], vm := .none },
  { cls := 18, slots := #[.ref 260, .ref 261, .ref 262, .ref 263, .ref 264, .ref 265, .ref 266, .ref 267, .ref 268, .ref 269, .ref 270, .ref 271, .ref 272, .ref 273, .ref 274, .ref 275, .ref 276, .ref 277, .ref 278, .ref 279, .ref 280, .ref 281, .ref 282, .ref 283, .ref 284, .ref 285, .ref 286, .ref 287, .ref 288, .ref 289, .ref 290, .ref 291, .ref 292, .ref 293, .ref 294, .ref 295, .ref 296, .ref 297, .ref 298, .ref 299, .ref 300, .ref 301, .ref 302, .ref 303, .ref 304, .ref 305, .ref 306, .ref 307, .ref 308, .ref 309, .ref 310, .ref 311, .ref 312, .ref 313, .ref 314, .ref 315, .ref 316, .ref 317, .ref 318, .ref 319, .ref 320, .ref 321, .ref 322, .ref 323, .ref 324, .ref 325, .ref 326, .ref 327, .ref 328, .ref 329, .ref 330, .ref 331, .ref 332, .ref 333, .ref 334, .ref 335, .ref 336, .ref 337, .ref 338, .ref 339, .ref 340, .ref 341, .ref 342, .ref 343, .ref 344, .ref 345, .ref 346, .ref 347, .ref 348, .ref 349, .ref 350, .ref 351, .ref 352, .ref 353, .ref 354, .ref 355, .ref 356, .ref 357, .ref 358, .ref 359, .ref 360, .ref 361, .ref 362, .ref 363, .ref 364, .ref 365, .ref 366, .ref 367, .ref 368, .ref 369, .ref 370, .ref 371, .ref 372, .ref 373, .ref 374, .ref 375, .ref 376, .ref 377, .ref 378, .ref 379, .ref 380, .ref 381, .ref 382, .ref 383, .ref 384, .ref 385, .ref 386, .ref 387, .ref 388, .ref 389, .ref 390, .ref 391, .ref 392, .ref 393, .ref 394, .ref 395, .ref 396, .ref 397, .ref 398, .ref 399, .ref 400, .ref 401, .ref 402, .ref 403, .ref 404, .ref 405, .ref 406, .ref 407, .ref 408, .ref 409, .ref 410, .ref 411, .ref 412, .ref 413, .ref 414, .ref 415, .ref 416, .ref 417, .ref 418, .ref 419, .ref 420, .ref 421, .ref 422, .ref 423, .ref 424, .ref 425, .ref 426, .ref 427, .ref 428, .ref 429, .ref 430, .ref 431, .ref 432, .ref 433, .ref 434, .ref 435, .ref 436, .ref 437, .ref 438, .ref 439, .ref 440, .ref 441, .ref 442, .ref 443, .ref 444, .ref 445, .ref 446, .ref 447, .ref 448, .ref 449, .ref 450, .ref 451, .ref 452, .ref 453, .ref 454, .ref 455, .ref 456, .ref 457, .ref 458, .ref 459, .ref 460, .ref 461, .ref 462, .ref 463, .ref 464, .ref 465, .ref 466, .ref 467, .ref 468, .ref 469, .ref 470, .ref 471, .ref 472, .ref 473, .ref 474, .ref 475, .ref 476, .ref 477, .ref 478, .ref 479, .ref 480, .ref 481, .ref 482, .ref 483, .ref 484, .ref 485, .ref 486, .ref 487, .ref 488, .ref 489, .ref 490, .ref 491, .ref 492, .ref 493, .ref 494, .ref 495, .ref 496, .ref 497, .ref 498, .ref 499, .ref 500, .ref 501, .ref 502, .ref 503, .ref 504, .ref 505, .ref 506, .ref 507, .ref 508, .ref 509, .ref 510, .ref 511, .ref 512, .ref 513, .ref 514, .ref 515], vm := .none },
  { cls := 8, slots := #[.int (-128)], vm := .none },
  { cls := 8, slots := #[.int (-127)], vm := .none },
  { cls := 8, slots := #[.int (-126)], vm := .none },
  { cls := 8, slots := #[.int (-125)], vm := .none },
  { cls := 8, slots := #[.int (-124)], vm := .none },
  { cls := 8, slots := #[.int (-123)], vm := .none },
  { cls := 8, slots := #[.int (-122)], vm := .none },
  { cls := 8, slots := #[.int (-121)], vm := .none },
  { cls := 8, slots := #[.int (-120)], vm := .none },
  { cls := 8, slots := #[.int (-119)], vm := .none },
  { cls := 8, slots := #[.int (-118)], vm := .none },
  { cls := 8, slots := #[.int (-117)], vm := .none },
  { cls := 8, slots := #[.int (-116)], vm := .none },
  { cls := 8, slots := #[.int (-115)], vm := .none },
  { cls := 8, slots := #[.int (-114)], vm := .none },
  { cls := 8, slots := #[.int (-113)], vm := .none },
  { cls := 8, slots := #[.int (-112)], vm := .none },
  { cls := 8, slots := #[.int (-111)], vm := .none },
  { cls := 8, slots := #[.int (-110)], vm := .none },
  { cls := 8, slots := #[.int (-109)], vm := .none },
  { cls := 8, slots := #[.int (-108)], vm := .none },
  { cls := 8, slots := #[.int (-107)], vm := .none },
  { cls := 8, slots := #[.int (-106)], vm := .none },
  { cls := 8, slots := #[.int (-105)], vm := .none },
  { cls := 8, slots := #[.int (-104)], vm := .none },
  { cls := 8, slots := #[.int (-103)], vm := .none },
  { cls := 8, slots := #[.int (-102)], vm := .none },
  { cls := 8, slots := #[.int (-101)], vm := .none },
  { cls := 8, slots := #[.int (-100)], vm := .none },
  { cls := 8, slots := #[.int (-99)], vm := .none },
  { cls := 8, slots := #[.int (-98)], vm := .none },
  { cls := 8, slots := #[.int (-97)], vm := .none },
  { cls := 8, slots := #[.int (-96)], vm := .none },
  { cls := 8, slots := #[.int (-95)], vm := .none },
  { cls := 8, slots := #[.int (-94)], vm := .none },
  { cls := 8, slots := #[.int (-93)], vm := .none },
  { cls := 8, slots := #[.int (-92)], vm := .none },
  { cls := 8, slots := #[.int (-91)], vm := .none },
  { cls := 8, slots := #[.int (-90)], vm := .none },
  { cls := 8, slots := #[.int (-89)], vm := .none },
  { cls := 8, slots := #[.int (-88)], vm := .none },
  { cls := 8, slots := #[.int (-87)], vm := .none },
  { cls := 8, slots := #[.int (-86)], vm := .none },
  { cls := 8, slots := #[.int (-85)], vm := .none },
  { cls := 8, slots := #[.int (-84)], vm := .none },
  { cls := 8, slots := #[.int (-83)], vm := .none },
  { cls := 8, slots := #[.int (-82)], vm := .none },
  { cls := 8, slots := #[.int (-81)], vm := .none },
  { cls := 8, slots := #[.int (-80)], vm := .none },
  { cls := 8, slots := #[.int (-79)], vm := .none },
  { cls := 8, slots := #[.int (-78)], vm := .none },
  { cls := 8, slots := #[.int (-77)], vm := .none },
  { cls := 8, slots := #[.int (-76)], vm := .none },
  { cls := 8, slots := #[.int (-75)], vm := .none },
  { cls := 8, slots := #[.int (-74)], vm := .none },
  { cls := 8, slots := #[.int (-73)], vm := .none },
  { cls := 8, slots := #[.int (-72)], vm := .none },
  { cls := 8, slots := #[.int (-71)], vm := .none },
  { cls := 8, slots := #[.int (-70)], vm := .none },
  { cls := 8, slots := #[.int (-69)], vm := .none },
  { cls := 8, slots := #[.int (-68)], vm := .none },
  { cls := 8, slots := #[.int (-67)], vm := .none },
  { cls := 8, slots := #[.int (-66)], vm := .none },
  { cls := 8, slots := #[.int (-65)], vm := .none },
  { cls := 8, slots := #[.int (-64)], vm := .none },
  { cls := 8, slots := #[.int (-63)], vm := .none },
  { cls := 8, slots := #[.int (-62)], vm := .none },
  { cls := 8, slots := #[.int (-61)], vm := .none },
  { cls := 8, slots := #[.int (-60)], vm := .none },
  { cls := 8, slots := #[.int (-59)], vm := .none },
  { cls := 8, slots := #[.int (-58)], vm := .none },
  { cls := 8, slots := #[.int (-57)], vm := .none },
  { cls := 8, slots := #[.int (-56)], vm := .none },
  { cls := 8, slots := #[.int (-55)], vm := .none },
  { cls := 8, slots := #[.int (-54)], vm := .none },
  { cls := 8, slots := #[.int (-53)], vm := .none },
  { cls := 8, slots := #[.int (-52)], vm := .none },
  { cls := 8, slots := #[.int (-51)], vm := .none },
  { cls := 8, slots := #[.int (-50)], vm := .none },
  { cls := 8, slots := #[.int (-49)], vm := .none },
  { cls := 8, slots := #[.int (-48)], vm := .none },
  { cls := 8, slots := #[.int (-47)], vm := .none },
  { cls := 8, slots := #[.int (-46)], vm := .none },
  { cls := 8, slots := #[.int (-45)], vm := .none },
  { cls := 8, slots := #[.int (-44)], vm := .none },
  { cls := 8, slots := #[.int (-43)], vm := .none },
  { cls := 8, slots := #[.int (-42)], vm := .none },
  { cls := 8, slots := #[.int (-41)], vm := .none },
  { cls := 8, slots := #[.int (-40)], vm := .none },
  { cls := 8, slots := #[.int (-39)], vm := .none },
  { cls := 8, slots := #[.int (-38)], vm := .none },
  { cls := 8, slots := #[.int (-37)], vm := .none },
  { cls := 8, slots := #[.int (-36)], vm := .none },
  { cls := 8, slots := #[.int (-35)], vm := .none },
  { cls := 8, slots := #[.int (-34)], vm := .none },
  { cls := 8, slots := #[.int (-33)], vm := .none },
  { cls := 8, slots := #[.int (-32)], vm := .none },
  { cls := 8, slots := #[.int (-31)], vm := .none },
  { cls := 8, slots := #[.int (-30)], vm := .none },
  { cls := 8, slots := #[.int (-29)], vm := .none },
  { cls := 8, slots := #[.int (-28)], vm := .none },
  { cls := 8, slots := #[.int (-27)], vm := .none },
  { cls := 8, slots := #[.int (-26)], vm := .none },
  { cls := 8, slots := #[.int (-25)], vm := .none },
  { cls := 8, slots := #[.int (-24)], vm := .none },
  { cls := 8, slots := #[.int (-23)], vm := .none },
  { cls := 8, slots := #[.int (-22)], vm := .none },
  { cls := 8, slots := #[.int (-21)], vm := .none },
  { cls := 8, slots := #[.int (-20)], vm := .none },
  { cls := 8, slots := #[.int (-19)], vm := .none },
  { cls := 8, slots := #[.int (-18)], vm := .none },
  { cls := 8, slots := #[.int (-17)], vm := .none },
  { cls := 8, slots := #[.int (-16)], vm := .none },
  { cls := 8, slots := #[.int (-15)], vm := .none },
  { cls := 8, slots := #[.int (-14)], vm := .none },
  { cls := 8, slots := #[.int (-13)], vm := .none },
  { cls := 8, slots := #[.int (-12)], vm := .none },
  { cls := 8, slots := #[.int (-11)], vm := .none },
  { cls := 8, slots := #[.int (-10)], vm := .none },
  { cls := 8, slots := #[.int (-9)], vm := .none },
  { cls := 8, slots := #[.int (-8)], vm := .none },
  { cls := 8, slots := #[.int (-7)], vm := .none },
  { cls := 8, slots := #[.int (-6)], vm := .none },
  { cls := 8, slots := #[.int (-5)], vm := .none },
  { cls := 8, slots := #[.int (-4)], vm := .none },
  { cls := 8, slots := #[.int (-3)], vm := .none },
  { cls := 8, slots := #[.int (-2)], vm := .none },
  { cls := 8, slots := #[.int (-1)], vm := .none },
  { cls := 8, slots := #[.int 0], vm := .none },
  { cls := 8, slots := #[.int 1], vm := .none },
  { cls := 8, slots := #[.int 2], vm := .none },
  { cls := 8, slots := #[.int 3], vm := .none },
  { cls := 8, slots := #[.int 4], vm := .none },
  { cls := 8, slots := #[.int 5], vm := .none },
  { cls := 8, slots := #[.int 6], vm := .none },
  { cls := 8, slots := #[.int 7], vm := .none },
  { cls := 8, slots := #[.int 8], vm := .none },
  { cls := 8, slots := #[.int 9], vm := .none },
  { cls := 8, slots := #[.int 10], vm := .none },
  { cls := 8, slots := #[.int 11], vm := .none },
  { cls := 8, slots := #[.int 12], vm := .none },
  { cls := 8, slots := #[.int 13], vm := .none },
  { cls := 8, slots := #[.int 14], vm := .none },
  { cls := 8, slots := #[.int 15], vm := .none },
  { cls := 8, slots := #[.int 16], vm := .none },
  { cls := 8, slots := #[.int 17], vm := .none },
  { cls := 8, slots := #[.int 18], vm := .none },
  { cls := 8, slots := #[.int 19], vm := .none },
  { cls := 8, slots := #[.int 20], vm := .none },
  { cls := 8, slots := #[.int 21], vm := .none },
  { cls := 8, slots := #[.int 22], vm := .none },
  { cls := 8, slots := #[.int 23], vm := .none },
  { cls := 8, slots := #[.int 24], vm := .none },
  { cls := 8, slots := #[.int 25], vm := .none },
  { cls := 8, slots := #[.int 26], vm := .none },
  { cls := 8, slots := #[.int 27], vm := .none },
  { cls := 8, slots := #[.int 28], vm := .none },
  { cls := 8, slots := #[.int 29], vm := .none },
  { cls := 8, slots := #[.int 30], vm := .none },
  { cls := 8, slots := #[.int 31], vm := .none },
  { cls := 8, slots := #[.int 32], vm := .none },
  { cls := 8, slots := #[.int 33], vm := .none },
  { cls := 8, slots := #[.int 34], vm := .none },
  { cls := 8, slots := #[.int 35], vm := .none },
  { cls := 8, slots := #[.int 36], vm := .none },
  { cls := 8, slots := #[.int 37], vm := .none },
  { cls := 8, slots := #[.int 38], vm := .none },
  { cls := 8, slots := #[.int 39], vm := .none },
  { cls := 8, slots := #[.int 40], vm := .none },
  { cls := 8, slots := #[.int 41], vm := .none },
  { cls := 8, slots := #[.int 42], vm := .none },
  { cls := 8, slots := #[.int 43], vm := .none },
  { cls := 8, slots := #[.int 44], vm := .none },
  { cls := 8, slots := #[.int 45], vm := .none },
  { cls := 8, slots := #[.int 46], vm := .none },
  { cls := 8, slots := #[.int 47], vm := .none },
  { cls := 8, slots := #[.int 48], vm := .none },
  { cls := 8, slots := #[.int 49], vm := .none },
  { cls := 8, slots := #[.int 50], vm := .none },
  { cls := 8, slots := #[.int 51], vm := .none },
  { cls := 8, slots := #[.int 52], vm := .none },
  { cls := 8, slots := #[.int 53], vm := .none },
  { cls := 8, slots := #[.int 54], vm := .none },
  { cls := 8, slots := #[.int 55], vm := .none },
  { cls := 8, slots := #[.int 56], vm := .none },
  { cls := 8, slots := #[.int 57], vm := .none },
  { cls := 8, slots := #[.int 58], vm := .none },
  { cls := 8, slots := #[.int 59], vm := .none },
  { cls := 8, slots := #[.int 60], vm := .none },
  { cls := 8, slots := #[.int 61], vm := .none },
  { cls := 8, slots := #[.int 62], vm := .none },
  { cls := 8, slots := #[.int 63], vm := .none },
  { cls := 8, slots := #[.int 64], vm := .none },
  { cls := 8, slots := #[.int 65], vm := .none },
  { cls := 8, slots := #[.int 66], vm := .none },
  { cls := 8, slots := #[.int 67], vm := .none },
  { cls := 8, slots := #[.int 68], vm := .none },
  { cls := 8, slots := #[.int 69], vm := .none },
  { cls := 8, slots := #[.int 70], vm := .none },
  { cls := 8, slots := #[.int 71], vm := .none },
  { cls := 8, slots := #[.int 72], vm := .none },
  { cls := 8, slots := #[.int 73], vm := .none },
  { cls := 8, slots := #[.int 74], vm := .none },
  { cls := 8, slots := #[.int 75], vm := .none },
  { cls := 8, slots := #[.int 76], vm := .none },
  { cls := 8, slots := #[.int 77], vm := .none },
  { cls := 8, slots := #[.int 78], vm := .none },
  { cls := 8, slots := #[.int 79], vm := .none },
  { cls := 8, slots := #[.int 80], vm := .none },
  { cls := 8, slots := #[.int 81], vm := .none },
  { cls := 8, slots := #[.int 82], vm := .none },
  { cls := 8, slots := #[.int 83], vm := .none },
  { cls := 8, slots := #[.int 84], vm := .none },
  { cls := 8, slots := #[.int 85], vm := .none },
  { cls := 8, slots := #[.int 86], vm := .none },
  { cls := 8, slots := #[.int 87], vm := .none },
  { cls := 8, slots := #[.int 88], vm := .none },
  { cls := 8, slots := #[.int 89], vm := .none },
  { cls := 8, slots := #[.int 90], vm := .none },
  { cls := 8, slots := #[.int 91], vm := .none },
  { cls := 8, slots := #[.int 92], vm := .none },
  { cls := 8, slots := #[.int 93], vm := .none },
  { cls := 8, slots := #[.int 94], vm := .none },
  { cls := 8, slots := #[.int 95], vm := .none },
  { cls := 8, slots := #[.int 96], vm := .none },
  { cls := 8, slots := #[.int 97], vm := .none },
  { cls := 8, slots := #[.int 98], vm := .none },
  { cls := 8, slots := #[.int 99], vm := .none },
  { cls := 8, slots := #[.int 100], vm := .none },
  { cls := 8, slots := #[.int 101], vm := .none },
  { cls := 8, slots := #[.int 102], vm := .none },
  { cls := 8, slots := #[.int 103], vm := .none },
  { cls := 8, slots := #[.int 104], vm := .none },
  { cls := 8, slots := #[.int 105], vm := .none },
  { cls := 8, slots := #[.int 106], vm := .none },
  { cls := 8, slots := #[.int 107], vm := .none },
  { cls := 8, slots := #[.int 108], vm := .none },
  { cls := 8, slots := #[.int 109], vm := .none },
  { cls := 8, slots := #[.int 110], vm := .none },
  { cls := 8, slots := #[.int 111], vm := .none },
  { cls := 8, slots := #[.int 112], vm := .none },
  { cls := 8, slots := #[.int 113], vm := .none },
  { cls := 8, slots := #[.int 114], vm := .none },
  { cls := 8, slots := #[.int 115], vm := .none },
  { cls := 8, slots := #[.int 116], vm := .none },
  { cls := 8, slots := #[.int 117], vm := .none },
  { cls := 8, slots := #[.int 118], vm := .none },
  { cls := 8, slots := #[.int 119], vm := .none },
  { cls := 8, slots := #[.int 120], vm := .none },
  { cls := 8, slots := #[.int 121], vm := .none },
  { cls := 8, slots := #[.int 122], vm := .none },
  { cls := 8, slots := #[.int 123], vm := .none },
  { cls := 8, slots := #[.int 124], vm := .none },
  { cls := 8, slots := #[.int 125], vm := .none },
  { cls := 8, slots := #[.int 126], vm := .none },
  { cls := 8, slots := #[.int 127], vm := .none },
  { cls := 10, slots := #[.long (-128)], vm := .none },
  { cls := 10, slots := #[.long (-127)], vm := .none },
  { cls := 10, slots := #[.long (-126)], vm := .none },
  { cls := 10, slots := #[.long (-125)], vm := .none },
  { cls := 10, slots := #[.long (-124)], vm := .none },
  { cls := 10, slots := #[.long (-123)], vm := .none },
  { cls := 10, slots := #[.long (-122)], vm := .none },
  { cls := 10, slots := #[.long (-121)], vm := .none },
  { cls := 10, slots := #[.long (-120)], vm := .none },
  { cls := 10, slots := #[.long (-119)], vm := .none },
  { cls := 10, slots := #[.long (-118)], vm := .none },
  { cls := 10, slots := #[.long (-117)], vm := .none },
  { cls := 10, slots := #[.long (-116)], vm := .none },
  { cls := 10, slots := #[.long (-115)], vm := .none },
  { cls := 10, slots := #[.long (-114)], vm := .none },
  { cls := 10, slots := #[.long (-113)], vm := .none },
  { cls := 10, slots := #[.long (-112)], vm := .none },
  { cls := 10, slots := #[.long (-111)], vm := .none },
  { cls := 10, slots := #[.long (-110)], vm := .none },
  { cls := 10, slots := #[.long (-109)], vm := .none },
  { cls := 10, slots := #[.long (-108)], vm := .none },
  { cls := 10, slots := #[.long (-107)], vm := .none },
  { cls := 10, slots := #[.long (-106)], vm := .none },
  { cls := 10, slots := #[.long (-105)], vm := .none },
  { cls := 10, slots := #[.long (-104)], vm := .none },
  { cls := 10, slots := #[.long (-103)], vm := .none },
  { cls := 10, slots := #[.long (-102)], vm := .none },
  { cls := 10, slots := #[.long (-101)], vm := .none },
  { cls := 10, slots := #[.long (-100)], vm := .none },
  { cls := 10, slots := #[.long (-99)], vm := .none },
  { cls := 10, slots := #[.long (-98)], vm := .none },
  { cls := 10, slots := #[.long (-97)], vm := .none },
  { cls := 10, slots := #[.long (-96)], vm := .none },
  { cls := 10, slots := #[.long (-95)], vm := .none },
  { cls := 10, slots := #[.long (-94)], vm := .none },
  { cls := 10, slots := #[.long (-93)], vm := .none },
  { cls := 10, slots := #[.long (-92)], vm := .none },
  { cls := 10, slots := #[.long (-91)], vm := .none },
  { cls := 10, slots := #[.long (-90)], vm := .none },
  { cls := 10, slots := #[.long (-89)], vm := .none },
  { cls := 10, slots := #[.long (-88)], vm := .none },
  { cls := 10, slots := #[.long (-87)], vm := .none },
  { cls := 10, slots := #[.long (-86)], vm := .none },
  { cls := 10, slots := #[.long (-85)], vm := .none },
  { cls := 10, slots := #[.long (-84)], vm := .none },
  { cls := 10, slots := #[.long (-83)], vm := .none },
  { cls := 10, slots := #[.long (-82)], vm := .none },
  { cls := 10, slots := #[.long (-81)], vm := .none },
  { cls := 10, slots := #[.long (-80)], vm := .none },
  { cls := 10, slots := #[.long (-79)], vm := .none },
  { cls := 10, slots := #[.long (-78)], vm := .none },
  { cls := 10, slots := #[.long (-77)], vm := .none },
  { cls := 10, slots := #[.long (-76)], vm := .none },
  { cls := 10, slots := #[.long (-75)], vm := .none },
  { cls := 10, slots := #[.long (-74)], vm := .none },
  { cls := 10, slots := #[.long (-73)], vm := .none },
  { cls := 10, slots := #[.long (-72)], vm := .none },
  { cls := 10, slots := #[.long (-71)], vm := .none },
  { cls := 10, slots := #[.long (-70)], vm := .none },
  { cls := 10, slots := #[.long (-69)], vm := .none },
  { cls := 10, slots := #[.long (-68)], vm := .none },
  { cls := 10, slots := #[.long (-67)], vm := .none },
  { cls := 10, slots := #[.long (-66)], vm := .none },
  { cls := 10, slots := #[.long (-65)], vm := .none },
  { cls := 10, slots := #[.long (-64)], vm := .none },
  { cls := 10, slots := #[.long (-63)], vm := .none },
  { cls := 10, slots := #[.long (-62)], vm := .none },
  { cls := 10, slots := #[.long (-61)], vm := .none },
  { cls := 10, slots := #[.long (-60)], vm := .none },
  { cls := 10, slots := #[.long (-59)], vm := .none },
  { cls := 10, slots := #[.long (-58)], vm := .none },
  { cls := 10, slots := #[.long (-57)], vm := .none },
  { cls := 10, slots := #[.long (-56)], vm := .none },
  { cls := 10, slots := #[.long (-55)], vm := .none },
  { cls := 10, slots := #[.long (-54)], vm := .none },
  { cls := 10, slots := #[.long (-53)], vm := .none },
  { cls := 10, slots := #[.long (-52)], vm := .none },
  { cls := 10, slots := #[.long (-51)], vm := .none },
  { cls := 10, slots := #[.long (-50)], vm := .none },
  { cls := 10, slots := #[.long (-49)], vm := .none },
  { cls := 10, slots := #[.long (-48)], vm := .none },
  { cls := 10, slots := #[.long (-47)], vm := .none },
  { cls := 10, slots := #[.long (-46)], vm := .none },
  { cls := 10, slots := #[.long (-45)], vm := .none },
  { cls := 10, slots := #[.long (-44)], vm := .none },
  { cls := 10, slots := #[.long (-43)], vm := .none },
  { cls := 10, slots := #[.long (-42)], vm := .none },
  { cls := 10, slots := #[.long (-41)], vm := .none },
  { cls := 10, slots := #[.long (-40)], vm := .none },
  { cls := 10, slots := #[.long (-39)], vm := .none },
  { cls := 10, slots := #[.long (-38)], vm := .none },
  { cls := 10, slots := #[.long (-37)], vm := .none },
  { cls := 10, slots := #[.long (-36)], vm := .none },
  { cls := 10, slots := #[.long (-35)], vm := .none },
  { cls := 10, slots := #[.long (-34)], vm := .none },
  { cls := 10, slots := #[.long (-33)], vm := .none },
  { cls := 10, slots := #[.long (-32)], vm := .none },
  { cls := 10, slots := #[.long (-31)], vm := .none },
  { cls := 10, slots := #[.long (-30)], vm := .none },
  { cls := 10, slots := #[.long (-29)], vm := .none },
  { cls := 10, slots := #[.long (-28)], vm := .none },
  { cls := 10, slots := #[.long (-27)], vm := .none },
  { cls := 10, slots := #[.long (-26)], vm := .none },
  { cls := 10, slots := #[.long (-25)], vm := .none },
  { cls := 10, slots := #[.long (-24)], vm := .none },
  { cls := 10, slots := #[.long (-23)], vm := .none },
  { cls := 10, slots := #[.long (-22)], vm := .none },
  { cls := 10, slots := #[.long (-21)], vm := .none },
  { cls := 10, slots := #[.long (-20)], vm := .none },
  { cls := 10, slots := #[.long (-19)], vm := .none },
  { cls := 10, slots := #[.long (-18)], vm := .none },
  { cls := 10, slots := #[.long (-17)], vm := .none },
  { cls := 10, slots := #[.long (-16)], vm := .none },
  { cls := 10, slots := #[.long (-15)], vm := .none },
  { cls := 10, slots := #[.long (-14)], vm := .none },
  { cls := 10, slots := #[.long (-13)], vm := .none },
  { cls := 10, slots := #[.long (-12)], vm := .none },
  { cls := 10, slots := #[.long (-11)], vm := .none },
  { cls := 10, slots := #[.long (-10)], vm := .none },
  { cls := 10, slots := #[.long (-9)], vm := .none },
  { cls := 10, slots := #[.long (-8)], vm := .none },
  { cls := 10, slots := #[.long (-7)], vm := .none },
  { cls := 10, slots := #[.long (-6)], vm := .none },
  { cls := 10, slots := #[.long (-5)], vm := .none },
  { cls := 10, slots := #[.long (-4)], vm := .none },
  { cls := 10, slots := #[.long (-3)], vm := .none },
  { cls := 10, slots := #[.long (-2)], vm := .none },
  { cls := 10, slots := #[.long (-1)], vm := .none },
  { cls := 10, slots := #[.long 0], vm := .none },
  { cls := 10, slots := #[.long 1], vm := .none },
  { cls := 10, slots := #[.long 2], vm := .none },
  { cls := 10, slots := #[.long 3], vm := .none },
  { cls := 10, slots := #[.long 4], vm := .none },
  { cls := 10, slots := #[.long 5], vm := .none },
  { cls := 10, slots := #[.long 6], vm := .none },
  { cls := 10, slots := #[.long 7], vm := .none },
  { cls := 10, slots := #[.long 8], vm := .none },
  { cls := 10, slots := #[.long 9], vm := .none },
  { cls := 10, slots := #[.long 10], vm := .none },
  { cls := 10, slots := #[.long 11], vm := .none },
  { cls := 10, slots := #[.long 12], vm := .none },
  { cls := 10, slots := #[.long 13], vm := .none },
  { cls := 10, slots := #[.long 14], vm := .none },
  { cls := 10, slots := #[.long 15], vm := .none },
  { cls := 10, slots := #[.long 16], vm := .none },
  { cls := 10, slots := #[.long 17], vm := .none },
  { cls := 10, slots := #[.long 18], vm := .none },
  { cls := 10, slots := #[.long 19], vm := .none },
  { cls := 10, slots := #[.long 20], vm := .none },
  { cls := 10, slots := #[.long 21], vm := .none },
  { cls := 10, slots := #[.long 22], vm := .none },
  { cls := 10, slots := #[.long 23], vm := .none },
  { cls := 10, slots := #[.long 24], vm := .none },
  { cls := 10, slots := #[.long 25], vm := .none },
  { cls := 10, slots := #[.long 26], vm := .none },
  { cls := 10, slots := #[.long 27], vm := .none },
  { cls := 10, slots := #[.long 28], vm := .none },
  { cls := 10, slots := #[.long 29], vm := .none },
  { cls := 10, slots := #[.long 30], vm := .none },
  { cls := 10, slots := #[.long 31], vm := .none },
  { cls := 10, slots := #[.long 32], vm := .none },
  { cls := 10, slots := #[.long 33], vm := .none },
  { cls := 10, slots := #[.long 34], vm := .none },
  { cls := 10, slots := #[.long 35], vm := .none },
  { cls := 10, slots := #[.long 36], vm := .none },
  { cls := 10, slots := #[.long 37], vm := .none },
  { cls := 10, slots := #[.long 38], vm := .none },
  { cls := 10, slots := #[.long 39], vm := .none },
  { cls := 10, slots := #[.long 40], vm := .none },
  { cls := 10, slots := #[.long 41], vm := .none },
  { cls := 10, slots := #[.long 42], vm := .none },
  { cls := 10, slots := #[.long 43], vm := .none },
  { cls := 10, slots := #[.long 44], vm := .none },
  { cls := 10, slots := #[.long 45], vm := .none },
  { cls := 10, slots := #[.long 46], vm := .none },
  { cls := 10, slots := #[.long 47], vm := .none },
  { cls := 10, slots := #[.long 48], vm := .none },
  { cls := 10, slots := #[.long 49], vm := .none },
  { cls := 10, slots := #[.long 50], vm := .none },
  { cls := 10, slots := #[.long 51], vm := .none },
  { cls := 10, slots := #[.long 52], vm := .none },
  { cls := 10, slots := #[.long 53], vm := .none },
  { cls := 10, slots := #[.long 54], vm := .none },
  { cls := 10, slots := #[.long 55], vm := .none },
  { cls := 10, slots := #[.long 56], vm := .none },
  { cls := 10, slots := #[.long 57], vm := .none },
  { cls := 10, slots := #[.long 58], vm := .none },
  { cls := 10, slots := #[.long 59], vm := .none },
  { cls := 10, slots := #[.long 60], vm := .none },
  { cls := 10, slots := #[.long 61], vm := .none },
  { cls := 10, slots := #[.long 62], vm := .none },
  { cls := 10, slots := #[.long 63], vm := .none },
  { cls := 10, slots := #[.long 64], vm := .none },
  { cls := 10, slots := #[.long 65], vm := .none },
  { cls := 10, slots := #[.long 66], vm := .none },
  { cls := 10, slots := #[.long 67], vm := .none },
  { cls := 10, slots := #[.long 68], vm := .none },
  { cls := 10, slots := #[.long 69], vm := .none },
  { cls := 10, slots := #[.long 70], vm := .none },
  { cls := 10, slots := #[.long 71], vm := .none },
  { cls := 10, slots := #[.long 72], vm := .none },
  { cls := 10, slots := #[.long 73], vm := .none },
  { cls := 10, slots := #[.long 74], vm := .none },
  { cls := 10, slots := #[.long 75], vm := .none },
  { cls := 10, slots := #[.long 76], vm := .none },
  { cls := 10, slots := #[.long 77], vm := .none },
  { cls := 10, slots := #[.long 78], vm := .none },
  { cls := 10, slots := #[.long 79], vm := .none },
  { cls := 10, slots := #[.long 80], vm := .none },
  { cls := 10, slots := #[.long 81], vm := .none },
  { cls := 10, slots := #[.long 82], vm := .none },
  { cls := 10, slots := #[.long 83], vm := .none },
  { cls := 10, slots := #[.long 84], vm := .none },
  { cls := 10, slots := #[.long 85], vm := .none },
  { cls := 10, slots := #[.long 86], vm := .none },
  { cls := 10, slots := #[.long 87], vm := .none },
  { cls := 10, slots := #[.long 88], vm := .none },
  { cls := 10, slots := #[.long 89], vm := .none },
  { cls := 10, slots := #[.long 90], vm := .none },
  { cls := 10, slots := #[.long 91], vm := .none },
  { cls := 10, slots := #[.long 92], vm := .none },
  { cls := 10, slots := #[.long 93], vm := .none },
  { cls := 10, slots := #[.long 94], vm := .none },
  { cls := 10, slots := #[.long 95], vm := .none },
  { cls := 10, slots := #[.long 96], vm := .none },
  { cls := 10, slots := #[.long 97], vm := .none },
  { cls := 10, slots := #[.long 98], vm := .none },
  { cls := 10, slots := #[.long 99], vm := .none },
  { cls := 10, slots := #[.long 100], vm := .none },
  { cls := 10, slots := #[.long 101], vm := .none },
  { cls := 10, slots := #[.long 102], vm := .none },
  { cls := 10, slots := #[.long 103], vm := .none },
  { cls := 10, slots := #[.long 104], vm := .none },
  { cls := 10, slots := #[.long 105], vm := .none },
  { cls := 10, slots := #[.long 106], vm := .none },
  { cls := 10, slots := #[.long 107], vm := .none },
  { cls := 10, slots := #[.long 108], vm := .none },
  { cls := 10, slots := #[.long 109], vm := .none },
  { cls := 10, slots := #[.long 110], vm := .none },
  { cls := 10, slots := #[.long 111], vm := .none },
  { cls := 10, slots := #[.long 112], vm := .none },
  { cls := 10, slots := #[.long 113], vm := .none },
  { cls := 10, slots := #[.long 114], vm := .none },
  { cls := 10, slots := #[.long 115], vm := .none },
  { cls := 10, slots := #[.long 116], vm := .none },
  { cls := 10, slots := #[.long 117], vm := .none },
  { cls := 10, slots := #[.long 118], vm := .none },
  { cls := 10, slots := #[.long 119], vm := .none },
  { cls := 10, slots := #[.long 120], vm := .none },
  { cls := 10, slots := #[.long 121], vm := .none },
  { cls := 10, slots := #[.long 122], vm := .none },
  { cls := 10, slots := #[.long 123], vm := .none },
  { cls := 10, slots := #[.long 124], vm := .none },
  { cls := 10, slots := #[.long 125], vm := .none },
  { cls := 10, slots := #[.long 126], vm := .none },
  { cls := 10, slots := #[.long 127], vm := .none }]
def classes : Array Class := #[k0, k1, k2, k3, k4, k5, k6, k7, k8, k9, k10, k11, k12, k13, k14, k15, k16, k17, k18]
def interned : List (Array UInt16 × Addr) := []
def slotsUsed : Nat := 1032
def theMethod : MethodId := ⟨1, 1⟩
def args0 : Array Value := #[.int 5, .long 5, .int 5]
def aboutOver (below : List Frame) : State where
  vm := { classes := classes, interned := interned.toArray }
  heap := heap
  slotsUsed := slotsUsed
  threads := #[{ frames := .invoking theMethod args0 :: below }]
def below0 : List Frame := [.native { method := ⟨0, 0⟩, args := #[] }]
def about1 : State := aboutOver below0
def p0 : Program := .bare "" "" ""
def e0 : Env := launch0.env 0 0 0
theorem w_frames : about1.frames = Frame.invoking theMethod args0 :: below0 := rfl
set_option maxRecDepth 65536 in
theorem w_args : argsFit about1.vm theMethod args0 = true := by decide +kernel
set_option maxRecDepth 65536 in
theorem w_heap : heapFits about1 = true := by decide +kernel
set_option maxRecDepth 65536 in
theorem w_runnable : about1.curStatus? = some .runnable := by decide +kernel
set_option maxRecDepth 65536 in
theorem w_alone : about1.alone = true := by decide +kernel
set_option maxRecDepth 65536 in
theorem w_named : about1.methodNamed? x = some theMethod := by decide +kernel
set_option maxRecDepth 65536 in
theorem w_hears : about1.hears theMethod below0 = true := by decide +kernel
set_option maxRecDepth 65536 in
theorem w_ripe : about1.ripe theMethod args0 below0 = true := by decide +kernel
theorem w_running : about1.status = .running := rfl
set_option maxRecDepth 65536 in
theorem w_room : about1.hasRoom e0.platform room_1 = true :=
  launch0.hasRoom_least _ room_1 (by decide +kernel) (by decide +kernel) (by decide +kernel) (by decide +kernel) (by decide +kernel) (by decide +kernel)
theorem allAtoms_all (ts : List Jvm.Cond) (a : Array Jvm.Value) (st : Jvm.State) : (allAtoms ts).before a st = ts.all (fun c => c.before a st) := by
  induction ts with
  | nil => rfl
  | cons c t ih =>
    show (Jvm.Cond.and c (allAtoms t)).before a st = _
    rw [Jvm.Cond.before_and, ih, List.all_cons]
def words1 : List Jvm.Cond := Jvm.Cond.code x code maxLocals ret :: tables_1
/-- a 'code' word, met by the world's own term for the bytes: nothing is compared byte by byte -/
theorem code_word {y : MethodName} {bytes : ByteArray} {mx : Nat} {rt : Option FieldType} {a : Array Value} {s : State} {m : MethodId} {meth : Method} {c : Code} (h1 : s.methodNamed? y = some m) (h2 : s.vm.method? m = some meth) (h3 : meth.code = some c) (h4 : c.code = bytes)
    (h5 : (c.maxLocals == mx && c.exceptionTable.isEmpty && decide (c.maxStack ≤ mostOperands) && decide (meth.sig.returnType = rt) && !meth.locks && decide (parseMethodDescriptor y.desc = some meth.sig)) = true) : (Jvm.Cond.code y bytes mx rt).before a s = true := by
  simp only [Bool.and_eq_true, beq_iff_eq, Bool.not_eq_true', decide_eq_true_eq] at h5
  obtain ⟨⟨⟨⟨⟨g1, g2⟩, g3⟩, g4⟩, g5⟩, g6⟩ := h5
  simp [Cond.before, Cond.holds, Cond.value, h1, h2, h3, h4, g1, g2, g3, g4, g5, g6]
def isCode : Jvm.Cond → Bool
  | .code _ _ _ _ => true
  | _ => false
theorem all_split {L : List Jvm.Cond} {P : Jvm.Cond → Bool} (h1 : L.all (fun c => isCode c || P c) = true) (h2 : ∀ c ∈ L.filter isCode, P c = true) : L.all P = true := by
  refine List.all_eq_true.mpr fun c hc => ?_
  have h := List.all_eq_true.mp h1 c hc
  rcases Bool.eq_false_or_eq_true (isCode c) with hi | hi
  · exact h2 c (List.mem_filter.mpr ⟨hc, hi⟩)
  · simpa [hi] using h
set_option maxRecDepth 65536 in
theorem w_c0 : (Jvm.Cond.code x code maxLocals ret).before args0 about1 = true := code_word (m := ⟨1, 1⟩) (meth := k1m1) (c := k1c1) (by decide +kernel) rfl rfl rfl (by decide +kernel)
set_option maxRecDepth 65536 in
theorem w_c1 : (Jvm.Cond.code ({ cls := "com/example/pinyon_jay/pinyonjay/engine/PendingId", name := "<init>", desc := "()V" } : Jvm.MethodName) prog_1_method_1_code (1 : Nat) (Option.none : Option Jvm.ClassFile.FieldType)).before args0 about1 = true := code_word (m := ⟨2, 0⟩) (meth := k2m0) (c := k2c0) (by decide +kernel) rfl rfl rfl (by decide +kernel)
set_option maxRecDepth 65536 in
theorem w_c2 : (Jvm.Cond.code ({ cls := "java/lang/Object", name := "<init>", desc := "()V" } : Jvm.MethodName) object_method_1_code (1 : Nat) (Option.none : Option Jvm.ClassFile.FieldType)).before args0 about1 = true := code_word (m := ⟨0, 0⟩) (meth := k0m0) (c := k0c0) (by decide +kernel) rfl rfl rfl (by decide +kernel)
set_option maxRecDepth 65536 in
theorem w_c3 : (Jvm.Cond.code ({ cls := "com/example/pinyon_jay/pinyonjay/engine/PendingId", name := "isAssigned", desc := "()Z" } : Jvm.MethodName) prog_1_method_3_code (1 : Nat) (Option.some Jvm.ClassFile.FieldType.boolean)).before args0 about1 = true := code_word (m := ⟨2, 2⟩) (meth := k2m2) (c := k2c2) (by decide +kernel) rfl rfl rfl (by decide +kernel)
set_option maxRecDepth 65536 in
theorem w_c4 : (Jvm.Cond.code ({ cls := "java/lang/Integer", name := "valueOf", desc := "(I)Ljava/lang/Integer;" } : Jvm.MethodName) jdk_33_method_22_code (1 : Nat) (Option.some (Jvm.ClassFile.FieldType.object "java/lang/Integer"))).before args0 about1 = true := code_word (m := ⟨8, 0⟩) (meth := k8m0) (c := k8c0) (by decide +kernel) rfl rfl rfl (by decide +kernel)
set_option maxRecDepth 65536 in
theorem w_c5 : (Jvm.Cond.code ({ cls := "java/lang/Long", name := "valueOf", desc := "(J)Ljava/lang/Long;" } : Jvm.MethodName) jdk_35_method_24_code (3 : Nat) (Option.some (Jvm.ClassFile.FieldType.object "java/lang/Long"))).before args0 about1 = true := code_word (m := ⟨10, 0⟩) (meth := k10m0) (c := k10c0) (by decide +kernel) rfl rfl rfl (by decide +kernel)
set_option maxRecDepth 65536 in
theorem w_c6 : (Jvm.Cond.code ({ cls := "com/example/pinyon_jay/pinyonjay/engine/PendingId", name := "assign", desc := "(Ljava/lang/Object;)V" } : Jvm.MethodName) prog_1_method_2_code (2 : Nat) (Option.none : Option Jvm.ClassFile.FieldType)).before args0 about1 = true := code_word (m := ⟨2, 1⟩) (meth := k2m1) (c := k2c1) (by decide +kernel) rfl rfl rfl (by decide +kernel)
set_option maxRecDepth 65536 in
theorem w_c7 : (Jvm.Cond.code ({ cls := "com/example/pinyon_jay/pinyonjay/engine/PendingId", name := "value", desc := "()Ljava/lang/Object;" } : Jvm.MethodName) prog_1_method_4_code (1 : Nat) (Option.some (Jvm.ClassFile.FieldType.object "java/lang/Object"))).before args0 about1 = true := code_word (m := ⟨2, 3⟩) (meth := k2m3) (c := k2c3) (by decide +kernel) rfl rfl rfl (by decide +kernel)
set_option maxRecDepth 65536 in
theorem w_c8 : (Jvm.Cond.code ({ cls := "java/lang/Long", name := "<init>", desc := "(J)V" } : Jvm.MethodName) jdk_35_method_26_code (3 : Nat) (Option.none : Option Jvm.ClassFile.FieldType)).before args0 about1 = true := code_word (m := ⟨10, 1⟩) (meth := k10m1) (c := k10c1) (by decide +kernel) rfl rfl rfl (by decide +kernel)
set_option maxRecDepth 65536 in
theorem w_c9 : (Jvm.Cond.code ({ cls := "java/lang/Number", name := "<init>", desc := "()V" } : Jvm.MethodName) jdk_18_method_1_code (1 : Nat) (Option.none : Option Jvm.ClassFile.FieldType)).before args0 about1 = true := code_word (m := ⟨4, 0⟩) (meth := k4m0) (c := k4c0) (by decide +kernel) rfl rfl rfl (by decide +kernel)
set_option maxRecDepth 65536 in
theorem w_c10 : (Jvm.Cond.code ({ cls := "java/lang/Integer", name := "<init>", desc := "(I)V" } : Jvm.MethodName) jdk_33_method_23_code (2 : Nat) (Option.none : Option Jvm.ClassFile.FieldType)).before args0 about1 = true := code_word (m := ⟨8, 1⟩) (meth := k8m1) (c := k8c1) (by decide +kernel) rfl rfl rfl (by decide +kernel)
def codes1 : List Jvm.Cond := [Jvm.Cond.code x code maxLocals ret, Jvm.Cond.code ({ cls := "com/example/pinyon_jay/pinyonjay/engine/PendingId", name := "<init>", desc := "()V" } : Jvm.MethodName) prog_1_method_1_code (1 : Nat) (Option.none : Option Jvm.ClassFile.FieldType), Jvm.Cond.code ({ cls := "java/lang/Object", name := "<init>", desc := "()V" } : Jvm.MethodName) object_method_1_code (1 : Nat) (Option.none : Option Jvm.ClassFile.FieldType), Jvm.Cond.code ({ cls := "com/example/pinyon_jay/pinyonjay/engine/PendingId", name := "isAssigned", desc := "()Z" } : Jvm.MethodName) prog_1_method_3_code (1 : Nat) (Option.some Jvm.ClassFile.FieldType.boolean), Jvm.Cond.code ({ cls := "java/lang/Integer", name := "valueOf", desc := "(I)Ljava/lang/Integer;" } : Jvm.MethodName) jdk_33_method_22_code (1 : Nat) (Option.some (Jvm.ClassFile.FieldType.object "java/lang/Integer")), Jvm.Cond.code ({ cls := "java/lang/Long", name := "valueOf", desc := "(J)Ljava/lang/Long;" } : Jvm.MethodName) jdk_35_method_24_code (3 : Nat) (Option.some (Jvm.ClassFile.FieldType.object "java/lang/Long")), Jvm.Cond.code ({ cls := "com/example/pinyon_jay/pinyonjay/engine/PendingId", name := "assign", desc := "(Ljava/lang/Object;)V" } : Jvm.MethodName) prog_1_method_2_code (2 : Nat) (Option.none : Option Jvm.ClassFile.FieldType), Jvm.Cond.code ({ cls := "com/example/pinyon_jay/pinyonjay/engine/PendingId", name := "value", desc := "()Ljava/lang/Object;" } : Jvm.MethodName) prog_1_method_4_code (1 : Nat) (Option.some (Jvm.ClassFile.FieldType.object "java/lang/Object")), Jvm.Cond.code ({ cls := "java/lang/Long", name := "<init>", desc := "(J)V" } : Jvm.MethodName) jdk_35_method_26_code (3 : Nat) (Option.none : Option Jvm.ClassFile.FieldType), Jvm.Cond.code ({ cls := "java/lang/Number", name := "<init>", desc := "()V" } : Jvm.MethodName) jdk_18_method_1_code (1 : Nat) (Option.none : Option Jvm.ClassFile.FieldType), Jvm.Cond.code ({ cls := "java/lang/Integer", name := "<init>", desc := "(I)V" } : Jvm.MethodName) jdk_33_method_23_code (2 : Nat) (Option.none : Option Jvm.ClassFile.FieldType)]
set_option maxRecDepth 65536 in
theorem codes_eq : words1.filter isCode = codes1 := rfl
theorem w_codes : ∀ c ∈ words1.filter isCode, c.before args0 about1 = true := by
  rw [codes_eq]
  intro c hc
  simp only [codes1, List.mem_cons, List.not_mem_nil, or_false] at hc
  rcases hc with rfl | rfl | rfl | rfl | rfl | rfl | rfl | rfl | rfl | rfl | rfl
  · exact w_c0
  · exact w_c1
  · exact w_c2
  · exact w_c3
  · exact w_c4
  · exact w_c5
  · exact w_c6
  · exact w_c7
  · exact w_c8
  · exact w_c9
  · exact w_c10
set_option maxRecDepth 65536 in
theorem w_t1 : (words1.take 24).all (fun c => isCode c || c.before args0 about1) = true := by decide +kernel
set_option maxRecDepth 65536 in
theorem w_t2 : ((words1.drop 24).take 24).all (fun c => isCode c || c.before args0 about1) = true := by decide +kernel
set_option maxRecDepth 65536 in
theorem w_t3 : ((words1.drop 24).drop 24).all (fun c => isCode c || c.before args0 about1) = true := by decide +kernel
theorem w_tables : (allAtoms (Jvm.Cond.code x code maxLocals ret :: tables_1)).before args0 about1 = true := by
  rw [allAtoms_all]
  show words1.all (fun c => c.before args0 about1) = true
  refine all_split ?_ w_codes
  rw [← List.take_append_drop 24 words1, List.all_append, w_t1, ← List.take_append_drop 24 (words1.drop 24), List.all_append, w_t2, w_t3]
  rfl
set_option maxRecDepth 65536 in
theorem w_rest : rest_1_c.before args0 about1 = true := by decide +kernel
set_option maxRecDepth 65536 in
theorem w_case : (Jvm.Cond.and given_1 narrow_1).before args0 about1 = true := by decide +kernel
theorem w_applies : (headSpec (Jvm.Cond.code x code maxLocals ret :: tables_1) room_1).applies x e0.platform about1 = true :=
  (Spec.applies_iff w_frames).mpr ⟨w_running, w_runnable, w_alone, w_named, w_hears, w_ripe, w_room, w_tables⟩
theorem atStart : AtStart classFile x code maxLocals ret World_1 tables_1 room_1 Calls_1 rest_1 Pre_1 launch0 p0 e0 about1 theMethod args0 below0 :=
  ⟨lists_1, trivial, launch0.admits_env _ _ _, launch0.least_env, fairChoices_fair.cas, fairChoices_fair.clock, w_frames, w_args, w_heap, w_applies, trivial, w_rest, w_case⟩
end start1
theorem witness_1 : WitnessClaimed_1 := ⟨start1.p0, start1.e0, start1.about1, start1.theMethod, start1.args0, start1.below0, start1.atStart⟩
end Jvm.Pilot.@@N@@
