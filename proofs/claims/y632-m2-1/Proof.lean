import JvmDerived
import JvmDerived.Pilot.@@N@@Statement
import JvmDerived.Pilot.@@N@@Code
set_option linter.unusedVariables false
set_option linter.unusedSimpArgs false
namespace Jvm.Pilot.@@N@@
open Jvm Jvm.ClassFile Sem Op Lib Jvm.Free Jvm.Stand Jvm.LawKit Jvm.RoadKit Bundle Jvm.Pilot.@@N@@.Jvm.D
section OwnSteps
variable {tb : Tables} [Ours tb] {e : Env} {below : List Frame} {T target : State} {m : MethodId} {c : Code} {g : JFrame} {rest : List Value}
theorem Own.iadd (h : At T m c below) (hx : tb.exec = Jvm.exec) (hg : g.method = m) {x : Int32} {y : Int32} {z : Int32} (hd : decode c.code g.pc = .ok (.iadd, 1)) (hs : g.stack = .int y :: .int x :: rest) (hz : (x + y) = z)
    (hr : Steps tb e below (T.setTop { g with pc := g.pc + 1, stack := .int z :: rest }) target) : Steps tb e below (T.setTop g) target := XS.iadd h hx hg hd hs (by rw [show (x + y) = z from hz]; exact hr)
theorem Own.isub (h : At T m c below) (hx : tb.exec = Jvm.exec) (hg : g.method = m) {x : Int32} {y : Int32} {z : Int32} (hd : decode c.code g.pc = .ok (.isub, 1)) (hs : g.stack = .int y :: .int x :: rest) (hz : (x - y) = z)
    (hr : Steps tb e below (T.setTop { g with pc := g.pc + 1, stack := .int z :: rest }) target) : Steps tb e below (T.setTop g) target := XS.isub h hx hg hd hs (by rw [show (x - y) = z from hz]; exact hr)
theorem Own.imul (h : At T m c below) (hx : tb.exec = Jvm.exec) (hg : g.method = m) {x : Int32} {y : Int32} {z : Int32} (hd : decode c.code g.pc = .ok (.imul, 1)) (hs : g.stack = .int y :: .int x :: rest) (hz : (x * y) = z)
    (hr : Steps tb e below (T.setTop { g with pc := g.pc + 1, stack := .int z :: rest }) target) : Steps tb e below (T.setTop g) target := XS.imul h hx hg hd hs (by rw [show (x * y) = z from hz]; exact hr)
theorem Own.iand (h : At T m c below) (hx : tb.exec = Jvm.exec) (hg : g.method = m) {x : Int32} {y : Int32} {z : Int32} (hd : decode c.code g.pc = .ok (.iand, 1)) (hs : g.stack = .int y :: .int x :: rest) (hz : (x &&& y) = z)
    (hr : Steps tb e below (T.setTop { g with pc := g.pc + 1, stack := .int z :: rest }) target) : Steps tb e below (T.setTop g) target := XS.iand h hx hg hd hs (by rw [show (x &&& y) = z from hz]; exact hr)
theorem Own.ior (h : At T m c below) (hx : tb.exec = Jvm.exec) (hg : g.method = m) {x : Int32} {y : Int32} {z : Int32} (hd : decode c.code g.pc = .ok (.ior, 1)) (hs : g.stack = .int y :: .int x :: rest) (hz : (x ||| y) = z)
    (hr : Steps tb e below (T.setTop { g with pc := g.pc + 1, stack := .int z :: rest }) target) : Steps tb e below (T.setTop g) target := XS.ior h hx hg hd hs (by rw [show (x ||| y) = z from hz]; exact hr)
theorem Own.ixor (h : At T m c below) (hx : tb.exec = Jvm.exec) (hg : g.method = m) {x : Int32} {y : Int32} {z : Int32} (hd : decode c.code g.pc = .ok (.ixor, 1)) (hs : g.stack = .int y :: .int x :: rest) (hz : (x ^^^ y) = z)
    (hr : Steps tb e below (T.setTop { g with pc := g.pc + 1, stack := .int z :: rest }) target) : Steps tb e below (T.setTop g) target := XS.ixor h hx hg hd hs (by rw [show (x ^^^ y) = z from hz]; exact hr)
theorem Own.ishl (h : At T m c below) (hx : tb.exec = Jvm.exec) (hg : g.method = m) {x : Int32} {y : Int32} {z : Int32} (hd : decode c.code g.pc = .ok (.ishl, 1)) (hs : g.stack = .int y :: .int x :: rest) (hz : (x <<< (y &&& 31)) = z)
    (hr : Steps tb e below (T.setTop { g with pc := g.pc + 1, stack := .int z :: rest }) target) : Steps tb e below (T.setTop g) target := XS.ishl h hx hg hd hs (by rw [show (x <<< (y &&& 31)) = z from hz]; exact hr)
theorem Own.ishr (h : At T m c below) (hx : tb.exec = Jvm.exec) (hg : g.method = m) {x : Int32} {y : Int32} {z : Int32} (hd : decode c.code g.pc = .ok (.ishr, 1)) (hs : g.stack = .int y :: .int x :: rest) (hz : (x >>> (y &&& 31)) = z)
    (hr : Steps tb e below (T.setTop { g with pc := g.pc + 1, stack := .int z :: rest }) target) : Steps tb e below (T.setTop g) target := XS.ishr h hx hg hd hs (by rw [show (x >>> (y &&& 31)) = z from hz]; exact hr)
theorem Own.iushr (h : At T m c below) (hx : tb.exec = Jvm.exec) (hg : g.method = m) {x : Int32} {y : Int32} {z : Int32} (hd : decode c.code g.pc = .ok (.iushr, 1)) (hs : g.stack = .int y :: .int x :: rest) (hz : ((x.toUInt32 >>> (y &&& 31).toUInt32).toInt32) = z)
    (hr : Steps tb e below (T.setTop { g with pc := g.pc + 1, stack := .int z :: rest }) target) : Steps tb e below (T.setTop g) target := XS.iushr h hx hg hd hs (by rw [show ((x.toUInt32 >>> (y &&& 31).toUInt32).toInt32) = z from hz]; exact hr)
theorem Own.ladd (h : At T m c below) (hx : tb.exec = Jvm.exec) (hg : g.method = m) {x : Int64} {y : Int64} {z : Int64} (hd : decode c.code g.pc = .ok (.ladd, 1)) (hs : g.stack = .long y :: .long x :: rest) (hz : (x + y) = z)
    (hr : Steps tb e below (T.setTop { g with pc := g.pc + 1, stack := .long z :: rest }) target) : Steps tb e below (T.setTop g) target := XS.ladd h hx hg hd hs (by rw [show (x + y) = z from hz]; exact hr)
theorem Own.lsub (h : At T m c below) (hx : tb.exec = Jvm.exec) (hg : g.method = m) {x : Int64} {y : Int64} {z : Int64} (hd : decode c.code g.pc = .ok (.lsub, 1)) (hs : g.stack = .long y :: .long x :: rest) (hz : (x - y) = z)
    (hr : Steps tb e below (T.setTop { g with pc := g.pc + 1, stack := .long z :: rest }) target) : Steps tb e below (T.setTop g) target := XS.lsub h hx hg hd hs (by rw [show (x - y) = z from hz]; exact hr)
theorem Own.lmul (h : At T m c below) (hx : tb.exec = Jvm.exec) (hg : g.method = m) {x : Int64} {y : Int64} {z : Int64} (hd : decode c.code g.pc = .ok (.lmul, 1)) (hs : g.stack = .long y :: .long x :: rest) (hz : (x * y) = z)
    (hr : Steps tb e below (T.setTop { g with pc := g.pc + 1, stack := .long z :: rest }) target) : Steps tb e below (T.setTop g) target := XS.lmul h hx hg hd hs (by rw [show (x * y) = z from hz]; exact hr)
theorem Own.land (h : At T m c below) (hx : tb.exec = Jvm.exec) (hg : g.method = m) {x : Int64} {y : Int64} {z : Int64} (hd : decode c.code g.pc = .ok (.land, 1)) (hs : g.stack = .long y :: .long x :: rest) (hz : (x &&& y) = z)
    (hr : Steps tb e below (T.setTop { g with pc := g.pc + 1, stack := .long z :: rest }) target) : Steps tb e below (T.setTop g) target := XS.land h hx hg hd hs (by rw [show (x &&& y) = z from hz]; exact hr)
theorem Own.lor (h : At T m c below) (hx : tb.exec = Jvm.exec) (hg : g.method = m) {x : Int64} {y : Int64} {z : Int64} (hd : decode c.code g.pc = .ok (.lor, 1)) (hs : g.stack = .long y :: .long x :: rest) (hz : (x ||| y) = z)
    (hr : Steps tb e below (T.setTop { g with pc := g.pc + 1, stack := .long z :: rest }) target) : Steps tb e below (T.setTop g) target := XS.lor h hx hg hd hs (by rw [show (x ||| y) = z from hz]; exact hr)
theorem Own.lxor (h : At T m c below) (hx : tb.exec = Jvm.exec) (hg : g.method = m) {x : Int64} {y : Int64} {z : Int64} (hd : decode c.code g.pc = .ok (.lxor, 1)) (hs : g.stack = .long y :: .long x :: rest) (hz : (x ^^^ y) = z)
    (hr : Steps tb e below (T.setTop { g with pc := g.pc + 1, stack := .long z :: rest }) target) : Steps tb e below (T.setTop g) target := XS.lxor h hx hg hd hs (by rw [show (x ^^^ y) = z from hz]; exact hr)
theorem Own.lshl (h : At T m c below) (hx : tb.exec = Jvm.exec) (hg : g.method = m) {x : Int64} {y : Int32} {z : Int64} (hd : decode c.code g.pc = .ok (.lshl, 1)) (hs : g.stack = .int y :: .long x :: rest) (hz : (x <<< (y &&& 63).toInt64) = z)
    (hr : Steps tb e below (T.setTop { g with pc := g.pc + 1, stack := .long z :: rest }) target) : Steps tb e below (T.setTop g) target := XS.lshl h hx hg hd hs (by rw [show (x <<< (y &&& 63).toInt64) = z from hz]; exact hr)
theorem Own.lshr (h : At T m c below) (hx : tb.exec = Jvm.exec) (hg : g.method = m) {x : Int64} {y : Int32} {z : Int64} (hd : decode c.code g.pc = .ok (.lshr, 1)) (hs : g.stack = .int y :: .long x :: rest) (hz : (x >>> (y &&& 63).toInt64) = z)
    (hr : Steps tb e below (T.setTop { g with pc := g.pc + 1, stack := .long z :: rest }) target) : Steps tb e below (T.setTop g) target := XS.lshr h hx hg hd hs (by rw [show (x >>> (y &&& 63).toInt64) = z from hz]; exact hr)
theorem Own.lushr (h : At T m c below) (hx : tb.exec = Jvm.exec) (hg : g.method = m) {x : Int64} {y : Int32} {z : Int64} (hd : decode c.code g.pc = .ok (.lushr, 1)) (hs : g.stack = .int y :: .long x :: rest) (hz : ((x.toUInt64 >>> (y &&& 63).toInt64.toUInt64).toInt64) = z)
    (hr : Steps tb e below (T.setTop { g with pc := g.pc + 1, stack := .long z :: rest }) target) : Steps tb e below (T.setTop g) target := XS.lushr h hx hg hd hs (by rw [show ((x.toUInt64 >>> (y &&& 63).toInt64.toUInt64).toInt64) = z from hz]; exact hr)
theorem Own.lcmp (h : At T m c below) (hx : tb.exec = Jvm.exec) (hg : g.method = m) {x : Int64} {y : Int64} {z : Int32} (hd : decode c.code g.pc = .ok (.lcmp, 1)) (hs : g.stack = .long y :: .long x :: rest) (hz : lcmpW x y = z)
    (hr : Steps tb e below (T.setTop { g with pc := g.pc + 1, stack := .int z :: rest }) target) : Steps tb e below (T.setTop g) target := XS.lcmp h hx hg hd hs (by rw [show (if x > y then (1 : Int32) else if x = y then 0 else -1) = z from hz]; exact hr)
theorem Own.ineg (h : At T m c below) (hx : tb.exec = Jvm.exec) (hg : g.method = m) {x : Int32} {z : Int32} (hd : decode c.code g.pc = .ok (.ineg, 1)) (hs : g.stack = .int x :: rest) (hz : (-x) = z)
    (hr : Steps tb e below (T.setTop { g with pc := g.pc + 1, stack := .int z :: rest }) target) : Steps tb e below (T.setTop g) target := XS.ineg h hx hg hd hs (by rw [show (-x) = z from hz]; exact hr)
theorem Own.i2l (h : At T m c below) (hx : tb.exec = Jvm.exec) (hg : g.method = m) {x : Int32} {z : Int64} (hd : decode c.code g.pc = .ok (.i2l, 1)) (hs : g.stack = .int x :: rest) (hz : (x.toInt64) = z)
    (hr : Steps tb e below (T.setTop { g with pc := g.pc + 1, stack := .long z :: rest }) target) : Steps tb e below (T.setTop g) target := XS.i2l h hx hg hd hs (by rw [show (x.toInt64) = z from hz]; exact hr)
theorem Own.i2b (h : At T m c below) (hx : tb.exec = Jvm.exec) (hg : g.method = m) {x : Int32} {z : Int32} (hd : decode c.code g.pc = .ok (.i2b, 1)) (hs : g.stack = .int x :: rest) (hz : (x.toInt8.toInt32) = z)
    (hr : Steps tb e below (T.setTop { g with pc := g.pc + 1, stack := .int z :: rest }) target) : Steps tb e below (T.setTop g) target := XS.i2b h hx hg hd hs (by rw [show (x.toInt8.toInt32) = z from hz]; exact hr)
theorem Own.i2c (h : At T m c below) (hx : tb.exec = Jvm.exec) (hg : g.method = m) {x : Int32} {z : Int32} (hd : decode c.code g.pc = .ok (.i2c, 1)) (hs : g.stack = .int x :: rest) (hz : (x.toUInt32.toUInt16.toUInt32.toInt32) = z)
    (hr : Steps tb e below (T.setTop { g with pc := g.pc + 1, stack := .int z :: rest }) target) : Steps tb e below (T.setTop g) target := XS.i2c h hx hg hd hs (by rw [show (x.toUInt32.toUInt16.toUInt32.toInt32) = z from hz]; exact hr)
theorem Own.i2s (h : At T m c below) (hx : tb.exec = Jvm.exec) (hg : g.method = m) {x : Int32} {z : Int32} (hd : decode c.code g.pc = .ok (.i2s, 1)) (hs : g.stack = .int x :: rest) (hz : (x.toInt16.toInt32) = z)
    (hr : Steps tb e below (T.setTop { g with pc := g.pc + 1, stack := .int z :: rest }) target) : Steps tb e below (T.setTop g) target := XS.i2s h hx hg hd hs (by rw [show (x.toInt16.toInt32) = z from hz]; exact hr)
theorem Own.lneg (h : At T m c below) (hx : tb.exec = Jvm.exec) (hg : g.method = m) {x : Int64} {z : Int64} (hd : decode c.code g.pc = .ok (.lneg, 1)) (hs : g.stack = .long x :: rest) (hz : (-x) = z)
    (hr : Steps tb e below (T.setTop { g with pc := g.pc + 1, stack := .long z :: rest }) target) : Steps tb e below (T.setTop g) target := XS.lneg h hx hg hd hs (by rw [show (-x) = z from hz]; exact hr)
theorem Own.l2i (h : At T m c below) (hx : tb.exec = Jvm.exec) (hg : g.method = m) {x : Int64} {z : Int32} (hd : decode c.code g.pc = .ok (.l2i, 1)) (hs : g.stack = .long x :: rest) (hz : (x.toInt32) = z)
    (hr : Steps tb e below (T.setTop { g with pc := g.pc + 1, stack := .int z :: rest }) target) : Steps tb e below (T.setTop g) target := XS.l2i h hx hg hd hs (by rw [show (x.toInt32) = z from hz]; exact hr)
theorem Own.idiv (h : At T m c below) (hx : tb.exec = Jvm.exec) (hg : g.method = m) {x y z : Int32} (hd : decode c.code g.pc = .ok (.idiv, 1)) (hs : g.stack = .int y :: .int x :: rest) (hy : y ≠ 0) (hz : x / y = z)
    (hr : Steps tb e below (T.setTop { g with pc := g.pc + 1, stack := .int z :: rest }) target) : Steps tb e below (T.setTop g) target := XS.idiv h hx hg hd hs hy (by rw [hz]; exact hr)
theorem Own.iinc (h : At T m c below) (hx : tb.exec = Jvm.exec) (hg : g.method = m) {k : Nat} {cst : Int} {x z : Int32} {l' : Array Slot} (hd : decode c.code g.pc = .ok (.iinc k cst, 3)) (hl : g.locals[k]? = some (.val (.int x))) (hz : x + Int32.ofInt cst = z) (hl' : storeLocals g.locals k (.int z) = some l')
    (hr : Steps tb e below (T.setTop { g with pc := g.pc + 3, locals := l' }) target) : Steps tb e below (T.setTop g) target := XS.iinc h hx hg hd hl (by rw [hz]; exact hl') hr
theorem Own.iload (h : At T m c below) (hx : tb.exec = Jvm.exec) (hg : g.method = m) {k : Nat} {v z : Int32} (hd : decode c.code g.pc = .ok (.iload k, 2)) (hl : g.locals[k]? = some (.val (.int v))) (hz : v = z)
    (hr : Steps tb e below (T.setTop { g with pc := g.pc + 2, stack := .int z :: g.stack }) target) : Steps tb e below (T.setTop g) target := XS.iload h hx hg hd hl (by rw [hz]; exact hr)
theorem Own.iloadN (h : At T m c below) (hx : tb.exec = Jvm.exec) (hg : g.method = m) {k : Fin 4} {v z : Int32} (hd : decode c.code g.pc = .ok (.iload_n k, 1)) (hl : g.locals[k.val]? = some (.val (.int v))) (hz : v = z)
    (hr : Steps tb e below (T.setTop { g with pc := g.pc + 1, stack := .int z :: g.stack }) target) : Steps tb e below (T.setTop g) target := XS.iloadN h hx hg hd hl (by rw [hz]; exact hr)
end OwnSteps
theorem own_irem {p : Program} {l : Launch} {e : Env} {R : Room} {s : State} {m : MethodId} {args : Array Value} {below : List Frame} {meth : Method} {c : Code} {T : State} {locs : List Loc} {cells slots : Nat} {g : JFrame} {target : State} (X : Stand p l e R s m args below meth c T locs cells slots) (hx : p.tables.exec = Jvm.exec) (hg : g.method = m) {x y z : Int32} {rest : List Value} (hd : decode c.code g.pc = .ok (.irem, 1)) (hs : g.stack = .int y :: .int x :: rest) (hy : y ≠ 0) (hz : x % y = z)
    (hr : Steps p.tables e below (T.setTop { g with pc := g.pc + 1, stack := .int z :: rest }) target) : Steps p.tables e below (T.setTop g) target := iremM X hx hg hd hs hy (by rw [hz]; exact hr)
section OwnCalls
variable {p : Program} {l : Launch} {e : Env} {R : Room} {s : State} {m : MethodId} {args : Array Value} {below : List Frame} {meth : Method} {c : Code} {T : State} {locs : List Loc} {cells slots : Nat} {Z : State} {a0 : Array Value} {h : Heap}
theorem own_callS (X : Stand p l e R s m args below meth c T locs cells slots) (hx : p.tables.exec = Jvm.exec) (hZ : Z.Warmed39 s.vm) {own : String} {index W maxL : Nat} {y : MethodName} {bytes : ByteArray} {ret : Option FieldType} {rm : Room} {as' : Array Value} {Q : Option Value → Heap → List Loc → Prop}
    (hown : s.vm.findClass own = some m.cls) (w1 : (Jvm.Cond.methodLink own index y).before a0 Z = true) (w2 : (Jvm.Cond.static y).before a0 Z = true) (w3 : (Jvm.Cond.initialized y.cls).before a0 Z = true) (w4 : (Jvm.Cond.code y bytes maxL ret).before a0 Z = true) (hy : y.cls ≠ "java/lang/invoke/MethodHandle" ∧ y.cls ≠ "java/lang/invoke/VarHandle")
    (hM : MetFree l y (head1 [Jvm.Cond.code y bytes maxL ret] rm) (fun a U => a = as' ∧ Z.Warmed39 U.vm ∧ U.heap = h) (fun _ _ _ _ _ => True) (fun _ U o U' => ∃ v L, o = .returned v ∧ Q v U'.heap L ∧ FrameEnd U o U' L rm.cells rm.slots)) (eT : T.heap = h)
    {g : JFrame} (hg : g.method = m) (hsize : g.locals.size = c.maxLocals) {argsL rest : List Value} (hlen : ∀ sig, parseMethodDescriptor y.desc = some sig → argsL.length = sig.parameters.length) (hstack : g.stack = argsL.reverse ++ rest) (has : argsL.toArray = as') (hW : 2 * g.monitorRoom + (rest.map fun v => v.category).sum ≤ W)
    (hdg : decode c.code g.pc = .ok (.invokestatic index, 3)) (hf : rm.frames + 1 ≤ R.frames) (hl : W + (maxL + 11) + rm.locals ≤ R.locals) (hc : cells + rm.cells ≤ R.cells) (hs : slots + rm.slots ≤ R.slots) :
    ∃ (v : Option Value) (T' : State) (L : List Loc), Q v T'.heap L ∧ Stand p l e R s m args below meth c T' (locs ++ L) (cells + rm.cells) (slots + rm.slots) ∧ ∀ target, Steps p.tables e below (T'.setTop { g with pc := g.pc + 3, stack := v.toList ++ rest }) target → Steps p.tables e below (T.setTop g) target := by
  obtain ⟨v, _, ⟨T', L', c', s'⟩, -, X', ⟨L, hq, e1, e2, e3⟩, st⟩ := Jvm.LawKit.callS X hx hown (mvT hZ w1) (mvT hZ w2) (mvT hZ w3) (mvT hZ w4) hy (backOf (W := W) hM hZ w4 w3 hf hl) hg hsize hlen hstack hW hdg (fun _ _ => ⟨has, eT, hc, hs⟩)
  subst e1 e2 e3
  exact ⟨v, T', L, hq, X', st⟩
theorem own_special (X : Stand p l e R s m args below meth c T locs cells slots) (hx : p.tables.exec = Jvm.exec) (hZ : Z.Warmed39 s.vm) {own : String} {index W maxL : Nat} {y : MethodName} {bytes : ByteArray} {rm : Room} {as' : Array Value} {Q : Option Value → Heap → List Loc → Prop} (hy1 : y.name = "<init>")
    (hown : s.vm.findClass own = some m.cls) (w1 : (Jvm.Cond.methodLink own index y).before a0 Z = true) (w2 : (Jvm.Cond.instanceMethod y).before a0 Z = true) (w3 : (Jvm.Cond.initialized y.cls).before a0 Z = true) (w4 : (Jvm.Cond.code y bytes maxL none).before a0 Z = true) (hy : y.cls ≠ "java/lang/invoke/MethodHandle" ∧ y.cls ≠ "java/lang/invoke/VarHandle")
    (hM : MetFree l y (head1 [Jvm.Cond.code y bytes maxL none] rm) (fun a U => a = as' ∧ Z.Warmed39 U.vm ∧ U.heap = h) (fun _ _ _ _ _ => True) (fun _ U o U' => ∃ v L, o = .returned v ∧ Q v U'.heap L ∧ FrameEnd U o U' L rm.cells rm.slots)) (eT : T.heap = h)
    {g : JFrame} (hg : g.method = m) (hsize : g.locals.size = c.maxLocals) {a : Addr} {argsL rest : List Value} (hlen : ∀ sig, parseMethodDescriptor y.desc = some sig → argsL.length = sig.parameters.length) (hstack : g.stack = argsL.reverse ++ .ref a :: rest) (has : (.ref a :: argsL).toArray = as') (hW : 2 * g.monitorRoom + (rest.map fun v => v.category).sum ≤ W)
    (hdg : decode c.code g.pc = .ok (.invokespecial index, 3)) (hf : rm.frames + 1 ≤ R.frames) (hl : W + (maxL + 11) + rm.locals ≤ R.locals) (hc : cells + rm.cells ≤ R.cells) (hs : slots + rm.slots ≤ R.slots) :
    ∃ (v : Option Value) (T' : State) (L : List Loc), Q v T'.heap L ∧ Stand p l e R s m args below meth c T' (locs ++ L) (cells + rm.cells) (slots + rm.slots) ∧ ∀ target, Steps p.tables e below (T'.setTop { g with pc := g.pc + 3, stack := v.toList ++ rest }) target → Steps p.tables e below (T.setTop g) target := by
  obtain ⟨v, _, ⟨T', L', c', s'⟩, -, X', ⟨L, hq, e1, e2, e3⟩, st⟩ := X.specialBack hx hy1 hown (mvT hZ w1) (mvT hZ w2) (mvT hZ w4) hy (backOf (W := W) hM hZ w4 w3 hf hl) hg hsize (Steps.refl _) hlen hstack hW hdg (fun _ _ => ⟨has, eT, hc, hs⟩)
  subst e1 e2 e3
  exact ⟨v, T', L, hq, X', fun _ k => st.trans k⟩
theorem own_virtual (X : Stand p l e R s m args below meth c T locs cells slots) (hx : p.tables.exec = Jvm.exec) (hZ : Z.Warmed39 s.vm) {own C : String} {index W maxL : Nat} {y z : MethodName} {bytes : ByteArray} {ret : Option FieldType} {rm : Room} {as' : Array Value} {Q : Option Value → Heap → List Loc → Prop}
    (hown : s.vm.findClass own = some m.cls) (w1 : (Jvm.Cond.methodLink own index y).before a0 Z = true) (w2 : (Jvm.Cond.declares y).before a0 Z = true) (nf : NotFace s y) (w5 : (Jvm.Cond.selects C y z).before a0 Z = true) (w6 : (Jvm.Cond.instanceMethod z).before a0 Z = true) (w3 : (Jvm.Cond.initialized z.cls).before a0 Z = true) (w4 : (Jvm.Cond.code z bytes maxL ret).before a0 Z = true) (hy : y.cls ≠ "java/lang/invoke/MethodHandle" ∧ y.cls ≠ "java/lang/invoke/VarHandle")
    (hM : MetFree l z (head1 [Jvm.Cond.code z bytes maxL ret] rm) (fun a U => a = as' ∧ Z.Warmed39 U.vm ∧ U.heap = h) (fun _ _ _ _ _ => True) (fun _ U o U' => ∃ v L, o = .returned v ∧ Q v U'.heap L ∧ FrameEnd U o U' L rm.cells rm.slots)) (eT : T.heap = h) {b : Addr} (E : Exa Z h b C)
    {g : JFrame} (hg : g.method = m) (hsize : g.locals.size = c.maxLocals) {argsL rest : List Value} (hlen : ∀ sig, parseMethodDescriptor y.desc = some sig → argsL.length = sig.parameters.length) (hstack : g.stack = argsL.reverse ++ .ref b :: rest) (has : (.ref b :: argsL).toArray = as') (hW : 2 * g.monitorRoom + (rest.map fun v => v.category).sum ≤ W)
    (hdg : decode c.code g.pc = .ok (.invokevirtual index, 3)) (hf : rm.frames + 1 ≤ R.frames) (hl : W + (maxL + 11) + rm.locals ≤ R.locals) (hc : cells + rm.cells ≤ R.cells) (hs : slots + rm.slots ≤ R.slots) :
    ∃ (v : Option Value) (T' : State) (L : List Loc), Q v T'.heap L ∧ Stand p l e R s m args below meth c T' (locs ++ L) (cells + rm.cells) (slots + rm.slots) ∧ ∀ target, Steps p.tables e below (T'.setTop { g with pc := g.pc + 3, stack := v.toList ++ rest }) target → Steps p.tables e below (T.setTop g) target := by
  obtain ⟨cB, kB, qa, qb, qc⟩ := isOf hZ eT E
  obtain ⟨v, _, ⟨T', L', c', s'⟩, -, X', ⟨L, hq, e1, e2, e3⟩, st⟩ := X.virtualBack hx hown (mvT hZ w1) (mvT hZ w2) nf (mvT hZ w5) (mvT hZ w6) hy (backOf (W := W) hM hZ w4 w3 hf hl) qa qc hg hsize (Steps.refl _) hlen hstack hW hdg (fun _ _ => ⟨has, eT, hc, hs⟩)
  subst e1 e2 e3
  exact ⟨v, T', L, hq, X', fun _ k => st.trans k⟩
theorem own_virtualUp (X : Stand p l e R s m args below meth c T locs cells slots) (hx : p.tables.exec = Jvm.exec) (hZ : Z.Warmed39 s.vm) {own C owner : String} {index W maxL : Nat} {y z : MethodName} {bytes : ByteArray} {ret : Option FieldType} {rm : Room} {as' : Array Value} {Q : Option Value → Heap → List Loc → Prop}
    (hown : s.vm.findClass own = some m.cls) (w1 : (Jvm.Cond.methodLink own index y).before a0 Z = true) (w7 : (Jvm.Cond.sameMethod y.cls owner y.name y.desc).before a0 Z = true) (w2 : (Jvm.Cond.declares ⟨owner, y.name, y.desc⟩).before a0 Z = true) (hy : owner ≠ "java/lang/invoke/MethodHandle" ∧ owner ≠ "java/lang/invoke/VarHandle") (w5 : (Jvm.Cond.selects C y z).before a0 Z = true) (w6 : (Jvm.Cond.instanceMethod z).before a0 Z = true) (w3 : (Jvm.Cond.initialized z.cls).before a0 Z = true) (w4 : (Jvm.Cond.code z bytes maxL ret).before a0 Z = true)
    (hM : MetFree l z (head1 [Jvm.Cond.code z bytes maxL ret] rm) (fun a U => a = as' ∧ Z.Warmed39 U.vm ∧ U.heap = h) (fun _ _ _ _ _ => True) (fun _ U o U' => ∃ v L, o = .returned v ∧ Q v U'.heap L ∧ FrameEnd U o U' L rm.cells rm.slots)) (eT : T.heap = h) {b : Addr} (E : Exa Z h b C)
    {g : JFrame} (hg : g.method = m) (hsize : g.locals.size = c.maxLocals) {argsL rest : List Value} (hlen : ∀ sig, parseMethodDescriptor y.desc = some sig → argsL.length = sig.parameters.length) (hstack : g.stack = argsL.reverse ++ .ref b :: rest) (has : (.ref b :: argsL).toArray = as') (hW : 2 * g.monitorRoom + (rest.map fun v => v.category).sum ≤ W)
    (hdg : decode c.code g.pc = .ok (.invokevirtual index, 3)) (hf : rm.frames + 1 ≤ R.frames) (hl : W + (maxL + 11) + rm.locals ≤ R.locals) (hc : cells + rm.cells ≤ R.cells) (hs : slots + rm.slots ≤ R.slots) :
    ∃ (v : Option Value) (T' : State) (L : List Loc), Q v T'.heap L ∧ Stand p l e R s m args below meth c T' (locs ++ L) (cells + rm.cells) (slots + rm.slots) ∧ ∀ target, Steps p.tables e below (T'.setTop { g with pc := g.pc + 3, stack := v.toList ++ rest }) target → Steps p.tables e below (T.setTop g) target := by
  obtain ⟨cB, kB, qa, qb, qc⟩ := isOf hZ eT E
  obtain ⟨v, _, ⟨T', L', c', s'⟩, -, X', ⟨L, hq, e1, e2, e3⟩, st⟩ := X.virtualBackUp hx (owner := owner) hown (mvT hZ w1) (mvT hZ w7) (mvT hZ w2) hy (mvT hZ w5) (mvT hZ w6) (backOf (W := W) hM hZ w4 w3 hf hl) qa qc hg hsize (Steps.refl _) hlen hstack hW hdg (fun _ _ => ⟨has, eT, hc, hs⟩)
  subst e1 e2 e3
  exact ⟨v, T', L, hq, X', fun _ k => st.trans k⟩
theorem own_iface (X : Stand p l e R s m args below meth c T locs cells slots) (hx : p.tables.exec = Jvm.exec) (hZ : Z.Warmed39 s.vm) {own C : String} {index count W maxL : Nat} {y z : MethodName} {bytes : ByteArray} {ret : Option FieldType} {rm : Room} {as' : Array Value} {Q : Option Value → Heap → List Loc → Prop}
    (hown : s.vm.findClass own = some m.cls) (w1 : (Jvm.Cond.methodLink own index y).before a0 Z = true) (w2 : (Jvm.Cond.declares y).before a0 Z = true) (w7 : (Jvm.Cond.interfaceMethod y.cls y.cls y.name y.desc).before args s = true) (w5 : (Jvm.Cond.selects C y z).before a0 Z = true) (w6 : (Jvm.Cond.instanceMethod z).before a0 Z = true) (w8 : (Jvm.Cond.publicMethod z).before args s = true) (w9 : (Jvm.Cond.unhidden C y.name y.desc).before args s = true) (w10 : (Jvm.Cond.castable C y.cls).before a0 Z = true) (w3 : (Jvm.Cond.initialized z.cls).before a0 Z = true) (w4 : (Jvm.Cond.code z bytes maxL ret).before a0 Z = true) (hy : y.cls ≠ "java/lang/invoke/MethodHandle" ∧ y.cls ≠ "java/lang/invoke/VarHandle")
    (hM : MetFree l z (head1 [Jvm.Cond.code z bytes maxL ret] rm) (fun a U => a = as' ∧ Z.Warmed39 U.vm ∧ U.heap = h) (fun _ _ _ _ _ => True) (fun _ U o U' => ∃ v L, o = .returned v ∧ Q v U'.heap L ∧ FrameEnd U o U' L rm.cells rm.slots)) (eT : T.heap = h) {b : Addr} (E : Exa Z h b C)
    {g : JFrame} (hg : g.method = m) (hsize : g.locals.size = c.maxLocals) {argsL rest : List Value} (hlen : ∀ sig, parseMethodDescriptor y.desc = some sig → argsL.length = sig.parameters.length) (hstack : g.stack = argsL.reverse ++ .ref b :: rest) (has : (.ref b :: argsL).toArray = as') (hW : 2 * g.monitorRoom + (rest.map fun v => v.category).sum ≤ W)
    (hdg : decode c.code g.pc = .ok (.invokeinterface index count, 5)) (hf : rm.frames + 1 ≤ R.frames) (hl : W + (maxL + 11) + rm.locals ≤ R.locals) (hc : cells + rm.cells ≤ R.cells) (hs : slots + rm.slots ≤ R.slots) :
    ∃ (v : Option Value) (T' : State) (L : List Loc), Q v T'.heap L ∧ Stand p l e R s m args below meth c T' (locs ++ L) (cells + rm.cells) (slots + rm.slots) ∧ ∀ target, Steps p.tables e below (T'.setTop { g with pc := g.pc + 5, stack := v.toList ++ rest }) target → Steps p.tables e below (T.setTop g) target := by
  obtain ⟨cB, kB, qa, qb, qc⟩ := isOf hZ eT E
  obtain ⟨v, _, ⟨T', L', c', s'⟩, -, X', ⟨L, hq, e1, e2, e3⟩, st⟩ := X.interfaceBack hx hown (mvT hZ w1) (mvT hZ w2) w7 (mvT hZ w5) (mvT hZ w6) w8 w9 (mvT hZ w10) hy (backOf (W := W) hM hZ w4 w3 hf hl) qa qb qc hg hsize (Steps.refl _) hlen hstack hW hdg (fun _ _ => ⟨has, eT, hc, hs⟩)
  subst e1 e2 e3
  exact ⟨v, T', L, hq, X', fun _ k => st.trans k⟩
theorem own_private (X : Stand p l e R s m args below meth c T locs cells slots) (hx : p.tables.exec = Jvm.exec) (hZ : Z.Warmed39 s.vm) {own K : String} {index W maxL : Nat} {y : MethodName} {bytes : ByteArray} {ret : Option FieldType} {rm : Room} {as' : Array Value} {Q : Option Value → Heap → List Loc → Prop}
    (hown : s.vm.findClass own = some m.cls) (w1 : (Jvm.Cond.methodLink own index y).before a0 Z = true) (w2 : (Jvm.Cond.instanceMethod y).before a0 Z = true) (hsel : (Jvm.Cond.selects y.cls y y).before args s = true) (w6 : (Jvm.Cond.privateMethod y).before a0 Z = true) (w3 : (Jvm.Cond.initialized y.cls).before a0 Z = true) (w4 : (Jvm.Cond.code y bytes maxL ret).before a0 Z = true) (hy : y.cls ≠ "java/lang/invoke/MethodHandle" ∧ y.cls ≠ "java/lang/invoke/VarHandle")
    (hM : MetFree l y (head1 [Jvm.Cond.code y bytes maxL ret] rm) (fun a U => a = as' ∧ Z.Warmed39 U.vm ∧ U.heap = h) (fun _ _ _ _ _ => True) (fun _ U o U' => ∃ v L, o = .returned v ∧ Q v U'.heap L ∧ FrameEnd U o U' L rm.cells rm.slots)) (eT : T.heap = h) {b : Addr} (E : Exa Z h b K)
    {g : JFrame} (hg : g.method = m) (hsize : g.locals.size = c.maxLocals) {argsL rest : List Value} (hlen : ∀ sig, parseMethodDescriptor y.desc = some sig → argsL.length = sig.parameters.length) (hstack : g.stack = argsL.reverse ++ .ref b :: rest) (has : (.ref b :: argsL).toArray = as') (hW : 2 * g.monitorRoom + (rest.map fun v => v.category).sum ≤ W)
    (hdg : decode c.code g.pc = .ok (.invokevirtual index, 3)) (hf : rm.frames + 1 ≤ R.frames) (hl : W + (maxL + 11) + rm.locals ≤ R.locals) (hc : cells + rm.cells ≤ R.cells) (hs : slots + rm.slots ≤ R.slots) :
    ∃ (v : Option Value) (T' : State) (L : List Loc), Q v T'.heap L ∧ Stand p l e R s m args below meth c T' (locs ++ L) (cells + rm.cells) (slots + rm.slots) ∧ ∀ target, Steps p.tables e below (T'.setTop { g with pc := g.pc + 3, stack := v.toList ++ rest }) target → Steps p.tables e below (T.setTop g) target := by
  obtain ⟨cq, q, q'⟩ := E.cell
  obtain ⟨v, _, ⟨T', L', c', s'⟩, -, X', ⟨L, hq, e1, e2, e3⟩, st⟩ := X.privateBack hx hown (mvT hZ w1) (mvT hZ w2) hsel (Cond.privateMethod_at (mvP hZ w6 (args := #[]))) (mvT hZ w4) hy (backOf (W := W) hM hZ w4 w3 hf hl) hg hsize (Steps.refl _) (by rw [eT]; exact q) q' hlen hstack hW hdg (fun _ _ => ⟨has, eT, hc, hs⟩)
  subst e1 e2 e3
  exact ⟨v, T', L, hq, X', fun _ k => st.trans k⟩
theorem own_super (X : Stand p l e R s m args below meth c T locs cells slots) (hx : p.tables.exec = Jvm.exec) (hZ : Z.Warmed39 s.vm) {own K : String} {index W maxL : Nat} {y : MethodName} {bytes : ByteArray} {ret : Option FieldType} {rm : Room} {as' : Array Value} {Q : Option Value → Heap → List Loc → Prop}
    (hown : s.vm.findClass own = some m.cls) (w1 : (Jvm.Cond.methodLink own index y).before a0 Z = true) (w2 : (Jvm.Cond.sameMethod y.cls y.cls y.name y.desc).before a0 Z = true) (w5 : (Jvm.Cond.instanceMethod y).before a0 Z = true) (w6 : (Jvm.Cond.superclass own y.cls).before a0 Z = true) (hn : y.name ≠ "<init>") (w3 : (Jvm.Cond.initialized y.cls).before a0 Z = true) (w4 : (Jvm.Cond.code y bytes maxL ret).before a0 Z = true)
    (hM : MetFree l y (head1 [Jvm.Cond.code y bytes maxL ret] rm) (fun a U => a = as' ∧ Z.Warmed39 U.vm ∧ U.heap = h) (fun _ _ _ _ _ => True) (fun _ U o U' => ∃ v L, o = .returned v ∧ Q v U'.heap L ∧ FrameEnd U o U' L rm.cells rm.slots)) (eT : T.heap = h) {b : Addr} (E : Exa Z h b K)
    {g : JFrame} (hg : g.method = m) (hsize : g.locals.size = c.maxLocals) {argsL rest : List Value} (hlen : ∀ sig, parseMethodDescriptor y.desc = some sig → argsL.length = sig.parameters.length) (hstack : g.stack = argsL.reverse ++ .ref b :: rest) (has : (.ref b :: argsL).toArray = as') (hW : 2 * g.monitorRoom + (rest.map fun v => v.category).sum ≤ W)
    (hdg : decode c.code g.pc = .ok (.invokespecial index, 3)) (hf : rm.frames + 1 ≤ R.frames) (hl : W + (maxL + 11) + rm.locals ≤ R.locals) (hc : cells + rm.cells ≤ R.cells) (hs : slots + rm.slots ≤ R.slots) :
    ∃ (v : Option Value) (T' : State) (L : List Loc), Q v T'.heap L ∧ Stand p l e R s m args below meth c T' (locs ++ L) (cells + rm.cells) (slots + rm.slots) ∧ ∀ target, Steps p.tables e below (T'.setTop { g with pc := g.pc + 3, stack := v.toList ++ rest }) target → Steps p.tables e below (T.setTop g) target := by
  obtain ⟨v, _, ⟨T', L', c', s'⟩, -, X', ⟨L, hq, e1, e2, e3⟩, st⟩ := superBack X hx hZ hown w1 w2 w5 w6 hn (backOf (W := W) hM hZ w4 w3 hf hl) eT (Ins.self E) hg hsize w4 hlen hstack hW hdg (fun _ _ => ⟨has, eT, hc, hs⟩)
  subst e1 e2 e3
  exact ⟨v, T', L, hq, X', fun _ k => st.trans k⟩
end OwnCalls
section OwnHeap
variable {p : Program} {l : Launch} {e : Env} {R : Room} {s : State} {m : MethodId} {args : Array Value} {below : List Frame} {meth : Method} {c : Code} {T : State} {locs : List Loc} {cells slots : Nat} {Z : State} {a0 : Array Value} {h h0 : Heap} {n0 : Nat} {ws : List Addr}
theorem own_newO (X : Stand p l e R s m args below meth c T locs cells slots) (hx : p.tables.exec = Jvm.exec) (hZ : Z.Warmed39 s.vm) {own C : String} {index n : Nat} (hown : s.vm.findClass own = some m.cls) (w : (Jvm.Cond.classLink own index C).before a0 Z = true) (wi : (Jvm.Cond.instantiable C n).before a0 Z = true) (wz : (Jvm.Cond.initialized C).before a0 Z = true) (eT : T.heap = h) (O : Old Z n0 h) (K : Keep h0 h ws)
    {g : JFrame} (hg : g.method = m) (hd : decode c.code g.pc = .ok (.new index, 3)) (hc : cells + 1 ≤ R.cells) (hl : slots + n ≤ R.slots) :
    ∃ (T' : State) (h' : Heap) (b : Addr), Stand p l e R s m args below meth c T' locs (cells + 1) (slots + n) ∧ T'.heap = h' ∧ Ext h h' ∧ Exa Z h' b C ∧ (∀ {O nm d : String} {ty : FieldType}, Laid Z a0 C O nm d → parseFieldDescriptor d = some ty → Fld Z h' b O nm d (defaultValue ty)) ∧ h.size ≤ b ∧ Old Z n0 h' ∧ Keep h0 h' ws ∧
      ∀ target, Steps p.tables e below (T'.setTop { g with pc := g.pc + 3, stack := .ref b :: g.stack }) target → Steps p.tables e below (T.setTop g) target := by
  obtain ⟨T', h', X', e', E', A', D', -, st⟩ := newO X hx hZ hown w wi wz eT hg hd hc hl
  exact ⟨T', h', h.size, X', e', E', A', D', Nat.le_refl _, O.ext E', K.ext E', st⟩
theorem own_newP (X : Stand p l e R s m args below meth c T locs cells slots) (hx : p.tables.exec = Jvm.exec) (hZ : Z.Warmed39 s.vm) {aty : ArrayType} {ty : FieldType} {dv : Value} {vs : List Value} {cap : Nat} (hty : newarray.typeOf aty = ty) (hdv : defaultValue ty = dv) (hvs : List.replicate cap dv = vs) (w : (Jvm.Cond.arrayClass ty).before a0 Z = true) (eT : T.heap = h) (O : Old Z n0 h) (K : Keep h0 h ws) {g : JFrame} (hg : g.method = m) (hd : decode c.code g.pc = .ok (.newarray aty, 2)) {n : Int32} {rest : List Value} (hs : g.stack = .int n :: rest)
    (hn : ¬ n < 0) (hcap : n.toNatClampNeg ≤ cap) (hb : cap * 8 ≤ 536870912) (hc : cells + 1 ≤ R.cells) (hl : slots + cap ≤ R.slots) :
    ∃ (T' : State) (h' : Heap) (k : ClassId) (b : Addr), Stand p l e R s m args below meth c T' locs (cells + 1) (slots + cap) ∧ T'.heap = h' ∧ Ext h h' ∧ Arv Z h' b k ty n vs dv ∧ h.size ≤ b ∧ Old Z n0 h' ∧ Keep h0 h' ws ∧
      ∀ target, Steps p.tables e below (T'.setTop { g with pc := g.pc + 2, stack := .ref b :: rest }) target → Steps p.tables e below (T.setTop g) target := by
  subst hty hdv hvs
  obtain ⟨T', h', k, X', e', E', A', st⟩ := newP X hx hZ w eT hg hd hs hn hcap hb hc hl
  exact ⟨T', h', k, h.size, X', e', E', (Arv.new A' hn).pad (pad_rep [] _ cap), Nat.le_refl _, O.ext E', K.ext E', st⟩
theorem own_newR (X : Stand p l e R s m args below meth c T locs cells slots) (hx : p.tables.exec = Jvm.exec) (hZ : Z.Warmed39 s.vm) {own C : String} {index cap : Nat} {vs : List Value} (hvs : List.replicate cap .null = vs) (hown : s.vm.findClass own = some m.cls) (w1 : (Jvm.Cond.classLink own index C).before a0 Z = true) (w2 : (Jvm.Cond.arrayOver (.object C)).before a0 Z = true) (eT : T.heap = h) (O : Old Z n0 h) (K : Keep h0 h ws) {g : JFrame} (hg : g.method = m) (hd : decode c.code g.pc = .ok (.anewarray index, 3)) {n : Int32} {rest : List Value} (hs : g.stack = .int n :: rest)
    (hn : ¬ n < 0) (hcap : n.toNatClampNeg ≤ cap) (hb : cap * 8 ≤ 536870912) (hc : cells + 1 ≤ R.cells) (hl : slots + cap ≤ R.slots) :
    ∃ (T' : State) (h' : Heap) (k : ClassId) (b : Addr), Stand p l e R s m args below meth c T' locs (cells + 1) (slots + cap) ∧ T'.heap = h' ∧ Ext h h' ∧ Arv Z h' b k (.object C) n vs .null ∧ Ovr Z k C ∧ h.size ≤ b ∧ Old Z n0 h' ∧ Keep h0 h' ws ∧
      ∀ target, Steps p.tables e below (T'.setTop { g with pc := g.pc + 3, stack := .ref b :: rest }) target → Steps p.tables e below (T.setTop g) target := by
  subst hvs
  obtain ⟨T', h', k, X', e', E', A', O', st⟩ := newR X hx hZ hown w1 w2 eT hg hd hs hn hcap hb hc hl
  exact ⟨T', h', k, h.size, X', e', E', (Arv.new A' hn).pad (pad_rep [] _ cap), O', Nat.le_refl _, O.ext E', K.ext E', st⟩
theorem own_put (X : Stand p l e R s m args below meth c T locs cells slots) (hx : p.tables.exec = Jvm.exec) (hZ : Z.Warmed39 s.vm) {own R0 Ow n d host C : String} {index kk : Nat} {ty : FieldType} (hown : s.vm.findClass own = some m.cls) (w : (Jvm.Cond.fieldLink own index R0 n d).before a0 Z = true ∨ (Jvm.Cond.fieldLinkNest own index R0 n d host).before a0 Z = true) (via : Via Z R0 Ow n d)
    (eT : T.heap = h) (O : Old Z n0 h) (K : Keep h0 h ws) (N : Fr n0 locs) {a : Addr} (qn : n0 ≤ a) (qk : a ∈ ws ∨ h0.size ≤ a) {v old : Value} (F : Fld Z h a Ow n d old) (E : Exa Z h a C) (L : (Jvm.Cond.lays C Ow n d).before a0 Z = true ∨ ((Jvm.Cond.laysFinal C Ow n d).before a0 Z = true ∧ own = Ow ∧ meth.name = "<init>")) (wi : (Jvm.Cond.instantiable C kk).before a0 Z = true)
    (hty : parseFieldDescriptor d = some ty) (hn : narrow ty v = v) (hf : fits ty v = true) {g : JFrame} (hg : g.method = m) {rest : List Value} (hs : g.stack = v :: .ref a :: rest) (hd : decode c.code g.pc = .ok (.putfield index, 3)) :
    ∃ (T' : State) (h' : Heap) (L' : List Loc), Stand p l e R s m args below meth c T' L' cells slots ∧ T'.heap = h' ∧ Wr h h' a (Jvm.RoadKit.slotOf Z Ow n d) v ∧ Fld Z h' a Ow n d v ∧ Old Z n0 h' ∧ Keep h0 h' ws ∧ Fr n0 L' ∧ ∀ target, Steps p.tables e below (T'.setTop { g with pc := g.pc + 3, stack := rest }) target → Steps p.tables e below (T.setTop g) target := by
  obtain ⟨T', h', X', e', W', st⟩ := putF X hx hZ hown w via eT F E L wi hty hn hf hg hs hd
  exact ⟨T', h', _, X', e', W', F.same W', O.wr W' qn, K.wr W' qk, Fr.snoc X' N qn, st⟩
theorem own_putN (X : Stand p l e R s m args below meth c T locs cells slots) (hx : p.tables.exec = Jvm.exec) (hZ : Z.Warmed39 s.vm) {own R0 Ow n d C : String} {index kk : Nat} {ty : FieldType} (hown : s.vm.findClass own = some m.cls) (w : (Jvm.Cond.fieldLink own index R0 n d).before a0 Z = true) (via : Via Z R0 Ow n d)
    (eT : T.heap = h) (O : Old Z n0 h) (K : Keep h0 h ws) (N : Fr n0 locs) {a : Addr} (qn : n0 ≤ a) (qk : a ∈ ws ∨ h0.size ≤ a) {v v' old : Value} (F : Fld Z h a Ow n d old) (E : Exa Z h a C) (L : (Jvm.Cond.lays C Ow n d).before a0 Z = true ∨ ((Jvm.Cond.laysFinal C Ow n d).before a0 Z = true ∧ own = Ow ∧ meth.name = "<init>")) (wi : (Jvm.Cond.instantiable C kk).before a0 Z = true)
    (hty : parseFieldDescriptor d = some ty) (hn : narrow ty v = v') (hf : fits ty v' = true) {g : JFrame} (hg : g.method = m) {rest : List Value} (hs : g.stack = v :: .ref a :: rest) (hd : decode c.code g.pc = .ok (.putfield index, 3)) :
    ∃ (T' : State) (h' : Heap) (L' : List Loc), Stand p l e R s m args below meth c T' L' cells slots ∧ T'.heap = h' ∧ Wr h h' a (Jvm.RoadKit.slotOf Z Ow n d) v' ∧ Fld Z h' a Ow n d v' ∧ Old Z n0 h' ∧ Keep h0 h' ws ∧ Fr n0 L' ∧ ∀ target, Steps p.tables e below (T'.setTop { g with pc := g.pc + 3, stack := rest }) target → Steps p.tables e below (T.setTop g) target := by
  obtain ⟨T', h', X', e', W', st⟩ := putFN X hx hZ hown w via eT F E L wi hty hn hf hg hs hd
  exact ⟨T', h', _, X', e', W', F.same W', O.wr W' qn, K.wr W' qk, Fr.snoc X' N qn, st⟩
theorem own_stR (X : Stand p l e R s m args below meth c T locs cells slots) (hx : p.tables.exec = Jvm.exec) (hZ : Z.Warmed39 s.vm) (eT : T.heap = h) {a : Addr} {k : ClassId} {ty : FieldType} {n : Int32} {vs vs' : List Value} {dv : Value} (V : Arv Z h a k ty n vs dv) (O : Old Z n0 h) (K : Keep h0 h ws) (N : Fr n0 locs) (qn : n0 ≤ a) (qk : a ∈ ws ∨ h0.size ≤ a) {j : Int32} (i : Nat) (hj : ((¬ j < 0 ∧ j < n) ∧ j.toNatClampNeg = i)) (hi : i < vs.length) {v : Value} (hvs : vs.set i v = vs') (hty : ty.isReference = true) (hfv : fits ty v = true)
    (sto : v = .null ∨ ∃ (y : Addr) (C : String), v = .ref y ∧ Ovr Z k C ∧ Ins Z h y C true) {g : JFrame} (hg : g.method = m) {rest : List Value} (hs : g.stack = v :: .int j :: .ref a :: rest) (hd : decode c.code g.pc = .ok (.aastore, 1)) :
    ∃ (T' : State) (h' : Heap) (L' : List Loc), Stand p l e R s m args below meth c T' L' cells slots ∧ T'.heap = h' ∧ Wr h h' a j.toNatClampNeg v ∧ Arv Z h' a k ty n vs' dv ∧ Old Z n0 h' ∧ Keep h0 h' ws ∧ Fr n0 L' ∧ ∀ target, Steps p.tables e below (T'.setTop { g with pc := g.pc + 1, stack := rest }) target → Steps p.tables e below (T.setTop g) target := by
  subst hvs
  obtain ⟨cl, Ar, q, Sz, Ng, Hs, Gt⟩ := V
  obtain ⟨T', h', X', e', W', st⟩ := stR X hx hZ eT Ar (j := j) (inb_of Sz hj.1) hty (sto.elim Or.inl fun ⟨y, C, e1, e2, e3⟩ => e1 ▸ Sto.ofV Ar q e2 e3) hg hs hd
  exact ⟨T', h', _, X', e', W', Arv.set Ar q Sz Ng Hs Gt hfv W' i hj.2 hi, O.wr W' qn, K.wr W' qk, Fr.snoc X' N qn, st⟩
theorem own_stI (X : Stand p l e R s m args below meth c T locs cells slots) (hx : p.tables.exec = Jvm.exec) (hZ : Z.Warmed39 s.vm) (eT : T.heap = h) {a : Addr} {k : ClassId} {n : Int32} {vs vs' : List Value} {dv : Value} (V : Arv Z h a k .int n vs dv) (O : Old Z n0 h) (K : Keep h0 h ws) (N : Fr n0 locs) (qn : n0 ≤ a) (qk : a ∈ ws ∨ h0.size ≤ a) {j : Int32} (i : Nat) (hj : ((¬ j < 0 ∧ j < n) ∧ j.toNatClampNeg = i)) (hi : i < vs.length) {x : Int32} {v : Value} (hv : (.int x : Value) = v) (hvs : vs.set i v = vs')
    {g : JFrame} (hg : g.method = m) {rest : List Value} (hs : g.stack = .int x :: .int j :: .ref a :: rest) (hd : decode c.code g.pc = .ok (.iastore, 1)) :
    ∃ (T' : State) (h' : Heap) (L' : List Loc), Stand p l e R s m args below meth c T' L' cells slots ∧ T'.heap = h' ∧ Wr h h' a j.toNatClampNeg v ∧ Arv Z h' a k .int n vs' dv ∧ Old Z n0 h' ∧ Keep h0 h' ws ∧ Fr n0 L' ∧ ∀ target, Steps p.tables e below (T'.setTop { g with pc := g.pc + 1, stack := rest }) target → Steps p.tables e below (T.setTop g) target := by
  subst hv hvs
  obtain ⟨cl, Ar, q, Sz, Ng, Hs, Gt⟩ := V
  obtain ⟨T', h', X', e', W', st⟩ := stI X hx hZ eT Ar (j := j) (inb_of Sz hj.1) hg hs hd
  exact ⟨T', h', _, X', e', W', Arv.set Ar q Sz Ng Hs Gt rfl W' i hj.2 hi, O.wr W' qn, K.wr W' qk, Fr.snoc X' N qn, st⟩
theorem own_stJ (X : Stand p l e R s m args below meth c T locs cells slots) (hx : p.tables.exec = Jvm.exec) (hZ : Z.Warmed39 s.vm) (eT : T.heap = h) {a : Addr} {k : ClassId} {n : Int32} {vs vs' : List Value} {dv : Value} (V : Arv Z h a k .long n vs dv) (O : Old Z n0 h) (K : Keep h0 h ws) (N : Fr n0 locs) (qn : n0 ≤ a) (qk : a ∈ ws ∨ h0.size ≤ a) {j : Int32} (i : Nat) (hj : ((¬ j < 0 ∧ j < n) ∧ j.toNatClampNeg = i)) (hi : i < vs.length) {x : Int64} {v : Value} (hv : (.long x : Value) = v) (hvs : vs.set i v = vs')
    {g : JFrame} (hg : g.method = m) {rest : List Value} (hs : g.stack = .long x :: .int j :: .ref a :: rest) (hd : decode c.code g.pc = .ok (.lastore, 1)) :
    ∃ (T' : State) (h' : Heap) (L' : List Loc), Stand p l e R s m args below meth c T' L' cells slots ∧ T'.heap = h' ∧ Wr h h' a j.toNatClampNeg v ∧ Arv Z h' a k .long n vs' dv ∧ Old Z n0 h' ∧ Keep h0 h' ws ∧ Fr n0 L' ∧ ∀ target, Steps p.tables e below (T'.setTop { g with pc := g.pc + 1, stack := rest }) target → Steps p.tables e below (T.setTop g) target := by
  subst hv hvs
  obtain ⟨cl, Ar, q, Sz, Ng, Hs, Gt⟩ := V
  obtain ⟨T', h', X', e', W', st⟩ := stJ X hx hZ eT Ar (j := j) (inb_of Sz hj.1) hg hs hd
  exact ⟨T', h', _, X', e', W', Arv.set Ar q Sz Ng Hs Gt rfl W' i hj.2 hi, O.wr W' qn, K.wr W' qk, Fr.snoc X' N qn, st⟩
theorem own_stC (X : Stand p l e R s m args below meth c T locs cells slots) (hx : p.tables.exec = Jvm.exec) (hZ : Z.Warmed39 s.vm) (eT : T.heap = h) {a : Addr} {k : ClassId} {n : Int32} {vs vs' : List Value} {dv : Value} (V : Arv Z h a k .char n vs dv) (O : Old Z n0 h) (K : Keep h0 h ws) (N : Fr n0 locs) (qn : n0 ≤ a) (qk : a ∈ ws ∨ h0.size ≤ a) {j : Int32} (i : Nat) (hj : ((¬ j < 0 ∧ j < n) ∧ j.toNatClampNeg = i)) (hi : i < vs.length) {x : Int32} {v : Value} (hv : (.int (nar .char x) : Value) = v) (hvs : vs.set i v = vs')
    {g : JFrame} (hg : g.method = m) {rest : List Value} (hs : g.stack = .int x :: .int j :: .ref a :: rest) (hd : decode c.code g.pc = .ok (.castore, 1)) :
    ∃ (T' : State) (h' : Heap) (L' : List Loc), Stand p l e R s m args below meth c T' L' cells slots ∧ T'.heap = h' ∧ Wr h h' a j.toNatClampNeg v ∧ Arv Z h' a k .char n vs' dv ∧ Old Z n0 h' ∧ Keep h0 h' ws ∧ Fr n0 L' ∧ ∀ target, Steps p.tables e below (T'.setTop { g with pc := g.pc + 1, stack := rest }) target → Steps p.tables e below (T.setTop g) target := by
  subst hv hvs
  obtain ⟨cl, Ar, q, Sz, Ng, Hs, Gt⟩ := V
  obtain ⟨T', h', X', e', W', st⟩ := stC X hx hZ eT Ar (j := j) (inb_of Sz hj.1) hg hs hd
  exact ⟨T', h', _, X', e', W', Arv.set Ar q Sz Ng Hs Gt (fits_nar_char _) W' i hj.2 hi, O.wr W' qn, K.wr W' qk, Fr.snoc X' N qn, st⟩
theorem own_stS (X : Stand p l e R s m args below meth c T locs cells slots) (hx : p.tables.exec = Jvm.exec) (hZ : Z.Warmed39 s.vm) (eT : T.heap = h) {a : Addr} {k : ClassId} {n : Int32} {vs vs' : List Value} {dv : Value} (V : Arv Z h a k .short n vs dv) (O : Old Z n0 h) (K : Keep h0 h ws) (N : Fr n0 locs) (qn : n0 ≤ a) (qk : a ∈ ws ∨ h0.size ≤ a) {j : Int32} (i : Nat) (hj : ((¬ j < 0 ∧ j < n) ∧ j.toNatClampNeg = i)) (hi : i < vs.length) {x : Int32} {v : Value} (hv : (.int (nar .short x) : Value) = v) (hvs : vs.set i v = vs')
    {g : JFrame} (hg : g.method = m) {rest : List Value} (hs : g.stack = .int x :: .int j :: .ref a :: rest) (hd : decode c.code g.pc = .ok (.sastore, 1)) :
    ∃ (T' : State) (h' : Heap) (L' : List Loc), Stand p l e R s m args below meth c T' L' cells slots ∧ T'.heap = h' ∧ Wr h h' a j.toNatClampNeg v ∧ Arv Z h' a k .short n vs' dv ∧ Old Z n0 h' ∧ Keep h0 h' ws ∧ Fr n0 L' ∧ ∀ target, Steps p.tables e below (T'.setTop { g with pc := g.pc + 1, stack := rest }) target → Steps p.tables e below (T.setTop g) target := by
  subst hv hvs
  obtain ⟨cl, Ar, q, Sz, Ng, Hs, Gt⟩ := V
  obtain ⟨T', h', X', e', W', st⟩ := stS X hx hZ eT Ar (j := j) (inb_of Sz hj.1) hg hs hd
  exact ⟨T', h', _, X', e', W', Arv.set Ar q Sz Ng Hs Gt (fits_nar_short _) W' i hj.2 hi, O.wr W' qn, K.wr W' qk, Fr.snoc X' N qn, st⟩
theorem own_stB (X : Stand p l e R s m args below meth c T locs cells slots) (hx : p.tables.exec = Jvm.exec) (hZ : Z.Warmed39 s.vm) (eT : T.heap = h) {a : Addr} {k : ClassId} {n : Int32} {vs vs' : List Value} {dv : Value} (V : Arv Z h a k .byte n vs dv) (O : Old Z n0 h) (K : Keep h0 h ws) (N : Fr n0 locs) (qn : n0 ≤ a) (qk : a ∈ ws ∨ h0.size ≤ a) {j : Int32} (i : Nat) (hj : ((¬ j < 0 ∧ j < n) ∧ j.toNatClampNeg = i)) (hi : i < vs.length) {x : Int32} {v : Value} (hv : (.int (nar .byte x) : Value) = v) (hvs : vs.set i v = vs')
    {g : JFrame} (hg : g.method = m) {rest : List Value} (hs : g.stack = .int x :: .int j :: .ref a :: rest) (hd : decode c.code g.pc = .ok (.bastore, 1)) :
    ∃ (T' : State) (h' : Heap) (L' : List Loc), Stand p l e R s m args below meth c T' L' cells slots ∧ T'.heap = h' ∧ Wr h h' a j.toNatClampNeg v ∧ Arv Z h' a k .byte n vs' dv ∧ Old Z n0 h' ∧ Keep h0 h' ws ∧ Fr n0 L' ∧ ∀ target, Steps p.tables e below (T'.setTop { g with pc := g.pc + 1, stack := rest }) target → Steps p.tables e below (T.setTop g) target := by
  subst hv hvs
  obtain ⟨cl, Ar, q, Sz, Ng, Hs, Gt⟩ := V
  obtain ⟨T', h', X', e', W', st⟩ := stB X hx hZ eT Ar (j := j) (inb_of Sz hj.1) hg hs hd
  exact ⟨T', h', _, X', e', W', Arv.set Ar q Sz Ng Hs Gt (fits_nar_byte _) W' i hj.2 hi, O.wr W' qn, K.wr W' qk, Fr.snoc X' N qn, st⟩
theorem own_stZ (X : Stand p l e R s m args below meth c T locs cells slots) (hx : p.tables.exec = Jvm.exec) (hZ : Z.Warmed39 s.vm) (eT : T.heap = h) {a : Addr} {k : ClassId} {n : Int32} {vs vs' : List Value} {dv : Value} (V : Arv Z h a k .boolean n vs dv) (O : Old Z n0 h) (K : Keep h0 h ws) (N : Fr n0 locs) (qn : n0 ≤ a) (qk : a ∈ ws ∨ h0.size ≤ a) {j : Int32} (i : Nat) (hj : ((¬ j < 0 ∧ j < n) ∧ j.toNatClampNeg = i)) (hi : i < vs.length) {x : Int32} {v : Value} (hv : (.int (nar .boolean x) : Value) = v) (hvs : vs.set i v = vs')
    {g : JFrame} (hg : g.method = m) {rest : List Value} (hs : g.stack = .int x :: .int j :: .ref a :: rest) (hd : decode c.code g.pc = .ok (.bastore, 1)) :
    ∃ (T' : State) (h' : Heap) (L' : List Loc), Stand p l e R s m args below meth c T' L' cells slots ∧ T'.heap = h' ∧ Wr h h' a j.toNatClampNeg v ∧ Arv Z h' a k .boolean n vs' dv ∧ Old Z n0 h' ∧ Keep h0 h' ws ∧ Fr n0 L' ∧ ∀ target, Steps p.tables e below (T'.setTop { g with pc := g.pc + 1, stack := rest }) target → Steps p.tables e below (T.setTop g) target := by
  subst hv hvs
  obtain ⟨cl, Ar, q, Sz, Ng, Hs, Gt⟩ := V
  obtain ⟨T', h', X', e', W', st⟩ := stZ X hx hZ eT Ar (j := j) (inb_of Sz hj.1) hg hs hd
  exact ⟨T', h', _, X', e', W', Arv.set Ar q Sz Ng Hs Gt (fits_nar_bool _) W' i hj.2 hi, O.wr W' qn, K.wr W' qk, Fr.snoc X' N qn, st⟩
theorem own_iaload (X : Stand p l e R s m args below meth c T locs cells slots) (hx : p.tables.exec = Jvm.exec) (hZ : Z.Warmed39 s.vm) (eT : T.heap = h) {a : Addr} {k : ClassId} {n : Int32} {vs : List Value} {dv : Value} (V : Arv Z h a k .int n vs dv) {j : Int32} (hj : ¬ j < 0 ∧ j < n) {v : Value} (hv : vs.getD j.toNatClampNeg dv = v)
    {g : JFrame} (hg : g.method = m) {rest : List Value} (hs : g.stack = .int j :: .ref a :: rest) (hd : decode c.code g.pc = .ok (.iaload, 1)) {target : State} (hr : Steps p.tables e below (T.setTop { g with pc := g.pc + 1, stack := v :: rest }) target) : Steps p.tables e below (T.setTop g) target := by
  obtain ⟨cl, Ar, q, Sz, Ng, Hs, Gt⟩ := V
  exact X.iaload hx (by rw [eT]; exact Ar.1) (State.isArrayOf_alike hZ.alike Ar.2.1) Ar.2.2 (inb_of Sz hj) (Hs.at (inb_of Sz hj) hv) hg hs hd _ hr
theorem own_laload (X : Stand p l e R s m args below meth c T locs cells slots) (hx : p.tables.exec = Jvm.exec) (hZ : Z.Warmed39 s.vm) (eT : T.heap = h) {a : Addr} {k : ClassId} {n : Int32} {vs : List Value} {dv : Value} (V : Arv Z h a k .long n vs dv) {j : Int32} (hj : ¬ j < 0 ∧ j < n) {v : Value} (hv : vs.getD j.toNatClampNeg dv = v)
    {g : JFrame} (hg : g.method = m) {rest : List Value} (hs : g.stack = .int j :: .ref a :: rest) (hd : decode c.code g.pc = .ok (.laload, 1)) {target : State} (hr : Steps p.tables e below (T.setTop { g with pc := g.pc + 1, stack := v :: rest }) target) : Steps p.tables e below (T.setTop g) target := by
  obtain ⟨cl, Ar, q, Sz, Ng, Hs, Gt⟩ := V
  exact X.laload hx (by rw [eT]; exact Ar.1) (State.isArrayOf_alike hZ.alike Ar.2.1) Ar.2.2 (inb_of Sz hj) (Hs.at (inb_of Sz hj) hv) hg hs hd _ hr
theorem own_caload (X : Stand p l e R s m args below meth c T locs cells slots) (hx : p.tables.exec = Jvm.exec) (hZ : Z.Warmed39 s.vm) (eT : T.heap = h) {a : Addr} {k : ClassId} {n : Int32} {vs : List Value} {dv : Value} (V : Arv Z h a k .char n vs dv) {j : Int32} (hj : ¬ j < 0 ∧ j < n) {v : Value} (hv : vs.getD j.toNatClampNeg dv = v)
    {g : JFrame} (hg : g.method = m) {rest : List Value} (hs : g.stack = .int j :: .ref a :: rest) (hd : decode c.code g.pc = .ok (.caload, 1)) {target : State} (hr : Steps p.tables e below (T.setTop { g with pc := g.pc + 1, stack := v :: rest }) target) : Steps p.tables e below (T.setTop g) target := by
  obtain ⟨cl, Ar, q, Sz, Ng, Hs, Gt⟩ := V
  exact X.caload hx (by rw [eT]; exact Ar.1) (State.isArrayOf_alike hZ.alike Ar.2.1) Ar.2.2 (inb_of Sz hj) (Hs.at (inb_of Sz hj) hv) hg hs hd _ hr
theorem own_saload (X : Stand p l e R s m args below meth c T locs cells slots) (hx : p.tables.exec = Jvm.exec) (hZ : Z.Warmed39 s.vm) (eT : T.heap = h) {a : Addr} {k : ClassId} {n : Int32} {vs : List Value} {dv : Value} (V : Arv Z h a k .short n vs dv) {j : Int32} (hj : ¬ j < 0 ∧ j < n) {v : Value} (hv : vs.getD j.toNatClampNeg dv = v)
    {g : JFrame} (hg : g.method = m) {rest : List Value} (hs : g.stack = .int j :: .ref a :: rest) (hd : decode c.code g.pc = .ok (.saload, 1)) {target : State} (hr : Steps p.tables e below (T.setTop { g with pc := g.pc + 1, stack := v :: rest }) target) : Steps p.tables e below (T.setTop g) target := by
  obtain ⟨cl, Ar, q, Sz, Ng, Hs, Gt⟩ := V
  exact X.saload hx (by rw [eT]; exact Ar.1) (State.isArrayOf_alike hZ.alike Ar.2.1) Ar.2.2 (inb_of Sz hj) (Hs.at (inb_of Sz hj) hv) hg hs hd _ hr
theorem own_baloadB (X : Stand p l e R s m args below meth c T locs cells slots) (hx : p.tables.exec = Jvm.exec) (hZ : Z.Warmed39 s.vm) (eT : T.heap = h) {a : Addr} {k : ClassId} {n : Int32} {vs : List Value} {dv : Value} (V : Arv Z h a k .byte n vs dv) {j : Int32} (hj : ¬ j < 0 ∧ j < n) {v : Value} (hv : vs.getD j.toNatClampNeg dv = v)
    {g : JFrame} (hg : g.method = m) {rest : List Value} (hs : g.stack = .int j :: .ref a :: rest) (hd : decode c.code g.pc = .ok (.baload, 1)) {target : State} (hr : Steps p.tables e below (T.setTop { g with pc := g.pc + 1, stack := v :: rest }) target) : Steps p.tables e below (T.setTop g) target := by
  obtain ⟨cl, Ar, q, Sz, Ng, Hs, Gt⟩ := V
  exact X.baloadBytes hx (by rw [eT]; exact Ar.1) (State.isArrayOf_alike hZ.alike Ar.2.1) Ar.2.2 (inb_of Sz hj) (Hs.at (inb_of Sz hj) hv) hg hs hd _ hr
theorem own_baloadZ (X : Stand p l e R s m args below meth c T locs cells slots) (hx : p.tables.exec = Jvm.exec) (hZ : Z.Warmed39 s.vm) (eT : T.heap = h) {a : Addr} {k : ClassId} {n : Int32} {vs : List Value} {dv : Value} (V : Arv Z h a k .boolean n vs dv) {j : Int32} (hj : ¬ j < 0 ∧ j < n) {v : Value} (hv : vs.getD j.toNatClampNeg dv = v)
    {g : JFrame} (hg : g.method = m) {rest : List Value} (hs : g.stack = .int j :: .ref a :: rest) (hd : decode c.code g.pc = .ok (.baload, 1)) {target : State} (hr : Steps p.tables e below (T.setTop { g with pc := g.pc + 1, stack := v :: rest }) target) : Steps p.tables e below (T.setTop g) target := by
  obtain ⟨cl, Ar, q, Sz, Ng, Hs, Gt⟩ := V
  exact X.baloadBooleans hx (by rw [eT]; exact Ar.1) (State.isArrayOf_alike hZ.alike Ar.2.1) Ar.2.2 (inb_of Sz hj) (Hs.at (inb_of Sz hj) hv) hg hs hd _ hr
theorem own_aaload (X : Stand p l e R s m args below meth c T locs cells slots) (hx : p.tables.exec = Jvm.exec) (hZ : Z.Warmed39 s.vm) (eT : T.heap = h) {a : Addr} {k : ClassId} {ty : FieldType} {n : Int32} {vs : List Value} {dv : Value} (V : Arv Z h a k ty n vs dv) {j : Int32} (hj : ¬ j < 0 ∧ j < n) {v : Value} (hv : vs.getD j.toNatClampNeg dv = v) (hty : ty.isReference = true)
    {g : JFrame} (hg : g.method = m) {rest : List Value} (hs : g.stack = .int j :: .ref a :: rest) (hd : decode c.code g.pc = .ok (.aaload, 1)) {target : State} (hr : Steps p.tables e below (T.setTop { g with pc := g.pc + 1, stack := v :: rest }) target) : Steps p.tables e below (T.setTop g) target := by
  obtain ⟨cl, Ar, q, Sz, Ng, Hs, Gt⟩ := V
  exact X.aaload hx (by rw [eT]; exact Ar.1) (State.isArrayOf_alike hZ.alike Ar.2.1) hty Ar.2.2 (inb_of Sz hj) (Hs.at (inb_of Sz hj) hv) hg hs hd _ hr
theorem own_alen (X : Stand p l e R s m args below meth c T locs cells slots) (hx : p.tables.exec = Jvm.exec) (hZ : Z.Warmed39 s.vm) (eT : T.heap = h) {a : Addr} {k : ClassId} {ty : FieldType} {n : Int32} {vs : List Value} {dv : Value} (V : Arv Z h a k ty n vs dv)
    {g : JFrame} (hg : g.method = m) {rest : List Value} (hs : g.stack = .ref a :: rest) (hd : decode c.code g.pc = .ok (.arraylength, 1)) {target : State} (hr : Steps p.tables e below (T.setTop { g with pc := g.pc + 1, stack := .int n :: rest }) target) : Steps p.tables e below (T.setTop g) target := by
  obtain ⟨cl, Ar, q, Sz, Ng, Hs, Gt⟩ := V
  exact X.arraylength hx (by rw [eT]; exact Ar.1) (State.isArrayOf_alike hZ.alike Ar.2.1) hg hs hd _ (by rw [len_of Sz Ng]; exact hr)
end OwnHeap
section OwnWide
variable {p : Program} {l : Launch} {e : Env} {R : Room} {s : State} {m : MethodId} {args : Array Value} {below : List Frame} {meth : Method} {c : Code} {T : State} {locs : List Loc} {cells slots : Nat} {Z : State} {a0 : Array Value} {h : Heap} {vm0 : Vm} {EL : List (String × Nat)} {sx : List Addr}
theorem own_backS {y : MethodName} {bytes : ByteArray} {maxL : Nat} {ret : Option FieldType} {rm : Room} {len W : Nat} {as' : Array Value} {Q : Option Value → Heap → List Loc → Prop}
    (hM : MetFree l y (head1 [Jvm.Cond.code y bytes maxL ret] rm) (fun a U => a = as' ∧ Z.Warmed39 U.vm ∧ U.heap = h ∧ CHv Z EL U.vm h ∧ ∀ x ∈ sx, Safe Z EL U.vm h x) (fun _ _ _ _ _ => True) (fun _ U o U' => ∃ v L, o = .returned v ∧ Q v U'.heap L ∧ CHr Z EL U.vm U.heap U'.vm U'.heap ∧ ReturnedEndW U o U' L rm.cells rm.slots))
    (hZ : Z.Warmed39 (s.setVm vm0).vm) (wc : (Jvm.Cond.code y bytes maxL ret).before a0 Z = true) (wz : (Jvm.Cond.initialized y.cls).before a0 Z = true) (hf : rm.frames + 1 ≤ R.frames) (hl : W + (maxL + 11) + rm.locals ≤ R.locals) (hEL : EW Z a0 EL) (H : CHv Z EL vm0 h) (hsx : ∀ x ∈ sx, x < h.size ∧ Safe Z EL vm0 h x) :
    BackS l R p e below (s.setVm vm0) args y len W (fun A a => a = as' ∧ A.U.heap = h ∧ A.cells + rm.cells ≤ R.cells ∧ A.slots + rm.slots ≤ R.slots)
      (fun A _ v B => ∃ L, Q v B.U.heap L ∧ B.locs = A.locs ++ L ∧ B.cells = A.cells + rm.cells ∧ B.slots = A.slots + rm.slots ∧ CHr Z EL vm0 h B.U.vm B.U.heap) :=
  BackS.of_freeW (bytes := bytes) (maxL := maxL) (ret := ret) (E := fun _ first o t L k n => k = rm.cells ∧ n = rm.slots ∧ (∃ v, o = .returned v ∧ Q v t.heap L) ∧ CHr Z EL first.vm first.heap t.vm t.heap) hM hf hl
    (fun m meth c A a Y hp => have hU : Z.Warmed39 A.U.vm := wtrans (s := s.setVm vm0) hZ Y.warmed
      ⟨by show (Jvm.Cond.and _ .tt).before a A.U = true; rw [Cond.before_and, mv hU wc]; rfl, mv hU wc, mv hU wz, hp.2.2.1, hp.2.2.2⟩)
    (fun m meth c A a g mk Y hp => ⟨hp.1, wtrans (s := s.setVm vm0) hZ Y.warmed, hp.2.1, (CHv.at Y hZ hEL H).1, fun x hx => (CHv.at Y hZ hEL H).safe (hsx x hx).1 (hsx x hx).2⟩) (fun _ _ _ _ _ _ _ _ _ => trivial)
    (fun _ _ _ _ ⟨v, L, h1, h2, h3, h4⟩ => ⟨L, _, _, h4, rfl, rfl, ⟨v, h1, h2⟩, h3⟩)
    (fun m meth c A a g mk v t L k n Y hp _ _ ⟨e1, e2, ⟨v', e3, e4⟩, e5⟩ => by
      cases e3; subst e1 e2
      refine ⟨L, e4, rfl, rfl, rfl, (CHv.at Y hZ hEL H).trans ?_⟩
      rw [← hp.2.1]; exact e5)
theorem own_callSW (X : Stand p l e R (s.setVm vm0) m args below meth c T locs cells slots) (hx : p.tables.exec = Jvm.exec) (hZ : Z.Warmed39 (s.setVm vm0).vm) {own : String} {index W maxL : Nat} {y : MethodName} {bytes : ByteArray} {ret : Option FieldType} {rm : Room} {as' : Array Value} {Q : Option Value → Heap → List Loc → Prop}
    (hown : (s.setVm vm0).vm.findClass own = some m.cls) (w1 : (Jvm.Cond.methodLink own index y).before a0 Z = true) (w2 : (Jvm.Cond.static y).before a0 Z = true) (w3 : (Jvm.Cond.initialized y.cls).before a0 Z = true) (w4 : (Jvm.Cond.code y bytes maxL ret).before a0 Z = true) (hy : y.cls ≠ "java/lang/invoke/MethodHandle" ∧ y.cls ≠ "java/lang/invoke/VarHandle")
    (hM : MetFree l y (head1 [Jvm.Cond.code y bytes maxL ret] rm) (fun a U => a = as' ∧ Z.Warmed39 U.vm ∧ U.heap = h ∧ CHv Z EL U.vm h ∧ ∀ x ∈ sx, Safe Z EL U.vm h x) (fun _ _ _ _ _ => True) (fun _ U o U' => ∃ v L, o = .returned v ∧ Q v U'.heap L ∧ CHr Z EL U.vm U.heap U'.vm U'.heap ∧ ReturnedEndW U o U' L rm.cells rm.slots)) (eT : T.heap = h) {k0 : Nat} (hS : s.Since vm0 k0) (hk : k0 ≤ h.size) (hEL : EW Z a0 EL) (H : CHv Z EL vm0 h) (hsx : ∀ x ∈ sx, x < h.size ∧ Safe Z EL vm0 h x)
    {g : JFrame} (hg : g.method = m) (hsize : g.locals.size = c.maxLocals) {argsL rest : List Value} (hlen : ∀ sig, parseMethodDescriptor y.desc = some sig → argsL.length = sig.parameters.length) (hstack : g.stack = argsL.reverse ++ rest) (has : argsL.toArray = as') (hW : 2 * g.monitorRoom + (rest.map fun v => v.category).sum ≤ W)
    (hdg : decode c.code g.pc = .ok (.invokestatic index, 3)) (hf : rm.frames + 1 ≤ R.frames) (hl : W + (maxL + 11) + rm.locals ≤ R.locals) (hc : cells + rm.cells ≤ R.cells) (hs : slots + rm.slots ≤ R.slots) :
    ∃ (v : Option Value) (T' : State) (L : List Loc), Q v T'.heap L ∧ s.Since T'.vm T'.heap.size ∧ Z.Warmed39 (s.setVm T'.vm).vm ∧ (s.setVm T'.vm).vm.findClass own = some m.cls ∧ CHr Z EL vm0 h T'.vm T'.heap ∧ Stand p l e R (s.setVm T'.vm) m args below meth c T' (locs ++ L) (cells + rm.cells) (slots + rm.slots) ∧ ∀ target, Steps p.tables e below (T'.setTop { g with pc := g.pc + 3, stack := v.toList ++ rest }) target → Steps p.tables e below (T.setTop g) target := by
  obtain ⟨v, _, ⟨T', L', c', s'⟩, -, X', hS2, hgr, ⟨L, hq, e1, e2, e3, hC⟩, st⟩ := callSS X hx hown (mvT hZ w1) (mvT hZ w2) (mvT hZ w3) (mvT hZ w4) hy (own_backS (W := W) hM hZ w4 w3 hf hl hEL H hsx) hg hsize hlen hstack hW hdg (fun _ _ => ⟨has, eT, hc, hs⟩)
  subst e1 e2 e3
  have hr := rebS (n1 := T.heap.size) hS (by rw [eT]; exact hk) X' hS2 hgr hZ hown
  exact ⟨v, T', L, hq, hr.2.1, hr.2.2.1, hr.2.2.2, hC, hr.1, fun _ k => st.trans k⟩
theorem own_specialW (X : Stand p l e R (s.setVm vm0) m args below meth c T locs cells slots) (hx : p.tables.exec = Jvm.exec) (hZ : Z.Warmed39 (s.setVm vm0).vm) {own : String} {index W maxL : Nat} {y : MethodName} {bytes : ByteArray} {rm : Room} {as' : Array Value} {Q : Option Value → Heap → List Loc → Prop} (hy1 : y.name = "<init>")
    (hown : (s.setVm vm0).vm.findClass own = some m.cls) (w1 : (Jvm.Cond.methodLink own index y).before a0 Z = true) (w2 : (Jvm.Cond.instanceMethod y).before a0 Z = true) (w3 : (Jvm.Cond.initialized y.cls).before a0 Z = true) (w4 : (Jvm.Cond.code y bytes maxL none).before a0 Z = true) (hy : y.cls ≠ "java/lang/invoke/MethodHandle" ∧ y.cls ≠ "java/lang/invoke/VarHandle")
    (hM : MetFree l y (head1 [Jvm.Cond.code y bytes maxL none] rm) (fun a U => a = as' ∧ Z.Warmed39 U.vm ∧ U.heap = h ∧ CHv Z EL U.vm h ∧ ∀ x ∈ sx, Safe Z EL U.vm h x) (fun _ _ _ _ _ => True) (fun _ U o U' => ∃ v L, o = .returned v ∧ Q v U'.heap L ∧ CHr Z EL U.vm U.heap U'.vm U'.heap ∧ ReturnedEndW U o U' L rm.cells rm.slots)) (eT : T.heap = h) {k0 : Nat} (hS : s.Since vm0 k0) (hk : k0 ≤ h.size) (hEL : EW Z a0 EL) (H : CHv Z EL vm0 h) (hsx : ∀ x ∈ sx, x < h.size ∧ Safe Z EL vm0 h x)
    {g : JFrame} (hg : g.method = m) (hsize : g.locals.size = c.maxLocals) {a : Addr} {argsL rest : List Value} (hlen : ∀ sig, parseMethodDescriptor y.desc = some sig → argsL.length = sig.parameters.length) (hstack : g.stack = argsL.reverse ++ .ref a :: rest) (has : (.ref a :: argsL).toArray = as') (hW : 2 * g.monitorRoom + (rest.map fun v => v.category).sum ≤ W)
    (hdg : decode c.code g.pc = .ok (.invokespecial index, 3)) (hf : rm.frames + 1 ≤ R.frames) (hl : W + (maxL + 11) + rm.locals ≤ R.locals) (hc : cells + rm.cells ≤ R.cells) (hs : slots + rm.slots ≤ R.slots) :
    ∃ (v : Option Value) (T' : State) (L : List Loc), Q v T'.heap L ∧ s.Since T'.vm T'.heap.size ∧ Z.Warmed39 (s.setVm T'.vm).vm ∧ (s.setVm T'.vm).vm.findClass own = some m.cls ∧ CHr Z EL vm0 h T'.vm T'.heap ∧ Stand p l e R (s.setVm T'.vm) m args below meth c T' (locs ++ L) (cells + rm.cells) (slots + rm.slots) ∧ ∀ target, Steps p.tables e below (T'.setTop { g with pc := g.pc + 3, stack := v.toList ++ rest }) target → Steps p.tables e below (T.setTop g) target := by
  obtain ⟨v, _, ⟨T', L', c', s'⟩, -, X', hS2, hgr, ⟨L, hq, e1, e2, e3, hC⟩, st⟩ := X.specialBackS hx hy1 hown (mvT hZ w1) (mvT hZ w2) (mvT hZ w4) hy (own_backS (W := W) hM hZ w4 w3 hf hl hEL H hsx) hg hsize (Steps.refl _) hlen hstack hW hdg (fun _ _ => ⟨has, eT, hc, hs⟩)
  subst e1 e2 e3
  have hr := rebS (n1 := T.heap.size) hS (by rw [eT]; exact hk) X' hS2 hgr hZ hown
  exact ⟨v, T', L, hq, hr.2.1, hr.2.2.1, hr.2.2.2, hC, hr.1, fun _ k => st.trans k⟩
theorem own_virtualW (X : Stand p l e R (s.setVm vm0) m args below meth c T locs cells slots) (hx : p.tables.exec = Jvm.exec) (hZ : Z.Warmed39 (s.setVm vm0).vm) {own C : String} {index W maxL : Nat} {y z : MethodName} {bytes : ByteArray} {ret : Option FieldType} {rm : Room} {as' : Array Value} {Q : Option Value → Heap → List Loc → Prop}
    (hown : (s.setVm vm0).vm.findClass own = some m.cls) (w1 : (Jvm.Cond.methodLink own index y).before a0 Z = true) (w2 : (Jvm.Cond.declares y).before a0 Z = true) (nf : NotFace (s.setVm vm0) y) (w5 : (Jvm.Cond.selects C y z).before a0 Z = true) (w6 : (Jvm.Cond.instanceMethod z).before a0 Z = true) (w3 : (Jvm.Cond.initialized z.cls).before a0 Z = true) (w4 : (Jvm.Cond.code z bytes maxL ret).before a0 Z = true) (hy : y.cls ≠ "java/lang/invoke/MethodHandle" ∧ y.cls ≠ "java/lang/invoke/VarHandle")
    (hM : MetFree l z (head1 [Jvm.Cond.code z bytes maxL ret] rm) (fun a U => a = as' ∧ Z.Warmed39 U.vm ∧ U.heap = h ∧ CHv Z EL U.vm h ∧ ∀ x ∈ sx, Safe Z EL U.vm h x) (fun _ _ _ _ _ => True) (fun _ U o U' => ∃ v L, o = .returned v ∧ Q v U'.heap L ∧ CHr Z EL U.vm U.heap U'.vm U'.heap ∧ ReturnedEndW U o U' L rm.cells rm.slots)) (eT : T.heap = h) {k0 : Nat} (hS : s.Since vm0 k0) (hk : k0 ≤ h.size) (hEL : EW Z a0 EL) (H : CHv Z EL vm0 h) (hsx : ∀ x ∈ sx, x < h.size ∧ Safe Z EL vm0 h x) {b : Addr} (E : Exa Z h b C)
    {g : JFrame} (hg : g.method = m) (hsize : g.locals.size = c.maxLocals) {argsL rest : List Value} (hlen : ∀ sig, parseMethodDescriptor y.desc = some sig → argsL.length = sig.parameters.length) (hstack : g.stack = argsL.reverse ++ .ref b :: rest) (has : (.ref b :: argsL).toArray = as') (hW : 2 * g.monitorRoom + (rest.map fun v => v.category).sum ≤ W)
    (hdg : decode c.code g.pc = .ok (.invokevirtual index, 3)) (hf : rm.frames + 1 ≤ R.frames) (hl : W + (maxL + 11) + rm.locals ≤ R.locals) (hc : cells + rm.cells ≤ R.cells) (hs : slots + rm.slots ≤ R.slots) :
    ∃ (v : Option Value) (T' : State) (L : List Loc), Q v T'.heap L ∧ s.Since T'.vm T'.heap.size ∧ Z.Warmed39 (s.setVm T'.vm).vm ∧ (s.setVm T'.vm).vm.findClass own = some m.cls ∧ CHr Z EL vm0 h T'.vm T'.heap ∧ Stand p l e R (s.setVm T'.vm) m args below meth c T' (locs ++ L) (cells + rm.cells) (slots + rm.slots) ∧ ∀ target, Steps p.tables e below (T'.setTop { g with pc := g.pc + 3, stack := v.toList ++ rest }) target → Steps p.tables e below (T.setTop g) target := by
  obtain ⟨cB, kB, qa, qb, qc⟩ := isOf hZ eT E
  obtain ⟨v, _, ⟨T', L', c', s'⟩, -, X', hS2, hgr, ⟨L, hq, e1, e2, e3, hC⟩, st⟩ := X.virtualBackS hx hown (mvT hZ w1) (mvT hZ w2) nf (mvT hZ w5) (mvT hZ w6) hy (own_backS (W := W) hM hZ w4 w3 hf hl hEL H hsx) qa qc hg hsize (Steps.refl _) hlen hstack hW hdg (fun _ _ => ⟨has, eT, hc, hs⟩)
  subst e1 e2 e3
  have hr := rebS (n1 := T.heap.size) hS (by rw [eT]; exact hk) X' hS2 hgr hZ hown
  exact ⟨v, T', L, hq, hr.2.1, hr.2.2.1, hr.2.2.2, hC, hr.1, fun _ k => st.trans k⟩
theorem own_virtualUpW (X : Stand p l e R (s.setVm vm0) m args below meth c T locs cells slots) (hx : p.tables.exec = Jvm.exec) (hZ : Z.Warmed39 (s.setVm vm0).vm) {own C owner : String} {index W maxL : Nat} {y z : MethodName} {bytes : ByteArray} {ret : Option FieldType} {rm : Room} {as' : Array Value} {Q : Option Value → Heap → List Loc → Prop}
    (hown : (s.setVm vm0).vm.findClass own = some m.cls) (w1 : (Jvm.Cond.methodLink own index y).before a0 Z = true) (w7 : (Jvm.Cond.sameMethod y.cls owner y.name y.desc).before a0 Z = true) (w2 : (Jvm.Cond.declares ⟨owner, y.name, y.desc⟩).before a0 Z = true) (hy : owner ≠ "java/lang/invoke/MethodHandle" ∧ owner ≠ "java/lang/invoke/VarHandle") (w5 : (Jvm.Cond.selects C y z).before a0 Z = true) (w6 : (Jvm.Cond.instanceMethod z).before a0 Z = true) (w3 : (Jvm.Cond.initialized z.cls).before a0 Z = true) (w4 : (Jvm.Cond.code z bytes maxL ret).before a0 Z = true)
    (hM : MetFree l z (head1 [Jvm.Cond.code z bytes maxL ret] rm) (fun a U => a = as' ∧ Z.Warmed39 U.vm ∧ U.heap = h ∧ CHv Z EL U.vm h ∧ ∀ x ∈ sx, Safe Z EL U.vm h x) (fun _ _ _ _ _ => True) (fun _ U o U' => ∃ v L, o = .returned v ∧ Q v U'.heap L ∧ CHr Z EL U.vm U.heap U'.vm U'.heap ∧ ReturnedEndW U o U' L rm.cells rm.slots)) (eT : T.heap = h) {k0 : Nat} (hS : s.Since vm0 k0) (hk : k0 ≤ h.size) (hEL : EW Z a0 EL) (H : CHv Z EL vm0 h) (hsx : ∀ x ∈ sx, x < h.size ∧ Safe Z EL vm0 h x) {b : Addr} (E : Exa Z h b C)
    {g : JFrame} (hg : g.method = m) (hsize : g.locals.size = c.maxLocals) {argsL rest : List Value} (hlen : ∀ sig, parseMethodDescriptor y.desc = some sig → argsL.length = sig.parameters.length) (hstack : g.stack = argsL.reverse ++ .ref b :: rest) (has : (.ref b :: argsL).toArray = as') (hW : 2 * g.monitorRoom + (rest.map fun v => v.category).sum ≤ W)
    (hdg : decode c.code g.pc = .ok (.invokevirtual index, 3)) (hf : rm.frames + 1 ≤ R.frames) (hl : W + (maxL + 11) + rm.locals ≤ R.locals) (hc : cells + rm.cells ≤ R.cells) (hs : slots + rm.slots ≤ R.slots) :
    ∃ (v : Option Value) (T' : State) (L : List Loc), Q v T'.heap L ∧ s.Since T'.vm T'.heap.size ∧ Z.Warmed39 (s.setVm T'.vm).vm ∧ (s.setVm T'.vm).vm.findClass own = some m.cls ∧ CHr Z EL vm0 h T'.vm T'.heap ∧ Stand p l e R (s.setVm T'.vm) m args below meth c T' (locs ++ L) (cells + rm.cells) (slots + rm.slots) ∧ ∀ target, Steps p.tables e below (T'.setTop { g with pc := g.pc + 3, stack := v.toList ++ rest }) target → Steps p.tables e below (T.setTop g) target := by
  obtain ⟨cB, kB, qa, qb, qc⟩ := isOf hZ eT E
  obtain ⟨v, _, ⟨T', L', c', s'⟩, -, X', hS2, hgr, ⟨L, hq, e1, e2, e3, hC⟩, st⟩ := X.virtualBackUpS hx (owner := owner) hown (mvT hZ w1) (mvT hZ w7) (mvT hZ w2) hy (mvT hZ w5) (mvT hZ w6) (own_backS (W := W) hM hZ w4 w3 hf hl hEL H hsx) qa qc hg hsize (Steps.refl _) hlen hstack hW hdg (fun _ _ => ⟨has, eT, hc, hs⟩)
  subst e1 e2 e3
  have hr := rebS (n1 := T.heap.size) hS (by rw [eT]; exact hk) X' hS2 hgr hZ hown
  exact ⟨v, T', L, hq, hr.2.1, hr.2.2.1, hr.2.2.2, hC, hr.1, fun _ k => st.trans k⟩
theorem own_ifaceW (X : Stand p l e R (s.setVm vm0) m args below meth c T locs cells slots) (hx : p.tables.exec = Jvm.exec) (hZ : Z.Warmed39 (s.setVm vm0).vm) {own C : String} {index count W maxL : Nat} {y z : MethodName} {bytes : ByteArray} {ret : Option FieldType} {rm : Room} {as' : Array Value} {Q : Option Value → Heap → List Loc → Prop}
    (hown : (s.setVm vm0).vm.findClass own = some m.cls) (w1 : (Jvm.Cond.methodLink own index y).before a0 Z = true) (w2 : (Jvm.Cond.declares y).before a0 Z = true) (w7 : (Jvm.Cond.interfaceMethod y.cls y.cls y.name y.desc).before args (s.setVm vm0) = true) (w5 : (Jvm.Cond.selects C y z).before a0 Z = true) (w6 : (Jvm.Cond.instanceMethod z).before a0 Z = true) (w8 : (Jvm.Cond.publicMethod z).before args (s.setVm vm0) = true) (w9 : (Jvm.Cond.unhidden C y.name y.desc).before args (s.setVm vm0) = true) (w10 : (Jvm.Cond.castable C y.cls).before a0 Z = true) (w3 : (Jvm.Cond.initialized z.cls).before a0 Z = true) (w4 : (Jvm.Cond.code z bytes maxL ret).before a0 Z = true) (hy : y.cls ≠ "java/lang/invoke/MethodHandle" ∧ y.cls ≠ "java/lang/invoke/VarHandle")
    (hM : MetFree l z (head1 [Jvm.Cond.code z bytes maxL ret] rm) (fun a U => a = as' ∧ Z.Warmed39 U.vm ∧ U.heap = h ∧ CHv Z EL U.vm h ∧ ∀ x ∈ sx, Safe Z EL U.vm h x) (fun _ _ _ _ _ => True) (fun _ U o U' => ∃ v L, o = .returned v ∧ Q v U'.heap L ∧ CHr Z EL U.vm U.heap U'.vm U'.heap ∧ ReturnedEndW U o U' L rm.cells rm.slots)) (eT : T.heap = h) {k0 : Nat} (hS : s.Since vm0 k0) (hk : k0 ≤ h.size) (hEL : EW Z a0 EL) (H : CHv Z EL vm0 h) (hsx : ∀ x ∈ sx, x < h.size ∧ Safe Z EL vm0 h x) {b : Addr} (E : Exa Z h b C)
    {g : JFrame} (hg : g.method = m) (hsize : g.locals.size = c.maxLocals) {argsL rest : List Value} (hlen : ∀ sig, parseMethodDescriptor y.desc = some sig → argsL.length = sig.parameters.length) (hstack : g.stack = argsL.reverse ++ .ref b :: rest) (has : (.ref b :: argsL).toArray = as') (hW : 2 * g.monitorRoom + (rest.map fun v => v.category).sum ≤ W)
    (hdg : decode c.code g.pc = .ok (.invokeinterface index count, 5)) (hf : rm.frames + 1 ≤ R.frames) (hl : W + (maxL + 11) + rm.locals ≤ R.locals) (hc : cells + rm.cells ≤ R.cells) (hs : slots + rm.slots ≤ R.slots) :
    ∃ (v : Option Value) (T' : State) (L : List Loc), Q v T'.heap L ∧ s.Since T'.vm T'.heap.size ∧ Z.Warmed39 (s.setVm T'.vm).vm ∧ (s.setVm T'.vm).vm.findClass own = some m.cls ∧ CHr Z EL vm0 h T'.vm T'.heap ∧ Stand p l e R (s.setVm T'.vm) m args below meth c T' (locs ++ L) (cells + rm.cells) (slots + rm.slots) ∧ ∀ target, Steps p.tables e below (T'.setTop { g with pc := g.pc + 5, stack := v.toList ++ rest }) target → Steps p.tables e below (T.setTop g) target := by
  obtain ⟨cB, kB, qa, qb, qc⟩ := isOf hZ eT E
  obtain ⟨v, _, ⟨T', L', c', s'⟩, -, X', hS2, hgr, ⟨L, hq, e1, e2, e3, hC⟩, st⟩ := X.interfaceBackS hx hown (mvT hZ w1) (mvT hZ w2) w7 (mvT hZ w5) (mvT hZ w6) w8 w9 (mvT hZ w10) hy (own_backS (W := W) hM hZ w4 w3 hf hl hEL H hsx) qa qb qc hg hsize (Steps.refl _) hlen hstack hW hdg (fun _ _ => ⟨has, eT, hc, hs⟩)
  subst e1 e2 e3
  have hr := rebS (n1 := T.heap.size) hS (by rw [eT]; exact hk) X' hS2 hgr hZ hown
  exact ⟨v, T', L, hq, hr.2.1, hr.2.2.1, hr.2.2.2, hC, hr.1, fun _ k => st.trans k⟩
theorem own_privateW (X : Stand p l e R (s.setVm vm0) m args below meth c T locs cells slots) (hx : p.tables.exec = Jvm.exec) (hZ : Z.Warmed39 (s.setVm vm0).vm) {own K : String} {index W maxL : Nat} {y : MethodName} {bytes : ByteArray} {ret : Option FieldType} {rm : Room} {as' : Array Value} {Q : Option Value → Heap → List Loc → Prop}
    (hown : (s.setVm vm0).vm.findClass own = some m.cls) (w1 : (Jvm.Cond.methodLink own index y).before a0 Z = true) (w2 : (Jvm.Cond.instanceMethod y).before a0 Z = true) (hsel : (Jvm.Cond.selects y.cls y y).before args (s.setVm vm0) = true) (w6 : (Jvm.Cond.privateMethod y).before a0 Z = true) (w3 : (Jvm.Cond.initialized y.cls).before a0 Z = true) (w4 : (Jvm.Cond.code y bytes maxL ret).before a0 Z = true) (hy : y.cls ≠ "java/lang/invoke/MethodHandle" ∧ y.cls ≠ "java/lang/invoke/VarHandle")
    (hM : MetFree l y (head1 [Jvm.Cond.code y bytes maxL ret] rm) (fun a U => a = as' ∧ Z.Warmed39 U.vm ∧ U.heap = h ∧ CHv Z EL U.vm h ∧ ∀ x ∈ sx, Safe Z EL U.vm h x) (fun _ _ _ _ _ => True) (fun _ U o U' => ∃ v L, o = .returned v ∧ Q v U'.heap L ∧ CHr Z EL U.vm U.heap U'.vm U'.heap ∧ ReturnedEndW U o U' L rm.cells rm.slots)) (eT : T.heap = h) {k0 : Nat} (hS : s.Since vm0 k0) (hk : k0 ≤ h.size) (hEL : EW Z a0 EL) (H : CHv Z EL vm0 h) (hsx : ∀ x ∈ sx, x < h.size ∧ Safe Z EL vm0 h x) {b : Addr} (E : Exa Z h b K)
    {g : JFrame} (hg : g.method = m) (hsize : g.locals.size = c.maxLocals) {argsL rest : List Value} (hlen : ∀ sig, parseMethodDescriptor y.desc = some sig → argsL.length = sig.parameters.length) (hstack : g.stack = argsL.reverse ++ .ref b :: rest) (has : (.ref b :: argsL).toArray = as') (hW : 2 * g.monitorRoom + (rest.map fun v => v.category).sum ≤ W)
    (hdg : decode c.code g.pc = .ok (.invokevirtual index, 3)) (hf : rm.frames + 1 ≤ R.frames) (hl : W + (maxL + 11) + rm.locals ≤ R.locals) (hc : cells + rm.cells ≤ R.cells) (hs : slots + rm.slots ≤ R.slots) :
    ∃ (v : Option Value) (T' : State) (L : List Loc), Q v T'.heap L ∧ s.Since T'.vm T'.heap.size ∧ Z.Warmed39 (s.setVm T'.vm).vm ∧ (s.setVm T'.vm).vm.findClass own = some m.cls ∧ CHr Z EL vm0 h T'.vm T'.heap ∧ Stand p l e R (s.setVm T'.vm) m args below meth c T' (locs ++ L) (cells + rm.cells) (slots + rm.slots) ∧ ∀ target, Steps p.tables e below (T'.setTop { g with pc := g.pc + 3, stack := v.toList ++ rest }) target → Steps p.tables e below (T.setTop g) target := by
  obtain ⟨cq, q, q'⟩ := E.cell
  obtain ⟨v, _, ⟨T', L', c', s'⟩, -, X', hS2, hgr, ⟨L, hq, e1, e2, e3, hC⟩, st⟩ := X.privateBackS hx hown (mvT hZ w1) (mvT hZ w2) hsel (Cond.privateMethod_at (mvP hZ w6 (args := #[]))) (mvT hZ w4) hy (own_backS (W := W) hM hZ w4 w3 hf hl hEL H hsx) hg hsize (Steps.refl _) (by rw [eT]; exact q) q' hlen hstack hW hdg (fun _ _ => ⟨has, eT, hc, hs⟩)
  subst e1 e2 e3
  have hr := rebS (n1 := T.heap.size) hS (by rw [eT]; exact hk) X' hS2 hgr hZ hown
  exact ⟨v, T', L, hq, hr.2.1, hr.2.2.1, hr.2.2.2, hC, hr.1, fun _ k => st.trans k⟩
theorem own_superW (X : Stand p l e R (s.setVm vm0) m args below meth c T locs cells slots) (hx : p.tables.exec = Jvm.exec) (hZ : Z.Warmed39 (s.setVm vm0).vm) {own K : String} {index W maxL : Nat} {y : MethodName} {bytes : ByteArray} {ret : Option FieldType} {rm : Room} {as' : Array Value} {Q : Option Value → Heap → List Loc → Prop}
    (hown : (s.setVm vm0).vm.findClass own = some m.cls) (w1 : (Jvm.Cond.methodLink own index y).before a0 Z = true) (w2 : (Jvm.Cond.sameMethod y.cls y.cls y.name y.desc).before a0 Z = true) (w5 : (Jvm.Cond.instanceMethod y).before a0 Z = true) (w6 : (Jvm.Cond.superclass own y.cls).before a0 Z = true) (hn : y.name ≠ "<init>") (w3 : (Jvm.Cond.initialized y.cls).before a0 Z = true) (w4 : (Jvm.Cond.code y bytes maxL ret).before a0 Z = true)
    (hM : MetFree l y (head1 [Jvm.Cond.code y bytes maxL ret] rm) (fun a U => a = as' ∧ Z.Warmed39 U.vm ∧ U.heap = h ∧ CHv Z EL U.vm h ∧ ∀ x ∈ sx, Safe Z EL U.vm h x) (fun _ _ _ _ _ => True) (fun _ U o U' => ∃ v L, o = .returned v ∧ Q v U'.heap L ∧ CHr Z EL U.vm U.heap U'.vm U'.heap ∧ ReturnedEndW U o U' L rm.cells rm.slots)) (eT : T.heap = h) {k0 : Nat} (hS : s.Since vm0 k0) (hk : k0 ≤ h.size) (hEL : EW Z a0 EL) (H : CHv Z EL vm0 h) (hsx : ∀ x ∈ sx, x < h.size ∧ Safe Z EL vm0 h x) {b : Addr} (E : Exa Z h b K)
    {g : JFrame} (hg : g.method = m) (hsize : g.locals.size = c.maxLocals) {argsL rest : List Value} (hlen : ∀ sig, parseMethodDescriptor y.desc = some sig → argsL.length = sig.parameters.length) (hstack : g.stack = argsL.reverse ++ .ref b :: rest) (has : (.ref b :: argsL).toArray = as') (hW : 2 * g.monitorRoom + (rest.map fun v => v.category).sum ≤ W)
    (hdg : decode c.code g.pc = .ok (.invokespecial index, 3)) (hf : rm.frames + 1 ≤ R.frames) (hl : W + (maxL + 11) + rm.locals ≤ R.locals) (hc : cells + rm.cells ≤ R.cells) (hs : slots + rm.slots ≤ R.slots) :
    ∃ (v : Option Value) (T' : State) (L : List Loc), Q v T'.heap L ∧ s.Since T'.vm T'.heap.size ∧ Z.Warmed39 (s.setVm T'.vm).vm ∧ (s.setVm T'.vm).vm.findClass own = some m.cls ∧ CHr Z EL vm0 h T'.vm T'.heap ∧ Stand p l e R (s.setVm T'.vm) m args below meth c T' (locs ++ L) (cells + rm.cells) (slots + rm.slots) ∧ ∀ target, Steps p.tables e below (T'.setTop { g with pc := g.pc + 3, stack := v.toList ++ rest }) target → Steps p.tables e below (T.setTop g) target := by
  obtain ⟨v, _, ⟨T', L', c', s'⟩, -, X', hS2, hgr, ⟨L, hq, e1, e2, e3, hC⟩, st⟩ := superBackS X hx hZ hown w1 w2 w5 w6 hn (own_backS (W := W) hM hZ w4 w3 hf hl hEL H hsx) eT (Ins.self E) hg hsize w4 hlen hstack hW hdg (fun _ _ => ⟨has, eT, hc, hs⟩)
  subst e1 e2 e3
  have hr := rebS (n1 := T.heap.size) hS (by rw [eT]; exact hk) X' hS2 hgr hZ hown
  exact ⟨v, T', L, hq, hr.2.1, hr.2.2.1, hr.2.2.2, hC, hr.1, fun _ k => st.trans k⟩
theorem own_chr {vm vm1 : Vm} {h0 h1 h2 : Heap} (e0 : h1 = h0) (eT : h2 = h) (C : CHr Z EL vm h0 vm1 h) : CHr Z EL vm h1 vm1 h2 := by subst e0 eT; exact C
theorem own_rwm {t : State} {o : Outcome} {L : List Loc} {k n k' n' : Nat} (hR : ReturnedEndW s o t L k n) (hk : k ≤ k') (hn : n ≤ n') : ReturnedEndW s o t L k' n' := ⟨hR.1, hR.2.1, hR.2.2.1, hR.2.2.2.mono hk hn⟩
theorem own_sx0 : ∀ x ∈ ([] : List Addr), x < h.size ∧ Safe Z EL vm0 h x := fun _ q => nomatch q
theorem own_sxS {y : Addr} {L : List Addr} (q : y < h.size) (r : Safe Z EL vm0 h y) (n : ∀ x ∈ L, x < h.size ∧ Safe Z EL vm0 h x) : ∀ x ∈ y :: L, x < h.size ∧ Safe Z EL vm0 h x := fun x z => (List.mem_cons.mp z).elim (fun u => u ▸ ⟨q, r⟩) (n x)
end OwnWide
theorem own_irr (x : Int32) : ¬ (x < x) := Int32.lt_irrefl
theorem own_irrL (x : Int64) : ¬ (x < x) := Int64.lt_irrefl
theorem own_lc_lt {x y : Int64} (h : x < y) : lcmpW x y = (-1 : Int32) := Int32.toInt_inj.mp ((c_lcmp x y).1 (Int64.lt_iff_toInt_lt.mp h))
theorem own_lc_eq {x y : Int64} (h : x = y) : lcmpW x y = (0 : Int32) := Int32.toInt_inj.mp ((c_lcmp x y).2.1 (congrArg _ h))
theorem own_lc_gt {x y : Int64} (h : ¬ (x < y)) (h' : ¬ (x = y)) : lcmpW x y = (1 : Int32) := Int32.toInt_inj.mp ((c_lcmp x y).2.2 (by
  have h1 : ¬ (x.toInt < y.toInt) := fun q => h (Int64.lt_iff_toInt_lt.mpr q)
  have h2 : ¬ (x.toInt = y.toInt) := fun q => h' (Int64.toInt_inj.mp q)
  omega))
theorem own_old_le {Z : State} {n0 : Nat} {h : Heap} (O : Old Z n0 h) : n0 ≤ h.size := O.1 ▸ O.2.1
theorem own_fld {Z : State} {args : Array Value} {t : Term} {a : Addr} {C n d : String} {z : Int32} (ev : t.eval args Z none [] Z = some (.ref a)) (h : (Jvm.Cond.eq (Term.field t C n d) (Term.int z)).value args Z none Z [] = some true) : Fld Z Z.heap a C n d (.int z) := by
  refine Fld.start ?_
  obtain ⟨x, y, e1, e2, k1, -⟩ := cmp_v (Or.inl h)
  rw [fld_at ev] at e1
  cases (Term.int_eval z).symm.trans e2
  have hx : ∃ q, x = .int q := by cases x <;> simp [Kin, Value.isRef] at k1 ⊢
  obtain ⟨q, rfl⟩ := hx
  have := gotT (P := q = z) (by simp [Cond.value, fld_at ev, e1, Term.int_eval]) h
  rw [e1, this]
theorem own_sta {Z : State} {args : Array Value} {C n d : String} {z : Int32} (h : (Jvm.Cond.eq (Term.static C n d) (Term.int z)).value args Z none Z [] = some true) : (Term.static C n d).eval args Z none [] Z = some (.int z) := by
  obtain ⟨x, y, e1, e2, k1, -⟩ := cmp_v (Or.inl h)
  cases (Term.int_eval z).symm.trans e2
  have hx : ∃ q, x = .int q := by cases x <;> simp [Kin, Value.isRef] at k1 ⊢
  obtain ⟨q, rfl⟩ := hx
  have := gotT (P := q = z) (by simp [Cond.value, e1, Term.int_eval]) h
  rw [e1, this]
theorem own_fldL {Z : State} {args : Array Value} {t : Term} {a : Addr} {C n d : String} {z : Int64} (ev : t.eval args Z none [] Z = some (.ref a)) (h : (Jvm.Cond.eq (Term.field t C n d) (Term.long z)).value args Z none Z [] = some true) : Fld Z Z.heap a C n d (.long z) := by
  refine Fld.start ?_
  obtain ⟨x, y, e1, e2, k1, -⟩ := cmp_v (Or.inl h)
  rw [fld_at ev] at e1
  cases (long_at z).symm.trans e2
  have hx : ∃ q, x = .long q := by cases x <;> simp [Kin, Value.isRef] at k1 ⊢
  obtain ⟨q, rfl⟩ := hx
  have := gotT (P := q = z) (eq_L (by rw [fld_at ev]; exact e1) (long_at z)) h
  rw [e1, this]
theorem own_len {Z : State} {args : Array Value} {t : Term} {a : Addr} {cl : Cell} {ty : FieldType} {z : Int32} (ev : t.eval args Z none [] Z = some (.ref a)) (A : Arr Z Z.heap a cl ty) (h : (Jvm.Cond.eq (Term.length t) (Term.int z)).value args Z none Z [] = some true) : cl.slots.size < 2 ^ 31 ∧ cl.slots.size.toInt32 = z := by
  obtain ⟨x, y, e1, e2, k1, -⟩ := cmp_v (Or.inl h)
  cases (Term.int_eval z).symm.trans e2
  have harr := A.fin (Vm.Alike.refl _)
  have h31 := SBG.length_lt ev harr e1
  refine ⟨h31, ?_⟩
  rw [len_f ev harr h31] at e1
  cases Option.some.inj e1
  exact gotT (P := cl.slots.size.toInt32 = z) (by simp [Cond.value, len_f ev harr h31, Term.int_eval]) h
theorem own_el {Z : State} {args : Array Value} {t u : Term} {a : Addr} {cl : Cell} {ty : FieldType} {j : Int32} {v : Value} (ev : t.eval args Z none [] Z = some (.ref a)) (A : Arr Z Z.heap a cl ty) (hu : u.eval args Z none [] Z = some v) (hr : v.isRef = true) (h : (Jvm.Cond.eq (Term.elem t (Term.int j)) u).value args Z none Z [] = some true) : cl.slots[j.toNatClampNeg]? = some v := by
  obtain ⟨x, y, e1, e2, k1, k2⟩ := cmp_v (Or.inl h)
  cases hu.symm.trans e2
  have hx : x.isRef = true := by rcases ref_cases hr with rfl | ⟨q, rfl⟩ <;> simp [Kin] at k2 <;> exact k2.2
  have := gotT (eq_R e1 hu hx hr) h
  subst this
  exact (elem_in e1 ev (Term.int_eval j) A.1).2
theorem own_rng (x : Int32) : -2147483648 ≤ x.toInt ∧ x.toInt ≤ 2147483647 := by have := rng32 x; omega
theorem own_mask (x m : Int32) {n : Int} (h : m.toInt = n ∧ 0 ≤ n) : 0 ≤ (x &&& m).toInt ∧ (x &&& m).toInt ≤ n := by have := c_and x m (by omega); omega
theorem own_rem (x y : Int32) (d : Int) {lo hi l h : Int} (hy : y.toInt = d ∧ 0 < d) (hx : lo ≤ x.toInt ∧ x.toInt ≤ hi) (q : (0 ≤ lo ∧ l = 0 ∧ d - 1 ≤ h) ∨ (l = -(d - 1) ∧ h = d - 1)) : l ≤ (x % y).toInt ∧ (x % y).toInt ≤ h := by
  have := c_iremV x y
  rcases Int.lt_or_le x.toInt 0 with g | g
  · have := this.2 g (by omega); omega
  · have := this.1 g (by omega); omega
theorem own_isub (x y : Int32) (d : Int) {lo hi l h : Int} (hy : y.toInt = d) (hx : lo ≤ x.toInt ∧ x.toInt ≤ hi) (q : l = lo - d ∧ h = hi - d ∧ -2147483648 ≤ l ∧ h ≤ 2147483647) : l ≤ (x - y).toInt ∧ (x - y).toInt ≤ h := by have := c_isub x y; have := rng32 (x - y); omega
theorem own_iadd (x y : Int32) (d : Int) {lo hi l h : Int} (hy : y.toInt = d) (hx : lo ≤ x.toInt ∧ x.toInt ≤ hi) (q : l = lo + d ∧ h = hi + d ∧ -2147483648 ≤ l ∧ h ≤ 2147483647) : l ≤ (x + y).toInt ∧ (x + y).toInt ≤ h := by have := c_iadd x y; have := rng32 (x + y); omega
theorem own_ltT {x y : Int32} (h : x.toInt < y.toInt) : x < y := Int32.lt_iff_toInt_lt.mpr h
theorem own_ltF {x y : Int32} (h : ¬ (x.toInt < y.toInt)) : ¬ (x < y) := fun q => h (Int32.lt_iff_toInt_lt.mp q)
theorem own_eqF {x y : Int32} (h : ¬ (x.toInt = y.toInt)) : ¬ (x = y) := fun q => h (q ▸ rfl)
theorem own_rngL (x : Int64) : -9223372036854775808 ≤ x.toInt ∧ x.toInt ≤ 9223372036854775807 := by have := rng64 x; omega
theorem own_ltTL {x y : Int64} (h : x.toInt < y.toInt) : x < y := Int64.lt_iff_toInt_lt.mpr h
theorem own_ltFL {x y : Int64} (h : ¬ (x.toInt < y.toInt)) : ¬ (x < y) := fun q => h (Int64.lt_iff_toInt_lt.mp q)
theorem own_eqFL {x y : Int64} (h : ¬ (x.toInt = y.toInt)) : ¬ (x = y) := fun q => h (q ▸ rfl)
theorem own_eqTL {x y : Int64} (h : x.toInt = y.toInt) : x = y := Int64.toInt_inj.mp h
theorem own_ltT'L {x y : Int64} (h : x < y) : x.toInt < y.toInt := Int64.lt_iff_toInt_lt.mp h
theorem own_ltF'L {x y : Int64} (h : ¬ (x < y)) : ¬ (x.toInt < y.toInt) := fun q => h (Int64.lt_iff_toInt_lt.mpr q)
theorem own_eqF'L {x y : Int64} (h : ¬ (x = y)) : ¬ (x.toInt = y.toInt) := fun q => h (Int64.toInt_inj.mp q)
theorem own_eqT'L {x y : Int64} (h : x = y) : x.toInt = y.toInt := h ▸ rfl
theorem own_sub {Z : State} {args : Array Value} {a b : Term} {idx : List Nat} {x y : Int32} (ha : a.eval args Z none idx Z = some (.int x)) (hb : b.eval args Z none idx Z = some (.int y)) : (Term.sub a b).eval args Z none idx Z = some (.int (x - y)) := by simp [Term.eval, ha, hb]
theorem own_box {Z : State} {a : Addr} {c : Cell} {K d : String} {z : Int32} {val : Int32 → Value} (B : Bxs Z a c K d z val) {j : Int32} (h1 : ¬ (j < 0)) (h2 : j < z) : ∃ b : Addr, c.slots[j.toNatClampNeg]? = some (.ref b) ∧ Exa Z Z.heap b K ∧ Fld Z Z.heap b K "value" d (val j) := B.2.2.2 j (inb_of B.2.1 ⟨h1, h2⟩)
theorem own_boxload {p : Program} {l : Launch} {e : Env} {R : Room} {s : State} {m : MethodId} {args : Array Value} {below : List Frame} {meth : Method} {c : Code} {T : State} {locs : List Loc} {cells slots : Nat} {Z : State} {h : Heap} {n0 : Nat} (X : Stand p l e R s m args below meth c T locs cells slots) (hx : p.tables.exec = Jvm.exec) (hZ : Z.Warmed39 s.vm) (eT : T.heap = h) (O : Old Z n0 h)
    {a b : Addr} {cl : Cell} {K d : String} {z : Int32} {val : Int32 → Value} (B : Bxs Z a cl K d z val) {j : Int32} (h1 : ¬ (j < 0)) (h2 : j < z) (el : cl.slots[j.toNatClampNeg]? = some (.ref b))
    {g : JFrame} (hg : g.method = m) {rest : List Value} (hs : g.stack = .int j :: .ref a :: rest) (hd : decode c.code g.pc = .ok (.aaload, 1)) {target : State} (hr : Steps p.tables e below (T.setTop { g with pc := g.pc + 1, stack := .ref b :: rest }) target) : Steps p.tables e below (T.setTop g) target := by
  have Ar := (B.ext O.2).1
  exact X.aaload hx (by rw [eT]; exact Ar.1) (State.isArrayOf_alike hZ.alike Ar.2.1) rfl Ar.2.2 (inb_of B.2.1 ⟨h1, h2⟩) el hg hs hd _ hr
theorem own_ltT' {x y : Int32} (h : x < y) : x.toInt < y.toInt := Int32.lt_iff_toInt_lt.mp h
theorem own_ltF' {x y : Int32} (h : ¬ (x < y)) : ¬ (x.toInt < y.toInt) := fun q => h (Int32.lt_iff_toInt_lt.mpr q)
theorem own_eqF' {x y : Int32} (h : ¬ (x = y)) : ¬ (x.toInt = y.toInt) := fun q => h (Int32.toInt_inj.mp q)
theorem own_eqT' {x y : Int32} (h : x = y) : x.toInt = y.toInt := h ▸ rfl
theorem own_eqT {x y : Int32} (h : x.toInt = y.toInt) : x = y := Int32.toInt_inj.mp h
abbrev z0 : String := "com/example/latchwork/latchwork/store/Attempt"
abbrev z1 : String := "java/time/Duration"
abbrev z2 : String := "Ljava/time/Duration;"
abbrev z3 : String := "java/lang/Record"
abbrev z4 : String := "java/lang/String"
def SF (Z : State) (w0 : Addr) : Prop := Sta Z Z.heap z1 "ZERO" z2 (.ref w0) ∧ Exa Z Z.heap w0 z1 ∧ Fld Z Z.heap w0 z1 "seconds" "J" (.long (0 : Int64)) ∧ Fld Z Z.heap w0 z1 "nanos" "I" (.int (0 : Int32))
theorem m0 : (Jvm.Cond.constantLong "com/example/latchwork/latchwork/store/AttemptTakenPinLaw" (9 : Nat) (9223372036854775807 : Int64)) ∈ tables_1 := List.mem_of_getElem? (i := 0) rfl
theorem ef1 (m : MethodId) (x0 : Int64) : entryFrame m #[(.long x0)] maxLocals = mkF m 0 #[.val (.long x0), .second, .unset, .unset, .unset] [] := by first | (simp [entryFrame, mkF, argsToLocals, Value.category, maxLocals]; done) | rfl
theorem pn2 : plainName "com/example/latchwork/latchwork/store/AttemptTakenPinLaw" = true := by first | (simp [plainName, overriddenIn]; done) | decide +kernel
theorem m1 : (Jvm.Cond.methodLink "com/example/latchwork/latchwork/store/AttemptTakenPinLaw" (11 : Nat) (⟨z0, "taken", "(J)Lcom/example/latchwork/latchwork/store/Attempt;"⟩ : MethodName)) ∈ tables_1 := List.mem_of_getElem? (i := 1) rfl
theorem d1_0 : decode prog_23_method_2_code 0 = .ok (.lload_n 0, 1) := by decide +kernel
theorem d1_1 : decode prog_23_method_2_code 1 = .ok (.lconst 0, 1) := by decide +kernel
theorem d1_2 : decode prog_23_method_2_code 2 = .ok (.lcmp, 1) := by decide +kernel
theorem d1_3 : decode prog_23_method_2_code 3 = .ok (.ifCond .gt 13, 3) := by decide +kernel
theorem d1_16 : decode prog_23_method_2_code 16 = .ok (.new 32, 3) := by decide +kernel
theorem m5 : (Jvm.Cond.classLink z0 (32 : Nat) z0) ∈ tables_1 := List.mem_of_getElem? (i := 5) rfl
theorem m6 : (Jvm.Cond.instantiable z0 (2 : Nat)) ∈ tables_1 := List.mem_of_getElem? (i := 6) rfl
theorem m3 : (Jvm.Cond.initialized z0) ∈ tables_1 := List.mem_of_getElem? (i := 3) rfl
theorem m47 : (Jvm.Cond.laysFinal z0 z0 "token" "J") ∈ tables_1 := List.mem_of_getElem? (i := 47) rfl
theorem m49 : (Jvm.Cond.laysFinal z0 z0 "holderLeft" z2) ∈ tables_1 := List.mem_of_getElem? (i := 49) rfl
theorem d1_19 : decode prog_23_method_2_code 19 = .ok (.dup, 1) := by decide +kernel
theorem d1_20 : decode prog_23_method_2_code 20 = .ok (.lload_n 0, 1) := by decide +kernel
theorem d1_21 : decode prog_23_method_2_code 21 = .ok (.getstatic 42, 3) := by decide +kernel
theorem m7 : (Jvm.Cond.fieldLink z0 (42 : Nat) z1 "ZERO" z2) ∈ tables_1 := List.mem_of_getElem? (i := 7) rfl
theorem d1_24 : decode prog_23_method_2_code 24 = .ok (.invokespecial 45, 3) := by decide +kernel
theorem m9 : (Jvm.Cond.methodLink z0 (45 : Nat) (⟨z0, "<init>", "(JLjava/time/Duration;)V"⟩ : MethodName)) ∈ tables_1 := List.mem_of_getElem? (i := 9) rfl
theorem d2_0 : decode prog_23_method_1_code 0 = .ok (.aload_n 0, 1) := by decide +kernel
theorem d2_1 : decode prog_23_method_1_code 1 = .ok (.invokespecial 1, 3) := by decide +kernel
theorem m12 : (Jvm.Cond.methodLink z0 (1 : Nat) (⟨z3, "<init>", "()V"⟩ : MethodName)) ∈ tables_1 := List.mem_of_getElem? (i := 12) rfl
theorem d3_0 : decode jdk_30_method_1_code 0 = .ok (.aload_n 0, 1) := by decide +kernel
theorem d3_1 : decode jdk_30_method_1_code 1 = .ok (.invokespecial 1, 3) := by decide +kernel
theorem m17 : (Jvm.Cond.methodLink z3 (1 : Nat) (⟨"java/lang/Object", "<init>", "()V"⟩ : MethodName)) ∈ tables_1 := List.mem_of_getElem? (i := 17) rfl
theorem m19 : (Jvm.Cond.code (⟨"java/lang/Object", "<init>", "()V"⟩ : MethodName) object_method_1_code (1 : Nat) (Option.none : Option Jvm.ClassFile.FieldType)) ∈ tables_1 := List.mem_of_getElem? (i := 19) rfl
theorem m18 : (Jvm.Cond.instanceMethod (⟨"java/lang/Object", "<init>", "()V"⟩ : MethodName)) ∈ tables_1 := List.mem_of_getElem? (i := 18) rfl
theorem d3_4 : decode jdk_30_method_1_code 4 = .ok (.return_, 1) := by decide +kernel
theorem ef29 (m : MethodId) (x0 : Addr) : entryFrame m #[(.ref x0)] 1 = mkF m 0 #[.val (.ref x0)] [] := by first | (simp [entryFrame, mkF, argsToLocals, Value.category]; done) | rfl
theorem pn30 : plainName z3 = true := by first | (simp [plainName, overriddenIn]; done) | decide +kernel
theorem m16 : (Jvm.Cond.code (⟨z3, "<init>", "()V"⟩ : MethodName) jdk_30_method_1_code (1 : Nat) (Option.none : Option Jvm.ClassFile.FieldType)) ∈ tables_1 := List.mem_of_getElem? (i := 16) rfl
theorem m15 : (Jvm.Cond.initialized z3) ∈ tables_1 := List.mem_of_getElem? (i := 15) rfl
theorem pd33 : parseMethodDescriptor "()V" = some ⟨[], none⟩ := by decide +kernel
theorem m13 : (Jvm.Cond.instanceMethod (⟨z3, "<init>", "()V"⟩ : MethodName)) ∈ tables_1 := List.mem_of_getElem? (i := 13) rfl
theorem d2_4 : decode prog_23_method_1_code 4 = .ok (.aload_n 3, 1) := by decide +kernel
theorem d2_5 : decode prog_23_method_1_code 5 = .ok (.ldc 7, 2) := by decide +kernel
theorem m20 : (Jvm.Cond.stringLink z0 (7 : Nat) "holderLeft") ∈ tables_1 := List.mem_of_getElem? (i := 20) rfl
theorem d2_7 : decode prog_23_method_1_code 7 = .ok (.invokestatic 9, 3) := by decide +kernel
theorem m28 : (Jvm.Cond.methodLink z0 (9 : Nat) (⟨"java/util/Objects", "requireNonNull", "(Ljava/lang/Object;Ljava/lang/String;)Ljava/lang/Object;"⟩ : MethodName)) ∈ tables_1 := List.mem_of_getElem? (i := 28) rfl
theorem d5_0 : decode jdk_31_method_11_code 0 = .ok (.aload_n 0, 1) := by decide +kernel
theorem d5_1 : decode jdk_31_method_11_code 1 = .ok (.ifnonnull 12, 3) := by decide +kernel
theorem d5_13 : decode jdk_31_method_11_code 13 = .ok (.aload_n 0, 1) := by decide +kernel
theorem d5_14 : decode jdk_31_method_11_code 14 = .ok (.areturn, 1) := by decide +kernel
theorem ef44 (m : MethodId) (x0 : Addr) (x1 : Addr) : entryFrame m #[(.ref x0), (.ref x1)] 2 = mkF m 0 #[.val (.ref x0), .val (.ref x1)] [] := by first | (simp [entryFrame, mkF, argsToLocals, Value.category]; done) | rfl
theorem pn45 : plainName "java/util/Objects" = true := by first | (simp [plainName, overriddenIn]; done) | decide +kernel
theorem m31 : (Jvm.Cond.code (⟨"java/util/Objects", "requireNonNull", "(Ljava/lang/Object;Ljava/lang/String;)Ljava/lang/Object;"⟩ : MethodName) jdk_31_method_11_code (2 : Nat) (Option.some (FieldType.object "java/lang/Object"))) ∈ tables_1 := List.mem_of_getElem? (i := 31) rfl
theorem m30 : (Jvm.Cond.initialized "java/util/Objects") ∈ tables_1 := List.mem_of_getElem? (i := 30) rfl
theorem pd48 : parseMethodDescriptor "(Ljava/lang/Object;Ljava/lang/String;)Ljava/lang/Object;" = some ⟨[(.object "java/lang/Object"), (.object z4)], some (.object "java/lang/Object")⟩ := by decide +kernel
theorem m29 : (Jvm.Cond.static (⟨"java/util/Objects", "requireNonNull", "(Ljava/lang/Object;Ljava/lang/String;)Ljava/lang/Object;"⟩ : MethodName)) ∈ tables_1 := List.mem_of_getElem? (i := 29) rfl
theorem d2_10 : decode prog_23_method_1_code 10 = .ok (.pop, 1) := by decide +kernel
theorem d2_11 : decode prog_23_method_1_code 11 = .ok (.lload_n 1, 1) := by decide +kernel
theorem d2_12 : decode prog_23_method_1_code 12 = .ok (.lconst 0, 1) := by decide +kernel
theorem d2_13 : decode prog_23_method_1_code 13 = .ok (.lcmp, 1) := by decide +kernel
theorem d2_14 : decode prog_23_method_1_code 14 = .ok (.ifCond .lt 23, 3) := by decide +kernel
theorem d2_17 : decode prog_23_method_1_code 17 = .ok (.aload_n 3, 1) := by decide +kernel
theorem d2_18 : decode prog_23_method_1_code 18 = .ok (.invokevirtual 15, 3) := by decide +kernel
theorem m32 : (Jvm.Cond.methodLink z0 (15 : Nat) (⟨z1, "isNegative", "()Z"⟩ : MethodName)) ∈ tables_1 := List.mem_of_getElem? (i := 32) rfl
theorem m35 : (Jvm.Cond.selects z1 (⟨z1, "isNegative", "()Z"⟩ : MethodName) (⟨z1, "isNegative", "()Z"⟩ : MethodName)) ∈ tables_1 := List.mem_of_getElem? (i := 35) rfl
theorem d6_0 : decode jdk_2316_method_22_code 0 = .ok (.aload_n 0, 1) := by decide +kernel
theorem d6_1 : decode jdk_2316_method_22_code 1 = .ok (.getfield 221, 3) := by decide +kernel
theorem m37 : (Jvm.Cond.fieldLink z1 (221 : Nat) z1 "seconds" "J") ∈ tables_1 := List.mem_of_getElem? (i := 37) rfl
theorem d6_4 : decode jdk_2316_method_22_code 4 = .ok (.lconst 0, 1) := by decide +kernel
theorem d6_5 : decode jdk_2316_method_22_code 5 = .ok (.lcmp, 1) := by decide +kernel
theorem d6_6 : decode jdk_2316_method_22_code 6 = .ok (.ifCond .ge 7, 3) := by decide +kernel
theorem d6_13 : decode jdk_2316_method_22_code 13 = .ok (.iconst 0, 1) := by decide +kernel
theorem d6_14 : decode jdk_2316_method_22_code 14 = .ok (.ireturn, 1) := by decide +kernel
theorem pn67 : plainName z1 = true := by first | (simp [plainName, overriddenIn]; done) | decide +kernel
theorem m36 : (Jvm.Cond.code (⟨z1, "isNegative", "()Z"⟩ : MethodName) jdk_2316_method_22_code (1 : Nat) (Option.some FieldType.boolean)) ∈ tables_1 := List.mem_of_getElem? (i := 36) rfl
theorem m8 : (Jvm.Cond.initialized z1) ∈ tables_1 := List.mem_of_getElem? (i := 8) rfl
theorem pd70 : parseMethodDescriptor "()Z" = some ⟨[], some .boolean⟩ := by decide +kernel
theorem m33 : (Jvm.Cond.declares (⟨z1, "isNegative", "()Z"⟩ : MethodName)) ∈ tables_1 := List.mem_of_getElem? (i := 33) rfl
theorem m34 : (Jvm.Cond.instanceMethod (⟨z1, "isNegative", "()Z"⟩ : MethodName)) ∈ tables_1 := List.mem_of_getElem? (i := 34) rfl
theorem d2_21 : decode prog_23_method_1_code 21 = .ok (.ifCond .ne 16, 3) := by decide +kernel
theorem d2_24 : decode prog_23_method_1_code 24 = .ok (.lload_n 1, 1) := by decide +kernel
theorem d2_25 : decode prog_23_method_1_code 25 = .ok (.lconst 0, 1) := by decide +kernel
theorem d2_26 : decode prog_23_method_1_code 26 = .ok (.lcmp, 1) := by decide +kernel
theorem d2_27 : decode prog_23_method_1_code 27 = .ok (.ifCond .le 20, 3) := by decide +kernel
theorem d2_30 : decode prog_23_method_1_code 30 = .ok (.aload_n 3, 1) := by decide +kernel
theorem d2_31 : decode prog_23_method_1_code 31 = .ok (.invokevirtual 21, 3) := by decide +kernel
theorem m39 : (Jvm.Cond.methodLink z0 (21 : Nat) (⟨z1, "isZero", "()Z"⟩ : MethodName)) ∈ tables_1 := List.mem_of_getElem? (i := 39) rfl
theorem m42 : (Jvm.Cond.selects z1 (⟨z1, "isZero", "()Z"⟩ : MethodName) (⟨z1, "isZero", "()Z"⟩ : MethodName)) ∈ tables_1 := List.mem_of_getElem? (i := 42) rfl
theorem d7_0 : decode jdk_2316_method_21_code 0 = .ok (.aload_n 0, 1) := by decide +kernel
theorem d7_1 : decode jdk_2316_method_21_code 1 = .ok (.getfield 221, 3) := by decide +kernel
theorem d7_4 : decode jdk_2316_method_21_code 4 = .ok (.aload_n 0, 1) := by decide +kernel
theorem d7_5 : decode jdk_2316_method_21_code 5 = .ok (.getfield 224, 3) := by decide +kernel
theorem m44 : (Jvm.Cond.fieldLink z1 (224 : Nat) z1 "nanos" "I") ∈ tables_1 := List.mem_of_getElem? (i := 44) rfl
theorem d7_8 : decode jdk_2316_method_21_code 8 = .ok (.i2l, 1) := by decide +kernel
theorem d7_9 : decode jdk_2316_method_21_code 9 = .ok (.lor, 1) := by decide +kernel
theorem d7_10 : decode jdk_2316_method_21_code 10 = .ok (.lconst 0, 1) := by decide +kernel
theorem d7_11 : decode jdk_2316_method_21_code 11 = .ok (.lcmp, 1) := by decide +kernel
theorem d7_12 : decode jdk_2316_method_21_code 12 = .ok (.ifCond .ne 7, 3) := by decide +kernel
theorem d7_15 : decode jdk_2316_method_21_code 15 = .ok (.iconst 1, 1) := by decide +kernel
theorem d7_16 : decode jdk_2316_method_21_code 16 = .ok (.goto 4, 3) := by decide +kernel
theorem d7_20 : decode jdk_2316_method_21_code 20 = .ok (.ireturn, 1) := by decide +kernel
theorem m43 : (Jvm.Cond.code (⟨z1, "isZero", "()Z"⟩ : MethodName) jdk_2316_method_21_code (1 : Nat) (Option.some FieldType.boolean)) ∈ tables_1 := List.mem_of_getElem? (i := 43) rfl
theorem m40 : (Jvm.Cond.declares (⟨z1, "isZero", "()Z"⟩ : MethodName)) ∈ tables_1 := List.mem_of_getElem? (i := 40) rfl
theorem m41 : (Jvm.Cond.instanceMethod (⟨z1, "isZero", "()Z"⟩ : MethodName)) ∈ tables_1 := List.mem_of_getElem? (i := 41) rfl
theorem d2_34 : decode prog_23_method_1_code 34 = .ok (.ifCond .ne 13, 3) := by decide +kernel
theorem d2_47 : decode prog_23_method_1_code 47 = .ok (.aload_n 0, 1) := by decide +kernel
theorem d2_48 : decode prog_23_method_1_code 48 = .ok (.lload_n 1, 1) := by decide +kernel
theorem d2_49 : decode prog_23_method_1_code 49 = .ok (.putfield 31, 3) := by decide +kernel
theorem m46 : (Jvm.Cond.fieldLink z0 (31 : Nat) z0 "token" "J") ∈ tables_1 := List.mem_of_getElem? (i := 46) rfl
theorem d2_52 : decode prog_23_method_1_code 52 = .ok (.aload_n 0, 1) := by decide +kernel
theorem d2_53 : decode prog_23_method_1_code 53 = .ok (.aload_n 3, 1) := by decide +kernel
theorem d2_54 : decode prog_23_method_1_code 54 = .ok (.putfield 37, 3) := by decide +kernel
theorem m48 : (Jvm.Cond.fieldLink z0 (37 : Nat) z0 "holderLeft" z2) ∈ tables_1 := List.mem_of_getElem? (i := 48) rfl
theorem d2_57 : decode prog_23_method_1_code 57 = .ok (.return_, 1) := by decide +kernel
theorem ef108 (m : MethodId) (x0 : Addr) (x1 : Int64) (x2 : Addr) : entryFrame m #[(.ref x0), (.long x1), (.ref x2)] 4 = mkF m 0 #[.val (.ref x0), .val (.long x1), .second, .val (.ref x2)] [] := by first | (simp [entryFrame, mkF, argsToLocals, Value.category]; done) | rfl
theorem pn109 : plainName z0 = true := by first | (simp [plainName, overriddenIn]; done) | decide +kernel
theorem m11 : (Jvm.Cond.code (⟨z0, "<init>", "(JLjava/time/Duration;)V"⟩ : MethodName) prog_23_method_1_code (4 : Nat) (Option.none : Option Jvm.ClassFile.FieldType)) ∈ tables_1 := List.mem_of_getElem? (i := 11) rfl
theorem pd111 : parseMethodDescriptor "(JLjava/time/Duration;)V" = some ⟨[.long, (.object z1)], none⟩ := by decide +kernel
theorem m10 : (Jvm.Cond.instanceMethod (⟨z0, "<init>", "(JLjava/time/Duration;)V"⟩ : MethodName)) ∈ tables_1 := List.mem_of_getElem? (i := 10) rfl
theorem d1_27 : decode prog_23_method_2_code 27 = .ok (.areturn, 1) := by decide +kernel
theorem ef114 (m : MethodId) (x0 : Int64) : entryFrame m #[(.long x0)] 2 = mkF m 0 #[.val (.long x0), .second] [] := by first | (simp [entryFrame, mkF, argsToLocals, Value.category]; done) | rfl
theorem m4 : (Jvm.Cond.code (⟨z0, "taken", "(J)Lcom/example/latchwork/latchwork/store/Attempt;"⟩ : MethodName) prog_23_method_2_code (2 : Nat) (Option.some (FieldType.object z0))) ∈ tables_1 := List.mem_of_getElem? (i := 4) rfl
theorem pd116 : parseMethodDescriptor "(J)Lcom/example/latchwork/latchwork/store/Attempt;" = some ⟨[.long], some (.object z0)⟩ := by decide +kernel
theorem m2 : (Jvm.Cond.static (⟨z0, "taken", "(J)Lcom/example/latchwork/latchwork/store/Attempt;"⟩ : MethodName)) ∈ tables_1 := List.mem_of_getElem? (i := 2) rfl
theorem m50 : (Jvm.Cond.methodLink "com/example/latchwork/latchwork/store/AttemptTakenPinLaw" (17 : Nat) (⟨z0, "token", "()J"⟩ : MethodName)) ∈ tables_1 := List.mem_of_getElem? (i := 50) rfl
theorem m53 : (Jvm.Cond.selects z0 (⟨z0, "token", "()J"⟩ : MethodName) (⟨z0, "token", "()J"⟩ : MethodName)) ∈ tables_1 := List.mem_of_getElem? (i := 53) rfl
theorem d8_0 : decode prog_23_method_8_code 0 = .ok (.aload_n 0, 1) := by decide +kernel
theorem d8_1 : decode prog_23_method_8_code 1 = .ok (.getfield 31, 3) := by decide +kernel
theorem d8_4 : decode prog_23_method_8_code 4 = .ok (.lreturn, 1) := by decide +kernel
theorem m54 : (Jvm.Cond.code (⟨z0, "token", "()J"⟩ : MethodName) prog_23_method_8_code (1 : Nat) (Option.some FieldType.long)) ∈ tables_1 := List.mem_of_getElem? (i := 54) rfl
theorem pd124 : parseMethodDescriptor "()J" = some ⟨[], some .long⟩ := by decide +kernel
theorem m51 : (Jvm.Cond.declares (⟨z0, "token", "()J"⟩ : MethodName)) ∈ tables_1 := List.mem_of_getElem? (i := 51) rfl
theorem m52 : (Jvm.Cond.instanceMethod (⟨z0, "token", "()J"⟩ : MethodName)) ∈ tables_1 := List.mem_of_getElem? (i := 52) rfl
theorem m55 : (Jvm.Cond.methodLink "com/example/latchwork/latchwork/store/AttemptTakenPinLaw" (21 : Nat) (⟨z0, "taken", "()Z"⟩ : MethodName)) ∈ tables_1 := List.mem_of_getElem? (i := 55) rfl
theorem m58 : (Jvm.Cond.selects z0 (⟨z0, "taken", "()Z"⟩ : MethodName) (⟨z0, "taken", "()Z"⟩ : MethodName)) ∈ tables_1 := List.mem_of_getElem? (i := 58) rfl
theorem d9_0 : decode prog_23_method_4_code 0 = .ok (.aload_n 0, 1) := by decide +kernel
theorem d9_1 : decode prog_23_method_4_code 1 = .ok (.getfield 31, 3) := by decide +kernel
theorem d9_4 : decode prog_23_method_4_code 4 = .ok (.lconst 0, 1) := by decide +kernel
theorem d9_5 : decode prog_23_method_4_code 5 = .ok (.lcmp, 1) := by decide +kernel
theorem d9_6 : decode prog_23_method_4_code 6 = .ok (.ifCond .le 7, 3) := by decide +kernel
theorem d9_9 : decode prog_23_method_4_code 9 = .ok (.iconst 1, 1) := by decide +kernel
theorem d9_10 : decode prog_23_method_4_code 10 = .ok (.goto 4, 3) := by decide +kernel
theorem d9_14 : decode prog_23_method_4_code 14 = .ok (.ireturn, 1) := by decide +kernel
theorem m59 : (Jvm.Cond.code (⟨z0, "taken", "()Z"⟩ : MethodName) prog_23_method_4_code (1 : Nat) (Option.some FieldType.boolean)) ∈ tables_1 := List.mem_of_getElem? (i := 59) rfl
theorem m56 : (Jvm.Cond.declares (⟨z0, "taken", "()Z"⟩ : MethodName)) ∈ tables_1 := List.mem_of_getElem? (i := 56) rfl
theorem m57 : (Jvm.Cond.instanceMethod (⟨z0, "taken", "()Z"⟩ : MethodName)) ∈ tables_1 := List.mem_of_getElem? (i := 57) rfl
theorem j1 : (Jvm.Cond.initializedFor z1 "ZERO" z2) ∈ jdkStatics_1 := List.mem_of_getElem? (i := 1) rfl
theorem m21 : (Jvm.Cond.initialized z4) ∈ tables_1 := List.mem_of_getElem? (i := 21) rfl
theorem m22 : (Jvm.Cond.instantiable z4 (4 : Nat)) ∈ tables_1 := List.mem_of_getElem? (i := 22) rfl
theorem m23 : (Jvm.Cond.arrayClass FieldType.byte) ∈ tables_1 := List.mem_of_getElem? (i := 23) rfl
theorem m24 : (Jvm.Cond.laysFinal z4 z4 "value" "[B") ∈ tables_1 := List.mem_of_getElem? (i := 24) rfl
theorem m25 : (Jvm.Cond.laysFinal z4 z4 "coder" "B") ∈ tables_1 := List.mem_of_getElem? (i := 25) rfl
theorem m26 : (Jvm.Cond.soleField z4 "value") ∈ tables_1 := List.mem_of_getElem? (i := 26) rfl
theorem m27 : (Jvm.Cond.soleField z4 "coder") ∈ tables_1 := List.mem_of_getElem? (i := 27) rfl
def EL : List (String × Nat) := []
theorem own_str {Z : State} {a0 : Array Value} (hw : ∀ d ∈ tables_1, d.before a0 Z = true) (hj : ∀ d ∈ jdkStatics_1, d.before a0 Z = true) : ∀ a ∈ Bundle.stringAtoms, a.before a0 Z = true := fun d hd => by
  simp only [Bundle.stringAtoms, List.mem_cons, List.not_mem_nil, or_false] at hd
  rcases hd with rfl | rfl | rfl | rfl | rfl | rfl | rfl
  · exact (hw _ m21)
  · exact (hw _ m22)
  · exact (hw _ m23)
  · exact (hw _ m24)
  · exact (hw _ m25)
  · exact (hw _ m26)
  · exact (hw _ m27)
theorem own_EW {Z : State} {a0 : Array Value} (hw : ∀ d ∈ tables_1, d.before a0 Z = true) (hj : ∀ d ∈ jdkStatics_1, d.before a0 Z = true) : EW Z a0 EL := EW.nil
def Qrm1 (Z : State) (w0 : Addr) (a1 : Addr) (h0 : Heap) (n0 : Nat) (v : Option Value) (h : Heap) (L : List Loc) : Prop := v = none ∧ Fr n0 L ∧ h = h0
set_option maxRecDepth 65536 in
set_option maxHeartbeats 40000000 in
theorem rm1 (l : Launch) (Z : State) (a0 : Array Value) (hw : ∀ d ∈ tables_1, d.before a0 Z = true) (hj : ∀ d ∈ jdkStatics_1, d.before a0 Z = true) (w0 : Addr) (hS : SF Z w0) (ws : List Jvm.Cond) (a1 : Addr) (h0 : Heap) (n0 : Nat) (O0 : Old Z n0 h0) :
    MetFree l (⟨z3, "<init>", "()V"⟩ : MethodName) (head1 (Jvm.Cond.code (⟨z3, "<init>", "()V"⟩ : MethodName) jdk_30_method_1_code 1 none :: ws) ({ frames := 1, cells := 0, slots := 0, locals := 12 } : Room)) (fun a U => a = #[(.ref a1)] ∧ Z.Warmed39 U.vm ∧ U.heap = h0) (fun _ _ _ _ _ => True) (fun _ U o U' => ∃ v L, o = .returned v ∧ Qrm1 Z w0 a1 h0 n0 v U'.heap L ∧ FrameEnd U o U' L ({ frames := 1, cells := 0, slots := 0, locals := 12 } : Room).cells ({ frames := 1, cells := 0, slots := 0, locals := 12 } : Room).slots) := by
  refine MetFree.of_bodySF (plainFor_of_name pn30) hisR ?_
  intro p e s m args below meth c s₁ Bd hml0 hP hK
  obtain ⟨rfl, hZ, hh⟩ := hP
  have hx := Bd.exec
  have hby := Bd.bytes
  have hml : c.maxLocals = 1 := hml0
  have hown : s.vm.findClass z3 = some m.cls := findClass_of_methodNamed Bd.named
  have hnm := (name_of_methodNamed Bd.named Bd.method).1
  have X0 : Stand p l e ({ frames := 1, cells := 0, slots := 0, locals := 12 } : Room) s m #[(.ref a1)] below meth c s₁ [] 0 0 := Stand.of_body Bd
  have e0 : s₁.heap = h0 := by rw [← hh, Bd.state]; rfl
  have N0 := Fr.nil n0
  have pre0 : ∀ t, Steps p.tables e below (s₁.setTop (mkF m 0 #[.val (.ref a1)] [])) t → Steps p.tables e below (s₁.setTop (entryFrame m #[(.ref a1)] 1)) t := fun t k => castTop (ef29 m a1) k
  obtain ⟨T1, X1, e1, st1⟩ := initO X0 hx hZ hown (hw _ m17) (hw _ m18) (hw _ m19) e0 (g := (mkF m 1 #[.val (.ref a1)] [(.ref a1)])) rfl (by rw [hml]; rfl) rfl (hb hby d3_1) (by decide) (W := 0) (by show 2 * 0 + _ ≤ _; exact Nat.le_of_eq rfl) (by decide)
  obtain ⟨fs, hr, hrun, hended, hW, hsame⟩ := X1.leave (v := none) (fun _ => rfl)
  refine ⟨_, _, pre0 _ ?_, hrun, hended, _, _, rfl, ?_, ⟨_, rfl⟩, hW, hsame.mono (by decide) (by decide)⟩
  · show Steps p.tables e below (s₁.setTop (mkF m 0 #[.val (.ref a1)] [])) _
    refine XS.aloadN X0.here hx rfl (hb hby d3_0) rfl rfl ?_
    refine st1 _ ?_
    exact X1.returnOut hx Bd.returns (hb hby d3_4) hr
  · show Qrm1 Z w0 a1 h0 n0 _ T1.heap _
    rw [e1]
    exact ⟨rfl, N0, rfl⟩
def Qrm2 (Z : State) (w0 : Addr) (a1 : Addr) (h0 : Heap) (n0 : Nat) (v : Option Value) (h : Heap) (L : List Loc) : Prop := v = some (.ref w0) ∧ Fr n0 L ∧ h = h0
set_option maxRecDepth 65536 in
set_option maxHeartbeats 40000000 in
theorem rm2 (l : Launch) (Z : State) (a0 : Array Value) (hw : ∀ d ∈ tables_1, d.before a0 Z = true) (hj : ∀ d ∈ jdkStatics_1, d.before a0 Z = true) (w0 : Addr) (hS : SF Z w0) (ws : List Jvm.Cond) (a1 : Addr) (h0 : Heap) (n0 : Nat) (O0 : Old Z n0 h0) :
    MetFree l (⟨"java/util/Objects", "requireNonNull", "(Ljava/lang/Object;Ljava/lang/String;)Ljava/lang/Object;"⟩ : MethodName) (head1 (Jvm.Cond.code (⟨"java/util/Objects", "requireNonNull", "(Ljava/lang/Object;Ljava/lang/String;)Ljava/lang/Object;"⟩ : MethodName) jdk_31_method_11_code 2 (some (.object "java/lang/Object")) :: ws) ({ frames := 0, cells := 0, slots := 0, locals := 0 } : Room)) (fun a U => a = #[(.ref w0), (.ref a1)] ∧ Z.Warmed39 U.vm ∧ U.heap = h0) (fun _ _ _ _ _ => True) (fun _ U o U' => ∃ v L, o = .returned v ∧ Qrm2 Z w0 a1 h0 n0 v U'.heap L ∧ FrameEnd U o U' L ({ frames := 0, cells := 0, slots := 0, locals := 0 } : Room).cells ({ frames := 0, cells := 0, slots := 0, locals := 0 } : Room).slots) := by
  refine MetFree.of_bodySF (plainFor_of_name pn45) hisR ?_
  intro p e s m args below meth c s₁ Bd hml0 hP hK
  obtain ⟨rfl, hZ, hh⟩ := hP
  have hx := Bd.exec
  have hby := Bd.bytes
  have hml : c.maxLocals = 2 := hml0
  have hown : s.vm.findClass "java/util/Objects" = some m.cls := findClass_of_methodNamed Bd.named
  have hnm := (name_of_methodNamed Bd.named Bd.method).1
  have X0 : Stand p l e ({ frames := 0, cells := 0, slots := 0, locals := 0 } : Room) s m #[(.ref w0), (.ref a1)] below meth c s₁ [] 0 0 := Stand.of_body Bd
  have e0 : s₁.heap = h0 := by rw [← hh, Bd.state]; rfl
  have N0 := Fr.nil n0
  have pre0 : ∀ t, Steps p.tables e below (s₁.setTop (mkF m 0 #[.val (.ref w0), .val (.ref a1)] [])) t → Steps p.tables e below (s₁.setTop (entryFrame m #[(.ref w0), (.ref a1)] 2)) t := fun t k => castTop (ef44 m w0 a1) k
  obtain ⟨fs, hr, hrun, hended, hW, hsame⟩ := X0.leave (v := some (.ref w0)) (fun h => by rw [Bd.returns] at h; cases h)
  refine ⟨_, _, pre0 _ ?_, hrun, hended, _, _, rfl, ?_, ⟨_, rfl⟩, hW, hsame.mono (by decide) (by decide)⟩
  · show Steps p.tables e below (s₁.setTop (mkF m 0 #[.val (.ref w0), .val (.ref a1)] [])) _
    refine XS.aloadN X0.here hx rfl (hb hby d5_0) rfl rfl ?_
    refine XS.ifnonnullYes X0.here hx rfl (pc0 := 1) (pc' := 13) rfl (hb hby d5_1) rfl (by decide) (by decide) ?_
    refine XS.aloadN X0.here hx rfl (hb hby d5_13) rfl rfl ?_
    exact retOut X0 hx Bd.returns rfl (Or.inr (Or.inr (Or.inr (Or.inr ⟨rfl, rfl, rfl⟩)))) (hb hby d5_14) hr
  · show Qrm2 Z w0 a1 h0 n0 _ s₁.heap _
    rw [e0]
    exact ⟨rfl, N0, rfl⟩
def Qrm3 (Z : State) (w0 : Addr) (h0 : Heap) (n0 : Nat) (v : Option Value) (h : Heap) (L : List Loc) : Prop := v = some (.int (0 : Int32)) ∧ Fr n0 L ∧ h = h0
set_option maxRecDepth 65536 in
set_option maxHeartbeats 40000000 in
theorem rm3 (l : Launch) (Z : State) (a0 : Array Value) (hw : ∀ d ∈ tables_1, d.before a0 Z = true) (hj : ∀ d ∈ jdkStatics_1, d.before a0 Z = true) (w0 : Addr) (hS : SF Z w0) (ws : List Jvm.Cond) (h0 : Heap) (n0 : Nat) (O0 : Old Z n0 h0) :
    MetFree l (⟨z1, "isNegative", "()Z"⟩ : MethodName) (head1 (Jvm.Cond.code (⟨z1, "isNegative", "()Z"⟩ : MethodName) jdk_2316_method_22_code 1 (some .boolean) :: ws) ({ frames := 0, cells := 0, slots := 0, locals := 0 } : Room)) (fun a U => a = #[(.ref w0)] ∧ Z.Warmed39 U.vm ∧ U.heap = h0) (fun _ _ _ _ _ => True) (fun _ U o U' => ∃ v L, o = .returned v ∧ Qrm3 Z w0 h0 n0 v U'.heap L ∧ FrameEnd U o U' L ({ frames := 0, cells := 0, slots := 0, locals := 0 } : Room).cells ({ frames := 0, cells := 0, slots := 0, locals := 0 } : Room).slots) := by
  refine MetFree.of_bodySF (plainFor_of_name pn67) hisR ?_
  intro p e s m args below meth c s₁ Bd hml0 hP hK
  obtain ⟨rfl, hZ, hh⟩ := hP
  have hx := Bd.exec
  have hby := Bd.bytes
  have hml : c.maxLocals = 1 := hml0
  have hown : s.vm.findClass z1 = some m.cls := findClass_of_methodNamed Bd.named
  have hnm := (name_of_methodNamed Bd.named Bd.method).1
  have X0 : Stand p l e ({ frames := 0, cells := 0, slots := 0, locals := 0 } : Room) s m #[(.ref w0)] below meth c s₁ [] 0 0 := Stand.of_body Bd
  have e0 : s₁.heap = h0 := by rw [← hh, Bd.state]; rfl
  have N0 := Fr.nil n0
  have pre0 : ∀ t, Steps p.tables e below (s₁.setTop (mkF m 0 #[.val (.ref w0)] [])) t → Steps p.tables e below (s₁.setTop (entryFrame m #[(.ref w0)] 1)) t := fun t k => castTop (ef29 m w0) k
  obtain ⟨T1, X1, e1, st1⟩ := getF X0 hx hZ hown (host := "") (Or.inl (hw _ m37)) Via.refl e0 (hS.2.2.1.ext O0.2) (g := (mkF m 1 #[.val (.ref w0)] [(.ref w0)])) rfl rfl (hb hby d6_1)
  obtain ⟨fs, hr, hrun, hended, hW, hsame⟩ := X1.leave (v := some (.int (0 : Int32))) (fun h => by rw [Bd.returns] at h; cases h)
  refine ⟨_, _, pre0 _ ?_, hrun, hended, _, _, rfl, ?_, ⟨_, rfl⟩, hW, hsame.mono (by decide) (by decide)⟩
  · show Steps p.tables e below (s₁.setTop (mkF m 0 #[.val (.ref w0)] [])) _
    refine XS.aloadN X0.here hx rfl (hb hby d6_0) rfl rfl ?_
    refine st1 _ ?_
    refine XS.lconst X1.here hx rfl (hb hby d6_4) ?_
    refine Own.lcmp X1.here hx rfl (hb hby d6_5) rfl (by decide : (lcmpW (0 : Int64) (0 : Int64)) = (0 : Int32)) ?_
    show Steps p.tables e below (T1.setTop (mkF m 6 #[.val (.ref w0)] [(.int (0 : Int32))])) _
    refine XS.ifYes X1.here hx rfl (pc0 := 6) (pc' := 13) rfl (hb hby d6_6) rfl ((if0 _ _).trans (flt (by decide : ¬ ((0 : Int32) < (0 : Int32)))).2.1) (by decide) (by decide) ?_
    refine XS.iconst X1.here hx rfl (hb hby d6_13) ?_
    exact retN X1 hx (t := .boolean) Bd.returns (by simp) (hb hby d6_14) hr
  · show Qrm3 Z w0 h0 n0 _ T1.heap _
    rw [e1]
    exact ⟨rfl, N0, rfl⟩
def Qrm4 (Z : State) (w0 : Addr) (h0 : Heap) (n0 : Nat) (v : Option Value) (h : Heap) (L : List Loc) : Prop := v = some (.int (1 : Int32)) ∧ Fr n0 L ∧ h = h0
set_option maxRecDepth 65536 in
set_option maxHeartbeats 40000000 in
theorem rm4 (l : Launch) (Z : State) (a0 : Array Value) (hw : ∀ d ∈ tables_1, d.before a0 Z = true) (hj : ∀ d ∈ jdkStatics_1, d.before a0 Z = true) (w0 : Addr) (hS : SF Z w0) (ws : List Jvm.Cond) (h0 : Heap) (n0 : Nat) (O0 : Old Z n0 h0) :
    MetFree l (⟨z1, "isZero", "()Z"⟩ : MethodName) (head1 (Jvm.Cond.code (⟨z1, "isZero", "()Z"⟩ : MethodName) jdk_2316_method_21_code 1 (some .boolean) :: ws) ({ frames := 0, cells := 0, slots := 0, locals := 0 } : Room)) (fun a U => a = #[(.ref w0)] ∧ Z.Warmed39 U.vm ∧ U.heap = h0) (fun _ _ _ _ _ => True) (fun _ U o U' => ∃ v L, o = .returned v ∧ Qrm4 Z w0 h0 n0 v U'.heap L ∧ FrameEnd U o U' L ({ frames := 0, cells := 0, slots := 0, locals := 0 } : Room).cells ({ frames := 0, cells := 0, slots := 0, locals := 0 } : Room).slots) := by
  refine MetFree.of_bodySF (plainFor_of_name pn67) hisR ?_
  intro p e s m args below meth c s₁ Bd hml0 hP hK
  obtain ⟨rfl, hZ, hh⟩ := hP
  have hx := Bd.exec
  have hby := Bd.bytes
  have hml : c.maxLocals = 1 := hml0
  have hown : s.vm.findClass z1 = some m.cls := findClass_of_methodNamed Bd.named
  have hnm := (name_of_methodNamed Bd.named Bd.method).1
  have X0 : Stand p l e ({ frames := 0, cells := 0, slots := 0, locals := 0 } : Room) s m #[(.ref w0)] below meth c s₁ [] 0 0 := Stand.of_body Bd
  have e0 : s₁.heap = h0 := by rw [← hh, Bd.state]; rfl
  have N0 := Fr.nil n0
  have pre0 : ∀ t, Steps p.tables e below (s₁.setTop (mkF m 0 #[.val (.ref w0)] [])) t → Steps p.tables e below (s₁.setTop (entryFrame m #[(.ref w0)] 1)) t := fun t k => castTop (ef29 m w0) k
  obtain ⟨T1, X1, e1, st1⟩ := getF X0 hx hZ hown (host := "") (Or.inl (hw _ m37)) Via.refl e0 (hS.2.2.1.ext O0.2) (g := (mkF m 1 #[.val (.ref w0)] [(.ref w0)])) rfl rfl (hb hby d7_1)
  obtain ⟨T2, X2, e2, st2⟩ := getF X1 hx hZ hown (host := "") (Or.inl (hw _ m44)) Via.refl e1 (hS.2.2.2.ext O0.2) (g := (mkF m 5 #[.val (.ref w0)] [(.ref w0), (.long (0 : Int64))])) rfl rfl (hb hby d7_5)
  obtain ⟨fs, hr, hrun, hended, hW, hsame⟩ := X2.leave (v := some (.int (1 : Int32))) (fun h => by rw [Bd.returns] at h; cases h)
  refine ⟨_, _, pre0 _ ?_, hrun, hended, _, _, rfl, ?_, ⟨_, rfl⟩, hW, hsame.mono (by decide) (by decide)⟩
  · show Steps p.tables e below (s₁.setTop (mkF m 0 #[.val (.ref w0)] [])) _
    refine XS.aloadN X0.here hx rfl (hb hby d7_0) rfl rfl ?_
    refine st1 _ ?_
    refine XS.aloadN X1.here hx rfl (hb hby d7_4) rfl rfl ?_
    refine st2 _ ?_
    show Steps p.tables e below (T2.setTop (mkF m 8 #[.val (.ref w0)] [(.int (0 : Int32)), (.long (0 : Int64))])) _
    refine Own.i2l X2.here hx rfl (hb hby d7_8) rfl (by decide : ((0 : Int32).toInt64) = (0 : Int64)) ?_
    refine Own.lor X2.here hx rfl (hb hby d7_9) rfl (by decide : ((0 : Int64) ||| (0 : Int64)) = (0 : Int64)) ?_
    refine XS.lconst X2.here hx rfl (hb hby d7_10) ?_
    refine Own.lcmp X2.here hx rfl (hb hby d7_11) rfl (by decide : (lcmpW (0 : Int64) (0 : Int64)) = (0 : Int32)) ?_
    show Steps p.tables e below (T2.setTop (mkF m 12 #[.val (.ref w0)] [(.int (0 : Int32))])) _
    refine XS.ifNo X2.here hx rfl (hb hby d7_12) rfl ((if0 _ _).trans (teq (by decide : (0 : Int32) = (0 : Int32))).2) ?_
    refine XS.iconst X2.here hx rfl (hb hby d7_15) ?_
    refine XS.goto X2.here hx rfl (pc0 := 16) (pc' := 20) rfl (hb hby d7_16) (by decide) (by decide) ?_
    exact retN X2 hx (t := .boolean) Bd.returns (by simp) (hb hby d7_20) hr
  · show Qrm4 Z w0 h0 n0 _ T2.heap _
    rw [e2]
    exact ⟨rfl, N0, rfl⟩
def Qrm5 (Z : State) (w0 : Addr) (q1 : Int64) (a2 : Addr) (h0 : Heap) (n0 : Nat) (v : Option Value) (h : Heap) (L : List Loc) : Prop := v = none ∧ Fr n0 L ∧ Keep h0 h [a2] ∧ Fld Z h a2 z0 "token" "J" (.long q1) ∧ Fld Z h a2 z0 "holderLeft" z2 (.ref w0)
set_option maxRecDepth 65536 in
set_option maxHeartbeats 40000000 in
theorem rm5 (l : Launch) (Z : State) (a0 : Array Value) (hw : ∀ d ∈ tables_1, d.before a0 Z = true) (hj : ∀ d ∈ jdkStatics_1, d.before a0 Z = true) (w0 : Addr) (hS : SF Z w0) (ws : List Jvm.Cond) (q1 : Int64) (a2 : Addr) (h0 : Heap) (n0 : Nat) (O0 : Old Z n0 h0) (E1 : Exa Z h0 a2 z0) (F2 : Fld Z h0 a2 z0 "token" "J" (.long (0 : Int64))) (F3 : Fld Z h0 a2 z0 "holderLeft" z2 .null) (hc4 : ¬ (q1 < (0 : Int64))) (hc5 : (0 : Int64) < q1) (g6 : n0 ≤ a2) :
    MetFree l (⟨z0, "<init>", "(JLjava/time/Duration;)V"⟩ : MethodName) (head1 (Jvm.Cond.code (⟨z0, "<init>", "(JLjava/time/Duration;)V"⟩ : MethodName) prog_23_method_1_code 4 none :: ws) ({ frames := 2, cells := 2, slots := 44, locals := 24 } : Room)) (fun a U => a = #[(.ref a2), (.long q1), (.ref w0)] ∧ Z.Warmed39 U.vm ∧ U.heap = h0 ∧ CHv Z EL U.vm h0 ∧ ∀ x ∈ ([] : List Addr), Safe Z EL U.vm h0 x) (fun _ _ _ _ _ => True) (fun _ U o U' => ∃ v L, o = .returned v ∧ Qrm5 Z w0 q1 a2 h0 n0 v U'.heap L ∧ CHr Z EL U.vm U.heap U'.vm U'.heap ∧ ReturnedEndW U o U' L ({ frames := 2, cells := 2, slots := 44, locals := 24 } : Room).cells ({ frames := 2, cells := 2, slots := 44, locals := 24 } : Room).slots) := by
  refine MetFree.of_bodySF (plainFor_of_name pn109) hisR ?_
  intro p e s m args below meth c s₁ Bd hml0 hP hK
  obtain ⟨rfl, hZ, hh, H0, hsx⟩ := hP
  have hx := Bd.exec
  have hby := Bd.bytes
  have hml : c.maxLocals = 4 := hml0
  have hown : s.vm.findClass z0 = some m.cls := findClass_of_methodNamed Bd.named
  have hnm := (name_of_methodNamed Bd.named Bd.method).1
  have X0 : Stand p l e ({ frames := 2, cells := 2, slots := 44, locals := 24 } : Room) (s.setVm s.vm) m #[(.ref a2), (.long q1), (.ref w0)] below meth c s₁ [] 0 0 := Stand.of_body Bd
  have e0 : s₁.heap = h0 := by rw [← hh, Bd.state]; rfl
  have N0 := Fr.nil n0
  have pre0 : ∀ t, Steps p.tables e below (s₁.setTop (mkF m 0 #[.val (.ref a2), .val (.long q1), .second, .val (.ref w0)] [])) t → Steps p.tables e below (s₁.setTop (entryFrame m #[(.ref a2), (.long q1), (.ref w0)] 4)) t := fun t k => castTop (ef108 m a2 q1 w0) k
  have hS0 : s.Since s.vm h0.size := (State.WarmedH.refl s).since _
  have C0 : CHr Z EL s.vm h0 s.vm h0 := CHr.refl H0
  have sf1 := (sf0 : ∀ x ∈ [], Safe Z EL s.vm h0 x)
  obtain ⟨_, T1, L1, hQ1, X1, st1⟩ := own_special X0 hx hZ (W := 0) rfl hown (hw _ m12) (hw _ m13) (hw _ m15) (hw _ m16) (by decide) (rm1 l Z a0 hw hj w0 hS [] a2 h0 n0 O0) e0 (a := a2) (g := (mkF m 1 #[.val (.ref a2), .val (.long q1), .second, .val (.ref w0)] [(.ref a2)])) rfl (by rw [hml]; rfl) (argsL := []) (rest := []) (lenOf pd33 rfl) rfl rfl (by show 2 * 0 + _ ≤ _; exact Nat.le_of_eq rfl) (hb hby d2_1) (by decide) (by decide) (by decide) (by decide)
  obtain ⟨rfl, N1q, e1⟩ := hQ1
  have N1 := Fr.app N0 N1q
  have e1' : T1.heap = h0 := e1
  obtain ⟨sa2, T2, h2, k12, X2, e2, E2, hS2, hk2, hZ2, hown2, Cq2, -, st2⟩ := ldcOH X1 hx hZ hown (hw _ m20) (own_str hw hj) e1' hS0 (Nat.le_refl _) (own_EW hw hj) C0.1 (g := (mkF m 5 #[.val (.ref a2), .val (.long q1), .second, .val (.ref w0)] [(.ref w0)])) rfl (hb hby d2_5) (n := 40) (by decide) (by decide) (by decide) (by decide)
  have O2 : Old Z n0 h2 := O0.ext E2
  have K2 : Keep h0 h2 [a2] := (Keep.refl h0 [a2]).ext E2
  have C2 := C0.trans Cq2
  have sf3 := (sf0 : ∀ x ∈ [], Safe Z EL T2.vm h2 x)
  obtain ⟨_, T3, L3, hQ3, X3, st3⟩ := own_callS X2 hx hZ2 (W := 0) hown2 (hw _ m28) (hw _ m29) (hw _ m30) (hw _ m31) (by decide) (rm2 l Z a0 hw hj w0 hS [] sa2 h2 n0 O2) e2 (g := (mkF m 7 #[.val (.ref a2), .val (.long q1), .second, .val (.ref w0)] [(.ref sa2), (.ref w0)])) rfl (by rw [hml]; rfl) (argsL := [(.ref w0), (.ref sa2)]) (rest := []) (lenOf pd48 rfl) rfl rfl (by show 2 * 0 + _ ≤ _; exact Nat.le_of_eq rfl) (hb hby d2_7) (by decide) (by decide) (by decide) (by decide)
  obtain ⟨rfl, N3q, e3⟩ := hQ3
  have N3 := Fr.app N1 N3q
  have e3' : T3.heap = h2 := e3
  have sf4 := (sf0 : ∀ x ∈ [], Safe Z EL T2.vm h2 x)
  obtain ⟨_, T4, L4, hQ4, X4, st4⟩ := own_virtual X3 hx hZ2 (W := 0) hown2 (hw _ m32) (hw _ m33) (notFace_of_selects (args := #[]) (mvT hZ2 (hw _ m35))) (hw _ m35) (hw _ m34) (hw _ m8) (hw _ m36) (by decide) (rm3 l Z a0 hw hj w0 hS [] h2 n0 O2) e3' (hS.2.1.ext O2.2) (g := (mkF m 18 #[.val (.ref a2), .val (.long q1), .second, .val (.ref w0)] [(.ref w0)])) rfl (by rw [hml]; rfl) (argsL := []) (rest := []) (lenOf pd70 rfl) rfl rfl (by show 2 * 0 + _ ≤ _; exact Nat.le_of_eq rfl) (hb hby d2_18) (by decide) (by decide) (by decide) (by decide)
  obtain ⟨rfl, N4q, e4⟩ := hQ4
  have N4 := Fr.app N3 N4q
  have e4' : T4.heap = h2 := e4
  have sf5 := (sf0 : ∀ x ∈ [], Safe Z EL T2.vm h2 x)
  obtain ⟨_, T5, L5, hQ5, X5, st5⟩ := own_virtual X4 hx hZ2 (W := 0) hown2 (hw _ m39) (hw _ m40) (notFace_of_selects (args := #[]) (mvT hZ2 (hw _ m42))) (hw _ m42) (hw _ m41) (hw _ m8) (hw _ m43) (by decide) (rm4 l Z a0 hw hj w0 hS [] h2 n0 O2) e4' (hS.2.1.ext O2.2) (g := (mkF m 31 #[.val (.ref a2), .val (.long q1), .second, .val (.ref w0)] [(.ref w0)])) rfl (by rw [hml]; rfl) (argsL := []) (rest := []) (lenOf pd70 rfl) rfl rfl (by show 2 * 0 + _ ≤ _; exact Nat.le_of_eq rfl) (hb hby d2_31) (by decide) (by decide) (by decide) (by decide)
  obtain ⟨rfl, N5q, e5⟩ := hQ5
  have N5 := Fr.app N4 N5q
  have e5' : T5.heap = h2 := e5
  have f6 : Fld Z h2 a2 z0 "token" "J" (.long (0 : Int64)) := (F2.ext E2)
  have f7 : Exa Z h2 a2 z0 := (E1.ext E2)
  obtain ⟨T8, h8, L'8, X8, e8, W8, Fw8, O8, K8, N8, st8⟩ := own_put X5 hx hZ2 hown2 (host := "") (Or.inl (hw _ m46)) Via.refl e5' O2 K2 N5 g6 (Or.inl (List.mem_of_getElem? (i := 0) rfl)) f6 f7 (Or.inr ⟨(hw _ m47), rfl, hnm⟩) (hw _ m6) (ty := .long) (by decide) rfl rfl (g := (mkF m 49 #[.val (.ref a2), .val (.long q1), .second, .val (.ref w0)] [(.long q1), (.ref a2)])) rfl rfl (hb hby d2_49)
  have sf8 := (Safe.exa (EL := EL) hZ2.alike f7 (by decide) (by decide))
  have C8 := C2.trans (CHr.wr W8 sf8 C2.1)
  have f9 : Fld Z h8 a2 z0 "holderLeft" z2 .null := ((F3.ext E2).other W8 (Or.inr (slot_ne (Or.inr (hw _ m49)) (Or.inr (hw _ m47)) (by decide) (t := (.object z1)) (t' := .long) (by decide) (by decide))))
  have f10 : Exa Z h8 a2 z0 := (f7.wr W8)
  obtain ⟨T11, h11, L'11, X11, e11, W11, Fw11, O11, K11, N11, st11⟩ := own_put X8 hx hZ2 hown2 (host := "") (Or.inl (hw _ m48)) Via.refl e8 O8 K8 N8 g6 (Or.inl (List.mem_of_getElem? (i := 0) rfl)) f9 f10 (Or.inr ⟨(hw _ m49), rfl, hnm⟩) (hw _ m6) (ty := (.object z1)) (by decide) rfl rfl (g := (mkF m 54 #[.val (.ref a2), .val (.long q1), .second, .val (.ref w0)] [(.ref w0), (.ref a2)])) rfl rfl (hb hby d2_54)
  have sf11 := (Safe.exa (EL := EL) hZ2.alike f10 (by decide) (by decide))
  have C11 := C8.trans (CHr.wr W11 sf11 C8.1)
  have f12 : Fld Z h11 a2 z0 "token" "J" (.long q1) := (Fw8.other W11 (Or.inr (slot_ne (Or.inr (hw _ m47)) (Or.inr (hw _ m49)) (by decide) (t := .long) (t' := (.object z1)) (by decide) (by decide))))
  obtain ⟨fs, hr, hrun, hended, hRW⟩ := X11.leaveW hS2 (by rw [e11]; exact (Nat.le_trans hk2 (Nat.le_trans (Nat.le_of_eq W8.size.symm) (Nat.le_of_eq W11.size.symm)))) (v := none) (fun _ => rfl)
  refine ⟨_, _, pre0 _ ?_, hrun, hended, _, _, rfl, ?_, ?_, hRW⟩
  · show Steps p.tables e below (s₁.setTop (mkF m 0 #[.val (.ref a2), .val (.long q1), .second, .val (.ref w0)] [])) _
    refine XS.aloadN X0.here hx rfl (hb hby d2_0) rfl rfl ?_
    refine st1 _ ?_
    refine XS.aloadN X1.here hx rfl (hb hby d2_4) rfl rfl ?_
    refine st2 _ ?_
    show Steps p.tables e below (T2.setTop (mkF m 7 #[.val (.ref a2), .val (.long q1), .second, .val (.ref w0)] [(.ref sa2), (.ref w0)])) _
    refine st3 _ ?_
    refine XS.pop X3.here hx rfl (hb hby d2_10) rfl rfl ?_
    refine XS.lloadN X3.here hx rfl (hb hby d2_11) rfl ?_
    refine XS.lconst X3.here hx rfl (hb hby d2_12) ?_
    show Steps p.tables e below (T3.setTop (mkF m 13 #[.val (.ref a2), .val (.long q1), .second, .val (.ref w0)] [(.long (0 : Int64)), (.long q1)])) _
    refine XS.lcmp X3.here hx rfl (hb hby d2_13) rfl ?_
    refine XS.ifNo X3.here hx rfl (hb hby d2_14) rfl ((if0 _ _).trans (flt (fun q => hc4 ((lw_lt q1 (0 : Int64)).mp q))).1) ?_
    refine XS.aloadN X3.here hx rfl (hb hby d2_17) rfl rfl ?_
    refine st4 _ ?_
    show Steps p.tables e below (T4.setTop (mkF m 21 #[.val (.ref a2), .val (.long q1), .second, .val (.ref w0)] [(.int (0 : Int32))])) _
    refine XS.ifNo X4.here hx rfl (hb hby d2_21) rfl ((if0 _ _).trans (teq (by decide : (0 : Int32) = (0 : Int32))).2) ?_
    refine XS.lloadN X4.here hx rfl (hb hby d2_24) rfl ?_
    refine XS.lconst X4.here hx rfl (hb hby d2_25) ?_
    refine XS.lcmp X4.here hx rfl (hb hby d2_26) rfl ?_
    show Steps p.tables e below (T4.setTop (mkF m 27 #[.val (.ref a2), .val (.long q1), .second, .val (.ref w0)] [(.int (lcmpW q1 (0 : Int64)))])) _
    refine XS.ifNo X4.here hx rfl (hb hby d2_27) rfl ((if0 _ _).trans (tlt ((lw_gt q1 (0 : Int64)).mpr hc5)).2.2.2) ?_
    refine XS.aloadN X4.here hx rfl (hb hby d2_30) rfl rfl ?_
    refine st5 _ ?_
    refine XS.ifYes X5.here hx rfl (pc0 := 34) (pc' := 47) rfl (hb hby d2_34) rfl ((if0 _ _).trans (feq (by decide : ¬ ((1 : Int32) = (0 : Int32)))).2) (by decide) (by decide) ?_
    show Steps p.tables e below (T5.setTop (mkF m 47 #[.val (.ref a2), .val (.long q1), .second, .val (.ref w0)] [])) _
    refine XS.aloadN X5.here hx rfl (hb hby d2_47) rfl rfl ?_
    refine XS.lloadN X5.here hx rfl (hb hby d2_48) rfl ?_
    refine st8 _ ?_
    refine XS.aloadN X8.here hx rfl (hb hby d2_52) rfl rfl ?_
    show Steps p.tables e below (T8.setTop (mkF m 53 #[.val (.ref a2), .val (.long q1), .second, .val (.ref w0)] [(.ref a2)])) _
    refine XS.aloadN X8.here hx rfl (hb hby d2_53) rfl rfl ?_
    refine st11 _ ?_
    exact X11.returnOut hx Bd.returns (hb hby d2_57) hr
  · show Qrm5 Z w0 q1 a2 h0 n0 _ T11.heap _
    rw [e11]
    exact ⟨rfl, N11, K11, f12, Fw11⟩
  · show CHr Z EL _ _ T11.vm T11.heap
    exact own_chr (by rw [← hh]) e11 (C11.trans (CHv.at X11 hZ2 (own_EW hw hj) C11.1))
def Qrm6 (Z : State) (w0 : Addr) (q1 : Int64) (h0 : Heap) (n0 : Nat) (v : Option Value) (h : Heap) (L : List Loc) : Prop := ∃ x0 : Addr, v = some (.ref x0) ∧ Fr n0 L ∧ Keep h0 h [] ∧ h0.size ≤ x0 ∧ Exa Z h x0 z0 ∧ Fld Z h x0 z0 "token" "J" (.long q1) ∧ Fld Z h x0 z0 "holderLeft" z2 (.ref w0)
set_option maxRecDepth 65536 in
set_option maxHeartbeats 40000000 in
theorem rm6 (l : Launch) (Z : State) (a0 : Array Value) (hw : ∀ d ∈ tables_1, d.before a0 Z = true) (hj : ∀ d ∈ jdkStatics_1, d.before a0 Z = true) (w0 : Addr) (hS : SF Z w0) (ws : List Jvm.Cond) (q1 : Int64) (h0 : Heap) (n0 : Nat) (O0 : Old Z n0 h0) (hc1 : (0 : Int64) < q1) (hc2 : ¬ (q1 < (0 : Int64))) :
    MetFree l (⟨z0, "taken", "(J)Lcom/example/latchwork/latchwork/store/Attempt;"⟩ : MethodName) (head1 (Jvm.Cond.code (⟨z0, "taken", "(J)Lcom/example/latchwork/latchwork/store/Attempt;"⟩ : MethodName) prog_23_method_2_code 2 (some (.object z0)) :: ws) ({ frames := 3, cells := 3, slots := 46, locals := 40 } : Room)) (fun a U => a = #[(.long q1)] ∧ Z.Warmed39 U.vm ∧ U.heap = h0 ∧ CHv Z EL U.vm h0 ∧ ∀ x ∈ ([] : List Addr), Safe Z EL U.vm h0 x) (fun _ _ _ _ _ => True) (fun _ U o U' => ∃ v L, o = .returned v ∧ Qrm6 Z w0 q1 h0 n0 v U'.heap L ∧ CHr Z EL U.vm U.heap U'.vm U'.heap ∧ ReturnedEndW U o U' L ({ frames := 3, cells := 3, slots := 46, locals := 40 } : Room).cells ({ frames := 3, cells := 3, slots := 46, locals := 40 } : Room).slots) := by
  refine MetFree.of_bodySF (plainFor_of_name pn109) hisR ?_
  intro p e s m args below meth c s₁ Bd hml0 hP hK
  obtain ⟨rfl, hZ, hh, H0, hsx⟩ := hP
  have hx := Bd.exec
  have hby := Bd.bytes
  have hml : c.maxLocals = 2 := hml0
  have hown : s.vm.findClass z0 = some m.cls := findClass_of_methodNamed Bd.named
  have hnm := (name_of_methodNamed Bd.named Bd.method).1
  have X0 : Stand p l e ({ frames := 3, cells := 3, slots := 46, locals := 40 } : Room) (s.setVm s.vm) m #[(.long q1)] below meth c s₁ [] 0 0 := Stand.of_body Bd
  have e0 : s₁.heap = h0 := by rw [← hh, Bd.state]; rfl
  have N0 := Fr.nil n0
  have pre0 : ∀ t, Steps p.tables e below (s₁.setTop (mkF m 0 #[.val (.long q1), .second] [])) t → Steps p.tables e below (s₁.setTop (entryFrame m #[(.long q1)] 2)) t := fun t k => castTop (ef114 m q1) k
  have hS0 : s.Since s.vm h0.size := (State.WarmedH.refl s).since _
  have C0 : CHr Z EL s.vm h0 s.vm h0 := CHr.refl H0
  obtain ⟨T1, h1, b1, X1, e1, E1, A1, D1, g1, O1, K1, st1⟩ := own_newO X0 hx hZ hown (hw _ m5) (hw _ m6) (hw _ m3) e0 O0 (Keep.refl h0 []) (g := (mkF m 16 #[.val (.long q1), .second] [])) rfl (hb hby d1_16) (by decide) (by decide)
  have C1 := C0.trans (CHr.ext E1 C0.1)
  have F1_1 : Fld Z h1 b1 z0 "token" "J" (.long (0 : Int64)) := D1 (Or.inr (hw _ m47)) (ty := .long) (by decide)
  have F1_2 : Fld Z h1 b1 z0 "holderLeft" z2 .null := D1 (Or.inr (hw _ m49)) (ty := (.object z1)) (by decide)
  obtain ⟨T2, X2, e2, st2⟩ := getS2 X1 hx hZ hown (host := "") (Or.inl (hw _ m7)) Via.refl e1 (hS.1.ext O1.2) (g := (mkF m 21 #[.val (.long q1), .second] [(.long q1), (.ref b1), (.ref b1)])) rfl (hb hby d1_21)
  obtain ⟨_, T3, L3, hQ3, hS3, hZ3, hown3, Cq3, X3, st3⟩ := own_specialW X2 hx hZ (W := 1) rfl hown (hw _ m9) (hw _ m10) (hw _ m3) (hw _ m11) (by decide) (rm5 l Z a0 hw hj w0 hS [] q1 b1 h1 n0 O1 A1 F1_1 F1_2 hc2 hc1 (Nat.le_trans (own_old_le O0) g1)) e2 hS0 (Nat.le_trans (Nat.le_refl _) E1.1) (own_EW hw hj) C1.1 own_sx0 (a := b1) (g := (mkF m 24 #[.val (.long q1), .second] [(.ref w0), (.long q1), (.ref b1), (.ref b1)])) rfl (by rw [hml]; rfl) (argsL := [(.long q1), (.ref w0)]) (rest := [(.ref b1)]) (lenOf pd111 rfl) rfl rfl (by show 2 * 0 + _ ≤ _; exact Nat.le_of_eq rfl) (hb hby d1_24) (by decide) (by decide) (by decide) (by decide)
  obtain ⟨rfl, N3q, Kq3, q3_0, q3_1⟩ := hQ3
  have N3 := Fr.app N0 N3q
  have C3 := C1.trans Cq3
  have O3 : Old Z n0 T3.heap := O1.keep Kq3 (allS (Nat.le_trans (own_old_le O0) g1) all0)
  have K3 : Keep h0 T3.heap [] := K1.trans Kq3 (allS (Or.inr (Nat.le_trans (Keep.refl h0 []).1 g1)) all0)
  have f4 : Exa Z T3.heap b1 z0 := (A1.keep Kq3)
  obtain ⟨fs, hr, hrun, hended, hRW⟩ := X3.leaveW hS3 (by rw [(rfl : T3.heap = T3.heap)]; exact (Nat.le_refl _)) (v := some (.ref b1)) (fun h => by rw [Bd.returns] at h; cases h)
  refine ⟨_, _, pre0 _ ?_, hrun, hended, _, _, rfl, ?_, ?_, hRW⟩
  · show Steps p.tables e below (s₁.setTop (mkF m 0 #[.val (.long q1), .second] [])) _
    refine XS.lloadN X0.here hx rfl (hb hby d1_0) rfl ?_
    refine XS.lconst X0.here hx rfl (hb hby d1_1) ?_
    refine XS.lcmp X0.here hx rfl (hb hby d1_2) rfl ?_
    refine XS.ifYes X0.here hx rfl (pc0 := 3) (pc' := 16) rfl (hb hby d1_3) rfl ((if0 _ _).trans (tlt ((lw_gt q1 (0 : Int64)).mpr hc1)).2.2.1) (by decide) (by decide) ?_
    show Steps p.tables e below (s₁.setTop (mkF m 16 #[.val (.long q1), .second] [])) _
    refine st1 _ ?_
    refine XS.dup X1.here hx rfl (hb hby d1_19) rfl rfl ?_
    refine XS.lloadN X1.here hx rfl (hb hby d1_20) rfl ?_
    refine st2 _ ?_
    show Steps p.tables e below (T2.setTop (mkF m 24 #[.val (.long q1), .second] [(.ref w0), (.long q1), (.ref b1), (.ref b1)])) _
    refine st3 _ ?_
    exact retOut X3 hx Bd.returns rfl (Or.inr (Or.inr (Or.inr (Or.inr ⟨rfl, rfl, rfl⟩)))) (hb hby d1_27) hr
  · show Qrm6 Z w0 q1 h0 n0 _ T3.heap _
    exact ⟨b1, rfl, N3, K3, (Nat.le_trans (Keep.refl h0 []).1 g1), f4, q3_0, q3_1⟩
  · show CHr Z EL _ _ T3.vm T3.heap
    exact own_chr (by rw [← hh]) (rfl : T3.heap = T3.heap) (C3.trans (CHv.at X3 hZ3 (own_EW hw hj) C3.1))
def Qrm7 (Z : State) (w0 : Addr) (a1 : Addr) (q2 : Int64) (h0 : Heap) (n0 : Nat) (v : Option Value) (h : Heap) (L : List Loc) : Prop := v = some (.long q2) ∧ Fr n0 L ∧ h = h0
set_option maxRecDepth 65536 in
set_option maxHeartbeats 40000000 in
theorem rm7 (l : Launch) (Z : State) (a0 : Array Value) (hw : ∀ d ∈ tables_1, d.before a0 Z = true) (hj : ∀ d ∈ jdkStatics_1, d.before a0 Z = true) (w0 : Addr) (hS : SF Z w0) (ws : List Jvm.Cond) (a1 : Addr) (q2 : Int64) (h0 : Heap) (n0 : Nat) (O0 : Old Z n0 h0) (F1 : Fld Z h0 a1 z0 "token" "J" (.long q2)) :
    MetFree l (⟨z0, "token", "()J"⟩ : MethodName) (head1 (Jvm.Cond.code (⟨z0, "token", "()J"⟩ : MethodName) prog_23_method_8_code 1 (some .long) :: ws) ({ frames := 0, cells := 0, slots := 0, locals := 0 } : Room)) (fun a U => a = #[(.ref a1)] ∧ Z.Warmed39 U.vm ∧ U.heap = h0) (fun _ _ _ _ _ => True) (fun _ U o U' => ∃ v L, o = .returned v ∧ Qrm7 Z w0 a1 q2 h0 n0 v U'.heap L ∧ FrameEnd U o U' L ({ frames := 0, cells := 0, slots := 0, locals := 0 } : Room).cells ({ frames := 0, cells := 0, slots := 0, locals := 0 } : Room).slots) := by
  refine MetFree.of_bodySF (plainFor_of_name pn109) hisR ?_
  intro p e s m args below meth c s₁ Bd hml0 hP hK
  obtain ⟨rfl, hZ, hh⟩ := hP
  have hx := Bd.exec
  have hby := Bd.bytes
  have hml : c.maxLocals = 1 := hml0
  have hown : s.vm.findClass z0 = some m.cls := findClass_of_methodNamed Bd.named
  have hnm := (name_of_methodNamed Bd.named Bd.method).1
  have X0 : Stand p l e ({ frames := 0, cells := 0, slots := 0, locals := 0 } : Room) s m #[(.ref a1)] below meth c s₁ [] 0 0 := Stand.of_body Bd
  have e0 : s₁.heap = h0 := by rw [← hh, Bd.state]; rfl
  have N0 := Fr.nil n0
  have pre0 : ∀ t, Steps p.tables e below (s₁.setTop (mkF m 0 #[.val (.ref a1)] [])) t → Steps p.tables e below (s₁.setTop (entryFrame m #[(.ref a1)] 1)) t := fun t k => castTop (ef29 m a1) k
  obtain ⟨T1, X1, e1, st1⟩ := getF X0 hx hZ hown (host := "") (Or.inl (hw _ m46)) Via.refl e0 F1 (g := (mkF m 1 #[.val (.ref a1)] [(.ref a1)])) rfl rfl (hb hby d8_1)
  obtain ⟨fs, hr, hrun, hended, hW, hsame⟩ := X1.leave (v := some (.long q2)) (fun h => by rw [Bd.returns] at h; cases h)
  refine ⟨_, _, pre0 _ ?_, hrun, hended, _, _, rfl, ?_, ⟨_, rfl⟩, hW, hsame.mono (by decide) (by decide)⟩
  · show Steps p.tables e below (s₁.setTop (mkF m 0 #[.val (.ref a1)] [])) _
    refine XS.aloadN X0.here hx rfl (hb hby d8_0) rfl rfl ?_
    refine st1 _ ?_
    exact retOut X1 hx Bd.returns rfl (Or.inr (Or.inl ⟨rfl, rfl, _, rfl⟩)) (hb hby d8_4) hr
  · show Qrm7 Z w0 a1 q2 h0 n0 _ T1.heap _
    rw [e1]
    exact ⟨rfl, N0, rfl⟩
def Qrm8 (Z : State) (w0 : Addr) (a1 : Addr) (q2 : Int64) (h0 : Heap) (n0 : Nat) (v : Option Value) (h : Heap) (L : List Loc) : Prop := v = some (.int (1 : Int32)) ∧ Fr n0 L ∧ h = h0
set_option maxRecDepth 65536 in
set_option maxHeartbeats 40000000 in
theorem rm8 (l : Launch) (Z : State) (a0 : Array Value) (hw : ∀ d ∈ tables_1, d.before a0 Z = true) (hj : ∀ d ∈ jdkStatics_1, d.before a0 Z = true) (w0 : Addr) (hS : SF Z w0) (ws : List Jvm.Cond) (a1 : Addr) (q2 : Int64) (h0 : Heap) (n0 : Nat) (O0 : Old Z n0 h0) (F1 : Fld Z h0 a1 z0 "token" "J" (.long q2)) (hc2 : (0 : Int64) < q2) :
    MetFree l (⟨z0, "taken", "()Z"⟩ : MethodName) (head1 (Jvm.Cond.code (⟨z0, "taken", "()Z"⟩ : MethodName) prog_23_method_4_code 1 (some .boolean) :: ws) ({ frames := 0, cells := 0, slots := 0, locals := 0 } : Room)) (fun a U => a = #[(.ref a1)] ∧ Z.Warmed39 U.vm ∧ U.heap = h0) (fun _ _ _ _ _ => True) (fun _ U o U' => ∃ v L, o = .returned v ∧ Qrm8 Z w0 a1 q2 h0 n0 v U'.heap L ∧ FrameEnd U o U' L ({ frames := 0, cells := 0, slots := 0, locals := 0 } : Room).cells ({ frames := 0, cells := 0, slots := 0, locals := 0 } : Room).slots) := by
  refine MetFree.of_bodySF (plainFor_of_name pn109) hisR ?_
  intro p e s m args below meth c s₁ Bd hml0 hP hK
  obtain ⟨rfl, hZ, hh⟩ := hP
  have hx := Bd.exec
  have hby := Bd.bytes
  have hml : c.maxLocals = 1 := hml0
  have hown : s.vm.findClass z0 = some m.cls := findClass_of_methodNamed Bd.named
  have hnm := (name_of_methodNamed Bd.named Bd.method).1
  have X0 : Stand p l e ({ frames := 0, cells := 0, slots := 0, locals := 0 } : Room) s m #[(.ref a1)] below meth c s₁ [] 0 0 := Stand.of_body Bd
  have e0 : s₁.heap = h0 := by rw [← hh, Bd.state]; rfl
  have N0 := Fr.nil n0
  have pre0 : ∀ t, Steps p.tables e below (s₁.setTop (mkF m 0 #[.val (.ref a1)] [])) t → Steps p.tables e below (s₁.setTop (entryFrame m #[(.ref a1)] 1)) t := fun t k => castTop (ef29 m a1) k
  obtain ⟨T1, X1, e1, st1⟩ := getF X0 hx hZ hown (host := "") (Or.inl (hw _ m46)) Via.refl e0 F1 (g := (mkF m 1 #[.val (.ref a1)] [(.ref a1)])) rfl rfl (hb hby d9_1)
  obtain ⟨fs, hr, hrun, hended, hW, hsame⟩ := X1.leave (v := some (.int (1 : Int32))) (fun h => by rw [Bd.returns] at h; cases h)
  refine ⟨_, _, pre0 _ ?_, hrun, hended, _, _, rfl, ?_, ⟨_, rfl⟩, hW, hsame.mono (by decide) (by decide)⟩
  · show Steps p.tables e below (s₁.setTop (mkF m 0 #[.val (.ref a1)] [])) _
    refine XS.aloadN X0.here hx rfl (hb hby d9_0) rfl rfl ?_
    refine st1 _ ?_
    refine XS.lconst X1.here hx rfl (hb hby d9_4) ?_
    refine XS.lcmp X1.here hx rfl (hb hby d9_5) rfl ?_
    show Steps p.tables e below (T1.setTop (mkF m 6 #[.val (.ref a1)] [(.int (lcmpW q2 (0 : Int64)))])) _
    refine XS.ifNo X1.here hx rfl (hb hby d9_6) rfl ((if0 _ _).trans (tlt ((lw_gt q2 (0 : Int64)).mpr hc2)).2.2.2) ?_
    refine XS.iconst X1.here hx rfl (hb hby d9_9) ?_
    refine XS.goto X1.here hx rfl (pc0 := 10) (pc' := 14) rfl (hb hby d9_10) (by decide) (by decide) ?_
    exact retN X1 hx (t := .boolean) Bd.returns (by simp) (hb hby d9_14) hr
  · show Qrm8 Z w0 a1 q2 h0 n0 _ T1.heap _
    rw [e1]
    exact ⟨rfl, N0, rfl⟩
def QL (n0 : Nat) (v : Option Value) (h : Heap) (L : List Loc) : Prop := v = some (.int (1 : Int32)) ∧ Fr n0 L
set_option maxRecDepth 65536 in
set_option maxHeartbeats 40000000 in
theorem rm0 (l : Launch) (Z : State) (a0 : Array Value) (hw : ∀ d ∈ tables_1, d.before a0 Z = true) (hj : ∀ d ∈ jdkStatics_1, d.before a0 Z = true) (w0 : Addr) (hS : SF Z w0) (ws : List Jvm.Cond) (i0 : Int64) (h0 : Heap) (n0 : Nat) (O0 : Old Z n0 h0) :
    MetFree l x (head1 (Jvm.Cond.code x code maxLocals ret :: ws) room_1) (fun a U => a = #[(.long i0)] ∧ Z.Warmed39 U.vm ∧ U.heap = h0 ∧ CHv Z EL U.vm h0 ∧ ∀ x ∈ ([] : List Addr), Safe Z EL U.vm h0 x) (fun _ _ _ _ _ => True) (fun _ U o U' => ∃ v L, o = .returned v ∧ QL n0 v U'.heap L ∧ ReturnedEndW U o U' L room_1.cells room_1.slots) := by
  refine MetFree.of_bodySF (plainFor_of_name pn2) hisR ?_
  intro p e s m args below meth c s₁ Bd hml0 hP hK
  obtain ⟨rfl, hZ, hh, H0, hsx⟩ := hP
  have hx := Bd.exec
  have hby := Bd.bytes
  have hml : c.maxLocals = 5 := hml0
  have hown : s.vm.findClass "com/example/latchwork/latchwork/store/AttemptTakenPinLaw" = some m.cls := findClass_of_methodNamed Bd.named
  have hnm := (name_of_methodNamed Bd.named Bd.method).1
  have X0 : Stand p l e room_1 (s.setVm s.vm) m #[(.long i0)] below meth c s₁ [] 0 0 := Stand.of_body Bd
  have e0 : s₁.heap = h0 := by rw [← hh, Bd.state]; rfl
  have N0 := Fr.nil n0
  have pre0 : ∀ t, Steps p.tables e below (s₁.setTop (mkF m 0 #[.val (.long i0), .second, .unset, .unset, .unset] [])) t → Steps p.tables e below (s₁.setTop (entryFrame m #[(.long i0)] maxLocals)) t := fun t k => castTop (ef1 m i0) k
  have hS0 : s.Since s.vm h0.size := (State.WarmedH.refl s).since _
  have C0 : CHr Z EL s.vm h0 s.vm h0 := CHr.refl H0
  have pre1 : ∀ t, Steps p.tables e below (s₁.setTop (mkF m 4 #[.val (.long i0), .second, .unset, .unset, .unset] [(.long (9223372036854775807 : Int64)), (.long i0)])) t → Steps p.tables e below (s₁.setTop (entryFrame m #[(.long i0)] maxLocals)) t := fun t kt => pre0 _ (by
      show Steps p.tables e below (s₁.setTop (mkF m 0 #[.val (.long i0), .second, .unset, .unset, .unset] [])) _
      refine XS.lloadN X0.here hx rfl (hb hby at_0) rfl ?_
      refine X0.ldc2Long hx hown (mvT hZ (hw _ m0)) (g := (mkF m 1 #[.val (.long i0), .second, .unset, .unset, .unset] [(.long i0)])) rfl (hb hby at_1) _ ?_
      exact kt)
  rcases Decidable.em ((i0 &&& (9223372036854775807 : Int64)) = (0 : Int64)) with hp0 | hp0
  · obtain ⟨fs, hr, hrun, hended, hRW⟩ := X0.leaveW hS0 (by rw [e0]; exact (Nat.le_refl _)) (v := some (.int (1 : Int32))) (fun h => by rw [Bd.returns] at h; cases h)
    refine ⟨_, _, pre1 _ ?_, hrun, hended, _, _, rfl, ?_, own_rwm hRW (by decide) (by decide)⟩
    · refine Own.land X0.here hx rfl (hb hby at_4) rfl hp0 ?_
      refine XS.lstoreN X0.here hx rfl (hb hby at_5) rfl (l' := #[.val (.long i0), .second, .val (.long (0 : Int64)), .second, .unset]) rfl ?_
      show Steps p.tables e below (s₁.setTop (mkF m 6 #[.val (.long i0), .second, .val (.long (0 : Int64)), .second, .unset] [])) _
      refine XS.lloadN X0.here hx rfl (hb hby at_6) rfl ?_
      refine XS.lconst X0.here hx rfl (hb hby at_7) ?_
      refine Own.lcmp X0.here hx rfl (hb hby at_8) rfl (by decide : (lcmpW (0 : Int64) (0 : Int64)) = (0 : Int32)) ?_
      refine XS.ifNo X0.here hx rfl (hb hby at_9) rfl ((if0 _ _).trans (teq (by decide : (0 : Int32) = (0 : Int32))).2) ?_
      show Steps p.tables e below (s₁.setTop (mkF m 12 #[.val (.long i0), .second, .val (.long (0 : Int64)), .second, .unset] [])) _
      refine XS.iconst X0.here hx rfl (hb hby at_12) ?_
      exact retN X0 hx (t := .boolean) Bd.returns (by simp) (hb hby at_13) hr
    · show QL n0 _ s₁.heap _
      exact ⟨rfl, N0⟩
  · obtain ⟨_, T1, L1, hQ1, hS1, hZ1, hown1, Cq1, X1, st1⟩ := own_callSW X0 hx hZ (W := 0) hown (hw _ m1) (hw _ m2) (hw _ m3) (hw _ m4) (by decide) (rm6 l Z a0 hw hj w0 hS [] (i0 &&& (9223372036854775807 : Int64)) h0 n0 O0 (by have q0 := (by decide : ((0 : Int64)).toInt = 0); have q1 := own_rngL i0; have q2 := (by decide : ((9223372036854775807 : Int64)).toInt = 9223372036854775807); have q3 := (c_andSL i0 (9223372036854775807 : Int64)).2.2 (by decide); have q4 := own_rngL (i0 &&& (9223372036854775807 : Int64)); have q5 := own_eqF'L hp0; exact own_ltTL (by omega) : (0 : Int64) < (i0 &&& (9223372036854775807 : Int64))) (by have q0 := own_rngL i0; have q1 := (by decide : ((9223372036854775807 : Int64)).toInt = 9223372036854775807); have q2 := (c_andSL i0 (9223372036854775807 : Int64)).2.2 (by decide); have q3 := own_rngL (i0 &&& (9223372036854775807 : Int64)); have q4 := (by decide : ((0 : Int64)).toInt = 0); have q5 := own_eqF'L hp0; exact own_ltFL (by omega) : ¬ ((i0 &&& (9223372036854775807 : Int64)) < (0 : Int64)))) e0 hS0 (Nat.le_refl _) (own_EW hw hj) C0.1 own_sx0 (g := (mkF m 15 #[.val (.long i0), .second, .val (.long (i0 &&& (9223372036854775807 : Int64))), .second, .unset] [(.long (i0 &&& (9223372036854775807 : Int64)))])) rfl (by rw [hml]; rfl) (argsL := [(.long (i0 &&& (9223372036854775807 : Int64)))]) (rest := []) (lenOf pd116 rfl) rfl rfl (by show 2 * 0 + _ ≤ _; exact Nat.le_of_eq rfl) (hb hby at_15) (by decide) (by decide) (by decide) (by decide)
    obtain ⟨c1_0, rfl, N1q, Kq1, lo1_0, q1_0, q1_1, q1_2⟩ := hQ1
    have N1 := Fr.app N0 N1q
    have C1 := C0.trans Cq1
    have O1 : Old Z n0 T1.heap := O0.keep Kq1 all0
    have K1 : Keep h0 T1.heap [] := (Keep.refl h0 []).trans Kq1 all0
    have sf2 := (sf0 : ∀ x ∈ [], Safe Z EL T1.vm T1.heap x)
    obtain ⟨_, T2, L2, hQ2, X2, st2⟩ := own_virtual X1 hx hZ1 (W := 0) hown1 (hw _ m50) (hw _ m51) (notFace_of_selects (args := #[]) (mvT hZ1 (hw _ m53))) (hw _ m53) (hw _ m52) (hw _ m3) (hw _ m54) (by decide) (rm7 l Z a0 hw hj w0 hS [] c1_0 (i0 &&& (9223372036854775807 : Int64)) T1.heap n0 O1 q1_1) (rfl : T1.heap = T1.heap) q1_0 (g := (mkF m 22 #[.val (.long i0), .second, .val (.long (i0 &&& (9223372036854775807 : Int64))), .second, .val (.ref c1_0)] [(.ref c1_0)])) rfl (by rw [hml]; rfl) (argsL := []) (rest := []) (lenOf pd124 rfl) rfl rfl (by show 2 * 0 + _ ≤ _; exact Nat.le_of_eq rfl) (hb hby at_22) (by decide) (by decide) (by decide) (by decide)
    obtain ⟨rfl, N2q, e2⟩ := hQ2
    have N2 := Fr.app N1 N2q
    have e2' : T2.heap = T1.heap := e2
    have sf3 := (sf0 : ∀ x ∈ [], Safe Z EL T1.vm T1.heap x)
    obtain ⟨_, T3, L3, hQ3, X3, st3⟩ := own_virtual X2 hx hZ1 (W := 0) hown1 (hw _ m55) (hw _ m56) (notFace_of_selects (args := #[]) (mvT hZ1 (hw _ m58))) (hw _ m58) (hw _ m57) (hw _ m3) (hw _ m59) (by decide) (rm8 l Z a0 hw hj w0 hS [] c1_0 (i0 &&& (9223372036854775807 : Int64)) T1.heap n0 O1 q1_1 (by have q0 := (by decide : ((0 : Int64)).toInt = 0); have q1 := own_rngL i0; have q2 := (by decide : ((9223372036854775807 : Int64)).toInt = 9223372036854775807); have q3 := (c_andSL i0 (9223372036854775807 : Int64)).2.2 (by decide); have q4 := own_rngL (i0 &&& (9223372036854775807 : Int64)); have q5 := own_eqF'L hp0; exact own_ltTL (by omega) : (0 : Int64) < (i0 &&& (9223372036854775807 : Int64)))) e2' q1_0 (g := (mkF m 32 #[.val (.long i0), .second, .val (.long (i0 &&& (9223372036854775807 : Int64))), .second, .val (.ref c1_0)] [(.ref c1_0)])) rfl (by rw [hml]; rfl) (argsL := []) (rest := []) (lenOf pd70 rfl) rfl rfl (by show 2 * 0 + _ ≤ _; exact Nat.le_of_eq rfl) (hb hby at_32) (by decide) (by decide) (by decide) (by decide)
    obtain ⟨rfl, N3q, e3⟩ := hQ3
    have N3 := Fr.app N2 N3q
    have e3' : T3.heap = T1.heap := e3
    obtain ⟨fs, hr, hrun, hended, hRW⟩ := X3.leaveW hS1 (by rw [e3']; exact (Nat.le_refl _)) (v := some (.int (1 : Int32))) (fun h => by rw [Bd.returns] at h; cases h)
    refine ⟨_, _, pre1 _ ?_, hrun, hended, _, _, rfl, ?_, own_rwm hRW (by decide) (by decide)⟩
    · refine XS.land X0.here hx rfl (hb hby at_4) rfl ?_
      refine XS.lstoreN X0.here hx rfl (hb hby at_5) rfl (l' := #[.val (.long i0), .second, .val (.long (i0 &&& (9223372036854775807 : Int64))), .second, .unset]) rfl ?_
      show Steps p.tables e below (s₁.setTop (mkF m 6 #[.val (.long i0), .second, .val (.long (i0 &&& (9223372036854775807 : Int64))), .second, .unset] [])) _
      refine XS.lloadN X0.here hx rfl (hb hby at_6) rfl ?_
      refine XS.lconst X0.here hx rfl (hb hby at_7) ?_
      refine XS.lcmp X0.here hx rfl (hb hby at_8) rfl ?_
      refine XS.ifYes X0.here hx rfl (pc0 := 9) (pc' := 14) rfl (hb hby at_9) rfl ((if0 _ _).trans (feq (fun q => hp0 ((lw_eq (i0 &&& (9223372036854775807 : Int64)) (0 : Int64)).mp q))).2) (by decide) (by decide) ?_
      show Steps p.tables e below (s₁.setTop (mkF m 14 #[.val (.long i0), .second, .val (.long (i0 &&& (9223372036854775807 : Int64))), .second, .unset] [])) _
      refine XS.lloadN X0.here hx rfl (hb hby at_14) rfl ?_
      refine st1 _ ?_
      refine XS.astore X1.here hx rfl (hb hby at_18) rfl rfl (l' := #[.val (.long i0), .second, .val (.long (i0 &&& (9223372036854775807 : Int64))), .second, .val (.ref c1_0)]) rfl ?_
      refine XS.aload X1.here hx rfl (hb hby at_20) rfl rfl ?_
      show Steps p.tables e below (T1.setTop (mkF m 22 #[.val (.long i0), .second, .val (.long (i0 &&& (9223372036854775807 : Int64))), .second, .val (.ref c1_0)] [(.ref c1_0)])) _
      refine st2 _ ?_
      refine XS.lloadN X2.here hx rfl (hb hby at_25) rfl ?_
      refine XS.lcmp X2.here hx rfl (hb hby at_26) rfl ?_
      refine XS.ifNo X2.here hx rfl (hb hby at_27) rfl ((if0 _ _).trans (teq ((lw_eq (i0 &&& (9223372036854775807 : Int64)) (i0 &&& (9223372036854775807 : Int64))).mpr (rfl : (i0 &&& (9223372036854775807 : Int64)) = (i0 &&& (9223372036854775807 : Int64))))).2) ?_
      show Steps p.tables e below (T2.setTop (mkF m 30 #[.val (.long i0), .second, .val (.long (i0 &&& (9223372036854775807 : Int64))), .second, .val (.ref c1_0)] [])) _
      refine XS.aload X2.here hx rfl (hb hby at_30) rfl rfl ?_
      refine st3 _ ?_
      refine XS.ifNo X3.here hx rfl (hb hby at_35) rfl ((if0 _ _).trans (feq (by decide : ¬ ((1 : Int32) = (0 : Int32)))).1) ?_
      refine XS.iconst X3.here hx rfl (hb hby at_38) ?_
      show Steps p.tables e below (T3.setTop (mkF m 39 #[.val (.long i0), .second, .val (.long (i0 &&& (9223372036854775807 : Int64))), .second, .val (.ref c1_0)] [(.int (1 : Int32))])) _
      refine XS.goto X3.here hx rfl (pc0 := 39) (pc' := 43) rfl (hb hby at_39) (by decide) (by decide) ?_
      exact retN X3 hx (t := .boolean) Bd.returns (by simp) (hb hby at_43) hr
    · show QL n0 _ T3.heap _
      exact ⟨rfl, N3⟩
set_option maxRecDepth 65536 in
set_option maxHeartbeats 40000000 in
theorem comes_1 {Post : Tables → Env → Array Value → State → Outcome → State → Prop} (hpost : ∀ tb e args s v u, (limb_1_1.after args s (.returned v) u = true ∧ limb_1_2.after args s (.returned v) u = true ∧ True) → ReturnedEndW s (.returned v) u (Jvm.fieldLocs frame_1_writes args s ++ Jvm.arrayLocs frame_1_arrays args s ++ Jvm.staticLocs frame_1_statics s) 16 1152 → Post tb e args s (.returned v) u) :
    ArmFor flags0 classFile x code maxLocals ret World_1 tables_1 room_1 Calls_1 rest_1 Pre_1 Post := by
  intro l hfl _ _ p e ha hc hk s m args below hf hA hF happ hP
  obtain ⟨hcalls, hrest, hpre⟩ := hP
  obtain ⟨-, -, -, hnamed, -, -, -, hat⟩ := (Spec.applies_iff hf).mp happ
  obtain ⟨hg, hn⟩ := and_e (Cond.before_iff.mp (show (Jvm.Cond.and given_1 narrow_1).before args s = true from hpre))
  obtain ⟨g1a, g1b⟩ := and_e hg
  obtain ⟨v0, rfl⟩ : ∃ v0 : Value, args = #[v0] := by
    have hs : args.size = 1 := by simpa [Cond.value, given_1] using g1a
    obtain ⟨L⟩ := args
    match L, hs with
    | [v0], _ => exact ⟨v0, rfl⟩
  have hw := fun d (hd : d ∈ tables_1) => atoms_spec (ws := Jvm.Cond.code x code maxLocals ret :: tables_1) hat d (List.mem_cons_of_mem _ hd)
  have hfit : Fit s := fun {y c} hc i hi => by
    obtain ⟨ha, rfl⟩ := Array.getElem?_eq_some_iff.mp hc
    have q := List.all_eq_true.mp ((Array.all_eq_true_iff_forall_mem.mp hF) _ (Array.getElem_mem ha)) i (List.mem_range.mpr hi)
    simpa [Array.getElem?_eq_getElem hi] using q
  obtain ⟨hj, hown0⟩ := atoms_of _ (rest_1_c_eq ▸ (show rest_1_c.before _ s = true from hrest))
  obtain ⟨i0, ei0⟩ := isL_v g1b
  obtain rfl : v0 = (.long i0) := Option.some.inj ei0
  obtain ⟨w0, evw0⟩ := exa_v (Cond.before_iff.mp (hj _ (List.mem_of_getElem? (i := 2) rfl)))
  have hS : SF s w0 := ⟨Sta.start evw0 (Or.inl (hj _ j1)), Exa.start evw0 (Cond.before_iff.mp (hj _ (List.mem_of_getElem? (i := 2) rfl))), own_fldL evw0 (Cond.before_iff.mp (hj _ (List.mem_of_getElem? (i := 3) rfl))), own_fld evw0 (Cond.before_iff.mp (hj _ (List.mem_of_getElem? (i := 4) rfl)))⟩
  obtain ⟨n, o, h1, h2, h3, _, L, rfl, ⟨rfl, N⟩, hq⟩ := rm0 l s _ hw hj w0 hS tables_1 i0 s.heap s.heap.size (Old.start s) p e ha hc hk s m _ below hf ((Spec.applies_iff_loose hf).mp happ).1 ⟨rfl, State.Warmed39.refl s, rfl, (fun p hp => nomatch hp), sf0⟩ trivial
  refine ⟨n, _, h1, h2, h3, hpost _ _ _ _ _ _ ⟨Cond.after_iff.mpr rfl, Cond.after_iff.mpr (eq_i res_at (Term.int_eval (1)) rfl), trivial⟩ ⟨hq.1, hq.2.1, hq.2.2.1, (hq.2.2.2.sift fun y hy => Or.inr (N y hy)).mono (by decide) (by decide)⟩⟩
theorem main_1_1 : Claimed_1_1 := comes_1 fun _ _ _ _ _ _ h hF => ⟨h.1, hF⟩
theorem main_1_2 : Claimed_1_2 := comes_1 fun _ _ _ _ _ _ h hF => ⟨h.2.1, hF⟩
end Jvm.Pilot.@@N@@
namespace Jvm.Pilot.@@N@@
open Jvm Jvm.ClassFile Sem Op Lib Jvm.Free Jvm.Stand Jvm.Pilot.@@N@@.Jvm.D
/-! MADE BY PROGRAM (witnessworld.py) out of the Statement's table words and the real class files: 18 classes; the members and pool entries that the words name. The judged class is class 1, her method 1. -/
namespace start1
open Jvm.ClassFile
def u (s : String) : CpInfo := .utf8 (stringToUtf16 s)
/-- a pool by its gaps: so many unusable entries, then the entry; so many at the end -/
def gap : Nat → List CpInfo → List CpInfo
  | 0, r => r
  | n + 1, r => .unusable :: gap n r
def poolList (es : List (Nat × CpInfo)) (last : Nat) : List CpInfo := es.foldr (fun e r => gap e.1 (e.2 :: r)) (gap last [])
def pool (es : List (Nat × CpInfo)) (last : Nat) : Array CpInfo := ⟨poolList es last⟩
def fileOf (pool : Array CpInfo) (this : Nat) (attrs : Array Attribute := #[]) (ms : Array MethodInfo := #[]) (fl : Nat := 33) (sup : Nat := 0) (ifs : Array Nat := #[]) (fds : Array FieldInfo := #[]) : ClassFile where
  minorVersion := 0
  majorVersion := 65
  constantPool := pool
  accessFlags := fl
  thisClass := this
  superClass := sup
  interfaces := ifs
  fields := fds
  methods := ms
  attributes := attrs
def plain (name : String) (sup : Option ClassId) : Class where
  name := name
  kind := .ordinary
  loader := none
  accessFlags := 33
  super := sup
  interfaces := #[]
  cf := none
  fields := #[]
  methods := #[]
  instanceTypes := #[]
  staticTypes := #[]
  resolved := #[]
  callSites := []
  init := .initialized
  statics := none
  mirror := none

def pool0 : Array CpInfo := pool [(5, u "<init>"), (0, u "()V"), (1, .class_ 10), (1, u "java/lang/Object")] 113

def k0c0 : Code := { maxStack := 0, maxLocals := 1, code := object_method_1_code, exceptionTable := #[], attributes := #[] }
def k0m0 : Method := { name := "<init>", desc := "()V", sig := { parameters := [], returnType := none }, accessFlags := 1, code := some k0c0 }
/-- java/lang/Object -/
def k0 : Class := { plain "java/lang/Object" none with
  accessFlags := 33
  interfaces := #[]
  cf := some (fileOf pool0 8 #[] #[{ accessFlags := 1, nameIndex := 5, descriptorIndex := 6, attributes := #[] }] 33 0 #[] #[])
  fields := #[]
  methods := #[k0m0]
  instanceTypes := #[]
  staticTypes := #[]
  resolved := Array.replicate 124 none
  statics := none }

def pool1 : Array CpInfo := pool [(2, .class_ 4), (1, u "java/lang/Object"), (0, u "<init>"), (0, u "()V"), (2, .long 9223372036854775807), (1, .methodref 12 13), (0, .class_ 14), (0, .nameAndType 15 16), (0, u "com/example/latchwork/latchwork/store/Attempt"), (0, u "taken"), (0, u "(J)Lcom/example/latchwork/latchwork/store/Attempt;"), (0, .methodref 12 18), (0, .nameAndType 19 20), (0, u "token"), (0, u "()J"), (0, .methodref 12 22), (0, .nameAndType 15 23), (0, u "()Z"), (0, .class_ 25), (0, u "com/example/latchwork/latchwork/store/AttemptTakenPinLaw"), (2, u "law"), (0, u "(J)Z")] 3

def k1m0 : Method := { name := "<init>", desc := "()V", sig := { parameters := [], returnType := none }, accessFlags := 1, code := none }
def k1c1 : Code := { maxStack := 4, maxLocals := 5, code := code, exceptionTable := #[], attributes := #[] }
def k1m1 : Method := { name := "law", desc := "(J)Z", sig := { parameters := [.long], returnType := some .boolean }, accessFlags := 9, code := some k1c1 }
/-- com/example/latchwork/latchwork/store/AttemptTakenPinLaw -/
def k1 : Class := { plain "com/example/latchwork/latchwork/store/AttemptTakenPinLaw" (some 0) with
  accessFlags := 49
  interfaces := #[]
  cf := some (fileOf pool1 24 #[] #[{ accessFlags := 1, nameIndex := 5, descriptorIndex := 6, attributes := #[] }, { accessFlags := 9, nameIndex := 28, descriptorIndex := 29, attributes := #[] }] 49 2 #[] #[])
  fields := #[]
  methods := #[k1m0, k1m1]
  instanceTypes := #[]
  staticTypes := #[]
  resolved := Array.replicate 33 none
  statics := none }

def pool2 : Array CpInfo := pool [(1, .methodref 2 3), (0, .class_ 4), (0, .nameAndType 5 6), (0, u "java/lang/Object"), (0, u "<init>"), (0, u "()V"), (0, .class_ 8), (0, u "java/lang/Record")] 13

def k2c0 : Code := { maxStack := 1, maxLocals := 1, code := jdk_30_method_1_code, exceptionTable := #[], attributes := #[] }
def k2m0 : Method := { name := "<init>", desc := "()V", sig := { parameters := [], returnType := none }, accessFlags := 4, code := some k2c0 }
/-- java/lang/Record -/
def k2 : Class := { plain "java/lang/Record" (some 0) with
  accessFlags := 1057
  interfaces := #[]
  cf := some (fileOf pool2 7 #[] #[{ accessFlags := 4, nameIndex := 5, descriptorIndex := 6, attributes := #[] }] 1057 2 #[] #[])
  fields := #[]
  methods := #[k2m0]
  instanceTypes := #[]
  staticTypes := #[]
  resolved := Array.replicate 22 none
  statics := none }

def pool3 : Array CpInfo := pool [(1, .methodref 2 3), (0, .class_ 4), (0, .nameAndType 5 6), (0, u "java/lang/Record"), (0, u "<init>"), (0, u "()V"), (0, .string 8), (0, u "holderLeft"), (0, .methodref 10 11), (0, .class_ 12), (0, .nameAndType 13 14), (0, u "java/util/Objects"), (0, u "requireNonNull"), (0, u "(Ljava/lang/Object;Ljava/lang/String;)Ljava/lang/Object;"), (0, .methodref 16 17), (0, .class_ 18), (0, .nameAndType 19 20), (0, u "java/time/Duration"), (0, u "isNegative"), (0, u "()Z"), (0, .methodref 16 22), (0, .nameAndType 23 20), (0, u "isZero"), (7, .fieldref 32 33), (0, .class_ 34), (0, .nameAndType 35 36), (0, u "com/example/latchwork/latchwork/store/Attempt"), (0, u "token"), (0, u "J"), (0, .fieldref 32 38), (0, .nameAndType 8 39), (0, u "Ljava/time/Duration;"), (2, .fieldref 16 43), (0, .nameAndType 44 39), (0, u "ZERO"), (0, .methodref 32 46), (0, .nameAndType 5 47), (0, u "(JLjava/time/Duration;)V"), (16, u "taken"), (0, u "(J)Lcom/example/latchwork/latchwork/store/Attempt;"), (5, u "()J")] 22

def k3c0 : Code := { maxStack := 4, maxLocals := 4, code := prog_23_method_1_code, exceptionTable := #[], attributes := #[] }
def k3m0 : Method := { name := "<init>", desc := "(JLjava/time/Duration;)V", sig := { parameters := [.long, (.object "java/time/Duration")], returnType := none }, accessFlags := 1, code := some k3c0 }
def k3c1 : Code := { maxStack := 5, maxLocals := 2, code := prog_23_method_2_code, exceptionTable := #[], attributes := #[] }
def k3m1 : Method := { name := "taken", desc := "(J)Lcom/example/latchwork/latchwork/store/Attempt;", sig := { parameters := [.long], returnType := some (.object "com/example/latchwork/latchwork/store/Attempt") }, accessFlags := 9, code := some k3c1 }
def k3c2 : Code := { maxStack := 4, maxLocals := 1, code := prog_23_method_4_code, exceptionTable := #[], attributes := #[] }
def k3m2 : Method := { name := "taken", desc := "()Z", sig := { parameters := [], returnType := some .boolean }, accessFlags := 1, code := some k3c2 }
def k3c3 : Code := { maxStack := 2, maxLocals := 1, code := prog_23_method_8_code, exceptionTable := #[], attributes := #[] }
def k3m3 : Method := { name := "token", desc := "()J", sig := { parameters := [], returnType := some .long }, accessFlags := 1, code := some k3c3 }
/-- com/example/latchwork/latchwork/store/Attempt -/
def k3 : Class := { plain "com/example/latchwork/latchwork/store/Attempt" (some 2) with
  accessFlags := 49
  interfaces := #[]
  cf := some (fileOf pool3 32 #[] #[{ accessFlags := 1, nameIndex := 5, descriptorIndex := 47, attributes := #[] }, { accessFlags := 9, nameIndex := 64, descriptorIndex := 65, attributes := #[] }, { accessFlags := 1, nameIndex := 64, descriptorIndex := 20, attributes := #[] }, { accessFlags := 1, nameIndex := 35, descriptorIndex := 71, attributes := #[] }] 49 2 #[] #[{ accessFlags := 18, nameIndex := 35, descriptorIndex := 36, attributes := #[] }, { accessFlags := 18, nameIndex := 8, descriptorIndex := 39, attributes := #[] }])
  fields := #[{ name := "token", type := .long, accessFlags := 18, slot := 0, constantValue := 0 }, { name := "holderLeft", type := (.object "java/time/Duration"), accessFlags := 18, slot := 1, constantValue := 0 }]
  methods := #[k3m0, k3m1, k3m2, k3m3]
  instanceTypes := #[.long, (.object "java/time/Duration")]
  staticTypes := #[]
  resolved := Array.replicate 94 none
  statics := none }

def pool4 : Array CpInfo := pool [(1, .class_ 2), (0, u "java/time/temporal/TemporalAmount"), (0, .class_ 4), (0, u "java/lang/Object")] 11

/-- java/time/temporal/TemporalAmount -/
def k4 : Class := { plain "java/time/temporal/TemporalAmount" (some 0) with
  accessFlags := 1537
  interfaces := #[]
  cf := some (fileOf pool4 1 #[] #[] 1537 3 #[] #[])
  fields := #[]
  methods := #[]
  instanceTypes := #[]
  staticTypes := #[]
  resolved := Array.replicate 16 none
  statics := none }

def pool5 : Array CpInfo := pool [(1, .class_ 2), (0, u "java/lang/Comparable"), (0, .class_ 4), (0, u "java/lang/Object")] 7

/-- java/lang/Comparable -/
def k5 : Class := { plain "java/lang/Comparable" (some 0) with
  accessFlags := 1537
  interfaces := #[]
  cf := some (fileOf pool5 1 #[] #[] 1537 3 #[] #[])
  fields := #[]
  methods := #[]
  instanceTypes := #[]
  staticTypes := #[]
  resolved := Array.replicate 12 none
  statics := none }

def pool6 : Array CpInfo := pool [(1, .class_ 2), (0, u "java/io/Serializable"), (0, .class_ 4), (0, u "java/lang/Object")] 2

/-- java/io/Serializable -/
def k6 : Class := { plain "java/io/Serializable" (some 0) with
  accessFlags := 1537
  interfaces := #[]
  cf := some (fileOf pool6 1 #[] #[] 1537 3 #[] #[])
  fields := #[]
  methods := #[]
  instanceTypes := #[]
  staticTypes := #[]
  resolved := Array.replicate 7 none
  statics := none }

def pool7 : Array CpInfo := pool [(11, .class_ 13), (1, u "java/time/Duration"), (20, u "ZERO"), (0, u "Ljava/time/Duration;"), (13, .class_ 51), (1, u "java/time/temporal/TemporalAmount"), (13, u "()Z"), (13, .class_ 81), (1, u "java/time/Duration$Lazy"), (35, u "seconds"), (101, .class_ 220), (0, u "java/lang/Object"), (0, .fieldref 11 222), (0, .nameAndType 117 223), (0, u "J"), (0, .fieldref 11 225), (0, .nameAndType 226 227), (0, u "nanos"), (0, u "I"), (11, .class_ 241), (1, u "java/time/Duration$DurationUnits"), (27, .class_ 271), (1, u "java/time/Duration$1"), (91, u "BI_NANOS_PER_SECOND"), (0, u "Ljava/math/BigInteger;"), (21, u "isNegative"), (98, .class_ 486), (0, u "java/lang/Comparable"), (0, .class_ 488), (0, u "java/io/Serializable"), (0, u "serialVersionUID"), (66, u "isZero")] 99

def k7c0 : Code := { maxStack := 4, maxLocals := 1, code := jdk_2316_method_21_code, exceptionTable := #[], attributes := #[] }
def k7m0 : Method := { name := "isZero", desc := "()Z", sig := { parameters := [], returnType := some .boolean }, accessFlags := 1, code := some k7c0 }
def k7c1 : Code := { maxStack := 4, maxLocals := 1, code := jdk_2316_method_22_code, exceptionTable := #[], attributes := #[] }
def k7m1 : Method := { name := "isNegative", desc := "()Z", sig := { parameters := [], returnType := some .boolean }, accessFlags := 1, code := some k7c1 }
/-- java/time/Duration -/
def k7 : Class := { plain "java/time/Duration" (some 0) with
  accessFlags := 49
  interfaces := #[4, 5, 6]
  cf := some (fileOf pool7 11 #[.nestMembers #[269, 239, 79]] #[{ accessFlags := 1, nameIndex := 556, descriptorIndex := 65, attributes := #[] }, { accessFlags := 1, nameIndex := 386, descriptorIndex := 65, attributes := #[] }] 49 219 #[49, 485, 487] #[{ accessFlags := 25, nameIndex := 34, descriptorIndex := 35, attributes := #[] }, { accessFlags := 26, nameIndex := 489, descriptorIndex := 223, attributes := #[] }, { accessFlags := 26, nameIndex := 363, descriptorIndex := 364, attributes := #[] }, { accessFlags := 18, nameIndex := 117, descriptorIndex := 223, attributes := #[] }, { accessFlags := 18, nameIndex := 226, descriptorIndex := 227, attributes := #[] }])
  fields := #[{ name := "ZERO", type := (.object "java/time/Duration"), accessFlags := 25, slot := 0, constantValue := 0 }, { name := "serialVersionUID", type := .long, accessFlags := 26, slot := 1, constantValue := 0 }, { name := "BI_NANOS_PER_SECOND", type := (.object "java/math/BigInteger"), accessFlags := 26, slot := 2, constantValue := 0 }, { name := "seconds", type := .long, accessFlags := 18, slot := 0, constantValue := 0 }, { name := "nanos", type := .int, accessFlags := 18, slot := 1, constantValue := 0 }]
  methods := #[k7m0, k7m1]
  instanceTypes := #[.long, .int]
  staticTypes := #[(.object "java/time/Duration"), .long, (.object "java/math/BigInteger")]
  resolved := Array.replicate 656 none
  statics := some 0 }

def pool8 : Array CpInfo := pool [(2, .class_ 4), (1, u "java/lang/CharSequence"), (42, .class_ 48), (0, u "java/lang/CharSequence$1CodePointIterator"), (10, .class_ 60), (0, u "java/lang/CharSequence$1CharIterator"), (5, .class_ 67), (0, u "java/lang/Object")] 63

/-- java/lang/CharSequence -/
def k8 : Class := { plain "java/lang/CharSequence" (some 0) with
  accessFlags := 1537
  interfaces := #[]
  cf := some (fileOf pool8 2 #[.nestMembers #[47, 59]] #[] 1537 66 #[] #[])
  fields := #[]
  methods := #[]
  instanceTypes := #[]
  staticTypes := #[]
  resolved := Array.replicate 131 none
  statics := none }

def pool9 : Array CpInfo := pool [(1, .class_ 2), (0, u "java/lang/constant/Constable"), (0, .class_ 4), (0, u "java/lang/Object")] 6

/-- java/lang/constant/Constable -/
def k9 : Class := { plain "java/lang/constant/Constable" (some 0) with
  accessFlags := 1537
  interfaces := #[]
  cf := some (fileOf pool9 1 #[] #[] 1537 3 #[] #[])
  fields := #[]
  methods := #[]
  instanceTypes := #[]
  staticTypes := #[]
  resolved := Array.replicate 11 none
  statics := none }

def pool10 : Array CpInfo := pool [(1, .class_ 2), (0, u "java/lang/constant/ConstantDesc"), (0, .class_ 4), (0, u "java/lang/Object")] 32

/-- java/lang/constant/ConstantDesc -/
def k10 : Class := { plain "java/lang/constant/ConstantDesc" (some 0) with
  accessFlags := 1537
  interfaces := #[]
  cf := some (fileOf pool10 1 #[] #[] 1537 3 #[] #[])
  fields := #[]
  methods := #[]
  instanceTypes := #[]
  staticTypes := #[]
  resolved := Array.replicate 37 none
  statics := none }

def pool11 : Array CpInfo := pool [(2, .class_ 4), (1, u "java/lang/Object"), (0, u "<init>"), (0, u "()V"), (3, .class_ 12), (1, u "java/lang/String"), (0, u "value"), (0, u "[B"), (2, u "coder"), (0, u "B"), (2, u "hash"), (0, u "I"), (2, u "hashIsZero"), (0, u "Z"), (13, u "COMPACT_STRINGS"), (534, .class_ 576), (0, u "java/lang/CharSequence"), (22, u "CASE_INSENSITIVE_ORDER"), (0, u "Ljava/util/Comparator;"), (500, u "serialPersistentFields"), (0, u "[Ljava/io/ObjectStreamField;"), (0, .class_ 1104), (0, u "java/lang/String$CaseInsensitiveComparator"), (1, .class_ 1107), (0, u "java/io/Serializable"), (0, .class_ 1109), (0, u "java/lang/Comparable"), (0, .class_ 1111), (0, u "java/lang/constant/Constable"), (0, .class_ 1113), (0, u "java/lang/constant/ConstantDesc"), (2, u "serialVersionUID"), (0, u "J"), (3, u "REPL"), (0, u "C"), (2, u "LATIN1"), (1, u "UTF16")] 323

def k11m0 : Method := { name := "<init>", desc := "()V", sig := { parameters := [], returnType := none }, accessFlags := 1, code := none }
/-- java/lang/String -/
def k11 : Class := { plain "java/lang/String" (some 0) with
  accessFlags := 49
  interfaces := #[6, 5, 8, 9, 10]
  cf := some (fileOf pool11 10 #[.nestMembers #[1103]] #[{ accessFlags := 1, nameIndex := 5, descriptorIndex := 6, attributes := #[] }] 49 2 #[1106, 1108, 575, 1110, 1112] #[{ accessFlags := 18, nameIndex := 13, descriptorIndex := 14, attributes := #[] }, { accessFlags := 18, nameIndex := 17, descriptorIndex := 18, attributes := #[] }, { accessFlags := 2, nameIndex := 21, descriptorIndex := 22, attributes := #[] }, { accessFlags := 2, nameIndex := 25, descriptorIndex := 26, attributes := #[] }, { accessFlags := 26, nameIndex := 1116, descriptorIndex := 1117, attributes := #[] }, { accessFlags := 24, nameIndex := 40, descriptorIndex := 26, attributes := #[] }, { accessFlags := 26, nameIndex := 1101, descriptorIndex := 1102, attributes := #[] }, { accessFlags := 26, nameIndex := 1121, descriptorIndex := 1122, attributes := #[] }, { accessFlags := 25, nameIndex := 599, descriptorIndex := 600, attributes := #[] }, { accessFlags := 24, nameIndex := 1125, descriptorIndex := 18, attributes := #[] }, { accessFlags := 24, nameIndex := 1127, descriptorIndex := 18, attributes := #[] }])
  fields := #[{ name := "value", type := (.array .byte), accessFlags := 18, slot := 0, constantValue := 0 }, { name := "coder", type := .byte, accessFlags := 18, slot := 1, constantValue := 0 }, { name := "hash", type := .int, accessFlags := 2, slot := 2, constantValue := 0 }, { name := "hashIsZero", type := .boolean, accessFlags := 2, slot := 3, constantValue := 0 }, { name := "serialVersionUID", type := .long, accessFlags := 26, slot := 0, constantValue := 0 }, { name := "COMPACT_STRINGS", type := .boolean, accessFlags := 24, slot := 1, constantValue := 0 }, { name := "serialPersistentFields", type := (.array (.object "java/io/ObjectStreamField")), accessFlags := 26, slot := 2, constantValue := 0 }, { name := "REPL", type := .char, accessFlags := 26, slot := 3, constantValue := 0 }, { name := "CASE_INSENSITIVE_ORDER", type := (.object "java/util/Comparator"), accessFlags := 25, slot := 4, constantValue := 0 }, { name := "LATIN1", type := .byte, accessFlags := 24, slot := 5, constantValue := 0 }, { name := "UTF16", type := .byte, accessFlags := 24, slot := 6, constantValue := 0 }]
  methods := #[k11m0]
  instanceTypes := #[(.array .byte), .byte, .int, .boolean]
  staticTypes := #[.long, .boolean, (.array (.object "java/io/ObjectStreamField")), .char, (.object "java/util/Comparator"), .byte, .byte]
  resolved := Array.replicate 1451 none
  statics := none }

def pool12 : Array CpInfo := pool [(2, .class_ 4), (1, u "java/lang/Object"), (0, u "<init>"), (0, u "()V"), (35, .class_ 44), (1, u "java/util/Objects"), (0, u "requireNonNull"), (48, u "(Ljava/lang/Object;Ljava/lang/String;)Ljava/lang/Object;")] 89

def k12m0 : Method := { name := "<init>", desc := "()V", sig := { parameters := [], returnType := none }, accessFlags := 2, code := none }
def k12c1 : Code := { maxStack := 3, maxLocals := 2, code := jdk_31_method_11_code, exceptionTable := #[], attributes := #[] }
def k12m1 : Method := { name := "requireNonNull", desc := "(Ljava/lang/Object;Ljava/lang/String;)Ljava/lang/Object;", sig := { parameters := [(.object "java/lang/Object"), (.object "java/lang/String")], returnType := some (.object "java/lang/Object") }, accessFlags := 9, code := some k12c1 }
/-- java/util/Objects -/
def k12 : Class := { plain "java/util/Objects" (some 0) with
  accessFlags := 49
  interfaces := #[]
  cf := some (fileOf pool12 42 #[] #[{ accessFlags := 2, nameIndex := 5, descriptorIndex := 6, attributes := #[] }, { accessFlags := 9, nameIndex := 45, descriptorIndex := 94, attributes := #[] }] 49 2 #[] #[])
  fields := #[]
  methods := #[k12m0, k12m1]
  instanceTypes := #[]
  staticTypes := #[]
  resolved := Array.replicate 184 none
  statics := none }

def pool13 : Array CpInfo := pool [(1, u "java/lang/Cloneable"), (0, .class_ 1), (0, u "java/lang/Object"), (0, .class_ 3)] 3

/-- java/lang/Cloneable -/
def k13 : Class := { plain "java/lang/Cloneable" (some 0) with
  accessFlags := 1537
  interfaces := #[]
  cf := some (fileOf pool13 2 #[] #[] 1537 4 #[] #[])
  fields := #[]
  methods := #[]
  instanceTypes := #[]
  staticTypes := #[]
  resolved := Array.replicate 8 none
  statics := none }

/-- the primitive byte -/
def k14 : Class := { plain "byte" none with kind := .primitive 'B', accessFlags := 0x411 }
/-- [B -/
def k15 : Class := { plain "[B" (some 0) with kind := .array 14 .byte, interfaces := #[13, 6], accessFlags := 1041 }

/-- the primitive int -/
def k16 : Class := { plain "int" none with kind := .primitive 'I', accessFlags := 0x411 }
/-- [I -/
def k17 : Class := { plain "[I" (some 0) with kind := .array 16 .int, interfaces := #[13, 6], accessFlags := 1041 }

def heap : Heap := #[{ cls := 7, slots := #[.ref 1, .long 0, .null], vm := .statics 7 },
  { cls := 7, slots := #[.long 0, .int 0], vm := .none }]
def classes : Array Class := #[k0, k1, k2, k3, k4, k5, k6, k7, k8, k9, k10, k11, k12, k13, k14, k15, k16, k17]
def interned : List (Array UInt16 × Addr) := []
def slotsUsed : Nat := 5
def theMethod : MethodId := ⟨1, 1⟩
def args0 : Array Value := #[.long 5]
def aboutOver (below : List Frame) : State where
  vm := { classes := classes, interned := interned.toArray }
  heap := heap
  slotsUsed := slotsUsed
  threads := #[{ frames := .invoking theMethod args0 :: below }]
def below0 : List Frame := [.native { method := ⟨0, 0⟩, args := #[] }]
def about1 : State := aboutOver below0
def p0 : Program := .bare "" "" ""
def e0 : Env := launch0.env 0 0 0
theorem w_frames : about1.frames = Frame.invoking theMethod args0 :: below0 := rfl
set_option maxRecDepth 65536 in
theorem w_args : argsFit about1.vm theMethod args0 = true := by decide +kernel
set_option maxRecDepth 65536 in
theorem w_heap : heapFits about1 = true := by decide +kernel
set_option maxRecDepth 65536 in
theorem w_runnable : about1.curStatus? = some .runnable := by decide +kernel
set_option maxRecDepth 65536 in
theorem w_alone : about1.alone = true := by decide +kernel
set_option maxRecDepth 65536 in
theorem w_named : about1.methodNamed? x = some theMethod := by decide +kernel
set_option maxRecDepth 65536 in
theorem w_hears : about1.hears theMethod below0 = true := by decide +kernel
set_option maxRecDepth 65536 in
theorem w_ripe : about1.ripe theMethod args0 below0 = true := by decide +kernel
theorem w_running : about1.status = .running := rfl
set_option maxRecDepth 65536 in
theorem w_room : about1.hasRoom e0.platform room_1 = true :=
  launch0.hasRoom_least _ room_1 (by decide +kernel) (by decide +kernel) (by decide +kernel) (by decide +kernel) (by decide +kernel) (by decide +kernel)
theorem allAtoms_all (ts : List Jvm.Cond) (a : Array Jvm.Value) (st : Jvm.State) : (allAtoms ts).before a st = ts.all (fun c => c.before a st) := by
  induction ts with
  | nil => rfl
  | cons c t ih =>
    show (Jvm.Cond.and c (allAtoms t)).before a st = _
    rw [Jvm.Cond.before_and, ih, List.all_cons]
def words1 : List Jvm.Cond := Jvm.Cond.code x code maxLocals ret :: tables_1
/-- a 'code' word, met by the world's own term for the bytes: nothing is compared byte by byte -/
theorem code_word {y : MethodName} {bytes : ByteArray} {mx : Nat} {rt : Option FieldType} {a : Array Value} {s : State} {m : MethodId} {meth : Method} {c : Code} (h1 : s.methodNamed? y = some m) (h2 : s.vm.method? m = some meth) (h3 : meth.code = some c) (h4 : c.code = bytes)
    (h5 : (c.maxLocals == mx && c.exceptionTable.isEmpty && decide (c.maxStack ≤ mostOperands) && decide (meth.sig.returnType = rt) && !meth.locks && decide (parseMethodDescriptor y.desc = some meth.sig)) = true) : (Jvm.Cond.code y bytes mx rt).before a s = true := by
  simp only [Bool.and_eq_true, beq_iff_eq, Bool.not_eq_true', decide_eq_true_eq] at h5
  obtain ⟨⟨⟨⟨⟨g1, g2⟩, g3⟩, g4⟩, g5⟩, g6⟩ := h5
  simp [Cond.before, Cond.holds, Cond.value, h1, h2, h3, h4, g1, g2, g3, g4, g5, g6]
def isCode : Jvm.Cond → Bool
  | .code _ _ _ _ => true
  | _ => false
theorem all_split {L : List Jvm.Cond} {P : Jvm.Cond → Bool} (h1 : L.all (fun c => isCode c || P c) = true) (h2 : ∀ c ∈ L.filter isCode, P c = true) : L.all P = true := by
  refine List.all_eq_true.mpr fun c hc => ?_
  have h := List.all_eq_true.mp h1 c hc
  rcases Bool.eq_false_or_eq_true (isCode c) with hi | hi
  · exact h2 c (List.mem_filter.mpr ⟨hc, hi⟩)
  · simpa [hi] using h
set_option maxRecDepth 65536 in
theorem w_c0 : (Jvm.Cond.code x code maxLocals ret).before args0 about1 = true := code_word (m := ⟨1, 1⟩) (meth := k1m1) (c := k1c1) (by decide +kernel) rfl rfl rfl (by decide +kernel)
set_option maxRecDepth 65536 in
theorem w_c1 : (Jvm.Cond.code ({ cls := "com/example/latchwork/latchwork/store/Attempt", name := "taken", desc := "(J)Lcom/example/latchwork/latchwork/store/Attempt;" } : Jvm.MethodName) prog_23_method_2_code (2 : Nat) (Option.some (Jvm.ClassFile.FieldType.object "com/example/latchwork/latchwork/store/Attempt"))).before args0 about1 = true := code_word (m := ⟨3, 1⟩) (meth := k3m1) (c := k3c1) (by decide +kernel) rfl rfl rfl (by decide +kernel)
set_option maxRecDepth 65536 in
theorem w_c2 : (Jvm.Cond.code ({ cls := "com/example/latchwork/latchwork/store/Attempt", name := "<init>", desc := "(JLjava/time/Duration;)V" } : Jvm.MethodName) prog_23_method_1_code (4 : Nat) (Option.none : Option Jvm.ClassFile.FieldType)).before args0 about1 = true := code_word (m := ⟨3, 0⟩) (meth := k3m0) (c := k3c0) (by decide +kernel) rfl rfl rfl (by decide +kernel)
set_option maxRecDepth 65536 in
theorem w_c3 : (Jvm.Cond.code ({ cls := "java/lang/Record", name := "<init>", desc := "()V" } : Jvm.MethodName) jdk_30_method_1_code (1 : Nat) (Option.none : Option Jvm.ClassFile.FieldType)).before args0 about1 = true := code_word (m := ⟨2, 0⟩) (meth := k2m0) (c := k2c0) (by decide +kernel) rfl rfl rfl (by decide +kernel)
set_option maxRecDepth 65536 in
theorem w_c4 : (Jvm.Cond.code ({ cls := "java/lang/Object", name := "<init>", desc := "()V" } : Jvm.MethodName) object_method_1_code (1 : Nat) (Option.none : Option Jvm.ClassFile.FieldType)).before args0 about1 = true := code_word (m := ⟨0, 0⟩) (meth := k0m0) (c := k0c0) (by decide +kernel) rfl rfl rfl (by decide +kernel)
set_option maxRecDepth 65536 in
theorem w_c5 : (Jvm.Cond.code ({ cls := "java/util/Objects", name := "requireNonNull", desc := "(Ljava/lang/Object;Ljava/lang/String;)Ljava/lang/Object;" } : Jvm.MethodName) jdk_31_method_11_code (2 : Nat) (Option.some (Jvm.ClassFile.FieldType.object "java/lang/Object"))).before args0 about1 = true := code_word (m := ⟨12, 1⟩) (meth := k12m1) (c := k12c1) (by decide +kernel) rfl rfl rfl (by decide +kernel)
set_option maxRecDepth 65536 in
theorem w_c6 : (Jvm.Cond.code ({ cls := "java/time/Duration", name := "isNegative", desc := "()Z" } : Jvm.MethodName) jdk_2316_method_22_code (1 : Nat) (Option.some Jvm.ClassFile.FieldType.boolean)).before args0 about1 = true := code_word (m := ⟨7, 1⟩) (meth := k7m1) (c := k7c1) (by decide +kernel) rfl rfl rfl (by decide +kernel)
set_option maxRecDepth 65536 in
theorem w_c7 : (Jvm.Cond.code ({ cls := "java/time/Duration", name := "isZero", desc := "()Z" } : Jvm.MethodName) jdk_2316_method_21_code (1 : Nat) (Option.some Jvm.ClassFile.FieldType.boolean)).before args0 about1 = true := code_word (m := ⟨7, 0⟩) (meth := k7m0) (c := k7c0) (by decide +kernel) rfl rfl rfl (by decide +kernel)
set_option maxRecDepth 65536 in
theorem w_c8 : (Jvm.Cond.code ({ cls := "com/example/latchwork/latchwork/store/Attempt", name := "token", desc := "()J" } : Jvm.MethodName) prog_23_method_8_code (1 : Nat) (Option.some Jvm.ClassFile.FieldType.long)).before args0 about1 = true := code_word (m := ⟨3, 3⟩) (meth := k3m3) (c := k3c3) (by decide +kernel) rfl rfl rfl (by decide +kernel)
set_option maxRecDepth 65536 in
theorem w_c9 : (Jvm.Cond.code ({ cls := "com/example/latchwork/latchwork/store/Attempt", name := "taken", desc := "()Z" } : Jvm.MethodName) prog_23_method_4_code (1 : Nat) (Option.some Jvm.ClassFile.FieldType.boolean)).before args0 about1 = true := code_word (m := ⟨3, 2⟩) (meth := k3m2) (c := k3c2) (by decide +kernel) rfl rfl rfl (by decide +kernel)
def codes1 : List Jvm.Cond := [Jvm.Cond.code x code maxLocals ret, Jvm.Cond.code ({ cls := "com/example/latchwork/latchwork/store/Attempt", name := "taken", desc := "(J)Lcom/example/latchwork/latchwork/store/Attempt;" } : Jvm.MethodName) prog_23_method_2_code (2 : Nat) (Option.some (Jvm.ClassFile.FieldType.object "com/example/latchwork/latchwork/store/Attempt")), Jvm.Cond.code ({ cls := "com/example/latchwork/latchwork/store/Attempt", name := "<init>", desc := "(JLjava/time/Duration;)V" } : Jvm.MethodName) prog_23_method_1_code (4 : Nat) (Option.none : Option Jvm.ClassFile.FieldType), Jvm.Cond.code ({ cls := "java/lang/Record", name := "<init>", desc := "()V" } : Jvm.MethodName) jdk_30_method_1_code (1 : Nat) (Option.none : Option Jvm.ClassFile.FieldType), Jvm.Cond.code ({ cls := "java/lang/Object", name := "<init>", desc := "()V" } : Jvm.MethodName) object_method_1_code (1 : Nat) (Option.none : Option Jvm.ClassFile.FieldType), Jvm.Cond.code ({ cls := "java/util/Objects", name := "requireNonNull", desc := "(Ljava/lang/Object;Ljava/lang/String;)Ljava/lang/Object;" } : Jvm.MethodName) jdk_31_method_11_code (2 : Nat) (Option.some (Jvm.ClassFile.FieldType.object "java/lang/Object")), Jvm.Cond.code ({ cls := "java/time/Duration", name := "isNegative", desc := "()Z" } : Jvm.MethodName) jdk_2316_method_22_code (1 : Nat) (Option.some Jvm.ClassFile.FieldType.boolean), Jvm.Cond.code ({ cls := "java/time/Duration", name := "isZero", desc := "()Z" } : Jvm.MethodName) jdk_2316_method_21_code (1 : Nat) (Option.some Jvm.ClassFile.FieldType.boolean), Jvm.Cond.code ({ cls := "com/example/latchwork/latchwork/store/Attempt", name := "token", desc := "()J" } : Jvm.MethodName) prog_23_method_8_code (1 : Nat) (Option.some Jvm.ClassFile.FieldType.long), Jvm.Cond.code ({ cls := "com/example/latchwork/latchwork/store/Attempt", name := "taken", desc := "()Z" } : Jvm.MethodName) prog_23_method_4_code (1 : Nat) (Option.some Jvm.ClassFile.FieldType.boolean)]
set_option maxRecDepth 65536 in
theorem codes_eq : words1.filter isCode = codes1 := rfl
theorem w_codes : ∀ c ∈ words1.filter isCode, c.before args0 about1 = true := by
  rw [codes_eq]
  intro c hc
  simp only [codes1, List.mem_cons, List.not_mem_nil, or_false] at hc
  rcases hc with rfl | rfl | rfl | rfl | rfl | rfl | rfl | rfl | rfl | rfl
  · exact w_c0
  · exact w_c1
  · exact w_c2
  · exact w_c3
  · exact w_c4
  · exact w_c5
  · exact w_c6
  · exact w_c7
  · exact w_c8
  · exact w_c9
set_option maxRecDepth 65536 in
theorem w_t1 : (words1.take 24).all (fun c => isCode c || c.before args0 about1) = true := by decide +kernel
set_option maxRecDepth 65536 in
theorem w_t2 : ((words1.drop 24).take 24).all (fun c => isCode c || c.before args0 about1) = true := by decide +kernel
set_option maxRecDepth 65536 in
theorem w_t3 : ((words1.drop 24).drop 24).all (fun c => isCode c || c.before args0 about1) = true := by decide +kernel
theorem w_tables : (allAtoms (Jvm.Cond.code x code maxLocals ret :: tables_1)).before args0 about1 = true := by
  rw [allAtoms_all]
  show words1.all (fun c => c.before args0 about1) = true
  refine all_split ?_ w_codes
  rw [← List.take_append_drop 24 words1, List.all_append, w_t1, ← List.take_append_drop 24 (words1.drop 24), List.all_append, w_t2, w_t3]
  rfl
set_option maxRecDepth 65536 in
theorem w_rest : rest_1_c.before args0 about1 = true := by decide +kernel
set_option maxRecDepth 65536 in
theorem w_case : (Jvm.Cond.and given_1 narrow_1).before args0 about1 = true := by decide +kernel
theorem w_applies : (headSpec (Jvm.Cond.code x code maxLocals ret :: tables_1) room_1).applies x e0.platform about1 = true :=
  (Spec.applies_iff w_frames).mpr ⟨w_running, w_runnable, w_alone, w_named, w_hears, w_ripe, w_room, w_tables⟩
theorem atStart : AtStart classFile x code maxLocals ret World_1 tables_1 room_1 Calls_1 rest_1 Pre_1 launch0 p0 e0 about1 theMethod args0 below0 :=
  ⟨lists_1, trivial, launch0.admits_env _ _ _, launch0.least_env, fairChoices_fair.cas, fairChoices_fair.clock, w_frames, w_args, w_heap, w_applies, trivial, w_rest, w_case⟩
end start1
theorem witness_1 : WitnessClaimed_1 := ⟨start1.p0, start1.e0, start1.about1, start1.theMethod, start1.args0, start1.below0, start1.atStart⟩
end Jvm.Pilot.@@N@@
