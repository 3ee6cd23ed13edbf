import JvmDerived
import JvmDerived.Pilot.@@N@@Statement
import JvmDerived.Pilot.@@N@@Code
set_option linter.unusedVariables false
set_option linter.unusedSimpArgs false
namespace Jvm.Pilot.@@N@@
open Jvm Jvm.ClassFile Sem Op Lib Jvm.Free Jvm.Stand Jvm.LawKit Jvm.RoadKit Bundle Jvm.Pilot.@@N@@.Jvm.D
section OwnSteps
variable {tb : Tables} [Ours tb] {e : Env} {below : List Frame} {T target : State} {m : MethodId} {c : Code} {g : JFrame} {rest : List Value}
theorem Own.iadd (h : At T m c below) (hx : tb.exec = Jvm.exec) (hg : g.method = m) {x : Int32} {y : Int32} {z : Int32} (hd : decode c.code g.pc = .ok (.iadd, 1)) (hs : g.stack = .int y :: .int x :: rest) (hz : (x + y) = z)
    (hr : Steps tb e below (T.setTop { g with pc := g.pc + 1, stack := .int z :: rest }) target) : Steps tb e below (T.setTop g) target := XS.iadd h hx hg hd hs (by rw [show (x + y) = z from hz]; exact hr)
theorem Own.isub (h : At T m c below) (hx : tb.exec = Jvm.exec) (hg : g.method = m) {x : Int32} {y : Int32} {z : Int32} (hd : decode c.code g.pc = .ok (.isub, 1)) (hs : g.stack = .int y :: .int x :: rest) (hz : (x - y) = z)
    (hr : Steps tb e below (T.setTop { g with pc := g.pc + 1, stack := .int z :: rest }) target) : Steps tb e below (T.setTop g) target := XS.isub h hx hg hd hs (by rw [show (x - y) = z from hz]; exact hr)
theorem Own.imul (h : At T m c below) (hx : tb.exec = Jvm.exec) (hg : g.method = m) {x : Int32} {y : Int32} {z : Int32} (hd : decode c.code g.pc = .ok (.imul, 1)) (hs : g.stack = .int y :: .int x :: rest) (hz : (x * y) = z)
    (hr : Steps tb e below (T.setTop { g with pc := g.pc + 1, stack := .int z :: rest }) target) : Steps tb e below (T.setTop g) target := XS.imul h hx hg hd hs (by rw [show (x * y) = z from hz]; exact hr)
theorem Own.iand (h : At T m c below) (hx : tb.exec = Jvm.exec) (hg : g.method = m) {x : Int32} {y : Int32} {z : Int32} (hd : decode c.code g.pc = .ok (.iand, 1)) (hs : g.stack = .int y :: .int x :: rest) (hz : (x &&& y) = z)
    (hr : Steps tb e below (T.setTop { g with pc := g.pc + 1, stack := .int z :: rest }) target) : Steps tb e below (T.setTop g) target := XS.iand h hx hg hd hs (by rw [show (x &&& y) = z from hz]; exact hr)
theorem Own.ior (h : At T m c below) (hx : tb.exec = Jvm.exec) (hg : g.method = m) {x : Int32} {y : Int32} {z : Int32} (hd : decode c.code g.pc = .ok (.ior, 1)) (hs : g.stack = .int y :: .int x :: rest) (hz : (x ||| y) = z)
    (hr : Steps tb e below (T.setTop { g with pc := g.pc + 1, stack := .int z :: rest }) target) : Steps tb e below (T.setTop g) target := XS.ior h hx hg hd hs (by rw [show (x ||| y) = z from hz]; exact hr)
theorem Own.ixor (h : At T m c below) (hx : tb.exec = Jvm.exec) (hg : g.method = m) {x : Int32} {y : Int32} {z : Int32} (hd : decode c.code g.pc = .ok (.ixor, 1)) (hs : g.stack = .int y :: .int x :: rest) (hz : (x ^^^ y) = z)
    (hr : Steps tb e below (T.setTop { g with pc := g.pc + 1, stack := .int z :: rest }) target) : Steps tb e below (T.setTop g) target := XS.ixor h hx hg hd hs (by rw [show (x ^^^ y) = z from hz]; exact hr)
theorem Own.ishl (h : At T m c below) (hx : tb.exec = Jvm.exec) (hg : g.method = m) {x : Int32} {y : Int32} {z : Int32} (hd : decode c.code g.pc = .ok (.ishl, 1)) (hs : g.stack = .int y :: .int x :: rest) (hz : (x <<< (y &&& 31)) = z)
    (hr : Steps tb e below (T.setTop { g with pc := g.pc + 1, stack := .int z :: rest }) target) : Steps tb e below (T.setTop g) target := XS.ishl h hx hg hd hs (by rw [show (x <<< (y &&& 31)) = z from hz]; exact hr)
theorem Own.ishr (h : At T m c below) (hx : tb.exec = Jvm.exec) (hg : g.method = m) {x : Int32} {y : Int32} {z : Int32} (hd : decode c.code g.pc = .ok (.ishr, 1)) (hs : g.stack = .int y :: .int x :: rest) (hz : (x >>> (y &&& 31)) = z)
    (hr : Steps tb e below (T.setTop { g with pc := g.pc + 1, stack := .int z :: rest }) target) : Steps tb e below (T.setTop g) target := XS.ishr h hx hg hd hs (by rw [show (x >>> (y &&& 31)) = z from hz]; exact hr)
theorem Own.iushr (h : At T m c below) (hx : tb.exec = Jvm.exec) (hg : g.method = m) {x : Int32} {y : Int32} {z : Int32} (hd : decode c.code g.pc = .ok (.iushr, 1)) (hs : g.stack = .int y :: .int x :: rest) (hz : ((x.toUInt32 >>> (y &&& 31).toUInt32).toInt32) = z)
    (hr : Steps tb e below (T.setTop { g with pc := g.pc + 1, stack := .int z :: rest }) target) : Steps tb e below (T.setTop g) target := XS.iushr h hx hg hd hs (by rw [show ((x.toUInt32 >>> (y &&& 31).toUInt32).toInt32) = z from hz]; exact hr)
theorem Own.ladd (h : At T m c below) (hx : tb.exec = Jvm.exec) (hg : g.method = m) {x : Int64} {y : Int64} {z : Int64} (hd : decode c.code g.pc = .ok (.ladd, 1)) (hs : g.stack = .long y :: .long x :: rest) (hz : (x + y) = z)
    (hr : Steps tb e below (T.setTop { g with pc := g.pc + 1, stack := .long z :: rest }) target) : Steps tb e below (T.setTop g) target := XS.ladd h hx hg hd hs (by rw [show (x + y) = z from hz]; exact hr)
theorem Own.lsub (h : At T m c below) (hx : tb.exec = Jvm.exec) (hg : g.method = m) {x : Int64} {y : Int64} {z : Int64} (hd : decode c.code g.pc = .ok (.lsub, 1)) (hs : g.stack = .long y :: .long x :: rest) (hz : (x - y) = z)
    (hr : Steps tb e below (T.setTop { g with pc := g.pc + 1, stack := .long z :: rest }) target) : Steps tb e below (T.setTop g) target := XS.lsub h hx hg hd hs (by rw [show (x - y) = z from hz]; exact hr)
theorem Own.lmul (h : At T m c below) (hx : tb.exec = Jvm.exec) (hg : g.method = m) {x : Int64} {y : Int64} {z : Int64} (hd : decode c.code g.pc = .ok (.lmul, 1)) (hs : g.stack = .long y :: .long x :: rest) (hz : (x * y) = z)
    (hr : Steps tb e below (T.setTop { g with pc := g.pc + 1, stack := .long z :: rest }) target) : Steps tb e below (T.setTop g) target := XS.lmul h hx hg hd hs (by rw [show (x * y) = z from hz]; exact hr)
theorem Own.land (h : At T m c below) (hx : tb.exec = Jvm.exec) (hg : g.method = m) {x : Int64} {y : Int64} {z : Int64} (hd : decode c.code g.pc = .ok (.land, 1)) (hs : g.stack = .long y :: .long x :: rest) (hz : (x &&& y) = z)
    (hr : Steps tb e below (T.setTop { g with pc := g.pc + 1, stack := .long z :: rest }) target) : Steps tb e below (T.setTop g) target := XS.land h hx hg hd hs (by rw [show (x &&& y) = z from hz]; exact hr)
theorem Own.lor (h : At T m c below) (hx : tb.exec = Jvm.exec) (hg : g.method = m) {x : Int64} {y : Int64} {z : Int64} (hd : decode c.code g.pc = .ok (.lor, 1)) (hs : g.stack = .long y :: .long x :: rest) (hz : (x ||| y) = z)
    (hr : Steps tb e below (T.setTop { g with pc := g.pc + 1, stack := .long z :: rest }) target) : Steps tb e below (T.setTop g) target := XS.lor h hx hg hd hs (by rw [show (x ||| y) = z from hz]; exact hr)
theorem Own.lxor (h : At T m c below) (hx : tb.exec = Jvm.exec) (hg : g.method = m) {x : Int64} {y : Int64} {z : Int64} (hd : decode c.code g.pc = .ok (.lxor, 1)) (hs : g.stack = .long y :: .long x :: rest) (hz : (x ^^^ y) = z)
    (hr : Steps tb e below (T.setTop { g with pc := g.pc + 1, stack := .long z :: rest }) target) : Steps tb e below (T.setTop g) target := XS.lxor h hx hg hd hs (by rw [show (x ^^^ y) = z from hz]; exact hr)
theorem Own.lshl (h : At T m c below) (hx : tb.exec = Jvm.exec) (hg : g.method = m) {x : Int64} {y : Int32} {z : Int64} (hd : decode c.code g.pc = .ok (.lshl, 1)) (hs : g.stack = .int y :: .long x :: rest) (hz : (x <<< (y &&& 63).toInt64) = z)
    (hr : Steps tb e below (T.setTop { g with pc := g.pc + 1, stack := .long z :: rest }) target) : Steps tb e below (T.setTop g) target := XS.lshl h hx hg hd hs (by rw [show (x <<< (y &&& 63).toInt64) = z from hz]; exact hr)
theorem Own.lshr (h : At T m c below) (hx : tb.exec = Jvm.exec) (hg : g.method = m) {x : Int64} {y : Int32} {z : Int64} (hd : decode c.code g.pc = .ok (.lshr, 1)) (hs : g.stack = .int y :: .long x :: rest) (hz : (x >>> (y &&& 63).toInt64) = z)
    (hr : Steps tb e below (T.setTop { g with pc := g.pc + 1, stack := .long z :: rest }) target) : Steps tb e below (T.setTop g) target := XS.lshr h hx hg hd hs (by rw [show (x >>> (y &&& 63).toInt64) = z from hz]; exact hr)
theorem Own.lushr (h : At T m c below) (hx : tb.exec = Jvm.exec) (hg : g.method = m) {x : Int64} {y : Int32} {z : Int64} (hd : decode c.code g.pc = .ok (.lushr, 1)) (hs : g.stack = .int y :: .long x :: rest) (hz : ((x.toUInt64 >>> (y &&& 63).toInt64.toUInt64).toInt64) = z)
    (hr : Steps tb e below (T.setTop { g with pc := g.pc + 1, stack := .long z :: rest }) target) : Steps tb e below (T.setTop g) target := XS.lushr h hx hg hd hs (by rw [show ((x.toUInt64 >>> (y &&& 63).toInt64.toUInt64).toInt64) = z from hz]; exact hr)
theorem Own.lcmp (h : At T m c below) (hx : tb.exec = Jvm.exec) (hg : g.method = m) {x : Int64} {y : Int64} {z : Int32} (hd : decode c.code g.pc = .ok (.lcmp, 1)) (hs : g.stack = .long y :: .long x :: rest) (hz : lcmpW x y = z)
    (hr : Steps tb e below (T.setTop { g with pc := g.pc + 1, stack := .int z :: rest }) target) : Steps tb e below (T.setTop g) target := XS.lcmp h hx hg hd hs (by rw [show (if x > y then (1 : Int32) else if x = y then 0 else -1) = z from hz]; exact hr)
theorem Own.ineg (h : At T m c below) (hx : tb.exec = Jvm.exec) (hg : g.method = m) {x : Int32} {z : Int32} (hd : decode c.code g.pc = .ok (.ineg, 1)) (hs : g.stack = .int x :: rest) (hz : (-x) = z)
    (hr : Steps tb e below (T.setTop { g with pc := g.pc + 1, stack := .int z :: rest }) target) : Steps tb e below (T.setTop g) target := XS.ineg h hx hg hd hs (by rw [show (-x) = z from hz]; exact hr)
theorem Own.i2l (h : At T m c below) (hx : tb.exec = Jvm.exec) (hg : g.method = m) {x : Int32} {z : Int64} (hd : decode c.code g.pc = .ok (.i2l, 1)) (hs : g.stack = .int x :: rest) (hz : (x.toInt64) = z)
    (hr : Steps tb e below (T.setTop { g with pc := g.pc + 1, stack := .long z :: rest }) target) : Steps tb e below (T.setTop g) target := XS.i2l h hx hg hd hs (by rw [show (x.toInt64) = z from hz]; exact hr)
theorem Own.i2b (h : At T m c below) (hx : tb.exec = Jvm.exec) (hg : g.method = m) {x : Int32} {z : Int32} (hd : decode c.code g.pc = .ok (.i2b, 1)) (hs : g.stack = .int x :: rest) (hz : (x.toInt8.toInt32) = z)
    (hr : Steps tb e below (T.setTop { g with pc := g.pc + 1, stack := .int z :: rest }) target) : Steps tb e below (T.setTop g) target := XS.i2b h hx hg hd hs (by rw [show (x.toInt8.toInt32) = z from hz]; exact hr)
theorem Own.i2c (h : At T m c below) (hx : tb.exec = Jvm.exec) (hg : g.method = m) {x : Int32} {z : Int32} (hd : decode c.code g.pc = .ok (.i2c, 1)) (hs : g.stack = .int x :: rest) (hz : (x.toUInt32.toUInt16.toUInt32.toInt32) = z)
    (hr : Steps tb e below (T.setTop { g with pc := g.pc + 1, stack := .int z :: rest }) target) : Steps tb e below (T.setTop g) target := XS.i2c h hx hg hd hs (by rw [show (x.toUInt32.toUInt16.toUInt32.toInt32) = z from hz]; exact hr)
theorem Own.i2s (h : At T m c below) (hx : tb.exec = Jvm.exec) (hg : g.method = m) {x : Int32} {z : Int32} (hd : decode c.code g.pc = .ok (.i2s, 1)) (hs : g.stack = .int x :: rest) (hz : (x.toInt16.toInt32) = z)
    (hr : Steps tb e below (T.setTop { g with pc := g.pc + 1, stack := .int z :: rest }) target) : Steps tb e below (T.setTop g) target := XS.i2s h hx hg hd hs (by rw [show (x.toInt16.toInt32) = z from hz]; exact hr)
theorem Own.lneg (h : At T m c below) (hx : tb.exec = Jvm.exec) (hg : g.method = m) {x : Int64} {z : Int64} (hd : decode c.code g.pc = .ok (.lneg, 1)) (hs : g.stack = .long x :: rest) (hz : (-x) = z)
    (hr : Steps tb e below (T.setTop { g with pc := g.pc + 1, stack := .long z :: rest }) target) : Steps tb e below (T.setTop g) target := XS.lneg h hx hg hd hs (by rw [show (-x) = z from hz]; exact hr)
theorem Own.l2i (h : At T m c below) (hx : tb.exec = Jvm.exec) (hg : g.method = m) {x : Int64} {z : Int32} (hd : decode c.code g.pc = .ok (.l2i, 1)) (hs : g.stack = .long x :: rest) (hz : (x.toInt32) = z)
    (hr : Steps tb e below (T.setTop { g with pc := g.pc + 1, stack := .int z :: rest }) target) : Steps tb e below (T.setTop g) target := XS.l2i h hx hg hd hs (by rw [show (x.toInt32) = z from hz]; exact hr)
theorem Own.idiv (h : At T m c below) (hx : tb.exec = Jvm.exec) (hg : g.method = m) {x y z : Int32} (hd : decode c.code g.pc = .ok (.idiv, 1)) (hs : g.stack = .int y :: .int x :: rest) (hy : y ≠ 0) (hz : x / y = z)
    (hr : Steps tb e below (T.setTop { g with pc := g.pc + 1, stack := .int z :: rest }) target) : Steps tb e below (T.setTop g) target := XS.idiv h hx hg hd hs hy (by rw [hz]; exact hr)
theorem Own.iinc (h : At T m c below) (hx : tb.exec = Jvm.exec) (hg : g.method = m) {k : Nat} {cst : Int} {x z : Int32} {l' : Array Slot} (hd : decode c.code g.pc = .ok (.iinc k cst, 3)) (hl : g.locals[k]? = some (.val (.int x))) (hz : x + Int32.ofInt cst = z) (hl' : storeLocals g.locals k (.int z) = some l')
    (hr : Steps tb e below (T.setTop { g with pc := g.pc + 3, locals := l' }) target) : Steps tb e below (T.setTop g) target := XS.iinc h hx hg hd hl (by rw [hz]; exact hl') hr
theorem Own.iload (h : At T m c below) (hx : tb.exec = Jvm.exec) (hg : g.method = m) {k : Nat} {v z : Int32} (hd : decode c.code g.pc = .ok (.iload k, 2)) (hl : g.locals[k]? = some (.val (.int v))) (hz : v = z)
    (hr : Steps tb e below (T.setTop { g with pc := g.pc + 2, stack := .int z :: g.stack }) target) : Steps tb e below (T.setTop g) target := XS.iload h hx hg hd hl (by rw [hz]; exact hr)
theorem Own.iloadN (h : At T m c below) (hx : tb.exec = Jvm.exec) (hg : g.method = m) {k : Fin 4} {v z : Int32} (hd : decode c.code g.pc = .ok (.iload_n k, 1)) (hl : g.locals[k.val]? = some (.val (.int v))) (hz : v = z)
    (hr : Steps tb e below (T.setTop { g with pc := g.pc + 1, stack := .int z :: g.stack }) target) : Steps tb e below (T.setTop g) target := XS.iloadN h hx hg hd hl (by rw [hz]; exact hr)
end OwnSteps
theorem own_irem {p : Program} {l : Launch} {e : Env} {R : Room} {s : State} {m : MethodId} {args : Array Value} {below : List Frame} {meth : Method} {c : Code} {T : State} {locs : List Loc} {cells slots : Nat} {g : JFrame} {target : State} (X : Stand p l e R s m args below meth c T locs cells slots) (hx : p.tables.exec = Jvm.exec) (hg : g.method = m) {x y z : Int32} {rest : List Value} (hd : decode c.code g.pc = .ok (.irem, 1)) (hs : g.stack = .int y :: .int x :: rest) (hy : y ≠ 0) (hz : x % y = z)
    (hr : Steps p.tables e below (T.setTop { g with pc := g.pc + 1, stack := .int z :: rest }) target) : Steps p.tables e below (T.setTop g) target := iremM X hx hg hd hs hy (by rw [hz]; exact hr)
section OwnCalls
variable {p : Program} {l : Launch} {e : Env} {R : Room} {s : State} {m : MethodId} {args : Array Value} {below : List Frame} {meth : Method} {c : Code} {T : State} {locs : List Loc} {cells slots : Nat} {Z : State} {a0 : Array Value} {h : Heap}
theorem own_callS (X : Stand p l e R s m args below meth c T locs cells slots) (hx : p.tables.exec = Jvm.exec) (hZ : Z.Warmed39 s.vm) {own : String} {index W maxL : Nat} {y : MethodName} {bytes : ByteArray} {ret : Option FieldType} {rm : Room} {as' : Array Value} {Q : Option Value → Heap → List Loc → Prop}
    (hown : s.vm.findClass own = some m.cls) (w1 : (Jvm.Cond.methodLink own index y).before a0 Z = true) (w2 : (Jvm.Cond.static y).before a0 Z = true) (w3 : (Jvm.Cond.initialized y.cls).before a0 Z = true) (w4 : (Jvm.Cond.code y bytes maxL ret).before a0 Z = true) (hy : y.cls ≠ "java/lang/invoke/MethodHandle" ∧ y.cls ≠ "java/lang/invoke/VarHandle")
    (hM : MetFree l y (head1 [Jvm.Cond.code y bytes maxL ret] rm) (fun a U => a = as' ∧ Z.Warmed39 U.vm ∧ U.heap = h) (fun _ _ _ _ _ => True) (fun _ U o U' => ∃ v L, o = .returned v ∧ Q v U'.heap L ∧ FrameEnd U o U' L rm.cells rm.slots)) (eT : T.heap = h)
    {g : JFrame} (hg : g.method = m) (hsize : g.locals.size = c.maxLocals) {argsL rest : List Value} (hlen : ∀ sig, parseMethodDescriptor y.desc = some sig → argsL.length = sig.parameters.length) (hstack : g.stack = argsL.reverse ++ rest) (has : argsL.toArray = as') (hW : 2 * g.monitorRoom + (rest.map fun v => v.category).sum ≤ W)
    (hdg : decode c.code g.pc = .ok (.invokestatic index, 3)) (hf : rm.frames + 1 ≤ R.frames) (hl : W + (maxL + 11) + rm.locals ≤ R.locals) (hc : cells + rm.cells ≤ R.cells) (hs : slots + rm.slots ≤ R.slots) :
    ∃ (v : Option Value) (T' : State) (L : List Loc), Q v T'.heap L ∧ Stand p l e R s m args below meth c T' (locs ++ L) (cells + rm.cells) (slots + rm.slots) ∧ ∀ target, Steps p.tables e below (T'.setTop { g with pc := g.pc + 3, stack := v.toList ++ rest }) target → Steps p.tables e below (T.setTop g) target := by
  obtain ⟨v, _, ⟨T', L', c', s'⟩, -, X', ⟨L, hq, e1, e2, e3⟩, st⟩ := Jvm.LawKit.callS X hx hown (mvT hZ w1) (mvT hZ w2) (mvT hZ w3) (mvT hZ w4) hy (backOf (W := W) hM hZ w4 w3 hf hl) hg hsize hlen hstack hW hdg (fun _ _ => ⟨has, eT, hc, hs⟩)
  subst e1 e2 e3
  exact ⟨v, T', L, hq, X', st⟩
theorem own_special (X : Stand p l e R s m args below meth c T locs cells slots) (hx : p.tables.exec = Jvm.exec) (hZ : Z.Warmed39 s.vm) {own : String} {index W maxL : Nat} {y : MethodName} {bytes : ByteArray} {rm : Room} {as' : Array Value} {Q : Option Value → Heap → List Loc → Prop} (hy1 : y.name = "<init>")
    (hown : s.vm.findClass own = some m.cls) (w1 : (Jvm.Cond.methodLink own index y).before a0 Z = true) (w2 : (Jvm.Cond.instanceMethod y).before a0 Z = true) (w3 : (Jvm.Cond.initialized y.cls).before a0 Z = true) (w4 : (Jvm.Cond.code y bytes maxL none).before a0 Z = true) (hy : y.cls ≠ "java/lang/invoke/MethodHandle" ∧ y.cls ≠ "java/lang/invoke/VarHandle")
    (hM : MetFree l y (head1 [Jvm.Cond.code y bytes maxL none] rm) (fun a U => a = as' ∧ Z.Warmed39 U.vm ∧ U.heap = h) (fun _ _ _ _ _ => True) (fun _ U o U' => ∃ v L, o = .returned v ∧ Q v U'.heap L ∧ FrameEnd U o U' L rm.cells rm.slots)) (eT : T.heap = h)
    {g : JFrame} (hg : g.method = m) (hsize : g.locals.size = c.maxLocals) {a : Addr} {argsL rest : List Value} (hlen : ∀ sig, parseMethodDescriptor y.desc = some sig → argsL.length = sig.parameters.length) (hstack : g.stack = argsL.reverse ++ .ref a :: rest) (has : (.ref a :: argsL).toArray = as') (hW : 2 * g.monitorRoom + (rest.map fun v => v.category).sum ≤ W)
    (hdg : decode c.code g.pc = .ok (.invokespecial index, 3)) (hf : rm.frames + 1 ≤ R.frames) (hl : W + (maxL + 11) + rm.locals ≤ R.locals) (hc : cells + rm.cells ≤ R.cells) (hs : slots + rm.slots ≤ R.slots) :
    ∃ (v : Option Value) (T' : State) (L : List Loc), Q v T'.heap L ∧ Stand p l e R s m args below meth c T' (locs ++ L) (cells + rm.cells) (slots + rm.slots) ∧ ∀ target, Steps p.tables e below (T'.setTop { g with pc := g.pc + 3, stack := v.toList ++ rest }) target → Steps p.tables e below (T.setTop g) target := by
  obtain ⟨v, _, ⟨T', L', c', s'⟩, -, X', ⟨L, hq, e1, e2, e3⟩, st⟩ := X.specialBack hx hy1 hown (mvT hZ w1) (mvT hZ w2) (mvT hZ w4) hy (backOf (W := W) hM hZ w4 w3 hf hl) hg hsize (Steps.refl _) hlen hstack hW hdg (fun _ _ => ⟨has, eT, hc, hs⟩)
  subst e1 e2 e3
  exact ⟨v, T', L, hq, X', fun _ k => st.trans k⟩
theorem own_virtual (X : Stand p l e R s m args below meth c T locs cells slots) (hx : p.tables.exec = Jvm.exec) (hZ : Z.Warmed39 s.vm) {own C : String} {index W maxL : Nat} {y z : MethodName} {bytes : ByteArray} {ret : Option FieldType} {rm : Room} {as' : Array Value} {Q : Option Value → Heap → List Loc → Prop}
    (hown : s.vm.findClass own = some m.cls) (w1 : (Jvm.Cond.methodLink own index y).before a0 Z = true) (w2 : (Jvm.Cond.declares y).before a0 Z = true) (nf : NotFace s y) (w5 : (Jvm.Cond.selects C y z).before a0 Z = true) (w6 : (Jvm.Cond.instanceMethod z).before a0 Z = true) (w3 : (Jvm.Cond.initialized z.cls).before a0 Z = true) (w4 : (Jvm.Cond.code z bytes maxL ret).before a0 Z = true) (hy : y.cls ≠ "java/lang/invoke/MethodHandle" ∧ y.cls ≠ "java/lang/invoke/VarHandle")
    (hM : MetFree l z (head1 [Jvm.Cond.code z bytes maxL ret] rm) (fun a U => a = as' ∧ Z.Warmed39 U.vm ∧ U.heap = h) (fun _ _ _ _ _ => True) (fun _ U o U' => ∃ v L, o = .returned v ∧ Q v U'.heap L ∧ FrameEnd U o U' L rm.cells rm.slots)) (eT : T.heap = h) {b : Addr} (E : Exa Z h b C)
    {g : JFrame} (hg : g.method = m) (hsize : g.locals.size = c.maxLocals) {argsL rest : List Value} (hlen : ∀ sig, parseMethodDescriptor y.desc = some sig → argsL.length = sig.parameters.length) (hstack : g.stack = argsL.reverse ++ .ref b :: rest) (has : (.ref b :: argsL).toArray = as') (hW : 2 * g.monitorRoom + (rest.map fun v => v.category).sum ≤ W)
    (hdg : decode c.code g.pc = .ok (.invokevirtual index, 3)) (hf : rm.frames + 1 ≤ R.frames) (hl : W + (maxL + 11) + rm.locals ≤ R.locals) (hc : cells + rm.cells ≤ R.cells) (hs : slots + rm.slots ≤ R.slots) :
    ∃ (v : Option Value) (T' : State) (L : List Loc), Q v T'.heap L ∧ Stand p l e R s m args below meth c T' (locs ++ L) (cells + rm.cells) (slots + rm.slots) ∧ ∀ target, Steps p.tables e below (T'.setTop { g with pc := g.pc + 3, stack := v.toList ++ rest }) target → Steps p.tables e below (T.setTop g) target := by
  obtain ⟨cB, kB, qa, qb, qc⟩ := isOf hZ eT E
  obtain ⟨v, _, ⟨T', L', c', s'⟩, -, X', ⟨L, hq, e1, e2, e3⟩, st⟩ := X.virtualBack hx hown (mvT hZ w1) (mvT hZ w2) nf (mvT hZ w5) (mvT hZ w6) hy (backOf (W := W) hM hZ w4 w3 hf hl) qa qc hg hsize (Steps.refl _) hlen hstack hW hdg (fun _ _ => ⟨has, eT, hc, hs⟩)
  subst e1 e2 e3
  exact ⟨v, T', L, hq, X', fun _ k => st.trans k⟩
theorem own_virtualUp (X : Stand p l e R s m args below meth c T locs cells slots) (hx : p.tables.exec = Jvm.exec) (hZ : Z.Warmed39 s.vm) {own C owner : String} {index W maxL : Nat} {y z : MethodName} {bytes : ByteArray} {ret : Option FieldType} {rm : Room} {as' : Array Value} {Q : Option Value → Heap → List Loc → Prop}
    (hown : s.vm.findClass own = some m.cls) (w1 : (Jvm.Cond.methodLink own index y).before a0 Z = true) (w7 : (Jvm.Cond.sameMethod y.cls owner y.name y.desc).before a0 Z = true) (w2 : (Jvm.Cond.declares ⟨owner, y.name, y.desc⟩).before a0 Z = true) (hy : owner ≠ "java/lang/invoke/MethodHandle" ∧ owner ≠ "java/lang/invoke/VarHandle") (w5 : (Jvm.Cond.selects C y z).before a0 Z = true) (w6 : (Jvm.Cond.instanceMethod z).before a0 Z = true) (w3 : (Jvm.Cond.initialized z.cls).before a0 Z = true) (w4 : (Jvm.Cond.code z bytes maxL ret).before a0 Z = true)
    (hM : MetFree l z (head1 [Jvm.Cond.code z bytes maxL ret] rm) (fun a U => a = as' ∧ Z.Warmed39 U.vm ∧ U.heap = h) (fun _ _ _ _ _ => True) (fun _ U o U' => ∃ v L, o = .returned v ∧ Q v U'.heap L ∧ FrameEnd U o U' L rm.cells rm.slots)) (eT : T.heap = h) {b : Addr} (E : Exa Z h b C)
    {g : JFrame} (hg : g.method = m) (hsize : g.locals.size = c.maxLocals) {argsL rest : List Value} (hlen : ∀ sig, parseMethodDescriptor y.desc = some sig → argsL.length = sig.parameters.length) (hstack : g.stack = argsL.reverse ++ .ref b :: rest) (has : (.ref b :: argsL).toArray = as') (hW : 2 * g.monitorRoom + (rest.map fun v => v.category).sum ≤ W)
    (hdg : decode c.code g.pc = .ok (.invokevirtual index, 3)) (hf : rm.frames + 1 ≤ R.frames) (hl : W + (maxL + 11) + rm.locals ≤ R.locals) (hc : cells + rm.cells ≤ R.cells) (hs : slots + rm.slots ≤ R.slots) :
    ∃ (v : Option Value) (T' : State) (L : List Loc), Q v T'.heap L ∧ Stand p l e R s m args below meth c T' (locs ++ L) (cells + rm.cells) (slots + rm.slots) ∧ ∀ target, Steps p.tables e below (T'.setTop { g with pc := g.pc + 3, stack := v.toList ++ rest }) target → Steps p.tables e below (T.setTop g) target := by
  obtain ⟨cB, kB, qa, qb, qc⟩ := isOf hZ eT E
  obtain ⟨v, _, ⟨T', L', c', s'⟩, -, X', ⟨L, hq, e1, e2, e3⟩, st⟩ := X.virtualBackUp hx (owner := owner) hown (mvT hZ w1) (mvT hZ w7) (mvT hZ w2) hy (mvT hZ w5) (mvT hZ w6) (backOf (W := W) hM hZ w4 w3 hf hl) qa qc hg hsize (Steps.refl _) hlen hstack hW hdg (fun _ _ => ⟨has, eT, hc, hs⟩)
  subst e1 e2 e3
  exact ⟨v, T', L, hq, X', fun _ k => st.trans k⟩
theorem own_iface (X : Stand p l e R s m args below meth c T locs cells slots) (hx : p.tables.exec = Jvm.exec) (hZ : Z.Warmed39 s.vm) {own C : String} {index count W maxL : Nat} {y z : MethodName} {bytes : ByteArray} {ret : Option FieldType} {rm : Room} {as' : Array Value} {Q : Option Value → Heap → List Loc → Prop}
    (hown : s.vm.findClass own = some m.cls) (w1 : (Jvm.Cond.methodLink own index y).before a0 Z = true) (w2 : (Jvm.Cond.declares y).before a0 Z = true) (w7 : (Jvm.Cond.interfaceMethod y.cls y.cls y.name y.desc).before args s = true) (w5 : (Jvm.Cond.selects C y z).before a0 Z = true) (w6 : (Jvm.Cond.instanceMethod z).before a0 Z = true) (w8 : (Jvm.Cond.publicMethod z).before args s = true) (w9 : (Jvm.Cond.unhidden C y.name y.desc).before args s = true) (w10 : (Jvm.Cond.castable C y.cls).before a0 Z = true) (w3 : (Jvm.Cond.initialized z.cls).before a0 Z = true) (w4 : (Jvm.Cond.code z bytes maxL ret).before a0 Z = true) (hy : y.cls ≠ "java/lang/invoke/MethodHandle" ∧ y.cls ≠ "java/lang/invoke/VarHandle")
    (hM : MetFree l z (head1 [Jvm.Cond.code z bytes maxL ret] rm) (fun a U => a = as' ∧ Z.Warmed39 U.vm ∧ U.heap = h) (fun _ _ _ _ _ => True) (fun _ U o U' => ∃ v L, o = .returned v ∧ Q v U'.heap L ∧ FrameEnd U o U' L rm.cells rm.slots)) (eT : T.heap = h) {b : Addr} (E : Exa Z h b C)
    {g : JFrame} (hg : g.method = m) (hsize : g.locals.size = c.maxLocals) {argsL rest : List Value} (hlen : ∀ sig, parseMethodDescriptor y.desc = some sig → argsL.length = sig.parameters.length) (hstack : g.stack = argsL.reverse ++ .ref b :: rest) (has : (.ref b :: argsL).toArray = as') (hW : 2 * g.monitorRoom + (rest.map fun v => v.category).sum ≤ W)
    (hdg : decode c.code g.pc = .ok (.invokeinterface index count, 5)) (hf : rm.frames + 1 ≤ R.frames) (hl : W + (maxL + 11) + rm.locals ≤ R.locals) (hc : cells + rm.cells ≤ R.cells) (hs : slots + rm.slots ≤ R.slots) :
    ∃ (v : Option Value) (T' : State) (L : List Loc), Q v T'.heap L ∧ Stand p l e R s m args below meth c T' (locs ++ L) (cells + rm.cells) (slots + rm.slots) ∧ ∀ target, Steps p.tables e below (T'.setTop { g with pc := g.pc + 5, stack := v.toList ++ rest }) target → Steps p.tables e below (T.setTop g) target := by
  obtain ⟨cB, kB, qa, qb, qc⟩ := isOf hZ eT E
  obtain ⟨v, _, ⟨T', L', c', s'⟩, -, X', ⟨L, hq, e1, e2, e3⟩, st⟩ := X.interfaceBack hx hown (mvT hZ w1) (mvT hZ w2) w7 (mvT hZ w5) (mvT hZ w6) w8 w9 (mvT hZ w10) hy (backOf (W := W) hM hZ w4 w3 hf hl) qa qb qc hg hsize (Steps.refl _) hlen hstack hW hdg (fun _ _ => ⟨has, eT, hc, hs⟩)
  subst e1 e2 e3
  exact ⟨v, T', L, hq, X', fun _ k => st.trans k⟩
theorem own_private (X : Stand p l e R s m args below meth c T locs cells slots) (hx : p.tables.exec = Jvm.exec) (hZ : Z.Warmed39 s.vm) {own K : String} {index W maxL : Nat} {y : MethodName} {bytes : ByteArray} {ret : Option FieldType} {rm : Room} {as' : Array Value} {Q : Option Value → Heap → List Loc → Prop}
    (hown : s.vm.findClass own = some m.cls) (w1 : (Jvm.Cond.methodLink own index y).before a0 Z = true) (w2 : (Jvm.Cond.instanceMethod y).before a0 Z = true) (hsel : (Jvm.Cond.selects y.cls y y).before args s = true) (w6 : (Jvm.Cond.privateMethod y).before a0 Z = true) (w3 : (Jvm.Cond.initialized y.cls).before a0 Z = true) (w4 : (Jvm.Cond.code y bytes maxL ret).before a0 Z = true) (hy : y.cls ≠ "java/lang/invoke/MethodHandle" ∧ y.cls ≠ "java/lang/invoke/VarHandle")
    (hM : MetFree l y (head1 [Jvm.Cond.code y bytes maxL ret] rm) (fun a U => a = as' ∧ Z.Warmed39 U.vm ∧ U.heap = h) (fun _ _ _ _ _ => True) (fun _ U o U' => ∃ v L, o = .returned v ∧ Q v U'.heap L ∧ FrameEnd U o U' L rm.cells rm.slots)) (eT : T.heap = h) {b : Addr} (E : Exa Z h b K)
    {g : JFrame} (hg : g.method = m) (hsize : g.locals.size = c.maxLocals) {argsL rest : List Value} (hlen : ∀ sig, parseMethodDescriptor y.desc = some sig → argsL.length = sig.parameters.length) (hstack : g.stack = argsL.reverse ++ .ref b :: rest) (has : (.ref b :: argsL).toArray = as') (hW : 2 * g.monitorRoom + (rest.map fun v => v.category).sum ≤ W)
    (hdg : decode c.code g.pc = .ok (.invokevirtual index, 3)) (hf : rm.frames + 1 ≤ R.frames) (hl : W + (maxL + 11) + rm.locals ≤ R.locals) (hc : cells + rm.cells ≤ R.cells) (hs : slots + rm.slots ≤ R.slots) :
    ∃ (v : Option Value) (T' : State) (L : List Loc), Q v T'.heap L ∧ Stand p l e R s m args below meth c T' (locs ++ L) (cells + rm.cells) (slots + rm.slots) ∧ ∀ target, Steps p.tables e below (T'.setTop { g with pc := g.pc + 3, stack := v.toList ++ rest }) target → Steps p.tables e below (T.setTop g) target := by
  obtain ⟨cq, q, q'⟩ := E.cell
  obtain ⟨v, _, ⟨T', L', c', s'⟩, -, X', ⟨L, hq, e1, e2, e3⟩, st⟩ := X.privateBack hx hown (mvT hZ w1) (mvT hZ w2) hsel (Cond.privateMethod_at (mvP hZ w6 (args := #[]))) (mvT hZ w4) hy (backOf (W := W) hM hZ w4 w3 hf hl) hg hsize (Steps.refl _) (by rw [eT]; exact q) q' hlen hstack hW hdg (fun _ _ => ⟨has, eT, hc, hs⟩)
  subst e1 e2 e3
  exact ⟨v, T', L, hq, X', fun _ k => st.trans k⟩
theorem own_super (X : Stand p l e R s m args below meth c T locs cells slots) (hx : p.tables.exec = Jvm.exec) (hZ : Z.Warmed39 s.vm) {own K : String} {index W maxL : Nat} {y : MethodName} {bytes : ByteArray} {ret : Option FieldType} {rm : Room} {as' : Array Value} {Q : Option Value → Heap → List Loc → Prop}
    (hown : s.vm.findClass own = some m.cls) (w1 : (Jvm.Cond.methodLink own index y).before a0 Z = true) (w2 : (Jvm.Cond.sameMethod y.cls y.cls y.name y.desc).before a0 Z = true) (w5 : (Jvm.Cond.instanceMethod y).before a0 Z = true) (w6 : (Jvm.Cond.superclass own y.cls).before a0 Z = true) (hn : y.name ≠ "<init>") (w3 : (Jvm.Cond.initialized y.cls).before a0 Z = true) (w4 : (Jvm.Cond.code y bytes maxL ret).before a0 Z = true)
    (hM : MetFree l y (head1 [Jvm.Cond.code y bytes maxL ret] rm) (fun a U => a = as' ∧ Z.Warmed39 U.vm ∧ U.heap = h) (fun _ _ _ _ _ => True) (fun _ U o U' => ∃ v L, o = .returned v ∧ Q v U'.heap L ∧ FrameEnd U o U' L rm.cells rm.slots)) (eT : T.heap = h) {b : Addr} (E : Exa Z h b K)
    {g : JFrame} (hg : g.method = m) (hsize : g.locals.size = c.maxLocals) {argsL rest : List Value} (hlen : ∀ sig, parseMethodDescriptor y.desc = some sig → argsL.length = sig.parameters.length) (hstack : g.stack = argsL.reverse ++ .ref b :: rest) (has : (.ref b :: argsL).toArray = as') (hW : 2 * g.monitorRoom + (rest.map fun v => v.category).sum ≤ W)
    (hdg : decode c.code g.pc = .ok (.invokespecial index, 3)) (hf : rm.frames + 1 ≤ R.frames) (hl : W + (maxL + 11) + rm.locals ≤ R.locals) (hc : cells + rm.cells ≤ R.cells) (hs : slots + rm.slots ≤ R.slots) :
    ∃ (v : Option Value) (T' : State) (L : List Loc), Q v T'.heap L ∧ Stand p l e R s m args below meth c T' (locs ++ L) (cells + rm.cells) (slots + rm.slots) ∧ ∀ target, Steps p.tables e below (T'.setTop { g with pc := g.pc + 3, stack := v.toList ++ rest }) target → Steps p.tables e below (T.setTop g) target := by
  obtain ⟨v, _, ⟨T', L', c', s'⟩, -, X', ⟨L, hq, e1, e2, e3⟩, st⟩ := superBack X hx hZ hown w1 w2 w5 w6 hn (backOf (W := W) hM hZ w4 w3 hf hl) eT (Ins.self E) hg hsize w4 hlen hstack hW hdg (fun _ _ => ⟨has, eT, hc, hs⟩)
  subst e1 e2 e3
  exact ⟨v, T', L, hq, X', fun _ k => st.trans k⟩
end OwnCalls
section OwnHeap
variable {p : Program} {l : Launch} {e : Env} {R : Room} {s : State} {m : MethodId} {args : Array Value} {below : List Frame} {meth : Method} {c : Code} {T : State} {locs : List Loc} {cells slots : Nat} {Z : State} {a0 : Array Value} {h h0 : Heap} {n0 : Nat} {ws : List Addr}
theorem own_newO (X : Stand p l e R s m args below meth c T locs cells slots) (hx : p.tables.exec = Jvm.exec) (hZ : Z.Warmed39 s.vm) {own C : String} {index n : Nat} (hown : s.vm.findClass own = some m.cls) (w : (Jvm.Cond.classLink own index C).before a0 Z = true) (wi : (Jvm.Cond.instantiable C n).before a0 Z = true) (wz : (Jvm.Cond.initialized C).before a0 Z = true) (eT : T.heap = h) (O : Old Z n0 h) (K : Keep h0 h ws)
    {g : JFrame} (hg : g.method = m) (hd : decode c.code g.pc = .ok (.new index, 3)) (hc : cells + 1 ≤ R.cells) (hl : slots + n ≤ R.slots) :
    ∃ (T' : State) (h' : Heap) (b : Addr), Stand p l e R s m args below meth c T' locs (cells + 1) (slots + n) ∧ T'.heap = h' ∧ Ext h h' ∧ Exa Z h' b C ∧ (∀ {O nm d : String} {ty : FieldType}, Laid Z a0 C O nm d → parseFieldDescriptor d = some ty → Fld Z h' b O nm d (defaultValue ty)) ∧ h.size ≤ b ∧ Old Z n0 h' ∧ Keep h0 h' ws ∧
      ∀ target, Steps p.tables e below (T'.setTop { g with pc := g.pc + 3, stack := .ref b :: g.stack }) target → Steps p.tables e below (T.setTop g) target := by
  obtain ⟨T', h', X', e', E', A', D', -, st⟩ := newO X hx hZ hown w wi wz eT hg hd hc hl
  exact ⟨T', h', h.size, X', e', E', A', D', Nat.le_refl _, O.ext E', K.ext E', st⟩
theorem own_newP (X : Stand p l e R s m args below meth c T locs cells slots) (hx : p.tables.exec = Jvm.exec) (hZ : Z.Warmed39 s.vm) {aty : ArrayType} {ty : FieldType} {dv : Value} {vs : List Value} {cap : Nat} (hty : newarray.typeOf aty = ty) (hdv : defaultValue ty = dv) (hvs : List.replicate cap dv = vs) (w : (Jvm.Cond.arrayClass ty).before a0 Z = true) (eT : T.heap = h) (O : Old Z n0 h) (K : Keep h0 h ws) {g : JFrame} (hg : g.method = m) (hd : decode c.code g.pc = .ok (.newarray aty, 2)) {n : Int32} {rest : List Value} (hs : g.stack = .int n :: rest)
    (hn : ¬ n < 0) (hcap : n.toNatClampNeg ≤ cap) (hb : cap * 8 ≤ 536870912) (hc : cells + 1 ≤ R.cells) (hl : slots + cap ≤ R.slots) :
    ∃ (T' : State) (h' : Heap) (k : ClassId) (b : Addr), Stand p l e R s m args below meth c T' locs (cells + 1) (slots + cap) ∧ T'.heap = h' ∧ Ext h h' ∧ Arv Z h' b k ty n vs dv ∧ h.size ≤ b ∧ Old Z n0 h' ∧ Keep h0 h' ws ∧
      ∀ target, Steps p.tables e below (T'.setTop { g with pc := g.pc + 2, stack := .ref b :: rest }) target → Steps p.tables e below (T.setTop g) target := by
  subst hty hdv hvs
  obtain ⟨T', h', k, X', e', E', A', st⟩ := newP X hx hZ w eT hg hd hs hn hcap hb hc hl
  exact ⟨T', h', k, h.size, X', e', E', (Arv.new A' hn).pad (pad_rep [] _ cap), Nat.le_refl _, O.ext E', K.ext E', st⟩
theorem own_newR (X : Stand p l e R s m args below meth c T locs cells slots) (hx : p.tables.exec = Jvm.exec) (hZ : Z.Warmed39 s.vm) {own C : String} {index cap : Nat} {vs : List Value} (hvs : List.replicate cap .null = vs) (hown : s.vm.findClass own = some m.cls) (w1 : (Jvm.Cond.classLink own index C).before a0 Z = true) (w2 : (Jvm.Cond.arrayOver (.object C)).before a0 Z = true) (eT : T.heap = h) (O : Old Z n0 h) (K : Keep h0 h ws) {g : JFrame} (hg : g.method = m) (hd : decode c.code g.pc = .ok (.anewarray index, 3)) {n : Int32} {rest : List Value} (hs : g.stack = .int n :: rest)
    (hn : ¬ n < 0) (hcap : n.toNatClampNeg ≤ cap) (hb : cap * 8 ≤ 536870912) (hc : cells + 1 ≤ R.cells) (hl : slots + cap ≤ R.slots) :
    ∃ (T' : State) (h' : Heap) (k : ClassId) (b : Addr), Stand p l e R s m args below meth c T' locs (cells + 1) (slots + cap) ∧ T'.heap = h' ∧ Ext h h' ∧ Arv Z h' b k (.object C) n vs .null ∧ Ovr Z k C ∧ h.size ≤ b ∧ Old Z n0 h' ∧ Keep h0 h' ws ∧
      ∀ target, Steps p.tables e below (T'.setTop { g with pc := g.pc + 3, stack := .ref b :: rest }) target → Steps p.tables e below (T.setTop g) target := by
  subst hvs
  obtain ⟨T', h', k, X', e', E', A', O', st⟩ := newR X hx hZ hown w1 w2 eT hg hd hs hn hcap hb hc hl
  exact ⟨T', h', k, h.size, X', e', E', (Arv.new A' hn).pad (pad_rep [] _ cap), O', Nat.le_refl _, O.ext E', K.ext E', st⟩
theorem own_put (X : Stand p l e R s m args below meth c T locs cells slots) (hx : p.tables.exec = Jvm.exec) (hZ : Z.Warmed39 s.vm) {own R0 Ow n d host C : String} {index kk : Nat} {ty : FieldType} (hown : s.vm.findClass own = some m.cls) (w : (Jvm.Cond.fieldLink own index R0 n d).before a0 Z = true ∨ (Jvm.Cond.fieldLinkNest own index R0 n d host).before a0 Z = true) (via : Via Z R0 Ow n d)
    (eT : T.heap = h) (O : Old Z n0 h) (K : Keep h0 h ws) (N : Fr n0 locs) {a : Addr} (qn : n0 ≤ a) (qk : a ∈ ws ∨ h0.size ≤ a) {v old : Value} (F : Fld Z h a Ow n d old) (E : Exa Z h a C) (L : (Jvm.Cond.lays C Ow n d).before a0 Z = true ∨ ((Jvm.Cond.laysFinal C Ow n d).before a0 Z = true ∧ own = Ow ∧ meth.name = "<init>")) (wi : (Jvm.Cond.instantiable C kk).before a0 Z = true)
    (hty : parseFieldDescriptor d = some ty) (hn : narrow ty v = v) (hf : fits ty v = true) {g : JFrame} (hg : g.method = m) {rest : List Value} (hs : g.stack = v :: .ref a :: rest) (hd : decode c.code g.pc = .ok (.putfield index, 3)) :
    ∃ (T' : State) (h' : Heap) (L' : List Loc), Stand p l e R s m args below meth c T' L' cells slots ∧ T'.heap = h' ∧ Wr h h' a (Jvm.RoadKit.slotOf Z Ow n d) v ∧ Fld Z h' a Ow n d v ∧ Old Z n0 h' ∧ Keep h0 h' ws ∧ Fr n0 L' ∧ ∀ target, Steps p.tables e below (T'.setTop { g with pc := g.pc + 3, stack := rest }) target → Steps p.tables e below (T.setTop g) target := by
  obtain ⟨T', h', X', e', W', st⟩ := putF X hx hZ hown w via eT F E L wi hty hn hf hg hs hd
  exact ⟨T', h', _, X', e', W', F.same W', O.wr W' qn, K.wr W' qk, Fr.snoc X' N qn, st⟩
theorem own_putN (X : Stand p l e R s m args below meth c T locs cells slots) (hx : p.tables.exec = Jvm.exec) (hZ : Z.Warmed39 s.vm) {own R0 Ow n d C : String} {index kk : Nat} {ty : FieldType} (hown : s.vm.findClass own = some m.cls) (w : (Jvm.Cond.fieldLink own index R0 n d).before a0 Z = true) (via : Via Z R0 Ow n d)
    (eT : T.heap = h) (O : Old Z n0 h) (K : Keep h0 h ws) (N : Fr n0 locs) {a : Addr} (qn : n0 ≤ a) (qk : a ∈ ws ∨ h0.size ≤ a) {v v' old : Value} (F : Fld Z h a Ow n d old) (E : Exa Z h a C) (L : (Jvm.Cond.lays C Ow n d).before a0 Z = true ∨ ((Jvm.Cond.laysFinal C Ow n d).before a0 Z = true ∧ own = Ow ∧ meth.name = "<init>")) (wi : (Jvm.Cond.instantiable C kk).before a0 Z = true)
    (hty : parseFieldDescriptor d = some ty) (hn : narrow ty v = v') (hf : fits ty v' = true) {g : JFrame} (hg : g.method = m) {rest : List Value} (hs : g.stack = v :: .ref a :: rest) (hd : decode c.code g.pc = .ok (.putfield index, 3)) :
    ∃ (T' : State) (h' : Heap) (L' : List Loc), Stand p l e R s m args below meth c T' L' cells slots ∧ T'.heap = h' ∧ Wr h h' a (Jvm.RoadKit.slotOf Z Ow n d) v' ∧ Fld Z h' a Ow n d v' ∧ Old Z n0 h' ∧ Keep h0 h' ws ∧ Fr n0 L' ∧ ∀ target, Steps p.tables e below (T'.setTop { g with pc := g.pc + 3, stack := rest }) target → Steps p.tables e below (T.setTop g) target := by
  obtain ⟨T', h', X', e', W', st⟩ := putFN X hx hZ hown w via eT F E L wi hty hn hf hg hs hd
  exact ⟨T', h', _, X', e', W', F.same W', O.wr W' qn, K.wr W' qk, Fr.snoc X' N qn, st⟩
theorem own_stR (X : Stand p l e R s m args below meth c T locs cells slots) (hx : p.tables.exec = Jvm.exec) (hZ : Z.Warmed39 s.vm) (eT : T.heap = h) {a : Addr} {k : ClassId} {ty : FieldType} {n : Int32} {vs vs' : List Value} {dv : Value} (V : Arv Z h a k ty n vs dv) (O : Old Z n0 h) (K : Keep h0 h ws) (N : Fr n0 locs) (qn : n0 ≤ a) (qk : a ∈ ws ∨ h0.size ≤ a) {j : Int32} (i : Nat) (hj : ((¬ j < 0 ∧ j < n) ∧ j.toNatClampNeg = i)) (hi : i < vs.length) {v : Value} (hvs : vs.set i v = vs') (hty : ty.isReference = true) (hfv : fits ty v = true)
    (sto : v = .null ∨ ∃ (y : Addr) (C : String), v = .ref y ∧ Ovr Z k C ∧ Ins Z h y C true) {g : JFrame} (hg : g.method = m) {rest : List Value} (hs : g.stack = v :: .int j :: .ref a :: rest) (hd : decode c.code g.pc = .ok (.aastore, 1)) :
    ∃ (T' : State) (h' : Heap) (L' : List Loc), Stand p l e R s m args below meth c T' L' cells slots ∧ T'.heap = h' ∧ Wr h h' a j.toNatClampNeg v ∧ Arv Z h' a k ty n vs' dv ∧ Old Z n0 h' ∧ Keep h0 h' ws ∧ Fr n0 L' ∧ ∀ target, Steps p.tables e below (T'.setTop { g with pc := g.pc + 1, stack := rest }) target → Steps p.tables e below (T.setTop g) target := by
  subst hvs
  obtain ⟨cl, Ar, q, Sz, Ng, Hs, Gt⟩ := V
  obtain ⟨T', h', X', e', W', st⟩ := stR X hx hZ eT Ar (j := j) (inb_of Sz hj.1) hty (sto.elim Or.inl fun ⟨y, C, e1, e2, e3⟩ => e1 ▸ Sto.ofV Ar q e2 e3) hg hs hd
  exact ⟨T', h', _, X', e', W', Arv.set Ar q Sz Ng Hs Gt hfv W' i hj.2 hi, O.wr W' qn, K.wr W' qk, Fr.snoc X' N qn, st⟩
theorem own_stI (X : Stand p l e R s m args below meth c T locs cells slots) (hx : p.tables.exec = Jvm.exec) (hZ : Z.Warmed39 s.vm) (eT : T.heap = h) {a : Addr} {k : ClassId} {n : Int32} {vs vs' : List Value} {dv : Value} (V : Arv Z h a k .int n vs dv) (O : Old Z n0 h) (K : Keep h0 h ws) (N : Fr n0 locs) (qn : n0 ≤ a) (qk : a ∈ ws ∨ h0.size ≤ a) {j : Int32} (i : Nat) (hj : ((¬ j < 0 ∧ j < n) ∧ j.toNatClampNeg = i)) (hi : i < vs.length) {x : Int32} {v : Value} (hv : (.int x : Value) = v) (hvs : vs.set i v = vs')
    {g : JFrame} (hg : g.method = m) {rest : List Value} (hs : g.stack = .int x :: .int j :: .ref a :: rest) (hd : decode c.code g.pc = .ok (.iastore, 1)) :
    ∃ (T' : State) (h' : Heap) (L' : List Loc), Stand p l e R s m args below meth c T' L' cells slots ∧ T'.heap = h' ∧ Wr h h' a j.toNatClampNeg v ∧ Arv Z h' a k .int n vs' dv ∧ Old Z n0 h' ∧ Keep h0 h' ws ∧ Fr n0 L' ∧ ∀ target, Steps p.tables e below (T'.setTop { g with pc := g.pc + 1, stack := rest }) target → Steps p.tables e below (T.setTop g) target := by
  subst hv hvs
  obtain ⟨cl, Ar, q, Sz, Ng, Hs, Gt⟩ := V
  obtain ⟨T', h', X', e', W', st⟩ := stI X hx hZ eT Ar (j := j) (inb_of Sz hj.1) hg hs hd
  exact ⟨T', h', _, X', e', W', Arv.set Ar q Sz Ng Hs Gt rfl W' i hj.2 hi, O.wr W' qn, K.wr W' qk, Fr.snoc X' N qn, st⟩
theorem own_stJ (X : Stand p l e R s m args below meth c T locs cells slots) (hx : p.tables.exec = Jvm.exec) (hZ : Z.Warmed39 s.vm) (eT : T.heap = h) {a : Addr} {k : ClassId} {n : Int32} {vs vs' : List Value} {dv : Value} (V : Arv Z h a k .long n vs dv) (O : Old Z n0 h) (K : Keep h0 h ws) (N : Fr n0 locs) (qn : n0 ≤ a) (qk : a ∈ ws ∨ h0.size ≤ a) {j : Int32} (i : Nat) (hj : ((¬ j < 0 ∧ j < n) ∧ j.toNatClampNeg = i)) (hi : i < vs.length) {x : Int64} {v : Value} (hv : (.long x : Value) = v) (hvs : vs.set i v = vs')
    {g : JFrame} (hg : g.method = m) {rest : List Value} (hs : g.stack = .long x :: .int j :: .ref a :: rest) (hd : decode c.code g.pc = .ok (.lastore, 1)) :
    ∃ (T' : State) (h' : Heap) (L' : List Loc), Stand p l e R s m args below meth c T' L' cells slots ∧ T'.heap = h' ∧ Wr h h' a j.toNatClampNeg v ∧ Arv Z h' a k .long n vs' dv ∧ Old Z n0 h' ∧ Keep h0 h' ws ∧ Fr n0 L' ∧ ∀ target, Steps p.tables e below (T'.setTop { g with pc := g.pc + 1, stack := rest }) target → Steps p.tables e below (T.setTop g) target := by
  subst hv hvs
  obtain ⟨cl, Ar, q, Sz, Ng, Hs, Gt⟩ := V
  obtain ⟨T', h', X', e', W', st⟩ := stJ X hx hZ eT Ar (j := j) (inb_of Sz hj.1) hg hs hd
  exact ⟨T', h', _, X', e', W', Arv.set Ar q Sz Ng Hs Gt rfl W' i hj.2 hi, O.wr W' qn, K.wr W' qk, Fr.snoc X' N qn, st⟩
theorem own_stC (X : Stand p l e R s m args below meth c T locs cells slots) (hx : p.tables.exec = Jvm.exec) (hZ : Z.Warmed39 s.vm) (eT : T.heap = h) {a : Addr} {k : ClassId} {n : Int32} {vs vs' : List Value} {dv : Value} (V : Arv Z h a k .char n vs dv) (O : Old Z n0 h) (K : Keep h0 h ws) (N : Fr n0 locs) (qn : n0 ≤ a) (qk : a ∈ ws ∨ h0.size ≤ a) {j : Int32} (i : Nat) (hj : ((¬ j < 0 ∧ j < n) ∧ j.toNatClampNeg = i)) (hi : i < vs.length) {x : Int32} {v : Value} (hv : (.int (nar .char x) : Value) = v) (hvs : vs.set i v = vs')
    {g : JFrame} (hg : g.method = m) {rest : List Value} (hs : g.stack = .int x :: .int j :: .ref a :: rest) (hd : decode c.code g.pc = .ok (.castore, 1)) :
    ∃ (T' : State) (h' : Heap) (L' : List Loc), Stand p l e R s m args below meth c T' L' cells slots ∧ T'.heap = h' ∧ Wr h h' a j.toNatClampNeg v ∧ Arv Z h' a k .char n vs' dv ∧ Old Z n0 h' ∧ Keep h0 h' ws ∧ Fr n0 L' ∧ ∀ target, Steps p.tables e below (T'.setTop { g with pc := g.pc + 1, stack := rest }) target → Steps p.tables e below (T.setTop g) target := by
  subst hv hvs
  obtain ⟨cl, Ar, q, Sz, Ng, Hs, Gt⟩ := V
  obtain ⟨T', h', X', e', W', st⟩ := stC X hx hZ eT Ar (j := j) (inb_of Sz hj.1) hg hs hd
  exact ⟨T', h', _, X', e', W', Arv.set Ar q Sz Ng Hs Gt (fits_nar_char _) W' i hj.2 hi, O.wr W' qn, K.wr W' qk, Fr.snoc X' N qn, st⟩
theorem own_stS (X : Stand p l e R s m args below meth c T locs cells slots) (hx : p.tables.exec = Jvm.exec) (hZ : Z.Warmed39 s.vm) (eT : T.heap = h) {a : Addr} {k : ClassId} {n : Int32} {vs vs' : List Value} {dv : Value} (V : Arv Z h a k .short n vs dv) (O : Old Z n0 h) (K : Keep h0 h ws) (N : Fr n0 locs) (qn : n0 ≤ a) (qk : a ∈ ws ∨ h0.size ≤ a) {j : Int32} (i : Nat) (hj : ((¬ j < 0 ∧ j < n) ∧ j.toNatClampNeg = i)) (hi : i < vs.length) {x : Int32} {v : Value} (hv : (.int (nar .short x) : Value) = v) (hvs : vs.set i v = vs')
    {g : JFrame} (hg : g.method = m) {rest : List Value} (hs : g.stack = .int x :: .int j :: .ref a :: rest) (hd : decode c.code g.pc = .ok (.sastore, 1)) :
    ∃ (T' : State) (h' : Heap) (L' : List Loc), Stand p l e R s m args below meth c T' L' cells slots ∧ T'.heap = h' ∧ Wr h h' a j.toNatClampNeg v ∧ Arv Z h' a k .short n vs' dv ∧ Old Z n0 h' ∧ Keep h0 h' ws ∧ Fr n0 L' ∧ ∀ target, Steps p.tables e below (T'.setTop { g with pc := g.pc + 1, stack := rest }) target → Steps p.tables e below (T.setTop g) target := by
  subst hv hvs
  obtain ⟨cl, Ar, q, Sz, Ng, Hs, Gt⟩ := V
  obtain ⟨T', h', X', e', W', st⟩ := stS X hx hZ eT Ar (j := j) (inb_of Sz hj.1) hg hs hd
  exact ⟨T', h', _, X', e', W', Arv.set Ar q Sz Ng Hs Gt (fits_nar_short _) W' i hj.2 hi, O.wr W' qn, K.wr W' qk, Fr.snoc X' N qn, st⟩
theorem own_stB (X : Stand p l e R s m args below meth c T locs cells slots) (hx : p.tables.exec = Jvm.exec) (hZ : Z.Warmed39 s.vm) (eT : T.heap = h) {a : Addr} {k : ClassId} {n : Int32} {vs vs' : List Value} {dv : Value} (V : Arv Z h a k .byte n vs dv) (O : Old Z n0 h) (K : Keep h0 h ws) (N : Fr n0 locs) (qn : n0 ≤ a) (qk : a ∈ ws ∨ h0.size ≤ a) {j : Int32} (i : Nat) (hj : ((¬ j < 0 ∧ j < n) ∧ j.toNatClampNeg = i)) (hi : i < vs.length) {x : Int32} {v : Value} (hv : (.int (nar .byte x) : Value) = v) (hvs : vs.set i v = vs')
    {g : JFrame} (hg : g.method = m) {rest : List Value} (hs : g.stack = .int x :: .int j :: .ref a :: rest) (hd : decode c.code g.pc = .ok (.bastore, 1)) :
    ∃ (T' : State) (h' : Heap) (L' : List Loc), Stand p l e R s m args below meth c T' L' cells slots ∧ T'.heap = h' ∧ Wr h h' a j.toNatClampNeg v ∧ Arv Z h' a k .byte n vs' dv ∧ Old Z n0 h' ∧ Keep h0 h' ws ∧ Fr n0 L' ∧ ∀ target, Steps p.tables e below (T'.setTop { g with pc := g.pc + 1, stack := rest }) target → Steps p.tables e below (T.setTop g) target := by
  subst hv hvs
  obtain ⟨cl, Ar, q, Sz, Ng, Hs, Gt⟩ := V
  obtain ⟨T', h', X', e', W', st⟩ := stB X hx hZ eT Ar (j := j) (inb_of Sz hj.1) hg hs hd
  exact ⟨T', h', _, X', e', W', Arv.set Ar q Sz Ng Hs Gt (fits_nar_byte _) W' i hj.2 hi, O.wr W' qn, K.wr W' qk, Fr.snoc X' N qn, st⟩
theorem own_stZ (X : Stand p l e R s m args below meth c T locs cells slots) (hx : p.tables.exec = Jvm.exec) (hZ : Z.Warmed39 s.vm) (eT : T.heap = h) {a : Addr} {k : ClassId} {n : Int32} {vs vs' : List Value} {dv : Value} (V : Arv Z h a k .boolean n vs dv) (O : Old Z n0 h) (K : Keep h0 h ws) (N : Fr n0 locs) (qn : n0 ≤ a) (qk : a ∈ ws ∨ h0.size ≤ a) {j : Int32} (i : Nat) (hj : ((¬ j < 0 ∧ j < n) ∧ j.toNatClampNeg = i)) (hi : i < vs.length) {x : Int32} {v : Value} (hv : (.int (nar .boolean x) : Value) = v) (hvs : vs.set i v = vs')
    {g : JFrame} (hg : g.method = m) {rest : List Value} (hs : g.stack = .int x :: .int j :: .ref a :: rest) (hd : decode c.code g.pc = .ok (.bastore, 1)) :
    ∃ (T' : State) (h' : Heap) (L' : List Loc), Stand p l e R s m args below meth c T' L' cells slots ∧ T'.heap = h' ∧ Wr h h' a j.toNatClampNeg v ∧ Arv Z h' a k .boolean n vs' dv ∧ Old Z n0 h' ∧ Keep h0 h' ws ∧ Fr n0 L' ∧ ∀ target, Steps p.tables e below (T'.setTop { g with pc := g.pc + 1, stack := rest }) target → Steps p.tables e below (T.setTop g) target := by
  subst hv hvs
  obtain ⟨cl, Ar, q, Sz, Ng, Hs, Gt⟩ := V
  obtain ⟨T', h', X', e', W', st⟩ := stZ X hx hZ eT Ar (j := j) (inb_of Sz hj.1) hg hs hd
  exact ⟨T', h', _, X', e', W', Arv.set Ar q Sz Ng Hs Gt (fits_nar_bool _) W' i hj.2 hi, O.wr W' qn, K.wr W' qk, Fr.snoc X' N qn, st⟩
theorem own_iaload (X : Stand p l e R s m args below meth c T locs cells slots) (hx : p.tables.exec = Jvm.exec) (hZ : Z.Warmed39 s.vm) (eT : T.heap = h) {a : Addr} {k : ClassId} {n : Int32} {vs : List Value} {dv : Value} (V : Arv Z h a k .int n vs dv) {j : Int32} (hj : ¬ j < 0 ∧ j < n) {v : Value} (hv : vs.getD j.toNatClampNeg dv = v)
    {g : JFrame} (hg : g.method = m) {rest : List Value} (hs : g.stack = .int j :: .ref a :: rest) (hd : decode c.code g.pc = .ok (.iaload, 1)) {target : State} (hr : Steps p.tables e below (T.setTop { g with pc := g.pc + 1, stack := v :: rest }) target) : Steps p.tables e below (T.setTop g) target := by
  obtain ⟨cl, Ar, q, Sz, Ng, Hs, Gt⟩ := V
  exact X.iaload hx (by rw [eT]; exact Ar.1) (State.isArrayOf_alike hZ.alike Ar.2.1) Ar.2.2 (inb_of Sz hj) (Hs.at (inb_of Sz hj) hv) hg hs hd _ hr
theorem own_laload (X : Stand p l e R s m args below meth c T locs cells slots) (hx : p.tables.exec = Jvm.exec) (hZ : Z.Warmed39 s.vm) (eT : T.heap = h) {a : Addr} {k : ClassId} {n : Int32} {vs : List Value} {dv : Value} (V : Arv Z h a k .long n vs dv) {j : Int32} (hj : ¬ j < 0 ∧ j < n) {v : Value} (hv : vs.getD j.toNatClampNeg dv = v)
    {g : JFrame} (hg : g.method = m) {rest : List Value} (hs : g.stack = .int j :: .ref a :: rest) (hd : decode c.code g.pc = .ok (.laload, 1)) {target : State} (hr : Steps p.tables e below (T.setTop { g with pc := g.pc + 1, stack := v :: rest }) target) : Steps p.tables e below (T.setTop g) target := by
  obtain ⟨cl, Ar, q, Sz, Ng, Hs, Gt⟩ := V
  exact X.laload hx (by rw [eT]; exact Ar.1) (State.isArrayOf_alike hZ.alike Ar.2.1) Ar.2.2 (inb_of Sz hj) (Hs.at (inb_of Sz hj) hv) hg hs hd _ hr
theorem own_caload (X : Stand p l e R s m args below meth c T locs cells slots) (hx : p.tables.exec = Jvm.exec) (hZ : Z.Warmed39 s.vm) (eT : T.heap = h) {a : Addr} {k : ClassId} {n : Int32} {vs : List Value} {dv : Value} (V : Arv Z h a k .char n vs dv) {j : Int32} (hj : ¬ j < 0 ∧ j < n) {v : Value} (hv : vs.getD j.toNatClampNeg dv = v)
    {g : JFrame} (hg : g.method = m) {rest : List Value} (hs : g.stack = .int j :: .ref a :: rest) (hd : decode c.code g.pc = .ok (.caload, 1)) {target : State} (hr : Steps p.tables e below (T.setTop { g with pc := g.pc + 1, stack := v :: rest }) target) : Steps p.tables e below (T.setTop g) target := by
  obtain ⟨cl, Ar, q, Sz, Ng, Hs, Gt⟩ := V
  exact X.caload hx (by rw [eT]; exact Ar.1) (State.isArrayOf_alike hZ.alike Ar.2.1) Ar.2.2 (inb_of Sz hj) (Hs.at (inb_of Sz hj) hv) hg hs hd _ hr
theorem own_saload (X : Stand p l e R s m args below meth c T locs cells slots) (hx : p.tables.exec = Jvm.exec) (hZ : Z.Warmed39 s.vm) (eT : T.heap = h) {a : Addr} {k : ClassId} {n : Int32} {vs : List Value} {dv : Value} (V : Arv Z h a k .short n vs dv) {j : Int32} (hj : ¬ j < 0 ∧ j < n) {v : Value} (hv : vs.getD j.toNatClampNeg dv = v)
    {g : JFrame} (hg : g.method = m) {rest : List Value} (hs : g.stack = .int j :: .ref a :: rest) (hd : decode c.code g.pc = .ok (.saload, 1)) {target : State} (hr : Steps p.tables e below (T.setTop { g with pc := g.pc + 1, stack := v :: rest }) target) : Steps p.tables e below (T.setTop g) target := by
  obtain ⟨cl, Ar, q, Sz, Ng, Hs, Gt⟩ := V
  exact X.saload hx (by rw [eT]; exact Ar.1) (State.isArrayOf_alike hZ.alike Ar.2.1) Ar.2.2 (inb_of Sz hj) (Hs.at (inb_of Sz hj) hv) hg hs hd _ hr
theorem own_baloadB (X : Stand p l e R s m args below meth c T locs cells slots) (hx : p.tables.exec = Jvm.exec) (hZ : Z.Warmed39 s.vm) (eT : T.heap = h) {a : Addr} {k : ClassId} {n : Int32} {vs : List Value} {dv : Value} (V : Arv Z h a k .byte n vs dv) {j : Int32} (hj : ¬ j < 0 ∧ j < n) {v : Value} (hv : vs.getD j.toNatClampNeg dv = v)
    {g : JFrame} (hg : g.method = m) {rest : List Value} (hs : g.stack = .int j :: .ref a :: rest) (hd : decode c.code g.pc = .ok (.baload, 1)) {target : State} (hr : Steps p.tables e below (T.setTop { g with pc := g.pc + 1, stack := v :: rest }) target) : Steps p.tables e below (T.setTop g) target := by
  obtain ⟨cl, Ar, q, Sz, Ng, Hs, Gt⟩ := V
  exact X.baloadBytes hx (by rw [eT]; exact Ar.1) (State.isArrayOf_alike hZ.alike Ar.2.1) Ar.2.2 (inb_of Sz hj) (Hs.at (inb_of Sz hj) hv) hg hs hd _ hr
theorem own_baloadZ (X : Stand p l e R s m args below meth c T locs cells slots) (hx : p.tables.exec = Jvm.exec) (hZ : Z.Warmed39 s.vm) (eT : T.heap = h) {a : Addr} {k : ClassId} {n : Int32} {vs : List Value} {dv : Value} (V : Arv Z h a k .boolean n vs dv) {j : Int32} (hj : ¬ j < 0 ∧ j < n) {v : Value} (hv : vs.getD j.toNatClampNeg dv = v)
    {g : JFrame} (hg : g.method = m) {rest : List Value} (hs : g.stack = .int j :: .ref a :: rest) (hd : decode c.code g.pc = .ok (.baload, 1)) {target : State} (hr : Steps p.tables e below (T.setTop { g with pc := g.pc + 1, stack := v :: rest }) target) : Steps p.tables e below (T.setTop g) target := by
  obtain ⟨cl, Ar, q, Sz, Ng, Hs, Gt⟩ := V
  exact X.baloadBooleans hx (by rw [eT]; exact Ar.1) (State.isArrayOf_alike hZ.alike Ar.2.1) Ar.2.2 (inb_of Sz hj) (Hs.at (inb_of Sz hj) hv) hg hs hd _ hr
theorem own_aaload (X : Stand p l e R s m args below meth c T locs cells slots) (hx : p.tables.exec = Jvm.exec) (hZ : Z.Warmed39 s.vm) (eT : T.heap = h) {a : Addr} {k : ClassId} {ty : FieldType} {n : Int32} {vs : List Value} {dv : Value} (V : Arv Z h a k ty n vs dv) {j : Int32} (hj : ¬ j < 0 ∧ j < n) {v : Value} (hv : vs.getD j.toNatClampNeg dv = v) (hty : ty.isReference = true)
    {g : JFrame} (hg : g.method = m) {rest : List Value} (hs : g.stack = .int j :: .ref a :: rest) (hd : decode c.code g.pc = .ok (.aaload, 1)) {target : State} (hr : Steps p.tables e below (T.setTop { g with pc := g.pc + 1, stack := v :: rest }) target) : Steps p.tables e below (T.setTop g) target := by
  obtain ⟨cl, Ar, q, Sz, Ng, Hs, Gt⟩ := V
  exact X.aaload hx (by rw [eT]; exact Ar.1) (State.isArrayOf_alike hZ.alike Ar.2.1) hty Ar.2.2 (inb_of Sz hj) (Hs.at (inb_of Sz hj) hv) hg hs hd _ hr
theorem own_alen (X : Stand p l e R s m args below meth c T locs cells slots) (hx : p.tables.exec = Jvm.exec) (hZ : Z.Warmed39 s.vm) (eT : T.heap = h) {a : Addr} {k : ClassId} {ty : FieldType} {n : Int32} {vs : List Value} {dv : Value} (V : Arv Z h a k ty n vs dv)
    {g : JFrame} (hg : g.method = m) {rest : List Value} (hs : g.stack = .ref a :: rest) (hd : decode c.code g.pc = .ok (.arraylength, 1)) {target : State} (hr : Steps p.tables e below (T.setTop { g with pc := g.pc + 1, stack := .int n :: rest }) target) : Steps p.tables e below (T.setTop g) target := by
  obtain ⟨cl, Ar, q, Sz, Ng, Hs, Gt⟩ := V
  exact X.arraylength hx (by rw [eT]; exact Ar.1) (State.isArrayOf_alike hZ.alike Ar.2.1) hg hs hd _ (by rw [len_of Sz Ng]; exact hr)
end OwnHeap
theorem own_irr (x : Int32) : ¬ (x < x) := Int32.lt_irrefl
theorem own_irrL (x : Int64) : ¬ (x < x) := Int64.lt_irrefl
theorem own_lc_lt {x y : Int64} (h : x < y) : lcmpW x y = (-1 : Int32) := Int32.toInt_inj.mp ((c_lcmp x y).1 (Int64.lt_iff_toInt_lt.mp h))
theorem own_lc_eq {x y : Int64} (h : x = y) : lcmpW x y = (0 : Int32) := Int32.toInt_inj.mp ((c_lcmp x y).2.1 (congrArg _ h))
theorem own_lc_gt {x y : Int64} (h : ¬ (x < y)) (h' : ¬ (x = y)) : lcmpW x y = (1 : Int32) := Int32.toInt_inj.mp ((c_lcmp x y).2.2 (by
  have h1 : ¬ (x.toInt < y.toInt) := fun q => h (Int64.lt_iff_toInt_lt.mpr q)
  have h2 : ¬ (x.toInt = y.toInt) := fun q => h' (Int64.toInt_inj.mp q)
  omega))
theorem own_old_le {Z : State} {n0 : Nat} {h : Heap} (O : Old Z n0 h) : n0 ≤ h.size := O.1 ▸ O.2.1
theorem own_fld {Z : State} {args : Array Value} {t : Term} {a : Addr} {C n d : String} {z : Int32} (ev : t.eval args Z none [] Z = some (.ref a)) (h : (Jvm.Cond.eq (Term.field t C n d) (Term.int z)).value args Z none Z [] = some true) : Fld Z Z.heap a C n d (.int z) := by
  refine Fld.start ?_
  obtain ⟨x, y, e1, e2, k1, -⟩ := cmp_v (Or.inl h)
  rw [fld_at ev] at e1
  cases (Term.int_eval z).symm.trans e2
  have hx : ∃ q, x = .int q := by cases x <;> simp [Kin, Value.isRef] at k1 ⊢
  obtain ⟨q, rfl⟩ := hx
  have := gotT (P := q = z) (by simp [Cond.value, fld_at ev, e1, Term.int_eval]) h
  rw [e1, this]
theorem own_sta {Z : State} {args : Array Value} {C n d : String} {z : Int32} (h : (Jvm.Cond.eq (Term.static C n d) (Term.int z)).value args Z none Z [] = some true) : (Term.static C n d).eval args Z none [] Z = some (.int z) := by
  obtain ⟨x, y, e1, e2, k1, -⟩ := cmp_v (Or.inl h)
  cases (Term.int_eval z).symm.trans e2
  have hx : ∃ q, x = .int q := by cases x <;> simp [Kin, Value.isRef] at k1 ⊢
  obtain ⟨q, rfl⟩ := hx
  have := gotT (P := q = z) (by simp [Cond.value, e1, Term.int_eval]) h
  rw [e1, this]
theorem own_fldL {Z : State} {args : Array Value} {t : Term} {a : Addr} {C n d : String} {z : Int64} (ev : t.eval args Z none [] Z = some (.ref a)) (h : (Jvm.Cond.eq (Term.field t C n d) (Term.long z)).value args Z none Z [] = some true) : Fld Z Z.heap a C n d (.long z) := by
  refine Fld.start ?_
  obtain ⟨x, y, e1, e2, k1, -⟩ := cmp_v (Or.inl h)
  rw [fld_at ev] at e1
  cases (long_at z).symm.trans e2
  have hx : ∃ q, x = .long q := by cases x <;> simp [Kin, Value.isRef] at k1 ⊢
  obtain ⟨q, rfl⟩ := hx
  have := gotT (P := q = z) (eq_L (by rw [fld_at ev]; exact e1) (long_at z)) h
  rw [e1, this]
theorem own_len {Z : State} {args : Array Value} {t : Term} {a : Addr} {cl : Cell} {ty : FieldType} {z : Int32} (ev : t.eval args Z none [] Z = some (.ref a)) (A : Arr Z Z.heap a cl ty) (h : (Jvm.Cond.eq (Term.length t) (Term.int z)).value args Z none Z [] = some true) : cl.slots.size < 2 ^ 31 ∧ cl.slots.size.toInt32 = z := by
  obtain ⟨x, y, e1, e2, k1, -⟩ := cmp_v (Or.inl h)
  cases (Term.int_eval z).symm.trans e2
  have harr := A.fin (Vm.Alike.refl _)
  have h31 := SBG.length_lt ev harr e1
  refine ⟨h31, ?_⟩
  rw [len_f ev harr h31] at e1
  cases Option.some.inj e1
  exact gotT (P := cl.slots.size.toInt32 = z) (by simp [Cond.value, len_f ev harr h31, Term.int_eval]) h
theorem own_el {Z : State} {args : Array Value} {t u : Term} {a : Addr} {cl : Cell} {ty : FieldType} {j : Int32} {v : Value} (ev : t.eval args Z none [] Z = some (.ref a)) (A : Arr Z Z.heap a cl ty) (hu : u.eval args Z none [] Z = some v) (hr : v.isRef = true) (h : (Jvm.Cond.eq (Term.elem t (Term.int j)) u).value args Z none Z [] = some true) : cl.slots[j.toNatClampNeg]? = some v := by
  obtain ⟨x, y, e1, e2, k1, k2⟩ := cmp_v (Or.inl h)
  cases hu.symm.trans e2
  have hx : x.isRef = true := by rcases ref_cases hr with rfl | ⟨q, rfl⟩ <;> simp [Kin] at k2 <;> exact k2.2
  have := gotT (eq_R e1 hu hx hr) h
  subst this
  exact (elem_in e1 ev (Term.int_eval j) A.1).2
theorem own_rng (x : Int32) : -2147483648 ≤ x.toInt ∧ x.toInt ≤ 2147483647 := by have := rng32 x; omega
theorem own_mask (x m : Int32) {n : Int} (h : m.toInt = n ∧ 0 ≤ n) : 0 ≤ (x &&& m).toInt ∧ (x &&& m).toInt ≤ n := by have := c_and x m (by omega); omega
theorem own_rem (x y : Int32) (d : Int) {lo hi l h : Int} (hy : y.toInt = d ∧ 0 < d) (hx : lo ≤ x.toInt ∧ x.toInt ≤ hi) (q : (0 ≤ lo ∧ l = 0 ∧ d - 1 ≤ h) ∨ (l = -(d - 1) ∧ h = d - 1)) : l ≤ (x % y).toInt ∧ (x % y).toInt ≤ h := by
  have := c_iremV x y
  rcases Int.lt_or_le x.toInt 0 with g | g
  · have := this.2 g (by omega); omega
  · have := this.1 g (by omega); omega
theorem own_isub (x y : Int32) (d : Int) {lo hi l h : Int} (hy : y.toInt = d) (hx : lo ≤ x.toInt ∧ x.toInt ≤ hi) (q : l = lo - d ∧ h = hi - d ∧ -2147483648 ≤ l ∧ h ≤ 2147483647) : l ≤ (x - y).toInt ∧ (x - y).toInt ≤ h := by have := c_isub x y; have := rng32 (x - y); omega
theorem own_iadd (x y : Int32) (d : Int) {lo hi l h : Int} (hy : y.toInt = d) (hx : lo ≤ x.toInt ∧ x.toInt ≤ hi) (q : l = lo + d ∧ h = hi + d ∧ -2147483648 ≤ l ∧ h ≤ 2147483647) : l ≤ (x + y).toInt ∧ (x + y).toInt ≤ h := by have := c_iadd x y; have := rng32 (x + y); omega
theorem own_ltT {x y : Int32} (h : x.toInt < y.toInt) : x < y := Int32.lt_iff_toInt_lt.mpr h
theorem own_ltF {x y : Int32} (h : ¬ (x.toInt < y.toInt)) : ¬ (x < y) := fun q => h (Int32.lt_iff_toInt_lt.mp q)
theorem own_eqF {x y : Int32} (h : ¬ (x.toInt = y.toInt)) : ¬ (x = y) := fun q => h (q ▸ rfl)
theorem own_ltT' {x y : Int32} (h : x < y) : x.toInt < y.toInt := Int32.lt_iff_toInt_lt.mp h
theorem own_ltF' {x y : Int32} (h : ¬ (x < y)) : ¬ (x.toInt < y.toInt) := fun q => h (Int32.lt_iff_toInt_lt.mpr q)
theorem own_eqF' {x y : Int32} (h : ¬ (x = y)) : ¬ (x.toInt = y.toInt) := fun q => h (Int32.toInt_inj.mp q)
theorem own_eqT' {x y : Int32} (h : x = y) : x.toInt = y.toInt := h ▸ rfl
theorem own_eqT {x y : Int32} (h : x.toInt = y.toInt) : x = y := Int32.toInt_inj.mp h
abbrev z0 : String := "com/example/key3/key3/server/protocol/Opcode"
abbrev z1 : String := "com/example/key3/key3/server/protocol/OpcodeOfPinLaw"
abbrev z2 : String := "(I)Lcom/example/key3/key3/server/protocol/Opcode;"
abbrev z3 : String := "Lcom/example/key3/key3/server/protocol/Opcode;"
def SF (Z : State) (w0 : Addr) (w1 : Addr) (w2 : Addr) (w3 : Addr) (w4 : Addr) (w5 : Addr) (w6 : Addr) (w7 : Addr) (w8 : Addr) (w9 : Addr) (w10 : Addr) (w11 : Addr) (w12 : Addr) (w13 : Addr) (w14 : Addr) (w15 : Addr) (w16 : Addr) (kw16 : ClassId) : Prop := Sta Z Z.heap z0 "AUTHENTICATE" z3 (.ref w0) ∧ Exa Z Z.heap w0 z0 ∧ Fld Z Z.heap w0 z0 "code" "I" (.int (3 : Int32)) ∧ Sta Z Z.heap z0 "AUTH_CHALLENGE" z3 (.ref w1) ∧ Exa Z Z.heap w1 z0 ∧ Fld Z Z.heap w1 z0 "code" "I" (.int (14 : Int32)) ∧ Sta Z Z.heap z0 "AUTH_RESPONSE" z3 (.ref w2) ∧ Exa Z Z.heap w2 z0 ∧ Fld Z Z.heap w2 z0 "code" "I" (.int (15 : Int32)) ∧ Sta Z Z.heap z0 "AUTH_SUCCESS" z3 (.ref w3) ∧ Exa Z Z.heap w3 z0 ∧ Fld Z Z.heap w3 z0 "code" "I" (.int (16 : Int32)) ∧ Sta Z Z.heap z0 "BATCH" z3 (.ref w4) ∧ Exa Z Z.heap w4 z0 ∧ Fld Z Z.heap w4 z0 "code" "I" (.int (13 : Int32)) ∧ Sta Z Z.heap z0 "ERROR" z3 (.ref w5) ∧ Exa Z Z.heap w5 z0 ∧ Fld Z Z.heap w5 z0 "code" "I" (.int (0 : Int32)) ∧ Sta Z Z.heap z0 "EVENT" z3 (.ref w6) ∧ Exa Z Z.heap w6 z0 ∧ Fld Z Z.heap w6 z0 "code" "I" (.int (12 : Int32)) ∧ Sta Z Z.heap z0 "EXECUTE" z3 (.ref w7) ∧ Exa Z Z.heap w7 z0 ∧ Fld Z Z.heap w7 z0 "code" "I" (.int (10 : Int32)) ∧ Sta Z Z.heap z0 "OPTIONS" z3 (.ref w8) ∧ Exa Z Z.heap w8 z0 ∧ Fld Z Z.heap w8 z0 "code" "I" (.int (5 : Int32)) ∧ Sta Z Z.heap z0 "PREPARE" z3 (.ref w9) ∧ Exa Z Z.heap w9 z0 ∧ Fld Z Z.heap w9 z0 "code" "I" (.int (9 : Int32)) ∧ Sta Z Z.heap z0 "QUERY" z3 (.ref w10) ∧ Exa Z Z.heap w10 z0 ∧ Fld Z Z.heap w10 z0 "code" "I" (.int (7 : Int32)) ∧ Sta Z Z.heap z0 "READY" z3 (.ref w11) ∧ Exa Z Z.heap w11 z0 ∧ Fld Z Z.heap w11 z0 "code" "I" (.int (2 : Int32)) ∧ Sta Z Z.heap z0 "REGISTER" z3 (.ref w12) ∧ Exa Z Z.heap w12 z0 ∧ Fld Z Z.heap w12 z0 "code" "I" (.int (11 : Int32)) ∧ Sta Z Z.heap z0 "RESULT" z3 (.ref w13) ∧ Exa Z Z.heap w13 z0 ∧ Fld Z Z.heap w13 z0 "code" "I" (.int (8 : Int32)) ∧ Sta Z Z.heap z0 "STARTUP" z3 (.ref w14) ∧ Exa Z Z.heap w14 z0 ∧ Fld Z Z.heap w14 z0 "code" "I" (.int (1 : Int32)) ∧ Sta Z Z.heap z0 "SUPPORTED" z3 (.ref w15) ∧ Exa Z Z.heap w15 z0 ∧ Fld Z Z.heap w15 z0 "code" "I" (.int (6 : Int32)) ∧ Sta Z Z.heap z0 "BY_CODE" "[Lcom/example/key3/key3/server/protocol/Opcode;" (.ref w16) ∧ Arv Z Z.heap w16 kw16 (.object z0) (17 : Int32) [(.ref w5), (.ref w14), (.ref w11), (.ref w0), .null, (.ref w8), (.ref w15), (.ref w10), (.ref w13), (.ref w9), (.ref w7), (.ref w12), (.ref w6), (.ref w4), (.ref w1), (.ref w2), (.ref w3)] .null
theorem en_0 (t : Int32) (q : 0 ≤ t.toInt ∧ t.toInt ≤ 1) : t = (0 : Int32) ∨ t = (1 : Int32) := by
  have q' : t.toInt = 0 ∨ t.toInt = 1 := by omega
  rcases q' with r | r
  · exact Or.inl (Int32.toInt_inj.mp (r.trans (by decide)))
  · exact Or.inr ((Int32.toInt_inj.mp (r.trans (by decide))))
theorem m0 : (Jvm.Cond.methodLink z1 (7 : Nat) (⟨z1, "expected", z2⟩ : MethodName)) ∈ tables_1 := List.mem_of_getElem? (i := 0) rfl
theorem d1_0 : decode method_3_code 0 = .ok (.iload_n 0, 1) := by decide +kernel
theorem d1_1 : decode method_3_code 1 = .ok (.ifCond .lt 9, 3) := by decide +kernel
theorem d1_10 : decode method_3_code 10 = .ok (.aconst_null, 1) := by decide +kernel
theorem d1_11 : decode method_3_code 11 = .ok (.areturn, 1) := by decide +kernel
theorem ef6 (m : MethodId) (x0 : Int32) : entryFrame m #[(.int x0)] 2 = mkF m 0 #[.val (.int x0), .unset] [] := by first | (simp [entryFrame, mkF, argsToLocals, Value.category]; done) | rfl
theorem pn7 : plainName z1 = true := by first | (simp [plainName, overriddenIn]; done) | decide +kernel
theorem m3 : (Jvm.Cond.code (⟨z1, "expected", z2⟩ : MethodName) method_3_code (2 : Nat) (Option.some (FieldType.object z0))) ∈ tables_1 := List.mem_of_getElem? (i := 3) rfl
theorem m2 : (Jvm.Cond.initialized z1) ∈ tables_1 := List.mem_of_getElem? (i := 2) rfl
theorem pd10 : parseMethodDescriptor z2 = some ⟨[.int], some (.object z0)⟩ := by decide +kernel
theorem m1 : (Jvm.Cond.static (⟨z1, "expected", z2⟩ : MethodName)) ∈ tables_1 := List.mem_of_getElem? (i := 1) rfl
theorem m40 : (Jvm.Cond.methodLink z1 (13 : Nat) (⟨z0, "of", z2⟩ : MethodName)) ∈ tables_1 := List.mem_of_getElem? (i := 40) rfl
theorem d2_0 : decode prog_90_method_5_code 0 = .ok (.iload_n 0, 1) := by decide +kernel
theorem d2_1 : decode prog_90_method_5_code 1 = .ok (.ifCond .lt 19, 3) := by decide +kernel
theorem d2_20 : decode prog_90_method_5_code 20 = .ok (.aconst_null, 1) := by decide +kernel
theorem d2_21 : decode prog_90_method_5_code 21 = .ok (.areturn, 1) := by decide +kernel
theorem ef17 (m : MethodId) (x0 : Int32) : entryFrame m #[(.int x0)] 1 = mkF m 0 #[.val (.int x0)] [] := by first | (simp [entryFrame, mkF, argsToLocals, Value.category]; done) | rfl
theorem pn18 : plainName z0 = true := by first | (simp [plainName, overriddenIn]; done) | decide +kernel
theorem m42 : (Jvm.Cond.code (⟨z0, "of", z2⟩ : MethodName) prog_90_method_5_code (1 : Nat) (Option.some (FieldType.object z0))) ∈ tables_1 := List.mem_of_getElem? (i := 42) rfl
theorem m7 : (Jvm.Cond.initialized z0) ∈ tables_1 := List.mem_of_getElem? (i := 7) rfl
theorem m41 : (Jvm.Cond.static (⟨z0, "of", z2⟩ : MethodName)) ∈ tables_1 := List.mem_of_getElem? (i := 41) rfl
theorem ef22 (m : MethodId) (x0 : Int32) (x1 : Int32) : entryFrame m #[(.int x0), (.int x1)] maxLocals = mkF m 0 #[.val (.int x0), .val (.int x1), .unset, .unset, .unset] [] := by first | (simp [entryFrame, mkF, argsToLocals, Value.category, maxLocals]; done) | rfl
theorem d1_4 : decode method_3_code 4 = .ok (.iload_n 0, 1) := by decide +kernel
theorem d1_5 : decode method_3_code 5 = .ok (.bipush 16, 2) := by decide +kernel
theorem d1_7 : decode method_3_code 7 = .ok (.if_icmp .le 5, 3) := by decide +kernel
theorem en_26 (t : Int32) (q : 0 ≤ t.toInt ∧ t.toInt ≤ 17) : t = (0 : Int32) ∨ t = (1 : Int32) ∨ t = (2 : Int32) ∨ t = (3 : Int32) ∨ t = (4 : Int32) ∨ t = (5 : Int32) ∨ t = (6 : Int32) ∨ t = (7 : Int32) ∨ t = (8 : Int32) ∨ t = (9 : Int32) ∨ t = (10 : Int32) ∨ t = (11 : Int32) ∨ t = (12 : Int32) ∨ t = (13 : Int32) ∨ t = (14 : Int32) ∨ t = (15 : Int32) ∨ t = (16 : Int32) ∨ t = (17 : Int32) := by
  have q' : t.toInt = 0 ∨ t.toInt = 1 ∨ t.toInt = 2 ∨ t.toInt = 3 ∨ t.toInt = 4 ∨ t.toInt = 5 ∨ t.toInt = 6 ∨ t.toInt = 7 ∨ t.toInt = 8 ∨ t.toInt = 9 ∨ t.toInt = 10 ∨ t.toInt = 11 ∨ t.toInt = 12 ∨ t.toInt = 13 ∨ t.toInt = 14 ∨ t.toInt = 15 ∨ t.toInt = 16 ∨ t.toInt = 17 := by omega
  rcases q' with r | r | r | r | r | r | r | r | r | r | r | r | r | r | r | r | r | r
  · exact Or.inl (Int32.toInt_inj.mp (r.trans (by decide)))
  · exact Or.inr (Or.inl (Int32.toInt_inj.mp (r.trans (by decide))))
  · exact Or.inr (Or.inr (Or.inl (Int32.toInt_inj.mp (r.trans (by decide)))))
  · exact Or.inr (Or.inr (Or.inr (Or.inl (Int32.toInt_inj.mp (r.trans (by decide))))))
  · exact Or.inr (Or.inr (Or.inr (Or.inr (Or.inl (Int32.toInt_inj.mp (r.trans (by decide)))))))
  · exact Or.inr (Or.inr (Or.inr (Or.inr (Or.inr (Or.inl (Int32.toInt_inj.mp (r.trans (by decide))))))))
  · exact Or.inr (Or.inr (Or.inr (Or.inr (Or.inr (Or.inr (Or.inl (Int32.toInt_inj.mp (r.trans (by decide)))))))))
  · exact Or.inr (Or.inr (Or.inr (Or.inr (Or.inr (Or.inr (Or.inr (Or.inl (Int32.toInt_inj.mp (r.trans (by decide))))))))))
  · exact Or.inr (Or.inr (Or.inr (Or.inr (Or.inr (Or.inr (Or.inr (Or.inr (Or.inl (Int32.toInt_inj.mp (r.trans (by decide)))))))))))
  · exact Or.inr (Or.inr (Or.inr (Or.inr (Or.inr (Or.inr (Or.inr (Or.inr (Or.inr (Or.inl (Int32.toInt_inj.mp (r.trans (by decide))))))))))))
  · exact Or.inr (Or.inr (Or.inr (Or.inr (Or.inr (Or.inr (Or.inr (Or.inr (Or.inr (Or.inr (Or.inl (Int32.toInt_inj.mp (r.trans (by decide)))))))))))))
  · exact Or.inr (Or.inr (Or.inr (Or.inr (Or.inr (Or.inr (Or.inr (Or.inr (Or.inr (Or.inr (Or.inr (Or.inl (Int32.toInt_inj.mp (r.trans (by decide))))))))))))))
  · exact Or.inr (Or.inr (Or.inr (Or.inr (Or.inr (Or.inr (Or.inr (Or.inr (Or.inr (Or.inr (Or.inr (Or.inr (Or.inl (Int32.toInt_inj.mp (r.trans (by decide)))))))))))))))
  · exact Or.inr (Or.inr (Or.inr (Or.inr (Or.inr (Or.inr (Or.inr (Or.inr (Or.inr (Or.inr (Or.inr (Or.inr (Or.inr (Or.inl (Int32.toInt_inj.mp (r.trans (by decide))))))))))))))))
  · exact Or.inr (Or.inr (Or.inr (Or.inr (Or.inr (Or.inr (Or.inr (Or.inr (Or.inr (Or.inr (Or.inr (Or.inr (Or.inr (Or.inr (Or.inl (Int32.toInt_inj.mp (r.trans (by decide)))))))))))))))))
  · exact Or.inr (Or.inr (Or.inr (Or.inr (Or.inr (Or.inr (Or.inr (Or.inr (Or.inr (Or.inr (Or.inr (Or.inr (Or.inr (Or.inr (Or.inr (Or.inl (Int32.toInt_inj.mp (r.trans (by decide))))))))))))))))))
  · exact Or.inr (Or.inr (Or.inr (Or.inr (Or.inr (Or.inr (Or.inr (Or.inr (Or.inr (Or.inr (Or.inr (Or.inr (Or.inr (Or.inr (Or.inr (Or.inr (Or.inl (Int32.toInt_inj.mp (r.trans (by decide)))))))))))))))))))
  · exact Or.inr (Or.inr (Or.inr (Or.inr (Or.inr (Or.inr (Or.inr (Or.inr (Or.inr (Or.inr (Or.inr (Or.inr (Or.inr (Or.inr (Or.inr (Or.inr (Or.inr ((Int32.toInt_inj.mp (r.trans (by decide))))))))))))))))))))
theorem d1_12 : decode method_3_code 12 = .ok (.bipush 17, 2) := by decide +kernel
theorem d1_14 : decode method_3_code 14 = .ok (.anewarray 14, 3) := by decide +kernel
theorem m4 : (Jvm.Cond.classLink z1 (14 : Nat) z0) ∈ tables_1 := List.mem_of_getElem? (i := 4) rfl
theorem m5 : (Jvm.Cond.arrayOver (FieldType.object z0)) ∈ tables_1 := List.mem_of_getElem? (i := 5) rfl
theorem d1_17 : decode method_3_code 17 = .ok (.dup, 1) := by decide +kernel
theorem d1_18 : decode method_3_code 18 = .ok (.iconst 0, 1) := by decide +kernel
theorem d1_19 : decode method_3_code 19 = .ok (.getstatic 22, 3) := by decide +kernel
theorem m6 : (Jvm.Cond.fieldLink z1 (22 : Nat) z0 "ERROR" z3) ∈ tables_1 := List.mem_of_getElem? (i := 6) rfl
theorem d1_22 : decode method_3_code 22 = .ok (.aastore, 1) := by decide +kernel
theorem d1_23 : decode method_3_code 23 = .ok (.dup, 1) := by decide +kernel
theorem d1_24 : decode method_3_code 24 = .ok (.iconst 1, 1) := by decide +kernel
theorem d1_25 : decode method_3_code 25 = .ok (.getstatic 26, 3) := by decide +kernel
theorem m10 : (Jvm.Cond.fieldLink z1 (26 : Nat) z0 "STARTUP" z3) ∈ tables_1 := List.mem_of_getElem? (i := 10) rfl
theorem d1_28 : decode method_3_code 28 = .ok (.aastore, 1) := by decide +kernel
theorem d1_29 : decode method_3_code 29 = .ok (.dup, 1) := by decide +kernel
theorem d1_30 : decode method_3_code 30 = .ok (.iconst 2, 1) := by decide +kernel
theorem d1_31 : decode method_3_code 31 = .ok (.getstatic 29, 3) := by decide +kernel
theorem m12 : (Jvm.Cond.fieldLink z1 (29 : Nat) z0 "READY" z3) ∈ tables_1 := List.mem_of_getElem? (i := 12) rfl
theorem d1_34 : decode method_3_code 34 = .ok (.aastore, 1) := by decide +kernel
theorem d1_35 : decode method_3_code 35 = .ok (.dup, 1) := by decide +kernel
theorem d1_36 : decode method_3_code 36 = .ok (.iconst 3, 1) := by decide +kernel
theorem d1_37 : decode method_3_code 37 = .ok (.getstatic 32, 3) := by decide +kernel
theorem m14 : (Jvm.Cond.fieldLink z1 (32 : Nat) z0 "AUTHENTICATE" z3) ∈ tables_1 := List.mem_of_getElem? (i := 14) rfl
theorem d1_40 : decode method_3_code 40 = .ok (.aastore, 1) := by decide +kernel
theorem d1_41 : decode method_3_code 41 = .ok (.dup, 1) := by decide +kernel
theorem d1_42 : decode method_3_code 42 = .ok (.iconst 4, 1) := by decide +kernel
theorem d1_43 : decode method_3_code 43 = .ok (.aconst_null, 1) := by decide +kernel
theorem d1_44 : decode method_3_code 44 = .ok (.aastore, 1) := by decide +kernel
theorem d1_45 : decode method_3_code 45 = .ok (.dup, 1) := by decide +kernel
theorem d1_46 : decode method_3_code 46 = .ok (.iconst 5, 1) := by decide +kernel
theorem d1_47 : decode method_3_code 47 = .ok (.getstatic 35, 3) := by decide +kernel
theorem m16 : (Jvm.Cond.fieldLink z1 (35 : Nat) z0 "OPTIONS" z3) ∈ tables_1 := List.mem_of_getElem? (i := 16) rfl
theorem d1_50 : decode method_3_code 50 = .ok (.aastore, 1) := by decide +kernel
theorem d1_51 : decode method_3_code 51 = .ok (.dup, 1) := by decide +kernel
theorem d1_52 : decode method_3_code 52 = .ok (.bipush 6, 2) := by decide +kernel
theorem d1_54 : decode method_3_code 54 = .ok (.getstatic 38, 3) := by decide +kernel
theorem m18 : (Jvm.Cond.fieldLink z1 (38 : Nat) z0 "SUPPORTED" z3) ∈ tables_1 := List.mem_of_getElem? (i := 18) rfl
theorem d1_57 : decode method_3_code 57 = .ok (.aastore, 1) := by decide +kernel
theorem d1_58 : decode method_3_code 58 = .ok (.dup, 1) := by decide +kernel
theorem d1_59 : decode method_3_code 59 = .ok (.bipush 7, 2) := by decide +kernel
theorem d1_61 : decode method_3_code 61 = .ok (.getstatic 41, 3) := by decide +kernel
theorem m20 : (Jvm.Cond.fieldLink z1 (41 : Nat) z0 "QUERY" z3) ∈ tables_1 := List.mem_of_getElem? (i := 20) rfl
theorem d1_64 : decode method_3_code 64 = .ok (.aastore, 1) := by decide +kernel
theorem d1_65 : decode method_3_code 65 = .ok (.dup, 1) := by decide +kernel
theorem d1_66 : decode method_3_code 66 = .ok (.bipush 8, 2) := by decide +kernel
theorem d1_68 : decode method_3_code 68 = .ok (.getstatic 44, 3) := by decide +kernel
theorem m22 : (Jvm.Cond.fieldLink z1 (44 : Nat) z0 "RESULT" z3) ∈ tables_1 := List.mem_of_getElem? (i := 22) rfl
theorem d1_71 : decode method_3_code 71 = .ok (.aastore, 1) := by decide +kernel
theorem d1_72 : decode method_3_code 72 = .ok (.dup, 1) := by decide +kernel
theorem d1_73 : decode method_3_code 73 = .ok (.bipush 9, 2) := by decide +kernel
theorem d1_75 : decode method_3_code 75 = .ok (.getstatic 47, 3) := by decide +kernel
theorem m24 : (Jvm.Cond.fieldLink z1 (47 : Nat) z0 "PREPARE" z3) ∈ tables_1 := List.mem_of_getElem? (i := 24) rfl
theorem d1_78 : decode method_3_code 78 = .ok (.aastore, 1) := by decide +kernel
theorem d1_79 : decode method_3_code 79 = .ok (.dup, 1) := by decide +kernel
theorem d1_80 : decode method_3_code 80 = .ok (.bipush 10, 2) := by decide +kernel
theorem d1_82 : decode method_3_code 82 = .ok (.getstatic 50, 3) := by decide +kernel
theorem m26 : (Jvm.Cond.fieldLink z1 (50 : Nat) z0 "EXECUTE" z3) ∈ tables_1 := List.mem_of_getElem? (i := 26) rfl
theorem d1_85 : decode method_3_code 85 = .ok (.aastore, 1) := by decide +kernel
theorem d1_86 : decode method_3_code 86 = .ok (.dup, 1) := by decide +kernel
theorem d1_87 : decode method_3_code 87 = .ok (.bipush 11, 2) := by decide +kernel
theorem d1_89 : decode method_3_code 89 = .ok (.getstatic 53, 3) := by decide +kernel
theorem m28 : (Jvm.Cond.fieldLink z1 (53 : Nat) z0 "REGISTER" z3) ∈ tables_1 := List.mem_of_getElem? (i := 28) rfl
theorem d1_92 : decode method_3_code 92 = .ok (.aastore, 1) := by decide +kernel
theorem d1_93 : decode method_3_code 93 = .ok (.dup, 1) := by decide +kernel
theorem d1_94 : decode method_3_code 94 = .ok (.bipush 12, 2) := by decide +kernel
theorem d1_96 : decode method_3_code 96 = .ok (.getstatic 56, 3) := by decide +kernel
theorem m30 : (Jvm.Cond.fieldLink z1 (56 : Nat) z0 "EVENT" z3) ∈ tables_1 := List.mem_of_getElem? (i := 30) rfl
theorem d1_99 : decode method_3_code 99 = .ok (.aastore, 1) := by decide +kernel
theorem d1_100 : decode method_3_code 100 = .ok (.dup, 1) := by decide +kernel
theorem d1_101 : decode method_3_code 101 = .ok (.bipush 13, 2) := by decide +kernel
theorem d1_103 : decode method_3_code 103 = .ok (.getstatic 59, 3) := by decide +kernel
theorem m32 : (Jvm.Cond.fieldLink z1 (59 : Nat) z0 "BATCH" z3) ∈ tables_1 := List.mem_of_getElem? (i := 32) rfl
theorem d1_106 : decode method_3_code 106 = .ok (.aastore, 1) := by decide +kernel
theorem d1_107 : decode method_3_code 107 = .ok (.dup, 1) := by decide +kernel
theorem d1_108 : decode method_3_code 108 = .ok (.bipush 14, 2) := by decide +kernel
theorem d1_110 : decode method_3_code 110 = .ok (.getstatic 62, 3) := by decide +kernel
theorem m34 : (Jvm.Cond.fieldLink z1 (62 : Nat) z0 "AUTH_CHALLENGE" z3) ∈ tables_1 := List.mem_of_getElem? (i := 34) rfl
theorem d1_113 : decode method_3_code 113 = .ok (.aastore, 1) := by decide +kernel
theorem d1_114 : decode method_3_code 114 = .ok (.dup, 1) := by decide +kernel
theorem d1_115 : decode method_3_code 115 = .ok (.bipush 15, 2) := by decide +kernel
theorem d1_117 : decode method_3_code 117 = .ok (.getstatic 65, 3) := by decide +kernel
theorem m36 : (Jvm.Cond.fieldLink z1 (65 : Nat) z0 "AUTH_RESPONSE" z3) ∈ tables_1 := List.mem_of_getElem? (i := 36) rfl
theorem d1_120 : decode method_3_code 120 = .ok (.aastore, 1) := by decide +kernel
theorem d1_121 : decode method_3_code 121 = .ok (.dup, 1) := by decide +kernel
theorem d1_122 : decode method_3_code 122 = .ok (.bipush 16, 2) := by decide +kernel
theorem d1_124 : decode method_3_code 124 = .ok (.getstatic 68, 3) := by decide +kernel
theorem m38 : (Jvm.Cond.fieldLink z1 (68 : Nat) z0 "AUTH_SUCCESS" z3) ∈ tables_1 := List.mem_of_getElem? (i := 38) rfl
theorem d1_127 : decode method_3_code 127 = .ok (.aastore, 1) := by decide +kernel
theorem d1_128 : decode method_3_code 128 = .ok (.astore_n 1, 1) := by decide +kernel
theorem d1_129 : decode method_3_code 129 = .ok (.aload_n 1, 1) := by decide +kernel
theorem d1_130 : decode method_3_code 130 = .ok (.iload_n 0, 1) := by decide +kernel
theorem d1_131 : decode method_3_code 131 = .ok (.aaload, 1) := by decide +kernel
theorem d1_132 : decode method_3_code 132 = .ok (.areturn, 1) := by decide +kernel
theorem d2_4 : decode prog_90_method_5_code 4 = .ok (.iload_n 0, 1) := by decide +kernel
theorem d2_5 : decode prog_90_method_5_code 5 = .ok (.getstatic 79, 3) := by decide +kernel
theorem m43 : (Jvm.Cond.fieldLink z0 (79 : Nat) z0 "BY_CODE" "[Lcom/example/key3/key3/server/protocol/Opcode;") ∈ tables_1 := List.mem_of_getElem? (i := 43) rfl
theorem d2_8 : decode prog_90_method_5_code 8 = .ok (.arraylength, 1) := by decide +kernel
theorem d2_9 : decode prog_90_method_5_code 9 = .ok (.if_icmp .ge 11, 3) := by decide +kernel
theorem d2_12 : decode prog_90_method_5_code 12 = .ok (.getstatic 79, 3) := by decide +kernel
theorem d2_15 : decode prog_90_method_5_code 15 = .ok (.iload_n 0, 1) := by decide +kernel
theorem d2_16 : decode prog_90_method_5_code 16 = .ok (.aaload, 1) := by decide +kernel
theorem d2_17 : decode prog_90_method_5_code 17 = .ok (.goto 4, 3) := by decide +kernel
theorem m45 : (Jvm.Cond.methodLink z1 (18 : Nat) (⟨z0, "code", "()I"⟩ : MethodName)) ∈ tables_1 := List.mem_of_getElem? (i := 45) rfl
theorem m48 : (Jvm.Cond.selects z0 (⟨z0, "code", "()I"⟩ : MethodName) (⟨z0, "code", "()I"⟩ : MethodName)) ∈ tables_1 := List.mem_of_getElem? (i := 48) rfl
theorem d3_0 : decode prog_90_method_4_code 0 = .ok (.aload_n 0, 1) := by decide +kernel
theorem d3_1 : decode prog_90_method_4_code 1 = .ok (.getfield 71, 3) := by decide +kernel
theorem m50 : (Jvm.Cond.fieldLink z0 (71 : Nat) z0 "code" "I") ∈ tables_1 := List.mem_of_getElem? (i := 50) rfl
theorem d3_4 : decode prog_90_method_4_code 4 = .ok (.ireturn, 1) := by decide +kernel
theorem ef135 (m : MethodId) (x0 : Addr) : entryFrame m #[(.ref x0)] 1 = mkF m 0 #[.val (.ref x0)] [] := by first | (simp [entryFrame, mkF, argsToLocals, Value.category]; done) | rfl
theorem m49 : (Jvm.Cond.code (⟨z0, "code", "()I"⟩ : MethodName) prog_90_method_4_code (1 : Nat) (Option.some FieldType.int)) ∈ tables_1 := List.mem_of_getElem? (i := 49) rfl
theorem pd137 : parseMethodDescriptor "()I" = some ⟨[], some .int⟩ := by decide +kernel
theorem m46 : (Jvm.Cond.declares (⟨z0, "code", "()I"⟩ : MethodName)) ∈ tables_1 := List.mem_of_getElem? (i := 46) rfl
theorem m47 : (Jvm.Cond.instanceMethod (⟨z0, "code", "()I"⟩ : MethodName)) ∈ tables_1 := List.mem_of_getElem? (i := 47) rfl
theorem en_140 (t : Int32) (q : 0 ≤ t.toInt ∧ t.toInt ≤ 16) : t = (0 : Int32) ∨ t = (1 : Int32) ∨ t = (2 : Int32) ∨ t = (3 : Int32) ∨ t = (4 : Int32) ∨ t = (5 : Int32) ∨ t = (6 : Int32) ∨ t = (7 : Int32) ∨ t = (8 : Int32) ∨ t = (9 : Int32) ∨ t = (10 : Int32) ∨ t = (11 : Int32) ∨ t = (12 : Int32) ∨ t = (13 : Int32) ∨ t = (14 : Int32) ∨ t = (15 : Int32) ∨ t = (16 : Int32) := by
  have q' : t.toInt = 0 ∨ t.toInt = 1 ∨ t.toInt = 2 ∨ t.toInt = 3 ∨ t.toInt = 4 ∨ t.toInt = 5 ∨ t.toInt = 6 ∨ t.toInt = 7 ∨ t.toInt = 8 ∨ t.toInt = 9 ∨ t.toInt = 10 ∨ t.toInt = 11 ∨ t.toInt = 12 ∨ t.toInt = 13 ∨ t.toInt = 14 ∨ t.toInt = 15 ∨ t.toInt = 16 := by omega
  rcases q' with r | r | r | r | r | r | r | r | r | r | r | r | r | r | r | r | r
  · exact Or.inl (Int32.toInt_inj.mp (r.trans (by decide)))
  · exact Or.inr (Or.inl (Int32.toInt_inj.mp (r.trans (by decide))))
  · exact Or.inr (Or.inr (Or.inl (Int32.toInt_inj.mp (r.trans (by decide)))))
  · exact Or.inr (Or.inr (Or.inr (Or.inl (Int32.toInt_inj.mp (r.trans (by decide))))))
  · exact Or.inr (Or.inr (Or.inr (Or.inr (Or.inl (Int32.toInt_inj.mp (r.trans (by decide)))))))
  · exact Or.inr (Or.inr (Or.inr (Or.inr (Or.inr (Or.inl (Int32.toInt_inj.mp (r.trans (by decide))))))))
  · exact Or.inr (Or.inr (Or.inr (Or.inr (Or.inr (Or.inr (Or.inl (Int32.toInt_inj.mp (r.trans (by decide)))))))))
  · exact Or.inr (Or.inr (Or.inr (Or.inr (Or.inr (Or.inr (Or.inr (Or.inl (Int32.toInt_inj.mp (r.trans (by decide))))))))))
  · exact Or.inr (Or.inr (Or.inr (Or.inr (Or.inr (Or.inr (Or.inr (Or.inr (Or.inl (Int32.toInt_inj.mp (r.trans (by decide)))))))))))
  · exact Or.inr (Or.inr (Or.inr (Or.inr (Or.inr (Or.inr (Or.inr (Or.inr (Or.inr (Or.inl (Int32.toInt_inj.mp (r.trans (by decide))))))))))))
  · exact Or.inr (Or.inr (Or.inr (Or.inr (Or.inr (Or.inr (Or.inr (Or.inr (Or.inr (Or.inr (Or.inl (Int32.toInt_inj.mp (r.trans (by decide)))))))))))))
  · exact Or.inr (Or.inr (Or.inr (Or.inr (Or.inr (Or.inr (Or.inr (Or.inr (Or.inr (Or.inr (Or.inr (Or.inl (Int32.toInt_inj.mp (r.trans (by decide))))))))))))))
  · exact Or.inr (Or.inr (Or.inr (Or.inr (Or.inr (Or.inr (Or.inr (Or.inr (Or.inr (Or.inr (Or.inr (Or.inr (Or.inl (Int32.toInt_inj.mp (r.trans (by decide)))))))))))))))
  · exact Or.inr (Or.inr (Or.inr (Or.inr (Or.inr (Or.inr (Or.inr (Or.inr (Or.inr (Or.inr (Or.inr (Or.inr (Or.inr (Or.inl (Int32.toInt_inj.mp (r.trans (by decide))))))))))))))))
  · exact Or.inr (Or.inr (Or.inr (Or.inr (Or.inr (Or.inr (Or.inr (Or.inr (Or.inr (Or.inr (Or.inr (Or.inr (Or.inr (Or.inr (Or.inl (Int32.toInt_inj.mp (r.trans (by decide)))))))))))))))))
  · exact Or.inr (Or.inr (Or.inr (Or.inr (Or.inr (Or.inr (Or.inr (Or.inr (Or.inr (Or.inr (Or.inr (Or.inr (Or.inr (Or.inr (Or.inr (Or.inl (Int32.toInt_inj.mp (r.trans (by decide))))))))))))))))))
  · exact Or.inr (Or.inr (Or.inr (Or.inr (Or.inr (Or.inr (Or.inr (Or.inr (Or.inr (Or.inr (Or.inr (Or.inr (Or.inr (Or.inr (Or.inr (Or.inr ((Int32.toInt_inj.mp (r.trans (by decide)))))))))))))))))))
theorem m15 : (Jvm.Cond.laysStatic z0 "AUTHENTICATE" z3) ∈ tables_1 := List.mem_of_getElem? (i := 15) rfl
theorem m35 : (Jvm.Cond.laysStatic z0 "AUTH_CHALLENGE" z3) ∈ tables_1 := List.mem_of_getElem? (i := 35) rfl
theorem m37 : (Jvm.Cond.laysStatic z0 "AUTH_RESPONSE" z3) ∈ tables_1 := List.mem_of_getElem? (i := 37) rfl
theorem m39 : (Jvm.Cond.laysStatic z0 "AUTH_SUCCESS" z3) ∈ tables_1 := List.mem_of_getElem? (i := 39) rfl
theorem m33 : (Jvm.Cond.laysStatic z0 "BATCH" z3) ∈ tables_1 := List.mem_of_getElem? (i := 33) rfl
theorem m8 : (Jvm.Cond.laysStatic z0 "ERROR" z3) ∈ tables_1 := List.mem_of_getElem? (i := 8) rfl
theorem m31 : (Jvm.Cond.laysStatic z0 "EVENT" z3) ∈ tables_1 := List.mem_of_getElem? (i := 31) rfl
theorem m27 : (Jvm.Cond.laysStatic z0 "EXECUTE" z3) ∈ tables_1 := List.mem_of_getElem? (i := 27) rfl
theorem m17 : (Jvm.Cond.laysStatic z0 "OPTIONS" z3) ∈ tables_1 := List.mem_of_getElem? (i := 17) rfl
theorem m25 : (Jvm.Cond.laysStatic z0 "PREPARE" z3) ∈ tables_1 := List.mem_of_getElem? (i := 25) rfl
theorem m21 : (Jvm.Cond.laysStatic z0 "QUERY" z3) ∈ tables_1 := List.mem_of_getElem? (i := 21) rfl
theorem m13 : (Jvm.Cond.laysStatic z0 "READY" z3) ∈ tables_1 := List.mem_of_getElem? (i := 13) rfl
theorem m29 : (Jvm.Cond.laysStatic z0 "REGISTER" z3) ∈ tables_1 := List.mem_of_getElem? (i := 29) rfl
theorem m23 : (Jvm.Cond.laysStatic z0 "RESULT" z3) ∈ tables_1 := List.mem_of_getElem? (i := 23) rfl
theorem m11 : (Jvm.Cond.laysStatic z0 "STARTUP" z3) ∈ tables_1 := List.mem_of_getElem? (i := 11) rfl
theorem m19 : (Jvm.Cond.laysStatic z0 "SUPPORTED" z3) ∈ tables_1 := List.mem_of_getElem? (i := 19) rfl
theorem m44 : (Jvm.Cond.laysStatic z0 "BY_CODE" "[Lcom/example/key3/key3/server/protocol/Opcode;") ∈ tables_1 := List.mem_of_getElem? (i := 44) rfl
def Qrm1 (Z : State) (w0 : Addr) (w1 : Addr) (w2 : Addr) (w3 : Addr) (w4 : Addr) (w5 : Addr) (w6 : Addr) (w7 : Addr) (w8 : Addr) (w9 : Addr) (w10 : Addr) (w11 : Addr) (w12 : Addr) (w13 : Addr) (w14 : Addr) (w15 : Addr) (w16 : Addr) (kw16 : ClassId) (p1 : Int32) (h0 : Heap) (n0 : Nat) (v : Option Value) (h : Heap) (L : List Loc) : Prop := v = some .null ∧ Fr n0 L ∧ h = h0
set_option maxRecDepth 65536 in
set_option maxHeartbeats 40000000 in
theorem rm1 (l : Launch) (Z : State) (a0 : Array Value) (hw : ∀ d ∈ tables_1, d.before a0 Z = true) (w0 : Addr) (w1 : Addr) (w2 : Addr) (w3 : Addr) (w4 : Addr) (w5 : Addr) (w6 : Addr) (w7 : Addr) (w8 : Addr) (w9 : Addr) (w10 : Addr) (w11 : Addr) (w12 : Addr) (w13 : Addr) (w14 : Addr) (w15 : Addr) (w16 : Addr) (kw16 : ClassId) (hS : SF Z w0 w1 w2 w3 w4 w5 w6 w7 w8 w9 w10 w11 w12 w13 w14 w15 w16 kw16) (ws : List Jvm.Cond) (p1 : Int32) (h0 : Heap) (n0 : Nat) (O0 : Old Z n0 h0) (hc1 : p1 < (0 : Int32)) :
    MetFree l (⟨z1, "expected", z2⟩ : MethodName) (head1 (Jvm.Cond.code (⟨z1, "expected", z2⟩ : MethodName) method_3_code 2 (some (.object z0)) :: ws) ({ frames := 0, cells := 0, slots := 0, locals := 0 } : Room)) (fun a U => a = #[(.int p1)] ∧ Z.Warmed39 U.vm ∧ U.heap = h0) (fun _ _ _ _ _ => True) (fun _ U o U' => ∃ v L, o = .returned v ∧ Qrm1 Z w0 w1 w2 w3 w4 w5 w6 w7 w8 w9 w10 w11 w12 w13 w14 w15 w16 kw16 p1 h0 n0 v U'.heap L ∧ FrameEnd U o U' L ({ frames := 0, cells := 0, slots := 0, locals := 0 } : Room).cells ({ frames := 0, cells := 0, slots := 0, locals := 0 } : Room).slots) := by
  refine MetFree.of_bodySF (plainFor_of_name pn7) hisR ?_
  intro p e s m args below meth c s₁ Bd hml0 hP hK
  obtain ⟨rfl, hZ, hh⟩ := hP
  have hx := Bd.exec
  have hby := Bd.bytes
  have hml : c.maxLocals = 2 := hml0
  have hown : s.vm.findClass z1 = some m.cls := findClass_of_methodNamed Bd.named
  have hnm := (name_of_methodNamed Bd.named Bd.method).1
  have X0 : Stand p l e ({ frames := 0, cells := 0, slots := 0, locals := 0 } : Room) s m #[(.int p1)] below meth c s₁ [] 0 0 := Stand.of_body Bd
  have e0 : s₁.heap = h0 := by rw [← hh, Bd.state]; rfl
  have N0 := Fr.nil n0
  have pre0 : ∀ t, Steps p.tables e below (s₁.setTop (mkF m 0 #[.val (.int p1), .unset] [])) t → Steps p.tables e below (s₁.setTop (entryFrame m #[(.int p1)] 2)) t := fun t k => castTop (ef6 m p1) k
  obtain ⟨fs, hr, hrun, hended, hW, hsame⟩ := X0.leave (v := some .null) (fun h => by rw [Bd.returns] at h; cases h)
  refine ⟨_, _, pre0 _ ?_, hrun, hended, _, _, rfl, ?_, ⟨_, rfl⟩, hW, hsame.mono (by decide) (by decide)⟩
  · show Steps p.tables e below (s₁.setTop (mkF m 0 #[.val (.int p1), .unset] [])) _
    refine XS.iloadN X0.here hx rfl (hb hby d1_0) rfl ?_
    refine XS.ifYes X0.here hx rfl (pc0 := 1) (pc' := 10) rfl (hb hby d1_1) rfl ((if0 _ _).trans (tlt hc1).1) (by decide) (by decide) ?_
    refine XS.aconstNull X0.here hx rfl (hb hby d1_10) ?_
    exact retOut X0 hx Bd.returns rfl (Or.inr (Or.inr (Or.inr (Or.inr ⟨rfl, rfl, rfl⟩)))) (hb hby d1_11) hr
  · show Qrm1 Z w0 w1 w2 w3 w4 w5 w6 w7 w8 w9 w10 w11 w12 w13 w14 w15 w16 kw16 p1 h0 n0 _ s₁.heap _
    rw [e0]
    exact ⟨rfl, N0, rfl⟩
def Qrm2 (Z : State) (w0 : Addr) (w1 : Addr) (w2 : Addr) (w3 : Addr) (w4 : Addr) (w5 : Addr) (w6 : Addr) (w7 : Addr) (w8 : Addr) (w9 : Addr) (w10 : Addr) (w11 : Addr) (w12 : Addr) (w13 : Addr) (w14 : Addr) (w15 : Addr) (w16 : Addr) (kw16 : ClassId) (p1 : Int32) (h0 : Heap) (n0 : Nat) (v : Option Value) (h : Heap) (L : List Loc) : Prop := v = some .null ∧ Fr n0 L ∧ h = h0
set_option maxRecDepth 65536 in
set_option maxHeartbeats 40000000 in
theorem rm2 (l : Launch) (Z : State) (a0 : Array Value) (hw : ∀ d ∈ tables_1, d.before a0 Z = true) (w0 : Addr) (w1 : Addr) (w2 : Addr) (w3 : Addr) (w4 : Addr) (w5 : Addr) (w6 : Addr) (w7 : Addr) (w8 : Addr) (w9 : Addr) (w10 : Addr) (w11 : Addr) (w12 : Addr) (w13 : Addr) (w14 : Addr) (w15 : Addr) (w16 : Addr) (kw16 : ClassId) (hS : SF Z w0 w1 w2 w3 w4 w5 w6 w7 w8 w9 w10 w11 w12 w13 w14 w15 w16 kw16) (ws : List Jvm.Cond) (p1 : Int32) (h0 : Heap) (n0 : Nat) (O0 : Old Z n0 h0) (hc1 : p1 < (0 : Int32)) :
    MetFree l (⟨z0, "of", z2⟩ : MethodName) (head1 (Jvm.Cond.code (⟨z0, "of", z2⟩ : MethodName) prog_90_method_5_code 1 (some (.object z0)) :: ws) ({ frames := 0, cells := 0, slots := 0, locals := 0 } : Room)) (fun a U => a = #[(.int p1)] ∧ Z.Warmed39 U.vm ∧ U.heap = h0) (fun _ _ _ _ _ => True) (fun _ U o U' => ∃ v L, o = .returned v ∧ Qrm2 Z w0 w1 w2 w3 w4 w5 w6 w7 w8 w9 w10 w11 w12 w13 w14 w15 w16 kw16 p1 h0 n0 v U'.heap L ∧ FrameEnd U o U' L ({ frames := 0, cells := 0, slots := 0, locals := 0 } : Room).cells ({ frames := 0, cells := 0, slots := 0, locals := 0 } : Room).slots) := by
  refine MetFree.of_bodySF (plainFor_of_name pn18) hisR ?_
  intro p e s m args below meth c s₁ Bd hml0 hP hK
  obtain ⟨rfl, hZ, hh⟩ := hP
  have hx := Bd.exec
  have hby := Bd.bytes
  have hml : c.maxLocals = 1 := hml0
  have hown : s.vm.findClass z0 = some m.cls := findClass_of_methodNamed Bd.named
  have hnm := (name_of_methodNamed Bd.named Bd.method).1
  have X0 : Stand p l e ({ frames := 0, cells := 0, slots := 0, locals := 0 } : Room) s m #[(.int p1)] below meth c s₁ [] 0 0 := Stand.of_body Bd
  have e0 : s₁.heap = h0 := by rw [← hh, Bd.state]; rfl
  have N0 := Fr.nil n0
  have pre0 : ∀ t, Steps p.tables e below (s₁.setTop (mkF m 0 #[.val (.int p1)] [])) t → Steps p.tables e below (s₁.setTop (entryFrame m #[(.int p1)] 1)) t := fun t k => castTop (ef17 m p1) k
  obtain ⟨fs, hr, hrun, hended, hW, hsame⟩ := X0.leave (v := some .null) (fun h => by rw [Bd.returns] at h; cases h)
  refine ⟨_, _, pre0 _ ?_, hrun, hended, _, _, rfl, ?_, ⟨_, rfl⟩, hW, hsame.mono (by decide) (by decide)⟩
  · show Steps p.tables e below (s₁.setTop (mkF m 0 #[.val (.int p1)] [])) _
    refine XS.iloadN X0.here hx rfl (hb hby d2_0) rfl ?_
    refine XS.ifYes X0.here hx rfl (pc0 := 1) (pc' := 20) rfl (hb hby d2_1) rfl ((if0 _ _).trans (tlt hc1).1) (by decide) (by decide) ?_
    refine XS.aconstNull X0.here hx rfl (hb hby d2_20) ?_
    exact retOut X0 hx Bd.returns rfl (Or.inr (Or.inr (Or.inr (Or.inr ⟨rfl, rfl, rfl⟩)))) (hb hby d2_21) hr
  · show Qrm2 Z w0 w1 w2 w3 w4 w5 w6 w7 w8 w9 w10 w11 w12 w13 w14 w15 w16 kw16 p1 h0 n0 _ s₁.heap _
    rw [e0]
    exact ⟨rfl, N0, rfl⟩
def Qrm3 (Z : State) (w0 : Addr) (w1 : Addr) (w2 : Addr) (w3 : Addr) (w4 : Addr) (w5 : Addr) (w6 : Addr) (w7 : Addr) (w8 : Addr) (w9 : Addr) (w10 : Addr) (w11 : Addr) (w12 : Addr) (w13 : Addr) (w14 : Addr) (w15 : Addr) (w16 : Addr) (kw16 : ClassId) (h0 : Heap) (n0 : Nat) (v : Option Value) (h : Heap) (L : List Loc) : Prop := v = some (.ref w5) ∧ Fr n0 L ∧ Keep h0 h []
set_option maxRecDepth 65536 in
set_option maxHeartbeats 40000000 in
theorem rm3 (l : Launch) (Z : State) (a0 : Array Value) (hw : ∀ d ∈ tables_1, d.before a0 Z = true) (w0 : Addr) (w1 : Addr) (w2 : Addr) (w3 : Addr) (w4 : Addr) (w5 : Addr) (w6 : Addr) (w7 : Addr) (w8 : Addr) (w9 : Addr) (w10 : Addr) (w11 : Addr) (w12 : Addr) (w13 : Addr) (w14 : Addr) (w15 : Addr) (w16 : Addr) (kw16 : ClassId) (hS : SF Z w0 w1 w2 w3 w4 w5 w6 w7 w8 w9 w10 w11 w12 w13 w14 w15 w16 kw16) (ws : List Jvm.Cond) (h0 : Heap) (n0 : Nat) (O0 : Old Z n0 h0) :
    MetFree l (⟨z1, "expected", z2⟩ : MethodName) (head1 (Jvm.Cond.code (⟨z1, "expected", z2⟩ : MethodName) method_3_code 2 (some (.object z0)) :: ws) ({ frames := 0, cells := 1, slots := 17, locals := 0 } : Room)) (fun a U => a = #[(.int (0 : Int32))] ∧ Z.Warmed39 U.vm ∧ U.heap = h0) (fun _ _ _ _ _ => True) (fun _ U o U' => ∃ v L, o = .returned v ∧ Qrm3 Z w0 w1 w2 w3 w4 w5 w6 w7 w8 w9 w10 w11 w12 w13 w14 w15 w16 kw16 h0 n0 v U'.heap L ∧ FrameEnd U o U' L ({ frames := 0, cells := 1, slots := 17, locals := 0 } : Room).cells ({ frames := 0, cells := 1, slots := 17, locals := 0 } : Room).slots) := by
  refine MetFree.of_bodySF (plainFor_of_name pn7) hisR ?_
  intro p e s m args below meth c s₁ Bd hml0 hP hK
  obtain ⟨rfl, hZ, hh⟩ := hP
  have hx := Bd.exec
  have hby := Bd.bytes
  have hml : c.maxLocals = 2 := hml0
  have hown : s.vm.findClass z1 = some m.cls := findClass_of_methodNamed Bd.named
  have hnm := (name_of_methodNamed Bd.named Bd.method).1
  have X0 : Stand p l e ({ frames := 0, cells := 1, slots := 17, locals := 0 } : Room) s m #[(.int (0 : Int32))] below meth c s₁ [] 0 0 := Stand.of_body Bd
  have e0 : s₁.heap = h0 := by rw [← hh, Bd.state]; rfl
  have N0 := Fr.nil n0
  have pre0 : ∀ t, Steps p.tables e below (s₁.setTop (mkF m 0 #[.val (.int (0 : Int32)), .unset] [])) t → Steps p.tables e below (s₁.setTop (entryFrame m #[(.int (0 : Int32))] 2)) t := fun t k => castTop (ef6 m (0 : Int32)) k
  obtain ⟨T1, h1, k1, b1, X1, e1, E1, V1, O'1, g1, O1, K1, st1⟩ := own_newR X0 hx hZ (vs := [.null, .null, .null, .null, .null, .null, .null, .null, .null, .null, .null, .null, .null, .null, .null, .null, .null]) (cap := 17) rfl hown (hw _ m4) (hw _ m5) e0 O0 (Keep.refl h0 []) (g := (mkF m 14 #[.val (.int (0 : Int32)), .unset] [(.int (17 : Int32))])) rfl (hb hby d1_14) rfl (by decide) (by decide) (by decide) (by decide) (by decide)
  obtain ⟨T2, X2, e2, st2⟩ := getS2 X1 hx hZ hown (host := "") (Or.inl (hw _ m6)) Via.refl e1 (hS.2.2.2.2.2.2.2.2.2.2.2.2.2.2.2.1.ext O1.2) (g := (mkF m 19 #[.val (.int (0 : Int32)), .unset] [(.int (0 : Int32)), (.ref b1), (.ref b1)])) rfl (hb hby d1_19)
  obtain ⟨T3, h3, L'3, X3, e3, W3, V3, O3, K3, N3, st3⟩ := own_stR X2 hx hZ e2 V1 O1 K1 N0 (Nat.le_trans (own_old_le O0) g1) (Or.inr (Nat.le_trans (Keep.refl h0 []).1 g1)) (j := (0 : Int32)) 0 (by decide) (Nat.le_of_ble_eq_true rfl) (vs' := [(.ref w5), .null, .null, .null, .null, .null, .null, .null, .null, .null, .null, .null, .null, .null, .null, .null, .null]) rfl rfl rfl (Or.inr ⟨_, _, rfl, O'1, (Ins.self (hS.2.2.2.2.2.2.2.2.2.2.2.2.2.2.2.2.1.ext O1.2))⟩) (g := (mkF m 22 #[.val (.int (0 : Int32)), .unset] [(.ref w5), (.int (0 : Int32)), (.ref b1), (.ref b1)])) rfl rfl (hb hby d1_22)
  obtain ⟨T4, X4, e4, st4⟩ := getS2 X3 hx hZ hown (host := "") (Or.inl (hw _ m10)) Via.refl e3 (hS.2.2.2.2.2.2.2.2.2.2.2.2.2.2.2.2.2.2.2.2.2.2.2.2.2.2.2.2.2.2.2.2.2.2.2.2.2.2.2.2.2.2.1.ext O3.2) (g := (mkF m 25 #[.val (.int (0 : Int32)), .unset] [(.int (1 : Int32)), (.ref b1), (.ref b1)])) rfl (hb hby d1_25)
  obtain ⟨T5, h5, L'5, X5, e5, W5, V5, O5, K5, N5, st5⟩ := own_stR X4 hx hZ e4 V3 O3 K3 N3 (Nat.le_trans (own_old_le O0) g1) (Or.inr (Nat.le_trans (Keep.refl h0 []).1 g1)) (j := (1 : Int32)) 1 (by decide) (Nat.le_of_ble_eq_true rfl) (vs' := [(.ref w5), (.ref w14), .null, .null, .null, .null, .null, .null, .null, .null, .null, .null, .null, .null, .null, .null, .null]) rfl rfl rfl (Or.inr ⟨_, _, rfl, O'1, (Ins.self (hS.2.2.2.2.2.2.2.2.2.2.2.2.2.2.2.2.2.2.2.2.2.2.2.2.2.2.2.2.2.2.2.2.2.2.2.2.2.2.2.2.2.2.2.1.ext O3.2))⟩) (g := (mkF m 28 #[.val (.int (0 : Int32)), .unset] [(.ref w14), (.int (1 : Int32)), (.ref b1), (.ref b1)])) rfl rfl (hb hby d1_28)
  obtain ⟨T6, X6, e6, st6⟩ := getS2 X5 hx hZ hown (host := "") (Or.inl (hw _ m12)) Via.refl e5 (hS.2.2.2.2.2.2.2.2.2.2.2.2.2.2.2.2.2.2.2.2.2.2.2.2.2.2.2.2.2.2.2.2.2.1.ext O5.2) (g := (mkF m 31 #[.val (.int (0 : Int32)), .unset] [(.int (2 : Int32)), (.ref b1), (.ref b1)])) rfl (hb hby d1_31)
  obtain ⟨T7, h7, L'7, X7, e7, W7, V7, O7, K7, N7, st7⟩ := own_stR X6 hx hZ e6 V5 O5 K5 N5 (Nat.le_trans (own_old_le O0) g1) (Or.inr (Nat.le_trans (Keep.refl h0 []).1 g1)) (j := (2 : Int32)) 2 (by decide) (Nat.le_of_ble_eq_true rfl) (vs' := [(.ref w5), (.ref w14), (.ref w11), .null, .null, .null, .null, .null, .null, .null, .null, .null, .null, .null, .null, .null, .null]) rfl rfl rfl (Or.inr ⟨_, _, rfl, O'1, (Ins.self (hS.2.2.2.2.2.2.2.2.2.2.2.2.2.2.2.2.2.2.2.2.2.2.2.2.2.2.2.2.2.2.2.2.2.2.1.ext O5.2))⟩) (g := (mkF m 34 #[.val (.int (0 : Int32)), .unset] [(.ref w11), (.int (2 : Int32)), (.ref b1), (.ref b1)])) rfl rfl (hb hby d1_34)
  obtain ⟨T8, X8, e8, st8⟩ := getS2 X7 hx hZ hown (host := "") (Or.inl (hw _ m14)) Via.refl e7 (hS.1.ext O7.2) (g := (mkF m 37 #[.val (.int (0 : Int32)), .unset] [(.int (3 : Int32)), (.ref b1), (.ref b1)])) rfl (hb hby d1_37)
  obtain ⟨T9, h9, L'9, X9, e9, W9, V9, O9, K9, N9, st9⟩ := own_stR X8 hx hZ e8 V7 O7 K7 N7 (Nat.le_trans (own_old_le O0) g1) (Or.inr (Nat.le_trans (Keep.refl h0 []).1 g1)) (j := (3 : Int32)) 3 (by decide) (Nat.le_of_ble_eq_true rfl) (vs' := [(.ref w5), (.ref w14), (.ref w11), (.ref w0), .null, .null, .null, .null, .null, .null, .null, .null, .null, .null, .null, .null, .null]) rfl rfl rfl (Or.inr ⟨_, _, rfl, O'1, (Ins.self (hS.2.1.ext O7.2))⟩) (g := (mkF m 40 #[.val (.int (0 : Int32)), .unset] [(.ref w0), (.int (3 : Int32)), (.ref b1), (.ref b1)])) rfl rfl (hb hby d1_40)
  obtain ⟨T10, h10, L'10, X10, e10, W10, V10, O10, K10, N10, st10⟩ := own_stR X9 hx hZ e9 V9 O9 K9 N9 (Nat.le_trans (own_old_le O0) g1) (Or.inr (Nat.le_trans (Keep.refl h0 []).1 g1)) (j := (4 : Int32)) 4 (by decide) (Nat.le_of_ble_eq_true rfl) (vs' := [(.ref w5), (.ref w14), (.ref w11), (.ref w0), .null, .null, .null, .null, .null, .null, .null, .null, .null, .null, .null, .null, .null]) rfl rfl rfl (Or.inl rfl) (g := (mkF m 44 #[.val (.int (0 : Int32)), .unset] [.null, (.int (4 : Int32)), (.ref b1), (.ref b1)])) rfl rfl (hb hby d1_44)
  obtain ⟨T11, X11, e11, st11⟩ := getS2 X10 hx hZ hown (host := "") (Or.inl (hw _ m16)) Via.refl e10 (hS.2.2.2.2.2.2.2.2.2.2.2.2.2.2.2.2.2.2.2.2.2.2.2.2.1.ext O10.2) (g := (mkF m 47 #[.val (.int (0 : Int32)), .unset] [(.int (5 : Int32)), (.ref b1), (.ref b1)])) rfl (hb hby d1_47)
  obtain ⟨T12, h12, L'12, X12, e12, W12, V12, O12, K12, N12, st12⟩ := own_stR X11 hx hZ e11 V10 O10 K10 N10 (Nat.le_trans (own_old_le O0) g1) (Or.inr (Nat.le_trans (Keep.refl h0 []).1 g1)) (j := (5 : Int32)) 5 (by decide) (Nat.le_of_ble_eq_true rfl) (vs' := [(.ref w5), (.ref w14), (.ref w11), (.ref w0), .null, (.ref w8), .null, .null, .null, .null, .null, .null, .null, .null, .null, .null, .null]) rfl rfl rfl (Or.inr ⟨_, _, rfl, O'1, (Ins.self (hS.2.2.2.2.2.2.2.2.2.2.2.2.2.2.2.2.2.2.2.2.2.2.2.2.2.1.ext O10.2))⟩) (g := (mkF m 50 #[.val (.int (0 : Int32)), .unset] [(.ref w8), (.int (5 : Int32)), (.ref b1), (.ref b1)])) rfl rfl (hb hby d1_50)
  obtain ⟨T13, X13, e13, st13⟩ := getS2 X12 hx hZ hown (host := "") (Or.inl (hw _ m18)) Via.refl e12 (hS.2.2.2.2.2.2.2.2.2.2.2.2.2.2.2.2.2.2.2.2.2.2.2.2.2.2.2.2.2.2.2.2.2.2.2.2.2.2.2.2.2.2.2.2.2.1.ext O12.2) (g := (mkF m 54 #[.val (.int (0 : Int32)), .unset] [(.int (6 : Int32)), (.ref b1), (.ref b1)])) rfl (hb hby d1_54)
  obtain ⟨T14, h14, L'14, X14, e14, W14, V14, O14, K14, N14, st14⟩ := own_stR X13 hx hZ e13 V12 O12 K12 N12 (Nat.le_trans (own_old_le O0) g1) (Or.inr (Nat.le_trans (Keep.refl h0 []).1 g1)) (j := (6 : Int32)) 6 (by decide) (Nat.le_of_ble_eq_true rfl) (vs' := [(.ref w5), (.ref w14), (.ref w11), (.ref w0), .null, (.ref w8), (.ref w15), .null, .null, .null, .null, .null, .null, .null, .null, .null, .null]) rfl rfl rfl (Or.inr ⟨_, _, rfl, O'1, (Ins.self (hS.2.2.2.2.2.2.2.2.2.2.2.2.2.2.2.2.2.2.2.2.2.2.2.2.2.2.2.2.2.2.2.2.2.2.2.2.2.2.2.2.2.2.2.2.2.2.1.ext O12.2))⟩) (g := (mkF m 57 #[.val (.int (0 : Int32)), .unset] [(.ref w15), (.int (6 : Int32)), (.ref b1), (.ref b1)])) rfl rfl (hb hby d1_57)
  obtain ⟨T15, X15, e15, st15⟩ := getS2 X14 hx hZ hown (host := "") (Or.inl (hw _ m20)) Via.refl e14 (hS.2.2.2.2.2.2.2.2.2.2.2.2.2.2.2.2.2.2.2.2.2.2.2.2.2.2.2.2.2.2.1.ext O14.2) (g := (mkF m 61 #[.val (.int (0 : Int32)), .unset] [(.int (7 : Int32)), (.ref b1), (.ref b1)])) rfl (hb hby d1_61)
  obtain ⟨T16, h16, L'16, X16, e16, W16, V16, O16, K16, N16, st16⟩ := own_stR X15 hx hZ e15 V14 O14 K14 N14 (Nat.le_trans (own_old_le O0) g1) (Or.inr (Nat.le_trans (Keep.refl h0 []).1 g1)) (j := (7 : Int32)) 7 (by decide) (Nat.le_of_ble_eq_true rfl) (vs' := [(.ref w5), (.ref w14), (.ref w11), (.ref w0), .null, (.ref w8), (.ref w15), (.ref w10), .null, .null, .null, .null, .null, .null, .null, .null, .null]) rfl rfl rfl (Or.inr ⟨_, _, rfl, O'1, (Ins.self (hS.2.2.2.2.2.2.2.2.2.2.2.2.2.2.2.2.2.2.2.2.2.2.2.2.2.2.2.2.2.2.2.1.ext O14.2))⟩) (g := (mkF m 64 #[.val (.int (0 : Int32)), .unset] [(.ref w10), (.int (7 : Int32)), (.ref b1), (.ref b1)])) rfl rfl (hb hby d1_64)
  obtain ⟨T17, X17, e17, st17⟩ := getS2 X16 hx hZ hown (host := "") (Or.inl (hw _ m22)) Via.refl e16 (hS.2.2.2.2.2.2.2.2.2.2.2.2.2.2.2.2.2.2.2.2.2.2.2.2.2.2.2.2.2.2.2.2.2.2.2.2.2.2.2.1.ext O16.2) (g := (mkF m 68 #[.val (.int (0 : Int32)), .unset] [(.int (8 : Int32)), (.ref b1), (.ref b1)])) rfl (hb hby d1_68)
  obtain ⟨T18, h18, L'18, X18, e18, W18, V18, O18, K18, N18, st18⟩ := own_stR X17 hx hZ e17 V16 O16 K16 N16 (Nat.le_trans (own_old_le O0) g1) (Or.inr (Nat.le_trans (Keep.refl h0 []).1 g1)) (j := (8 : Int32)) 8 (by decide) (Nat.le_of_ble_eq_true rfl) (vs' := [(.ref w5), (.ref w14), (.ref w11), (.ref w0), .null, (.ref w8), (.ref w15), (.ref w10), (.ref w13), .null, .null, .null, .null, .null, .null, .null, .null]) rfl rfl rfl (Or.inr ⟨_, _, rfl, O'1, (Ins.self (hS.2.2.2.2.2.2.2.2.2.2.2.2.2.2.2.2.2.2.2.2.2.2.2.2.2.2.2.2.2.2.2.2.2.2.2.2.2.2.2.2.1.ext O16.2))⟩) (g := (mkF m 71 #[.val (.int (0 : Int32)), .unset] [(.ref w13), (.int (8 : Int32)), (.ref b1), (.ref b1)])) rfl rfl (hb hby d1_71)
  obtain ⟨T19, X19, e19, st19⟩ := getS2 X18 hx hZ hown (host := "") (Or.inl (hw _ m24)) Via.refl e18 (hS.2.2.2.2.2.2.2.2.2.2.2.2.2.2.2.2.2.2.2.2.2.2.2.2.2.2.2.1.ext O18.2) (g := (mkF m 75 #[.val (.int (0 : Int32)), .unset] [(.int (9 : Int32)), (.ref b1), (.ref b1)])) rfl (hb hby d1_75)
  obtain ⟨T20, h20, L'20, X20, e20, W20, V20, O20, K20, N20, st20⟩ := own_stR X19 hx hZ e19 V18 O18 K18 N18 (Nat.le_trans (own_old_le O0) g1) (Or.inr (Nat.le_trans (Keep.refl h0 []).1 g1)) (j := (9 : Int32)) 9 (by decide) (Nat.le_of_ble_eq_true rfl) (vs' := [(.ref w5), (.ref w14), (.ref w11), (.ref w0), .null, (.ref w8), (.ref w15), (.ref w10), (.ref w13), (.ref w9), .null, .null, .null, .null, .null, .null, .null]) rfl rfl rfl (Or.inr ⟨_, _, rfl, O'1, (Ins.self (hS.2.2.2.2.2.2.2.2.2.2.2.2.2.2.2.2.2.2.2.2.2.2.2.2.2.2.2.2.1.ext O18.2))⟩) (g := (mkF m 78 #[.val (.int (0 : Int32)), .unset] [(.ref w9), (.int (9 : Int32)), (.ref b1), (.ref b1)])) rfl rfl (hb hby d1_78)
  obtain ⟨T21, X21, e21, st21⟩ := getS2 X20 hx hZ hown (host := "") (Or.inl (hw _ m26)) Via.refl e20 (hS.2.2.2.2.2.2.2.2.2.2.2.2.2.2.2.2.2.2.2.2.2.1.ext O20.2) (g := (mkF m 82 #[.val (.int (0 : Int32)), .unset] [(.int (10 : Int32)), (.ref b1), (.ref b1)])) rfl (hb hby d1_82)
  obtain ⟨T22, h22, L'22, X22, e22, W22, V22, O22, K22, N22, st22⟩ := own_stR X21 hx hZ e21 V20 O20 K20 N20 (Nat.le_trans (own_old_le O0) g1) (Or.inr (Nat.le_trans (Keep.refl h0 []).1 g1)) (j := (10 : Int32)) 10 (by decide) (Nat.le_of_ble_eq_true rfl) (vs' := [(.ref w5), (.ref w14), (.ref w11), (.ref w0), .null, (.ref w8), (.ref w15), (.ref w10), (.ref w13), (.ref w9), (.ref w7), .null, .null, .null, .null, .null, .null]) rfl rfl rfl (Or.inr ⟨_, _, rfl, O'1, (Ins.self (hS.2.2.2.2.2.2.2.2.2.2.2.2.2.2.2.2.2.2.2.2.2.2.1.ext O20.2))⟩) (g := (mkF m 85 #[.val (.int (0 : Int32)), .unset] [(.ref w7), (.int (10 : Int32)), (.ref b1), (.ref b1)])) rfl rfl (hb hby d1_85)
  obtain ⟨T23, X23, e23, st23⟩ := getS2 X22 hx hZ hown (host := "") (Or.inl (hw _ m28)) Via.refl e22 (hS.2.2.2.2.2.2.2.2.2.2.2.2.2.2.2.2.2.2.2.2.2.2.2.2.2.2.2.2.2.2.2.2.2.2.2.2.1.ext O22.2) (g := (mkF m 89 #[.val (.int (0 : Int32)), .unset] [(.int (11 : Int32)), (.ref b1), (.ref b1)])) rfl (hb hby d1_89)
  obtain ⟨T24, h24, L'24, X24, e24, W24, V24, O24, K24, N24, st24⟩ := own_stR X23 hx hZ e23 V22 O22 K22 N22 (Nat.le_trans (own_old_le O0) g1) (Or.inr (Nat.le_trans (Keep.refl h0 []).1 g1)) (j := (11 : Int32)) 11 (by decide) (Nat.le_of_ble_eq_true rfl) (vs' := [(.ref w5), (.ref w14), (.ref w11), (.ref w0), .null, (.ref w8), (.ref w15), (.ref w10), (.ref w13), (.ref w9), (.ref w7), (.ref w12), .null, .null, .null, .null, .null]) rfl rfl rfl (Or.inr ⟨_, _, rfl, O'1, (Ins.self (hS.2.2.2.2.2.2.2.2.2.2.2.2.2.2.2.2.2.2.2.2.2.2.2.2.2.2.2.2.2.2.2.2.2.2.2.2.2.1.ext O22.2))⟩) (g := (mkF m 92 #[.val (.int (0 : Int32)), .unset] [(.ref w12), (.int (11 : Int32)), (.ref b1), (.ref b1)])) rfl rfl (hb hby d1_92)
  obtain ⟨T25, X25, e25, st25⟩ := getS2 X24 hx hZ hown (host := "") (Or.inl (hw _ m30)) Via.refl e24 (hS.2.2.2.2.2.2.2.2.2.2.2.2.2.2.2.2.2.2.1.ext O24.2) (g := (mkF m 96 #[.val (.int (0 : Int32)), .unset] [(.int (12 : Int32)), (.ref b1), (.ref b1)])) rfl (hb hby d1_96)
  obtain ⟨T26, h26, L'26, X26, e26, W26, V26, O26, K26, N26, st26⟩ := own_stR X25 hx hZ e25 V24 O24 K24 N24 (Nat.le_trans (own_old_le O0) g1) (Or.inr (Nat.le_trans (Keep.refl h0 []).1 g1)) (j := (12 : Int32)) 12 (by decide) (Nat.le_of_ble_eq_true rfl) (vs' := [(.ref w5), (.ref w14), (.ref w11), (.ref w0), .null, (.ref w8), (.ref w15), (.ref w10), (.ref w13), (.ref w9), (.ref w7), (.ref w12), (.ref w6), .null, .null, .null, .null]) rfl rfl rfl (Or.inr ⟨_, _, rfl, O'1, (Ins.self (hS.2.2.2.2.2.2.2.2.2.2.2.2.2.2.2.2.2.2.2.1.ext O24.2))⟩) (g := (mkF m 99 #[.val (.int (0 : Int32)), .unset] [(.ref w6), (.int (12 : Int32)), (.ref b1), (.ref b1)])) rfl rfl (hb hby d1_99)
  obtain ⟨T27, X27, e27, st27⟩ := getS2 X26 hx hZ hown (host := "") (Or.inl (hw _ m32)) Via.refl e26 (hS.2.2.2.2.2.2.2.2.2.2.2.2.1.ext O26.2) (g := (mkF m 103 #[.val (.int (0 : Int32)), .unset] [(.int (13 : Int32)), (.ref b1), (.ref b1)])) rfl (hb hby d1_103)
  obtain ⟨T28, h28, L'28, X28, e28, W28, V28, O28, K28, N28, st28⟩ := own_stR X27 hx hZ e27 V26 O26 K26 N26 (Nat.le_trans (own_old_le O0) g1) (Or.inr (Nat.le_trans (Keep.refl h0 []).1 g1)) (j := (13 : Int32)) 13 (by decide) (Nat.le_of_ble_eq_true rfl) (vs' := [(.ref w5), (.ref w14), (.ref w11), (.ref w0), .null, (.ref w8), (.ref w15), (.ref w10), (.ref w13), (.ref w9), (.ref w7), (.ref w12), (.ref w6), (.ref w4), .null, .null, .null]) rfl rfl rfl (Or.inr ⟨_, _, rfl, O'1, (Ins.self (hS.2.2.2.2.2.2.2.2.2.2.2.2.2.1.ext O26.2))⟩) (g := (mkF m 106 #[.val (.int (0 : Int32)), .unset] [(.ref w4), (.int (13 : Int32)), (.ref b1), (.ref b1)])) rfl rfl (hb hby d1_106)
  obtain ⟨T29, X29, e29, st29⟩ := getS2 X28 hx hZ hown (host := "") (Or.inl (hw _ m34)) Via.refl e28 (hS.2.2.2.1.ext O28.2) (g := (mkF m 110 #[.val (.int (0 : Int32)), .unset] [(.int (14 : Int32)), (.ref b1), (.ref b1)])) rfl (hb hby d1_110)
  obtain ⟨T30, h30, L'30, X30, e30, W30, V30, O30, K30, N30, st30⟩ := own_stR X29 hx hZ e29 V28 O28 K28 N28 (Nat.le_trans (own_old_le O0) g1) (Or.inr (Nat.le_trans (Keep.refl h0 []).1 g1)) (j := (14 : Int32)) 14 (by decide) (Nat.le_of_ble_eq_true rfl) (vs' := [(.ref w5), (.ref w14), (.ref w11), (.ref w0), .null, (.ref w8), (.ref w15), (.ref w10), (.ref w13), (.ref w9), (.ref w7), (.ref w12), (.ref w6), (.ref w4), (.ref w1), .null, .null]) rfl rfl rfl (Or.inr ⟨_, _, rfl, O'1, (Ins.self (hS.2.2.2.2.1.ext O28.2))⟩) (g := (mkF m 113 #[.val (.int (0 : Int32)), .unset] [(.ref w1), (.int (14 : Int32)), (.ref b1), (.ref b1)])) rfl rfl (hb hby d1_113)
  obtain ⟨T31, X31, e31, st31⟩ := getS2 X30 hx hZ hown (host := "") (Or.inl (hw _ m36)) Via.refl e30 (hS.2.2.2.2.2.2.1.ext O30.2) (g := (mkF m 117 #[.val (.int (0 : Int32)), .unset] [(.int (15 : Int32)), (.ref b1), (.ref b1)])) rfl (hb hby d1_117)
  obtain ⟨T32, h32, L'32, X32, e32, W32, V32, O32, K32, N32, st32⟩ := own_stR X31 hx hZ e31 V30 O30 K30 N30 (Nat.le_trans (own_old_le O0) g1) (Or.inr (Nat.le_trans (Keep.refl h0 []).1 g1)) (j := (15 : Int32)) 15 (by decide) (Nat.le_of_ble_eq_true rfl) (vs' := [(.ref w5), (.ref w14), (.ref w11), (.ref w0), .null, (.ref w8), (.ref w15), (.ref w10), (.ref w13), (.ref w9), (.ref w7), (.ref w12), (.ref w6), (.ref w4), (.ref w1), (.ref w2), .null]) rfl rfl rfl (Or.inr ⟨_, _, rfl, O'1, (Ins.self (hS.2.2.2.2.2.2.2.1.ext O30.2))⟩) (g := (mkF m 120 #[.val (.int (0 : Int32)), .unset] [(.ref w2), (.int (15 : Int32)), (.ref b1), (.ref b1)])) rfl rfl (hb hby d1_120)
  obtain ⟨T33, X33, e33, st33⟩ := getS2 X32 hx hZ hown (host := "") (Or.inl (hw _ m38)) Via.refl e32 (hS.2.2.2.2.2.2.2.2.2.1.ext O32.2) (g := (mkF m 124 #[.val (.int (0 : Int32)), .unset] [(.int (16 : Int32)), (.ref b1), (.ref b1)])) rfl (hb hby d1_124)
  obtain ⟨T34, h34, L'34, X34, e34, W34, V34, O34, K34, N34, st34⟩ := own_stR X33 hx hZ e33 V32 O32 K32 N32 (Nat.le_trans (own_old_le O0) g1) (Or.inr (Nat.le_trans (Keep.refl h0 []).1 g1)) (j := (16 : Int32)) 16 (by decide) (Nat.le_of_ble_eq_true rfl) (vs' := [(.ref w5), (.ref w14), (.ref w11), (.ref w0), .null, (.ref w8), (.ref w15), (.ref w10), (.ref w13), (.ref w9), (.ref w7), (.ref w12), (.ref w6), (.ref w4), (.ref w1), (.ref w2), (.ref w3)]) rfl rfl rfl (Or.inr ⟨_, _, rfl, O'1, (Ins.self (hS.2.2.2.2.2.2.2.2.2.2.1.ext O32.2))⟩) (g := (mkF m 127 #[.val (.int (0 : Int32)), .unset] [(.ref w3), (.int (16 : Int32)), (.ref b1), (.ref b1)])) rfl rfl (hb hby d1_127)
  obtain ⟨fs, hr, hrun, hended, hW, hsame⟩ := X34.leave (v := some (.ref w5)) (fun h => by rw [Bd.returns] at h; cases h)
  refine ⟨_, _, pre0 _ ?_, hrun, hended, _, _, rfl, ?_, ⟨_, rfl⟩, hW, hsame.mono (by decide) (by decide)⟩
  · show Steps p.tables e below (s₁.setTop (mkF m 0 #[.val (.int (0 : Int32)), .unset] [])) _
    refine XS.iloadN X0.here hx rfl (hb hby d1_0) rfl ?_
    refine XS.ifNo X0.here hx rfl (hb hby d1_1) rfl ((if0 _ _).trans (flt (by decide : ¬ ((0 : Int32) < (0 : Int32)))).1) ?_
    refine XS.iloadN X0.here hx rfl (hb hby d1_4) rfl ?_
    refine XS.bipush X0.here hx rfl (hb hby d1_5) ?_
    show Steps p.tables e below (s₁.setTop (mkF m 7 #[.val (.int (0 : Int32)), .unset] [(.int (16 : Int32)), (.int (0 : Int32))])) _
    refine XS.icmpYes X0.here hx rfl (pc0 := 7) (pc' := 12) rfl (hb hby d1_7) rfl (flt (by decide : ¬ ((16 : Int32) < (0 : Int32)))).2.2.2 (by decide) (by decide) ?_
    refine XS.bipush X0.here hx rfl (hb hby d1_12) ?_
    refine st1 _ ?_
    refine XS.dup X1.here hx rfl (hb hby d1_17) rfl rfl ?_
    show Steps p.tables e below (T1.setTop (mkF m 18 #[.val (.int (0 : Int32)), .unset] [(.ref b1), (.ref b1)])) _
    refine XS.iconst X1.here hx rfl (hb hby d1_18) ?_
    refine st2 _ ?_
    refine st3 _ ?_
    refine XS.dup X3.here hx rfl (hb hby d1_23) rfl rfl ?_
    show Steps p.tables e below (T3.setTop (mkF m 24 #[.val (.int (0 : Int32)), .unset] [(.ref b1), (.ref b1)])) _
    refine XS.iconst X3.here hx rfl (hb hby d1_24) ?_
    refine st4 _ ?_
    refine st5 _ ?_
    refine XS.dup X5.here hx rfl (hb hby d1_29) rfl rfl ?_
    show Steps p.tables e below (T5.setTop (mkF m 30 #[.val (.int (0 : Int32)), .unset] [(.ref b1), (.ref b1)])) _
    refine XS.iconst X5.here hx rfl (hb hby d1_30) ?_
    refine st6 _ ?_
    refine st7 _ ?_
    refine XS.dup X7.here hx rfl (hb hby d1_35) rfl rfl ?_
    show Steps p.tables e below (T7.setTop (mkF m 36 #[.val (.int (0 : Int32)), .unset] [(.ref b1), (.ref b1)])) _
    refine XS.iconst X7.here hx rfl (hb hby d1_36) ?_
    refine st8 _ ?_
    refine st9 _ ?_
    refine XS.dup X9.here hx rfl (hb hby d1_41) rfl rfl ?_
    show Steps p.tables e below (T9.setTop (mkF m 42 #[.val (.int (0 : Int32)), .unset] [(.ref b1), (.ref b1)])) _
    refine XS.iconst X9.here hx rfl (hb hby d1_42) ?_
    refine XS.aconstNull X9.here hx rfl (hb hby d1_43) ?_
    refine st10 _ ?_
    refine XS.dup X10.here hx rfl (hb hby d1_45) rfl rfl ?_
    show Steps p.tables e below (T10.setTop (mkF m 46 #[.val (.int (0 : Int32)), .unset] [(.ref b1), (.ref b1)])) _
    refine XS.iconst X10.here hx rfl (hb hby d1_46) ?_
    refine st11 _ ?_
    refine st12 _ ?_
    refine XS.dup X12.here hx rfl (hb hby d1_51) rfl rfl ?_
    show Steps p.tables e below (T12.setTop (mkF m 52 #[.val (.int (0 : Int32)), .unset] [(.ref b1), (.ref b1)])) _
    refine XS.bipush X12.here hx rfl (hb hby d1_52) ?_
    refine st13 _ ?_
    refine st14 _ ?_
    refine XS.dup X14.here hx rfl (hb hby d1_58) rfl rfl ?_
    show Steps p.tables e below (T14.setTop (mkF m 59 #[.val (.int (0 : Int32)), .unset] [(.ref b1), (.ref b1)])) _
    refine XS.bipush X14.here hx rfl (hb hby d1_59) ?_
    refine st15 _ ?_
    refine st16 _ ?_
    refine XS.dup X16.here hx rfl (hb hby d1_65) rfl rfl ?_
    show Steps p.tables e below (T16.setTop (mkF m 66 #[.val (.int (0 : Int32)), .unset] [(.ref b1), (.ref b1)])) _
    refine XS.bipush X16.here hx rfl (hb hby d1_66) ?_
    refine st17 _ ?_
    refine st18 _ ?_
    refine XS.dup X18.here hx rfl (hb hby d1_72) rfl rfl ?_
    show Steps p.tables e below (T18.setTop (mkF m 73 #[.val (.int (0 : Int32)), .unset] [(.ref b1), (.ref b1)])) _
    refine XS.bipush X18.here hx rfl (hb hby d1_73) ?_
    refine st19 _ ?_
    refine st20 _ ?_
    refine XS.dup X20.here hx rfl (hb hby d1_79) rfl rfl ?_
    show Steps p.tables e below (T20.setTop (mkF m 80 #[.val (.int (0 : Int32)), .unset] [(.ref b1), (.ref b1)])) _
    refine XS.bipush X20.here hx rfl (hb hby d1_80) ?_
    refine st21 _ ?_
    refine st22 _ ?_
    refine XS.dup X22.here hx rfl (hb hby d1_86) rfl rfl ?_
    show Steps p.tables e below (T22.setTop (mkF m 87 #[.val (.int (0 : Int32)), .unset] [(.ref b1), (.ref b1)])) _
    refine XS.bipush X22.here hx rfl (hb hby d1_87) ?_
    refine st23 _ ?_
    refine st24 _ ?_
    refine XS.dup X24.here hx rfl (hb hby d1_93) rfl rfl ?_
    show Steps p.tables e below (T24.setTop (mkF m 94 #[.val (.int (0 : Int32)), .unset] [(.ref b1), (.ref b1)])) _
    refine XS.bipush X24.here hx rfl (hb hby d1_94) ?_
    refine st25 _ ?_
    refine st26 _ ?_
    refine XS.dup X26.here hx rfl (hb hby d1_100) rfl rfl ?_
    show Steps p.tables e below (T26.setTop (mkF m 101 #[.val (.int (0 : Int32)), .unset] [(.ref b1), (.ref b1)])) _
    refine XS.bipush X26.here hx rfl (hb hby d1_101) ?_
    refine st27 _ ?_
    refine st28 _ ?_
    refine XS.dup X28.here hx rfl (hb hby d1_107) rfl rfl ?_
    show Steps p.tables e below (T28.setTop (mkF m 108 #[.val (.int (0 : Int32)), .unset] [(.ref b1), (.ref b1)])) _
    refine XS.bipush X28.here hx rfl (hb hby d1_108) ?_
    refine st29 _ ?_
    refine st30 _ ?_
    refine XS.dup X30.here hx rfl (hb hby d1_114) rfl rfl ?_
    show Steps p.tables e below (T30.setTop (mkF m 115 #[.val (.int (0 : Int32)), .unset] [(.ref b1), (.ref b1)])) _
    refine XS.bipush X30.here hx rfl (hb hby d1_115) ?_
    refine st31 _ ?_
    refine st32 _ ?_
    refine XS.dup X32.here hx rfl (hb hby d1_121) rfl rfl ?_
    show Steps p.tables e below (T32.setTop (mkF m 122 #[.val (.int (0 : Int32)), .unset] [(.ref b1), (.ref b1)])) _
    refine XS.bipush X32.here hx rfl (hb hby d1_122) ?_
    refine st33 _ ?_
    refine st34 _ ?_
    refine XS.astoreN X34.here hx rfl (hb hby d1_128) rfl rfl (l' := #[.val (.int (0 : Int32)), .val (.ref b1)]) rfl ?_
    show Steps p.tables e below (T34.setTop (mkF m 129 #[.val (.int (0 : Int32)), .val (.ref b1)] [])) _
    refine XS.aloadN X34.here hx rfl (hb hby d1_129) rfl rfl ?_
    refine XS.iloadN X34.here hx rfl (hb hby d1_130) rfl ?_
    refine own_aaload X34 hx hZ e34 V34 (j := (0 : Int32)) (by decide) (v := (.ref w5)) rfl rfl (g := (mkF m 131 #[.val (.int (0 : Int32)), .val (.ref b1)] [(.int (0 : Int32)), (.ref b1)])) rfl rfl (hb hby d1_131) ?_
    exact retOut X34 hx Bd.returns rfl (Or.inr (Or.inr (Or.inr (Or.inr ⟨rfl, rfl, rfl⟩)))) (hb hby d1_132) hr
  · show Qrm3 Z w0 w1 w2 w3 w4 w5 w6 w7 w8 w9 w10 w11 w12 w13 w14 w15 w16 kw16 h0 n0 _ T34.heap _
    rw [e34]
    exact ⟨rfl, N34, K34⟩
def Qrm4 (Z : State) (w0 : Addr) (w1 : Addr) (w2 : Addr) (w3 : Addr) (w4 : Addr) (w5 : Addr) (w6 : Addr) (w7 : Addr) (w8 : Addr) (w9 : Addr) (w10 : Addr) (w11 : Addr) (w12 : Addr) (w13 : Addr) (w14 : Addr) (w15 : Addr) (w16 : Addr) (kw16 : ClassId) (h0 : Heap) (n0 : Nat) (v : Option Value) (h : Heap) (L : List Loc) : Prop := v = some (.ref w5) ∧ Fr n0 L ∧ h = h0
set_option maxRecDepth 65536 in
set_option maxHeartbeats 40000000 in
theorem rm4 (l : Launch) (Z : State) (a0 : Array Value) (hw : ∀ d ∈ tables_1, d.before a0 Z = true) (w0 : Addr) (w1 : Addr) (w2 : Addr) (w3 : Addr) (w4 : Addr) (w5 : Addr) (w6 : Addr) (w7 : Addr) (w8 : Addr) (w9 : Addr) (w10 : Addr) (w11 : Addr) (w12 : Addr) (w13 : Addr) (w14 : Addr) (w15 : Addr) (w16 : Addr) (kw16 : ClassId) (hS : SF Z w0 w1 w2 w3 w4 w5 w6 w7 w8 w9 w10 w11 w12 w13 w14 w15 w16 kw16) (ws : List Jvm.Cond) (h0 : Heap) (n0 : Nat) (O0 : Old Z n0 h0) :
    MetFree l (⟨z0, "of", z2⟩ : MethodName) (head1 (Jvm.Cond.code (⟨z0, "of", z2⟩ : MethodName) prog_90_method_5_code 1 (some (.object z0)) :: ws) ({ frames := 0, cells := 0, slots := 0, locals := 0 } : Room)) (fun a U => a = #[(.int (0 : Int32))] ∧ Z.Warmed39 U.vm ∧ U.heap = h0) (fun _ _ _ _ _ => True) (fun _ U o U' => ∃ v L, o = .returned v ∧ Qrm4 Z w0 w1 w2 w3 w4 w5 w6 w7 w8 w9 w10 w11 w12 w13 w14 w15 w16 kw16 h0 n0 v U'.heap L ∧ FrameEnd U o U' L ({ frames := 0, cells := 0, slots := 0, locals := 0 } : Room).cells ({ frames := 0, cells := 0, slots := 0, locals := 0 } : Room).slots) := by
  refine MetFree.of_bodySF (plainFor_of_name pn18) hisR ?_
  intro p e s m args below meth c s₁ Bd hml0 hP hK
  obtain ⟨rfl, hZ, hh⟩ := hP
  have hx := Bd.exec
  have hby := Bd.bytes
  have hml : c.maxLocals = 1 := hml0
  have hown : s.vm.findClass z0 = some m.cls := findClass_of_methodNamed Bd.named
  have hnm := (name_of_methodNamed Bd.named Bd.method).1
  have X0 : Stand p l e ({ frames := 0, cells := 0, slots := 0, locals := 0 } : Room) s m #[(.int (0 : Int32))] below meth c s₁ [] 0 0 := Stand.of_body Bd
  have e0 : s₁.heap = h0 := by rw [← hh, Bd.state]; rfl
  have N0 := Fr.nil n0
  have pre0 : ∀ t, Steps p.tables e below (s₁.setTop (mkF m 0 #[.val (.int (0 : Int32))] [])) t → Steps p.tables e below (s₁.setTop (entryFrame m #[(.int (0 : Int32))] 1)) t := fun t k => castTop (ef17 m (0 : Int32)) k
  obtain ⟨T1, X1, e1, st1⟩ := getS2 X0 hx hZ hown (host := "") (Or.inl (hw _ m43)) Via.refl e0 (hS.2.2.2.2.2.2.2.2.2.2.2.2.2.2.2.2.2.2.2.2.2.2.2.2.2.2.2.2.2.2.2.2.2.2.2.2.2.2.2.2.2.2.2.2.2.2.2.2.1.ext O0.2) (g := (mkF m 5 #[.val (.int (0 : Int32))] [(.int (0 : Int32))])) rfl (hb hby d2_5)
  obtain ⟨T2, X2, e2, st2⟩ := getS2 X1 hx hZ hown (host := "") (Or.inl (hw _ m43)) Via.refl e1 (hS.2.2.2.2.2.2.2.2.2.2.2.2.2.2.2.2.2.2.2.2.2.2.2.2.2.2.2.2.2.2.2.2.2.2.2.2.2.2.2.2.2.2.2.2.2.2.2.2.1.ext O0.2) (g := (mkF m 12 #[.val (.int (0 : Int32))] [])) rfl (hb hby d2_12)
  obtain ⟨fs, hr, hrun, hended, hW, hsame⟩ := X2.leave (v := some (.ref w5)) (fun h => by rw [Bd.returns] at h; cases h)
  refine ⟨_, _, pre0 _ ?_, hrun, hended, _, _, rfl, ?_, ⟨_, rfl⟩, hW, hsame.mono (by decide) (by decide)⟩
  · show Steps p.tables e below (s₁.setTop (mkF m 0 #[.val (.int (0 : Int32))] [])) _
    refine XS.iloadN X0.here hx rfl (hb hby d2_0) rfl ?_
    refine XS.ifNo X0.here hx rfl (hb hby d2_1) rfl ((if0 _ _).trans (flt (by decide : ¬ ((0 : Int32) < (0 : Int32)))).1) ?_
    refine XS.iloadN X0.here hx rfl (hb hby d2_4) rfl ?_
    refine st1 _ ?_
    show Steps p.tables e below (T1.setTop (mkF m 8 #[.val (.int (0 : Int32))] [(.ref w16), (.int (0 : Int32))])) _
    refine own_alen X1 hx hZ e1 (hS.2.2.2.2.2.2.2.2.2.2.2.2.2.2.2.2.2.2.2.2.2.2.2.2.2.2.2.2.2.2.2.2.2.2.2.2.2.2.2.2.2.2.2.2.2.2.2.2.2.ext O0.2) (g := (mkF m 8 #[.val (.int (0 : Int32))] [(.ref w16), (.int (0 : Int32))])) rfl rfl (hb hby d2_8) ?_
    refine XS.icmpNo X1.here hx rfl (hb hby d2_9) rfl (tlt (by decide : (0 : Int32) < (17 : Int32))).2.1 ?_
    refine st2 _ ?_
    refine XS.iloadN X2.here hx rfl (hb hby d2_15) rfl ?_
    show Steps p.tables e below (T2.setTop (mkF m 16 #[.val (.int (0 : Int32))] [(.int (0 : Int32)), (.ref w16)])) _
    refine own_aaload X2 hx hZ e2 (hS.2.2.2.2.2.2.2.2.2.2.2.2.2.2.2.2.2.2.2.2.2.2.2.2.2.2.2.2.2.2.2.2.2.2.2.2.2.2.2.2.2.2.2.2.2.2.2.2.2.ext O0.2) (j := (0 : Int32)) (by decide) (v := (.ref w5)) rfl rfl (g := (mkF m 16 #[.val (.int (0 : Int32))] [(.int (0 : Int32)), (.ref w16)])) rfl rfl (hb hby d2_16) ?_
    refine XS.goto X2.here hx rfl (pc0 := 17) (pc' := 21) rfl (hb hby d2_17) (by decide) (by decide) ?_
    exact retOut X2 hx Bd.returns rfl (Or.inr (Or.inr (Or.inr (Or.inr ⟨rfl, rfl, rfl⟩)))) (hb hby d2_21) hr
  · show Qrm4 Z w0 w1 w2 w3 w4 w5 w6 w7 w8 w9 w10 w11 w12 w13 w14 w15 w16 kw16 h0 n0 _ T2.heap _
    rw [e2]
    exact ⟨rfl, N0, rfl⟩
def Qrm5 (Z : State) (w0 : Addr) (w1 : Addr) (w2 : Addr) (w3 : Addr) (w4 : Addr) (w5 : Addr) (w6 : Addr) (w7 : Addr) (w8 : Addr) (w9 : Addr) (w10 : Addr) (w11 : Addr) (w12 : Addr) (w13 : Addr) (w14 : Addr) (w15 : Addr) (w16 : Addr) (kw16 : ClassId) (h0 : Heap) (n0 : Nat) (v : Option Value) (h : Heap) (L : List Loc) : Prop := v = some (.int (0 : Int32)) ∧ Fr n0 L ∧ h = h0
set_option maxRecDepth 65536 in
set_option maxHeartbeats 40000000 in
theorem rm5 (l : Launch) (Z : State) (a0 : Array Value) (hw : ∀ d ∈ tables_1, d.before a0 Z = true) (w0 : Addr) (w1 : Addr) (w2 : Addr) (w3 : Addr) (w4 : Addr) (w5 : Addr) (w6 : Addr) (w7 : Addr) (w8 : Addr) (w9 : Addr) (w10 : Addr) (w11 : Addr) (w12 : Addr) (w13 : Addr) (w14 : Addr) (w15 : Addr) (w16 : Addr) (kw16 : ClassId) (hS : SF Z w0 w1 w2 w3 w4 w5 w6 w7 w8 w9 w10 w11 w12 w13 w14 w15 w16 kw16) (ws : List Jvm.Cond) (h0 : Heap) (n0 : Nat) (O0 : Old Z n0 h0) :
    MetFree l (⟨z0, "code", "()I"⟩ : MethodName) (head1 (Jvm.Cond.code (⟨z0, "code", "()I"⟩ : MethodName) prog_90_method_4_code 1 (some .int) :: ws) ({ frames := 0, cells := 0, slots := 0, locals := 0 } : Room)) (fun a U => a = #[(.ref w5)] ∧ Z.Warmed39 U.vm ∧ U.heap = h0) (fun _ _ _ _ _ => True) (fun _ U o U' => ∃ v L, o = .returned v ∧ Qrm5 Z w0 w1 w2 w3 w4 w5 w6 w7 w8 w9 w10 w11 w12 w13 w14 w15 w16 kw16 h0 n0 v U'.heap L ∧ FrameEnd U o U' L ({ frames := 0, cells := 0, slots := 0, locals := 0 } : Room).cells ({ frames := 0, cells := 0, slots := 0, locals := 0 } : Room).slots) := by
  refine MetFree.of_bodySF (plainFor_of_name pn18) hisR ?_
  intro p e s m args below meth c s₁ Bd hml0 hP hK
  obtain ⟨rfl, hZ, hh⟩ := hP
  have hx := Bd.exec
  have hby := Bd.bytes
  have hml : c.maxLocals = 1 := hml0
  have hown : s.vm.findClass z0 = some m.cls := findClass_of_methodNamed Bd.named
  have hnm := (name_of_methodNamed Bd.named Bd.method).1
  have X0 : Stand p l e ({ frames := 0, cells := 0, slots := 0, locals := 0 } : Room) s m #[(.ref w5)] below meth c s₁ [] 0 0 := Stand.of_body Bd
  have e0 : s₁.heap = h0 := by rw [← hh, Bd.state]; rfl
  have N0 := Fr.nil n0
  have pre0 : ∀ t, Steps p.tables e below (s₁.setTop (mkF m 0 #[.val (.ref w5)] [])) t → Steps p.tables e below (s₁.setTop (entryFrame m #[(.ref w5)] 1)) t := fun t k => castTop (ef135 m w5) k
  obtain ⟨T1, X1, e1, st1⟩ := getF X0 hx hZ hown (host := "") (Or.inl (hw _ m50)) Via.refl e0 (hS.2.2.2.2.2.2.2.2.2.2.2.2.2.2.2.2.2.1.ext O0.2) (g := (mkF m 1 #[.val (.ref w5)] [(.ref w5)])) rfl rfl (hb hby d3_1)
  obtain ⟨fs, hr, hrun, hended, hW, hsame⟩ := X1.leave (v := some (.int (0 : Int32))) (fun h => by rw [Bd.returns] at h; cases h)
  refine ⟨_, _, pre0 _ ?_, hrun, hended, _, _, rfl, ?_, ⟨_, rfl⟩, hW, hsame.mono (by decide) (by decide)⟩
  · show Steps p.tables e below (s₁.setTop (mkF m 0 #[.val (.ref w5)] [])) _
    refine XS.aloadN X0.here hx rfl (hb hby d3_0) rfl rfl ?_
    refine st1 _ ?_
    exact retOut X1 hx Bd.returns rfl (Or.inl ⟨rfl, Or.inl rfl, _, rfl⟩) (hb hby d3_4) hr
  · show Qrm5 Z w0 w1 w2 w3 w4 w5 w6 w7 w8 w9 w10 w11 w12 w13 w14 w15 w16 kw16 h0 n0 _ T1.heap _
    rw [e1]
    exact ⟨rfl, N0, rfl⟩
def Qrm6 (Z : State) (w0 : Addr) (w1 : Addr) (w2 : Addr) (w3 : Addr) (w4 : Addr) (w5 : Addr) (w6 : Addr) (w7 : Addr) (w8 : Addr) (w9 : Addr) (w10 : Addr) (w11 : Addr) (w12 : Addr) (w13 : Addr) (w14 : Addr) (w15 : Addr) (w16 : Addr) (kw16 : ClassId) (h0 : Heap) (n0 : Nat) (v : Option Value) (h : Heap) (L : List Loc) : Prop := v = some (.ref w14) ∧ Fr n0 L ∧ Keep h0 h []
set_option maxRecDepth 65536 in
set_option maxHeartbeats 40000000 in
theorem rm6 (l : Launch) (Z : State) (a0 : Array Value) (hw : ∀ d ∈ tables_1, d.before a0 Z = true) (w0 : Addr) (w1 : Addr) (w2 : Addr) (w3 : Addr) (w4 : Addr) (w5 : Addr) (w6 : Addr) (w7 : Addr) (w8 : Addr) (w9 : Addr) (w10 : Addr) (w11 : Addr) (w12 : Addr) (w13 : Addr) (w14 : Addr) (w15 : Addr) (w16 : Addr) (kw16 : ClassId) (hS : SF Z w0 w1 w2 w3 w4 w5 w6 w7 w8 w9 w10 w11 w12 w13 w14 w15 w16 kw16) (ws : List Jvm.Cond) (h0 : Heap) (n0 : Nat) (O0 : Old Z n0 h0) :
    MetFree l (⟨z1, "expected", z2⟩ : MethodName) (head1 (Jvm.Cond.code (⟨z1, "expected", z2⟩ : MethodName) method_3_code 2 (some (.object z0)) :: ws) ({ frames := 0, cells := 1, slots := 17, locals := 0 } : Room)) (fun a U => a = #[(.int (1 : Int32))] ∧ Z.Warmed39 U.vm ∧ U.heap = h0) (fun _ _ _ _ _ => True) (fun _ U o U' => ∃ v L, o = .returned v ∧ Qrm6 Z w0 w1 w2 w3 w4 w5 w6 w7 w8 w9 w10 w11 w12 w13 w14 w15 w16 kw16 h0 n0 v U'.heap L ∧ FrameEnd U o U' L ({ frames := 0, cells := 1, slots := 17, locals := 0 } : Room).cells ({ frames := 0, cells := 1, slots := 17, locals := 0 } : Room).slots) := by
  refine MetFree.of_bodySF (plainFor_of_name pn7) hisR ?_
  intro p e s m args below meth c s₁ Bd hml0 hP hK
  obtain ⟨rfl, hZ, hh⟩ := hP
  have hx := Bd.exec
  have hby := Bd.bytes
  have hml : c.maxLocals = 2 := hml0
  have hown : s.vm.findClass z1 = some m.cls := findClass_of_methodNamed Bd.named
  have hnm := (name_of_methodNamed Bd.named Bd.method).1
  have X0 : Stand p l e ({ frames := 0, cells := 1, slots := 17, locals := 0 } : Room) s m #[(.int (1 : Int32))] below meth c s₁ [] 0 0 := Stand.of_body Bd
  have e0 : s₁.heap = h0 := by rw [← hh, Bd.state]; rfl
  have N0 := Fr.nil n0
  have pre0 : ∀ t, Steps p.tables e below (s₁.setTop (mkF m 0 #[.val (.int (1 : Int32)), .unset] [])) t → Steps p.tables e below (s₁.setTop (entryFrame m #[(.int (1 : Int32))] 2)) t := fun t k => castTop (ef6 m (1 : Int32)) k
  obtain ⟨T1, h1, k1, b1, X1, e1, E1, V1, O'1, g1, O1, K1, st1⟩ := own_newR X0 hx hZ (vs := [.null, .null, .null, .null, .null, .null, .null, .null, .null, .null, .null, .null, .null, .null, .null, .null, .null]) (cap := 17) rfl hown (hw _ m4) (hw _ m5) e0 O0 (Keep.refl h0 []) (g := (mkF m 14 #[.val (.int (1 : Int32)), .unset] [(.int (17 : Int32))])) rfl (hb hby d1_14) rfl (by decide) (by decide) (by decide) (by decide) (by decide)
  obtain ⟨T2, X2, e2, st2⟩ := getS2 X1 hx hZ hown (host := "") (Or.inl (hw _ m6)) Via.refl e1 (hS.2.2.2.2.2.2.2.2.2.2.2.2.2.2.2.1.ext O1.2) (g := (mkF m 19 #[.val (.int (1 : Int32)), .unset] [(.int (0 : Int32)), (.ref b1), (.ref b1)])) rfl (hb hby d1_19)
  obtain ⟨T3, h3, L'3, X3, e3, W3, V3, O3, K3, N3, st3⟩ := own_stR X2 hx hZ e2 V1 O1 K1 N0 (Nat.le_trans (own_old_le O0) g1) (Or.inr (Nat.le_trans (Keep.refl h0 []).1 g1)) (j := (0 : Int32)) 0 (by decide) (Nat.le_of_ble_eq_true rfl) (vs' := [(.ref w5), .null, .null, .null, .null, .null, .null, .null, .null, .null, .null, .null, .null, .null, .null, .null, .null]) rfl rfl rfl (Or.inr ⟨_, _, rfl, O'1, (Ins.self (hS.2.2.2.2.2.2.2.2.2.2.2.2.2.2.2.2.1.ext O1.2))⟩) (g := (mkF m 22 #[.val (.int (1 : Int32)), .unset] [(.ref w5), (.int (0 : Int32)), (.ref b1), (.ref b1)])) rfl rfl (hb hby d1_22)
  obtain ⟨T4, X4, e4, st4⟩ := getS2 X3 hx hZ hown (host := "") (Or.inl (hw _ m10)) Via.refl e3 (hS.2.2.2.2.2.2.2.2.2.2.2.2.2.2.2.2.2.2.2.2.2.2.2.2.2.2.2.2.2.2.2.2.2.2.2.2.2.2.2.2.2.2.1.ext O3.2) (g := (mkF m 25 #[.val (.int (1 : Int32)), .unset] [(.int (1 : Int32)), (.ref b1), (.ref b1)])) rfl (hb hby d1_25)
  obtain ⟨T5, h5, L'5, X5, e5, W5, V5, O5, K5, N5, st5⟩ := own_stR X4 hx hZ e4 V3 O3 K3 N3 (Nat.le_trans (own_old_le O0) g1) (Or.inr (Nat.le_trans (Keep.refl h0 []).1 g1)) (j := (1 : Int32)) 1 (by decide) (Nat.le_of_ble_eq_true rfl) (vs' := [(.ref w5), (.ref w14), .null, .null, .null, .null, .null, .null, .null, .null, .null, .null, .null, .null, .null, .null, .null]) rfl rfl rfl (Or.inr ⟨_, _, rfl, O'1, (Ins.self (hS.2.2.2.2.2.2.2.2.2.2.2.2.2.2.2.2.2.2.2.2.2.2.2.2.2.2.2.2.2.2.2.2.2.2.2.2.2.2.2.2.2.2.2.1.ext O3.2))⟩) (g := (mkF m 28 #[.val (.int (1 : Int32)), .unset] [(.ref w14), (.int (1 : Int32)), (.ref b1), (.ref b1)])) rfl rfl (hb hby d1_28)
  obtain ⟨T6, X6, e6, st6⟩ := getS2 X5 hx hZ hown (host := "") (Or.inl (hw _ m12)) Via.refl e5 (hS.2.2.2.2.2.2.2.2.2.2.2.2.2.2.2.2.2.2.2.2.2.2.2.2.2.2.2.2.2.2.2.2.2.1.ext O5.2) (g := (mkF m 31 #[.val (.int (1 : Int32)), .unset] [(.int (2 : Int32)), (.ref b1), (.ref b1)])) rfl (hb hby d1_31)
  obtain ⟨T7, h7, L'7, X7, e7, W7, V7, O7, K7, N7, st7⟩ := own_stR X6 hx hZ e6 V5 O5 K5 N5 (Nat.le_trans (own_old_le O0) g1) (Or.inr (Nat.le_trans (Keep.refl h0 []).1 g1)) (j := (2 : Int32)) 2 (by decide) (Nat.le_of_ble_eq_true rfl) (vs' := [(.ref w5), (.ref w14), (.ref w11), .null, .null, .null, .null, .null, .null, .null, .null, .null, .null, .null, .null, .null, .null]) rfl rfl rfl (Or.inr ⟨_, _, rfl, O'1, (Ins.self (hS.2.2.2.2.2.2.2.2.2.2.2.2.2.2.2.2.2.2.2.2.2.2.2.2.2.2.2.2.2.2.2.2.2.2.1.ext O5.2))⟩) (g := (mkF m 34 #[.val (.int (1 : Int32)), .unset] [(.ref w11), (.int (2 : Int32)), (.ref b1), (.ref b1)])) rfl rfl (hb hby d1_34)
  obtain ⟨T8, X8, e8, st8⟩ := getS2 X7 hx hZ hown (host := "") (Or.inl (hw _ m14)) Via.refl e7 (hS.1.ext O7.2) (g := (mkF m 37 #[.val (.int (1 : Int32)), .unset] [(.int (3 : Int32)), (.ref b1), (.ref b1)])) rfl (hb hby d1_37)
  obtain ⟨T9, h9, L'9, X9, e9, W9, V9, O9, K9, N9, st9⟩ := own_stR X8 hx hZ e8 V7 O7 K7 N7 (Nat.le_trans (own_old_le O0) g1) (Or.inr (Nat.le_trans (Keep.refl h0 []).1 g1)) (j := (3 : Int32)) 3 (by decide) (Nat.le_of_ble_eq_true rfl) (vs' := [(.ref w5), (.ref w14), (.ref w11), (.ref w0), .null, .null, .null, .null, .null, .null, .null, .null, .null, .null, .null, .null, .null]) rfl rfl rfl (Or.inr ⟨_, _, rfl, O'1, (Ins.self (hS.2.1.ext O7.2))⟩) (g := (mkF m 40 #[.val (.int (1 : Int32)), .unset] [(.ref w0), (.int (3 : Int32)), (.ref b1), (.ref b1)])) rfl rfl (hb hby d1_40)
  obtain ⟨T10, h10, L'10, X10, e10, W10, V10, O10, K10, N10, st10⟩ := own_stR X9 hx hZ e9 V9 O9 K9 N9 (Nat.le_trans (own_old_le O0) g1) (Or.inr (Nat.le_trans (Keep.refl h0 []).1 g1)) (j := (4 : Int32)) 4 (by decide) (Nat.le_of_ble_eq_true rfl) (vs' := [(.ref w5), (.ref w14), (.ref w11), (.ref w0), .null, .null, .null, .null, .null, .null, .null, .null, .null, .null, .null, .null, .null]) rfl rfl rfl (Or.inl rfl) (g := (mkF m 44 #[.val (.int (1 : Int32)), .unset] [.null, (.int (4 : Int32)), (.ref b1), (.ref b1)])) rfl rfl (hb hby d1_44)
  obtain ⟨T11, X11, e11, st11⟩ := getS2 X10 hx hZ hown (host := "") (Or.inl (hw _ m16)) Via.refl e10 (hS.2.2.2.2.2.2.2.2.2.2.2.2.2.2.2.2.2.2.2.2.2.2.2.2.1.ext O10.2) (g := (mkF m 47 #[.val (.int (1 : Int32)), .unset] [(.int (5 : Int32)), (.ref b1), (.ref b1)])) rfl (hb hby d1_47)
  obtain ⟨T12, h12, L'12, X12, e12, W12, V12, O12, K12, N12, st12⟩ := own_stR X11 hx hZ e11 V10 O10 K10 N10 (Nat.le_trans (own_old_le O0) g1) (Or.inr (Nat.le_trans (Keep.refl h0 []).1 g1)) (j := (5 : Int32)) 5 (by decide) (Nat.le_of_ble_eq_true rfl) (vs' := [(.ref w5), (.ref w14), (.ref w11), (.ref w0), .null, (.ref w8), .null, .null, .null, .null, .null, .null, .null, .null, .null, .null, .null]) rfl rfl rfl (Or.inr ⟨_, _, rfl, O'1, (Ins.self (hS.2.2.2.2.2.2.2.2.2.2.2.2.2.2.2.2.2.2.2.2.2.2.2.2.2.1.ext O10.2))⟩) (g := (mkF m 50 #[.val (.int (1 : Int32)), .unset] [(.ref w8), (.int (5 : Int32)), (.ref b1), (.ref b1)])) rfl rfl (hb hby d1_50)
  obtain ⟨T13, X13, e13, st13⟩ := getS2 X12 hx hZ hown (host := "") (Or.inl (hw _ m18)) Via.refl e12 (hS.2.2.2.2.2.2.2.2.2.2.2.2.2.2.2.2.2.2.2.2.2.2.2.2.2.2.2.2.2.2.2.2.2.2.2.2.2.2.2.2.2.2.2.2.2.1.ext O12.2) (g := (mkF m 54 #[.val (.int (1 : Int32)), .unset] [(.int (6 : Int32)), (.ref b1), (.ref b1)])) rfl (hb hby d1_54)
  obtain ⟨T14, h14, L'14, X14, e14, W14, V14, O14, K14, N14, st14⟩ := own_stR X13 hx hZ e13 V12 O12 K12 N12 (Nat.le_trans (own_old_le O0) g1) (Or.inr (Nat.le_trans (Keep.refl h0 []).1 g1)) (j := (6 : Int32)) 6 (by decide) (Nat.le_of_ble_eq_true rfl) (vs' := [(.ref w5), (.ref w14), (.ref w11), (.ref w0), .null, (.ref w8), (.ref w15), .null, .null, .null, .null, .null, .null, .null, .null, .null, .null]) rfl rfl rfl (Or.inr ⟨_, _, rfl, O'1, (Ins.self (hS.2.2.2.2.2.2.2.2.2.2.2.2.2.2.2.2.2.2.2.2.2.2.2.2.2.2.2.2.2.2.2.2.2.2.2.2.2.2.2.2.2.2.2.2.2.2.1.ext O12.2))⟩) (g := (mkF m 57 #[.val (.int (1 : Int32)), .unset] [(.ref w15), (.int (6 : Int32)), (.ref b1), (.ref b1)])) rfl rfl (hb hby d1_57)
  obtain ⟨T15, X15, e15, st15⟩ := getS2 X14 hx hZ hown (host := "") (Or.inl (hw _ m20)) Via.refl e14 (hS.2.2.2.2.2.2.2.2.2.2.2.2.2.2.2.2.2.2.2.2.2.2.2.2.2.2.2.2.2.2.1.ext O14.2) (g := (mkF m 61 #[.val (.int (1 : Int32)), .unset] [(.int (7 : Int32)), (.ref b1), (.ref b1)])) rfl (hb hby d1_61)
  obtain ⟨T16, h16, L'16, X16, e16, W16, V16, O16, K16, N16, st16⟩ := own_stR X15 hx hZ e15 V14 O14 K14 N14 (Nat.le_trans (own_old_le O0) g1) (Or.inr (Nat.le_trans (Keep.refl h0 []).1 g1)) (j := (7 : Int32)) 7 (by decide) (Nat.le_of_ble_eq_true rfl) (vs' := [(.ref w5), (.ref w14), (.ref w11), (.ref w0), .null, (.ref w8), (.ref w15), (.ref w10), .null, .null, .null, .null, .null, .null, .null, .null, .null]) rfl rfl rfl (Or.inr ⟨_, _, rfl, O'1, (Ins.self (hS.2.2.2.2.2.2.2.2.2.2.2.2.2.2.2.2.2.2.2.2.2.2.2.2.2.2.2.2.2.2.2.1.ext O14.2))⟩) (g := (mkF m 64 #[.val (.int (1 : Int32)), .unset] [(.ref w10), (.int (7 : Int32)), (.ref b1), (.ref b1)])) rfl rfl (hb hby d1_64)
  obtain ⟨T17, X17, e17, st17⟩ := getS2 X16 hx hZ hown (host := "") (Or.inl (hw _ m22)) Via.refl e16 (hS.2.2.2.2.2.2.2.2.2.2.2.2.2.2.2.2.2.2.2.2.2.2.2.2.2.2.2.2.2.2.2.2.2.2.2.2.2.2.2.1.ext O16.2) (g := (mkF m 68 #[.val (.int (1 : Int32)), .unset] [(.int (8 : Int32)), (.ref b1), (.ref b1)])) rfl (hb hby d1_68)
  obtain ⟨T18, h18, L'18, X18, e18, W18, V18, O18, K18, N18, st18⟩ := own_stR X17 hx hZ e17 V16 O16 K16 N16 (Nat.le_trans (own_old_le O0) g1) (Or.inr (Nat.le_trans (Keep.refl h0 []).1 g1)) (j := (8 : Int32)) 8 (by decide) (Nat.le_of_ble_eq_true rfl) (vs' := [(.ref w5), (.ref w14), (.ref w11), (.ref w0), .null, (.ref w8), (.ref w15), (.ref w10), (.ref w13), .null, .null, .null, .null, .null, .null, .null, .null]) rfl rfl rfl (Or.inr ⟨_, _, rfl, O'1, (Ins.self (hS.2.2.2.2.2.2.2.2.2.2.2.2.2.2.2.2.2.2.2.2.2.2.2.2.2.2.2.2.2.2.2.2.2.2.2.2.2.2.2.2.1.ext O16.2))⟩) (g := (mkF m 71 #[.val (.int (1 : Int32)), .unset] [(.ref w13), (.int (8 : Int32)), (.ref b1), (.ref b1)])) rfl rfl (hb hby d1_71)
  obtain ⟨T19, X19, e19, st19⟩ := getS2 X18 hx hZ hown (host := "") (Or.inl (hw _ m24)) Via.refl e18 (hS.2.2.2.2.2.2.2.2.2.2.2.2.2.2.2.2.2.2.2.2.2.2.2.2.2.2.2.1.ext O18.2) (g := (mkF m 75 #[.val (.int (1 : Int32)), .unset] [(.int (9 : Int32)), (.ref b1), (.ref b1)])) rfl (hb hby d1_75)
  obtain ⟨T20, h20, L'20, X20, e20, W20, V20, O20, K20, N20, st20⟩ := own_stR X19 hx hZ e19 V18 O18 K18 N18 (Nat.le_trans (own_old_le O0) g1) (Or.inr (Nat.le_trans (Keep.refl h0 []).1 g1)) (j := (9 : Int32)) 9 (by decide) (Nat.le_of_ble_eq_true rfl) (vs' := [(.ref w5), (.ref w14), (.ref w11), (.ref w0), .null, (.ref w8), (.ref w15), (.ref w10), (.ref w13), (.ref w9), .null, .null, .null, .null, .null, .null, .null]) rfl rfl rfl (Or.inr ⟨_, _, rfl, O'1, (Ins.self (hS.2.2.2.2.2.2.2.2.2.2.2.2.2.2.2.2.2.2.2.2.2.2.2.2.2.2.2.2.1.ext O18.2))⟩) (g := (mkF m 78 #[.val (.int (1 : Int32)), .unset] [(.ref w9), (.int (9 : Int32)), (.ref b1), (.ref b1)])) rfl rfl (hb hby d1_78)
  obtain ⟨T21, X21, e21, st21⟩ := getS2 X20 hx hZ hown (host := "") (Or.inl (hw _ m26)) Via.refl e20 (hS.2.2.2.2.2.2.2.2.2.2.2.2.2.2.2.2.2.2.2.2.2.1.ext O20.2) (g := (mkF m 82 #[.val (.int (1 : Int32)), .unset] [(.int (10 : Int32)), (.ref b1), (.ref b1)])) rfl (hb hby d1_82)
  obtain ⟨T22, h22, L'22, X22, e22, W22, V22, O22, K22, N22, st22⟩ := own_stR X21 hx hZ e21 V20 O20 K20 N20 (Nat.le_trans (own_old_le O0) g1) (Or.inr (Nat.le_trans (Keep.refl h0 []).1 g1)) (j := (10 : Int32)) 10 (by decide) (Nat.le_of_ble_eq_true rfl) (vs' := [(.ref w5), (.ref w14), (.ref w11), (.ref w0), .null, (.ref w8), (.ref w15), (.ref w10), (.ref w13), (.ref w9), (.ref w7), .null, .null, .null, .null, .null, .null]) rfl rfl rfl (Or.inr ⟨_, _, rfl, O'1, (Ins.self (hS.2.2.2.2.2.2.2.2.2.2.2.2.2.2.2.2.2.2.2.2.2.2.1.ext O20.2))⟩) (g := (mkF m 85 #[.val (.int (1 : Int32)), .unset] [(.ref w7), (.int (10 : Int32)), (.ref b1), (.ref b1)])) rfl rfl (hb hby d1_85)
  obtain ⟨T23, X23, e23, st23⟩ := getS2 X22 hx hZ hown (host := "") (Or.inl (hw _ m28)) Via.refl e22 (hS.2.2.2.2.2.2.2.2.2.2.2.2.2.2.2.2.2.2.2.2.2.2.2.2.2.2.2.2.2.2.2.2.2.2.2.2.1.ext O22.2) (g := (mkF m 89 #[.val (.int (1 : Int32)), .unset] [(.int (11 : Int32)), (.ref b1), (.ref b1)])) rfl (hb hby d1_89)
  obtain ⟨T24, h24, L'24, X24, e24, W24, V24, O24, K24, N24, st24⟩ := own_stR X23 hx hZ e23 V22 O22 K22 N22 (Nat.le_trans (own_old_le O0) g1) (Or.inr (Nat.le_trans (Keep.refl h0 []).1 g1)) (j := (11 : Int32)) 11 (by decide) (Nat.le_of_ble_eq_true rfl) (vs' := [(.ref w5), (.ref w14), (.ref w11), (.ref w0), .null, (.ref w8), (.ref w15), (.ref w10), (.ref w13), (.ref w9), (.ref w7), (.ref w12), .null, .null, .null, .null, .null]) rfl rfl rfl (Or.inr ⟨_, _, rfl, O'1, (Ins.self (hS.2.2.2.2.2.2.2.2.2.2.2.2.2.2.2.2.2.2.2.2.2.2.2.2.2.2.2.2.2.2.2.2.2.2.2.2.2.1.ext O22.2))⟩) (g := (mkF m 92 #[.val (.int (1 : Int32)), .unset] [(.ref w12), (.int (11 : Int32)), (.ref b1), (.ref b1)])) rfl rfl (hb hby d1_92)
  obtain ⟨T25, X25, e25, st25⟩ := getS2 X24 hx hZ hown (host := "") (Or.inl (hw _ m30)) Via.refl e24 (hS.2.2.2.2.2.2.2.2.2.2.2.2.2.2.2.2.2.2.1.ext O24.2) (g := (mkF m 96 #[.val (.int (1 : Int32)), .unset] [(.int (12 : Int32)), (.ref b1), (.ref b1)])) rfl (hb hby d1_96)
  obtain ⟨T26, h26, L'26, X26, e26, W26, V26, O26, K26, N26, st26⟩ := own_stR X25 hx hZ e25 V24 O24 K24 N24 (Nat.le_trans (own_old_le O0) g1) (Or.inr (Nat.le_trans (Keep.refl h0 []).1 g1)) (j := (12 : Int32)) 12 (by decide) (Nat.le_of_ble_eq_true rfl) (vs' := [(.ref w5), (.ref w14), (.ref w11), (.ref w0), .null, (.ref w8), (.ref w15), (.ref w10), (.ref w13), (.ref w9), (.ref w7), (.ref w12), (.ref w6), .null, .null, .null, .null]) rfl rfl rfl (Or.inr ⟨_, _, rfl, O'1, (Ins.self (hS.2.2.2.2.2.2.2.2.2.2.2.2.2.2.2.2.2.2.2.1.ext O24.2))⟩) (g := (mkF m 99 #[.val (.int (1 : Int32)), .unset] [(.ref w6), (.int (12 : Int32)), (.ref b1), (.ref b1)])) rfl rfl (hb hby d1_99)
  obtain ⟨T27, X27, e27, st27⟩ := getS2 X26 hx hZ hown (host := "") (Or.inl (hw _ m32)) Via.refl e26 (hS.2.2.2.2.2.2.2.2.2.2.2.2.1.ext O26.2) (g := (mkF m 103 #[.val (.int (1 : Int32)), .unset] [(.int (13 : Int32)), (.ref b1), (.ref b1)])) rfl (hb hby d1_103)
  obtain ⟨T28, h28, L'28, X28, e28, W28, V28, O28, K28, N28, st28⟩ := own_stR X27 hx hZ e27 V26 O26 K26 N26 (Nat.le_trans (own_old_le O0) g1) (Or.inr (Nat.le_trans (Keep.refl h0 []).1 g1)) (j := (13 : Int32)) 13 (by decide) (Nat.le_of_ble_eq_true rfl) (vs' := [(.ref w5), (.ref w14), (.ref w11), (.ref w0), .null, (.ref w8), (.ref w15), (.ref w10), (.ref w13), (.ref w9), (.ref w7), (.ref w12), (.ref w6), (.ref w4), .null, .null, .null]) rfl rfl rfl (Or.inr ⟨_, _, rfl, O'1, (Ins.self (hS.2.2.2.2.2.2.2.2.2.2.2.2.2.1.ext O26.2))⟩) (g := (mkF m 106 #[.val (.int (1 : Int32)), .unset] [(.ref w4), (.int (13 : Int32)), (.ref b1), (.ref b1)])) rfl rfl (hb hby d1_106)
  obtain ⟨T29, X29, e29, st29⟩ := getS2 X28 hx hZ hown (host := "") (Or.inl (hw _ m34)) Via.refl e28 (hS.2.2.2.1.ext O28.2) (g := (mkF m 110 #[.val (.int (1 : Int32)), .unset] [(.int (14 : Int32)), (.ref b1), (.ref b1)])) rfl (hb hby d1_110)
  obtain ⟨T30, h30, L'30, X30, e30, W30, V30, O30, K30, N30, st30⟩ := own_stR X29 hx hZ e29 V28 O28 K28 N28 (Nat.le_trans (own_old_le O0) g1) (Or.inr (Nat.le_trans (Keep.refl h0 []).1 g1)) (j := (14 : Int32)) 14 (by decide) (Nat.le_of_ble_eq_true rfl) (vs' := [(.ref w5), (.ref w14), (.ref w11), (.ref w0), .null, (.ref w8), (.ref w15), (.ref w10), (.ref w13), (.ref w9), (.ref w7), (.ref w12), (.ref w6), (.ref w4), (.ref w1), .null, .null]) rfl rfl rfl (Or.inr ⟨_, _, rfl, O'1, (Ins.self (hS.2.2.2.2.1.ext O28.2))⟩) (g := (mkF m 113 #[.val (.int (1 : Int32)), .unset] [(.ref w1), (.int (14 : Int32)), (.ref b1), (.ref b1)])) rfl rfl (hb hby d1_113)
  obtain ⟨T31, X31, e31, st31⟩ := getS2 X30 hx hZ hown (host := "") (Or.inl (hw _ m36)) Via.refl e30 (hS.2.2.2.2.2.2.1.ext O30.2) (g := (mkF m 117 #[.val (.int (1 : Int32)), .unset] [(.int (15 : Int32)), (.ref b1), (.ref b1)])) rfl (hb hby d1_117)
  obtain ⟨T32, h32, L'32, X32, e32, W32, V32, O32, K32, N32, st32⟩ := own_stR X31 hx hZ e31 V30 O30 K30 N30 (Nat.le_trans (own_old_le O0) g1) (Or.inr (Nat.le_trans (Keep.refl h0 []).1 g1)) (j := (15 : Int32)) 15 (by decide) (Nat.le_of_ble_eq_true rfl) (vs' := [(.ref w5), (.ref w14), (.ref w11), (.ref w0), .null, (.ref w8), (.ref w15), (.ref w10), (.ref w13), (.ref w9), (.ref w7), (.ref w12), (.ref w6), (.ref w4), (.ref w1), (.ref w2), .null]) rfl rfl rfl (Or.inr ⟨_, _, rfl, O'1, (Ins.self (hS.2.2.2.2.2.2.2.1.ext O30.2))⟩) (g := (mkF m 120 #[.val (.int (1 : Int32)), .unset] [(.ref w2), (.int (15 : Int32)), (.ref b1), (.ref b1)])) rfl rfl (hb hby d1_120)
  obtain ⟨T33, X33, e33, st33⟩ := getS2 X32 hx hZ hown (host := "") (Or.inl (hw _ m38)) Via.refl e32 (hS.2.2.2.2.2.2.2.2.2.1.ext O32.2) (g := (mkF m 124 #[.val (.int (1 : Int32)), .unset] [(.int (16 : Int32)), (.ref b1), (.ref b1)])) rfl (hb hby d1_124)
  obtain ⟨T34, h34, L'34, X34, e34, W34, V34, O34, K34, N34, st34⟩ := own_stR X33 hx hZ e33 V32 O32 K32 N32 (Nat.le_trans (own_old_le O0) g1) (Or.inr (Nat.le_trans (Keep.refl h0 []).1 g1)) (j := (16 : Int32)) 16 (by decide) (Nat.le_of_ble_eq_true rfl) (vs' := [(.ref w5), (.ref w14), (.ref w11), (.ref w0), .null, (.ref w8), (.ref w15), (.ref w10), (.ref w13), (.ref w9), (.ref w7), (.ref w12), (.ref w6), (.ref w4), (.ref w1), (.ref w2), (.ref w3)]) rfl rfl rfl (Or.inr ⟨_, _, rfl, O'1, (Ins.self (hS.2.2.2.2.2.2.2.2.2.2.1.ext O32.2))⟩) (g := (mkF m 127 #[.val (.int (1 : Int32)), .unset] [(.ref w3), (.int (16 : Int32)), (.ref b1), (.ref b1)])) rfl rfl (hb hby d1_127)
  obtain ⟨fs, hr, hrun, hended, hW, hsame⟩ := X34.leave (v := some (.ref w14)) (fun h => by rw [Bd.returns] at h; cases h)
  refine ⟨_, _, pre0 _ ?_, hrun, hended, _, _, rfl, ?_, ⟨_, rfl⟩, hW, hsame.mono (by decide) (by decide)⟩
  · show Steps p.tables e below (s₁.setTop (mkF m 0 #[.val (.int (1 : Int32)), .unset] [])) _
    refine XS.iloadN X0.here hx rfl (hb hby d1_0) rfl ?_
    refine XS.ifNo X0.here hx rfl (hb hby d1_1) rfl ((if0 _ _).trans (flt (by decide : ¬ ((1 : Int32) < (0 : Int32)))).1) ?_
    refine XS.iloadN X0.here hx rfl (hb hby d1_4) rfl ?_
    refine XS.bipush X0.here hx rfl (hb hby d1_5) ?_
    show Steps p.tables e below (s₁.setTop (mkF m 7 #[.val (.int (1 : Int32)), .unset] [(.int (16 : Int32)), (.int (1 : Int32))])) _
    refine XS.icmpYes X0.here hx rfl (pc0 := 7) (pc' := 12) rfl (hb hby d1_7) rfl (flt (by decide : ¬ ((16 : Int32) < (1 : Int32)))).2.2.2 (by decide) (by decide) ?_
    refine XS.bipush X0.here hx rfl (hb hby d1_12) ?_
    refine st1 _ ?_
    refine XS.dup X1.here hx rfl (hb hby d1_17) rfl rfl ?_
    show Steps p.tables e below (T1.setTop (mkF m 18 #[.val (.int (1 : Int32)), .unset] [(.ref b1), (.ref b1)])) _
    refine XS.iconst X1.here hx rfl (hb hby d1_18) ?_
    refine st2 _ ?_
    refine st3 _ ?_
    refine XS.dup X3.here hx rfl (hb hby d1_23) rfl rfl ?_
    show Steps p.tables e below (T3.setTop (mkF m 24 #[.val (.int (1 : Int32)), .unset] [(.ref b1), (.ref b1)])) _
    refine XS.iconst X3.here hx rfl (hb hby d1_24) ?_
    refine st4 _ ?_
    refine st5 _ ?_
    refine XS.dup X5.here hx rfl (hb hby d1_29) rfl rfl ?_
    show Steps p.tables e below (T5.setTop (mkF m 30 #[.val (.int (1 : Int32)), .unset] [(.ref b1), (.ref b1)])) _
    refine XS.iconst X5.here hx rfl (hb hby d1_30) ?_
    refine st6 _ ?_
    refine st7 _ ?_
    refine XS.dup X7.here hx rfl (hb hby d1_35) rfl rfl ?_
    show Steps p.tables e below (T7.setTop (mkF m 36 #[.val (.int (1 : Int32)), .unset] [(.ref b1), (.ref b1)])) _
    refine XS.iconst X7.here hx rfl (hb hby d1_36) ?_
    refine st8 _ ?_
    refine st9 _ ?_
    refine XS.dup X9.here hx rfl (hb hby d1_41) rfl rfl ?_
    show Steps p.tables e below (T9.setTop (mkF m 42 #[.val (.int (1 : Int32)), .unset] [(.ref b1), (.ref b1)])) _
    refine XS.iconst X9.here hx rfl (hb hby d1_42) ?_
    refine XS.aconstNull X9.here hx rfl (hb hby d1_43) ?_
    refine st10 _ ?_
    refine XS.dup X10.here hx rfl (hb hby d1_45) rfl rfl ?_
    show Steps p.tables e below (T10.setTop (mkF m 46 #[.val (.int (1 : Int32)), .unset] [(.ref b1), (.ref b1)])) _
    refine XS.iconst X10.here hx rfl (hb hby d1_46) ?_
    refine st11 _ ?_
    refine st12 _ ?_
    refine XS.dup X12.here hx rfl (hb hby d1_51) rfl rfl ?_
    show Steps p.tables e below (T12.setTop (mkF m 52 #[.val (.int (1 : Int32)), .unset] [(.ref b1), (.ref b1)])) _
    refine XS.bipush X12.here hx rfl (hb hby d1_52) ?_
    refine st13 _ ?_
    refine st14 _ ?_
    refine XS.dup X14.here hx rfl (hb hby d1_58) rfl rfl ?_
    show Steps p.tables e below (T14.setTop (mkF m 59 #[.val (.int (1 : Int32)), .unset] [(.ref b1), (.ref b1)])) _
    refine XS.bipush X14.here hx rfl (hb hby d1_59) ?_
    refine st15 _ ?_
    refine st16 _ ?_
    refine XS.dup X16.here hx rfl (hb hby d1_65) rfl rfl ?_
    show Steps p.tables e below (T16.setTop (mkF m 66 #[.val (.int (1 : Int32)), .unset] [(.ref b1), (.ref b1)])) _
    refine XS.bipush X16.here hx rfl (hb hby d1_66) ?_
    refine st17 _ ?_
    refine st18 _ ?_
    refine XS.dup X18.here hx rfl (hb hby d1_72) rfl rfl ?_
    show Steps p.tables e below (T18.setTop (mkF m 73 #[.val (.int (1 : Int32)), .unset] [(.ref b1), (.ref b1)])) _
    refine XS.bipush X18.here hx rfl (hb hby d1_73) ?_
    refine st19 _ ?_
    refine st20 _ ?_
    refine XS.dup X20.here hx rfl (hb hby d1_79) rfl rfl ?_
    show Steps p.tables e below (T20.setTop (mkF m 80 #[.val (.int (1 : Int32)), .unset] [(.ref b1), (.ref b1)])) _
    refine XS.bipush X20.here hx rfl (hb hby d1_80) ?_
    refine st21 _ ?_
    refine st22 _ ?_
    refine XS.dup X22.here hx rfl (hb hby d1_86) rfl rfl ?_
    show Steps p.tables e below (T22.setTop (mkF m 87 #[.val (.int (1 : Int32)), .unset] [(.ref b1), (.ref b1)])) _
    refine XS.bipush X22.here hx rfl (hb hby d1_87) ?_
    refine st23 _ ?_
    refine st24 _ ?_
    refine XS.dup X24.here hx rfl (hb hby d1_93) rfl rfl ?_
    show Steps p.tables e below (T24.setTop (mkF m 94 #[.val (.int (1 : Int32)), .unset] [(.ref b1), (.ref b1)])) _
    refine XS.bipush X24.here hx rfl (hb hby d1_94) ?_
    refine st25 _ ?_
    refine st26 _ ?_
    refine XS.dup X26.here hx rfl (hb hby d1_100) rfl rfl ?_
    show Steps p.tables e below (T26.setTop (mkF m 101 #[.val (.int (1 : Int32)), .unset] [(.ref b1), (.ref b1)])) _
    refine XS.bipush X26.here hx rfl (hb hby d1_101) ?_
    refine st27 _ ?_
    refine st28 _ ?_
    refine XS.dup X28.here hx rfl (hb hby d1_107) rfl rfl ?_
    show Steps p.tables e below (T28.setTop (mkF m 108 #[.val (.int (1 : Int32)), .unset] [(.ref b1), (.ref b1)])) _
    refine XS.bipush X28.here hx rfl (hb hby d1_108) ?_
    refine st29 _ ?_
    refine st30 _ ?_
    refine XS.dup X30.here hx rfl (hb hby d1_114) rfl rfl ?_
    show Steps p.tables e below (T30.setTop (mkF m 115 #[.val (.int (1 : Int32)), .unset] [(.ref b1), (.ref b1)])) _
    refine XS.bipush X30.here hx rfl (hb hby d1_115) ?_
    refine st31 _ ?_
    refine st32 _ ?_
    refine XS.dup X32.here hx rfl (hb hby d1_121) rfl rfl ?_
    show Steps p.tables e below (T32.setTop (mkF m 122 #[.val (.int (1 : Int32)), .unset] [(.ref b1), (.ref b1)])) _
    refine XS.bipush X32.here hx rfl (hb hby d1_122) ?_
    refine st33 _ ?_
    refine st34 _ ?_
    refine XS.astoreN X34.here hx rfl (hb hby d1_128) rfl rfl (l' := #[.val (.int (1 : Int32)), .val (.ref b1)]) rfl ?_
    show Steps p.tables e below (T34.setTop (mkF m 129 #[.val (.int (1 : Int32)), .val (.ref b1)] [])) _
    refine XS.aloadN X34.here hx rfl (hb hby d1_129) rfl rfl ?_
    refine XS.iloadN X34.here hx rfl (hb hby d1_130) rfl ?_
    refine own_aaload X34 hx hZ e34 V34 (j := (1 : Int32)) (by decide) (v := (.ref w14)) rfl rfl (g := (mkF m 131 #[.val (.int (1 : Int32)), .val (.ref b1)] [(.int (1 : Int32)), (.ref b1)])) rfl rfl (hb hby d1_131) ?_
    exact retOut X34 hx Bd.returns rfl (Or.inr (Or.inr (Or.inr (Or.inr ⟨rfl, rfl, rfl⟩)))) (hb hby d1_132) hr
  · show Qrm6 Z w0 w1 w2 w3 w4 w5 w6 w7 w8 w9 w10 w11 w12 w13 w14 w15 w16 kw16 h0 n0 _ T34.heap _
    rw [e34]
    exact ⟨rfl, N34, K34⟩
def Qrm7 (Z : State) (w0 : Addr) (w1 : Addr) (w2 : Addr) (w3 : Addr) (w4 : Addr) (w5 : Addr) (w6 : Addr) (w7 : Addr) (w8 : Addr) (w9 : Addr) (w10 : Addr) (w11 : Addr) (w12 : Addr) (w13 : Addr) (w14 : Addr) (w15 : Addr) (w16 : Addr) (kw16 : ClassId) (h0 : Heap) (n0 : Nat) (v : Option Value) (h : Heap) (L : List Loc) : Prop := v = some (.ref w14) ∧ Fr n0 L ∧ h = h0
set_option maxRecDepth 65536 in
set_option maxHeartbeats 40000000 in
theorem rm7 (l : Launch) (Z : State) (a0 : Array Value) (hw : ∀ d ∈ tables_1, d.before a0 Z = true) (w0 : Addr) (w1 : Addr) (w2 : Addr) (w3 : Addr) (w4 : Addr) (w5 : Addr) (w6 : Addr) (w7 : Addr) (w8 : Addr) (w9 : Addr) (w10 : Addr) (w11 : Addr) (w12 : Addr) (w13 : Addr) (w14 : Addr) (w15 : Addr) (w16 : Addr) (kw16 : ClassId) (hS : SF Z w0 w1 w2 w3 w4 w5 w6 w7 w8 w9 w10 w11 w12 w13 w14 w15 w16 kw16) (ws : List Jvm.Cond) (h0 : Heap) (n0 : Nat) (O0 : Old Z n0 h0) :
    MetFree l (⟨z0, "of", z2⟩ : MethodName) (head1 (Jvm.Cond.code (⟨z0, "of", z2⟩ : MethodName) prog_90_method_5_code 1 (some (.object z0)) :: ws) ({ frames := 0, cells := 0, slots := 0, locals := 0 } : Room)) (fun a U => a = #[(.int (1 : Int32))] ∧ Z.Warmed39 U.vm ∧ U.heap = h0) (fun _ _ _ _ _ => True) (fun _ U o U' => ∃ v L, o = .returned v ∧ Qrm7 Z w0 w1 w2 w3 w4 w5 w6 w7 w8 w9 w10 w11 w12 w13 w14 w15 w16 kw16 h0 n0 v U'.heap L ∧ FrameEnd U o U' L ({ frames := 0, cells := 0, slots := 0, locals := 0 } : Room).cells ({ frames := 0, cells := 0, slots := 0, locals := 0 } : Room).slots) := by
  refine MetFree.of_bodySF (plainFor_of_name pn18) hisR ?_
  intro p e s m args below meth c s₁ Bd hml0 hP hK
  obtain ⟨rfl, hZ, hh⟩ := hP
  have hx := Bd.exec
  have hby := Bd.bytes
  have hml : c.maxLocals = 1 := hml0
  have hown : s.vm.findClass z0 = some m.cls := findClass_of_methodNamed Bd.named
  have hnm := (name_of_methodNamed Bd.named Bd.method).1
  have X0 : Stand p l e ({ frames := 0, cells := 0, slots := 0, locals := 0 } : Room) s m #[(.int (1 : Int32))] below meth c s₁ [] 0 0 := Stand.of_body Bd
  have e0 : s₁.heap = h0 := by rw [← hh, Bd.state]; rfl
  have N0 := Fr.nil n0
  have pre0 : ∀ t, Steps p.tables e below (s₁.setTop (mkF m 0 #[.val (.int (1 : Int32))] [])) t → Steps p.tables e below (s₁.setTop (entryFrame m #[(.int (1 : Int32))] 1)) t := fun t k => castTop (ef17 m (1 : Int32)) k
  obtain ⟨T1, X1, e1, st1⟩ := getS2 X0 hx hZ hown (host := "") (Or.inl (hw _ m43)) Via.refl e0 (hS.2.2.2.2.2.2.2.2.2.2.2.2.2.2.2.2.2.2.2.2.2.2.2.2.2.2.2.2.2.2.2.2.2.2.2.2.2.2.2.2.2.2.2.2.2.2.2.2.1.ext O0.2) (g := (mkF m 5 #[.val (.int (1 : Int32))] [(.int (1 : Int32))])) rfl (hb hby d2_5)
  obtain ⟨T2, X2, e2, st2⟩ := getS2 X1 hx hZ hown (host := "") (Or.inl (hw _ m43)) Via.refl e1 (hS.2.2.2.2.2.2.2.2.2.2.2.2.2.2.2.2.2.2.2.2.2.2.2.2.2.2.2.2.2.2.2.2.2.2.2.2.2.2.2.2.2.2.2.2.2.2.2.2.1.ext O0.2) (g := (mkF m 12 #[.val (.int (1 : Int32))] [])) rfl (hb hby d2_12)
  obtain ⟨fs, hr, hrun, hended, hW, hsame⟩ := X2.leave (v := some (.ref w14)) (fun h => by rw [Bd.returns] at h; cases h)
  refine ⟨_, _, pre0 _ ?_, hrun, hended, _, _, rfl, ?_, ⟨_, rfl⟩, hW, hsame.mono (by decide) (by decide)⟩
  · show Steps p.tables e below (s₁.setTop (mkF m 0 #[.val (.int (1 : Int32))] [])) _
    refine XS.iloadN X0.here hx rfl (hb hby d2_0) rfl ?_
    refine XS.ifNo X0.here hx rfl (hb hby d2_1) rfl ((if0 _ _).trans (flt (by decide : ¬ ((1 : Int32) < (0 : Int32)))).1) ?_
    refine XS.iloadN X0.here hx rfl (hb hby d2_4) rfl ?_
    refine st1 _ ?_
    show Steps p.tables e below (T1.setTop (mkF m 8 #[.val (.int (1 : Int32))] [(.ref w16), (.int (1 : Int32))])) _
    refine own_alen X1 hx hZ e1 (hS.2.2.2.2.2.2.2.2.2.2.2.2.2.2.2.2.2.2.2.2.2.2.2.2.2.2.2.2.2.2.2.2.2.2.2.2.2.2.2.2.2.2.2.2.2.2.2.2.2.ext O0.2) (g := (mkF m 8 #[.val (.int (1 : Int32))] [(.ref w16), (.int (1 : Int32))])) rfl rfl (hb hby d2_8) ?_
    refine XS.icmpNo X1.here hx rfl (hb hby d2_9) rfl (tlt (by decide : (1 : Int32) < (17 : Int32))).2.1 ?_
    refine st2 _ ?_
    refine XS.iloadN X2.here hx rfl (hb hby d2_15) rfl ?_
    show Steps p.tables e below (T2.setTop (mkF m 16 #[.val (.int (1 : Int32))] [(.int (1 : Int32)), (.ref w16)])) _
    refine own_aaload X2 hx hZ e2 (hS.2.2.2.2.2.2.2.2.2.2.2.2.2.2.2.2.2.2.2.2.2.2.2.2.2.2.2.2.2.2.2.2.2.2.2.2.2.2.2.2.2.2.2.2.2.2.2.2.2.ext O0.2) (j := (1 : Int32)) (by decide) (v := (.ref w14)) rfl rfl (g := (mkF m 16 #[.val (.int (1 : Int32))] [(.int (1 : Int32)), (.ref w16)])) rfl rfl (hb hby d2_16) ?_
    refine XS.goto X2.here hx rfl (pc0 := 17) (pc' := 21) rfl (hb hby d2_17) (by decide) (by decide) ?_
    exact retOut X2 hx Bd.returns rfl (Or.inr (Or.inr (Or.inr (Or.inr ⟨rfl, rfl, rfl⟩)))) (hb hby d2_21) hr
  · show Qrm7 Z w0 w1 w2 w3 w4 w5 w6 w7 w8 w9 w10 w11 w12 w13 w14 w15 w16 kw16 h0 n0 _ T2.heap _
    rw [e2]
    exact ⟨rfl, N0, rfl⟩
def Qrm8 (Z : State) (w0 : Addr) (w1 : Addr) (w2 : Addr) (w3 : Addr) (w4 : Addr) (w5 : Addr) (w6 : Addr) (w7 : Addr) (w8 : Addr) (w9 : Addr) (w10 : Addr) (w11 : Addr) (w12 : Addr) (w13 : Addr) (w14 : Addr) (w15 : Addr) (w16 : Addr) (kw16 : ClassId) (h0 : Heap) (n0 : Nat) (v : Option Value) (h : Heap) (L : List Loc) : Prop := v = some (.int (1 : Int32)) ∧ Fr n0 L ∧ h = h0
set_option maxRecDepth 65536 in
set_option maxHeartbeats 40000000 in
theorem rm8 (l : Launch) (Z : State) (a0 : Array Value) (hw : ∀ d ∈ tables_1, d.before a0 Z = true) (w0 : Addr) (w1 : Addr) (w2 : Addr) (w3 : Addr) (w4 : Addr) (w5 : Addr) (w6 : Addr) (w7 : Addr) (w8 : Addr) (w9 : Addr) (w10 : Addr) (w11 : Addr) (w12 : Addr) (w13 : Addr) (w14 : Addr) (w15 : Addr) (w16 : Addr) (kw16 : ClassId) (hS : SF Z w0 w1 w2 w3 w4 w5 w6 w7 w8 w9 w10 w11 w12 w13 w14 w15 w16 kw16) (ws : List Jvm.Cond) (h0 : Heap) (n0 : Nat) (O0 : Old Z n0 h0) :
    MetFree l (⟨z0, "code", "()I"⟩ : MethodName) (head1 (Jvm.Cond.code (⟨z0, "code", "()I"⟩ : MethodName) prog_90_method_4_code 1 (some .int) :: ws) ({ frames := 0, cells := 0, slots := 0, locals := 0 } : Room)) (fun a U => a = #[(.ref w14)] ∧ Z.Warmed39 U.vm ∧ U.heap = h0) (fun _ _ _ _ _ => True) (fun _ U o U' => ∃ v L, o = .returned v ∧ Qrm8 Z w0 w1 w2 w3 w4 w5 w6 w7 w8 w9 w10 w11 w12 w13 w14 w15 w16 kw16 h0 n0 v U'.heap L ∧ FrameEnd U o U' L ({ frames := 0, cells := 0, slots := 0, locals := 0 } : Room).cells ({ frames := 0, cells := 0, slots := 0, locals := 0 } : Room).slots) := by
  refine MetFree.of_bodySF (plainFor_of_name pn18) hisR ?_
  intro p e s m args below meth c s₁ Bd hml0 hP hK
  obtain ⟨rfl, hZ, hh⟩ := hP
  have hx := Bd.exec
  have hby := Bd.bytes
  have hml : c.maxLocals = 1 := hml0
  have hown : s.vm.findClass z0 = some m.cls := findClass_of_methodNamed Bd.named
  have hnm := (name_of_methodNamed Bd.named Bd.method).1
  have X0 : Stand p l e ({ frames := 0, cells := 0, slots := 0, locals := 0 } : Room) s m #[(.ref w14)] below meth c s₁ [] 0 0 := Stand.of_body Bd
  have e0 : s₁.heap = h0 := by rw [← hh, Bd.state]; rfl
  have N0 := Fr.nil n0
  have pre0 : ∀ t, Steps p.tables e below (s₁.setTop (mkF m 0 #[.val (.ref w14)] [])) t → Steps p.tables e below (s₁.setTop (entryFrame m #[(.ref w14)] 1)) t := fun t k => castTop (ef135 m w14) k
  obtain ⟨T1, X1, e1, st1⟩ := getF X0 hx hZ hown (host := "") (Or.inl (hw _ m50)) Via.refl e0 (hS.2.2.2.2.2.2.2.2.2.2.2.2.2.2.2.2.2.2.2.2.2.2.2.2.2.2.2.2.2.2.2.2.2.2.2.2.2.2.2.2.2.2.2.2.1.ext O0.2) (g := (mkF m 1 #[.val (.ref w14)] [(.ref w14)])) rfl rfl (hb hby d3_1)
  obtain ⟨fs, hr, hrun, hended, hW, hsame⟩ := X1.leave (v := some (.int (1 : Int32))) (fun h => by rw [Bd.returns] at h; cases h)
  refine ⟨_, _, pre0 _ ?_, hrun, hended, _, _, rfl, ?_, ⟨_, rfl⟩, hW, hsame.mono (by decide) (by decide)⟩
  · show Steps p.tables e below (s₁.setTop (mkF m 0 #[.val (.ref w14)] [])) _
    refine XS.aloadN X0.here hx rfl (hb hby d3_0) rfl rfl ?_
    refine st1 _ ?_
    exact retOut X1 hx Bd.returns rfl (Or.inl ⟨rfl, Or.inl rfl, _, rfl⟩) (hb hby d3_4) hr
  · show Qrm8 Z w0 w1 w2 w3 w4 w5 w6 w7 w8 w9 w10 w11 w12 w13 w14 w15 w16 kw16 h0 n0 _ T1.heap _
    rw [e1]
    exact ⟨rfl, N0, rfl⟩
def Qrm9 (Z : State) (w0 : Addr) (w1 : Addr) (w2 : Addr) (w3 : Addr) (w4 : Addr) (w5 : Addr) (w6 : Addr) (w7 : Addr) (w8 : Addr) (w9 : Addr) (w10 : Addr) (w11 : Addr) (w12 : Addr) (w13 : Addr) (w14 : Addr) (w15 : Addr) (w16 : Addr) (kw16 : ClassId) (h0 : Heap) (n0 : Nat) (v : Option Value) (h : Heap) (L : List Loc) : Prop := v = some (.ref w11) ∧ Fr n0 L ∧ Keep h0 h []
set_option maxRecDepth 65536 in
set_option maxHeartbeats 40000000 in
theorem rm9 (l : Launch) (Z : State) (a0 : Array Value) (hw : ∀ d ∈ tables_1, d.before a0 Z = true) (w0 : Addr) (w1 : Addr) (w2 : Addr) (w3 : Addr) (w4 : Addr) (w5 : Addr) (w6 : Addr) (w7 : Addr) (w8 : Addr) (w9 : Addr) (w10 : Addr) (w11 : Addr) (w12 : Addr) (w13 : Addr) (w14 : Addr) (w15 : Addr) (w16 : Addr) (kw16 : ClassId) (hS : SF Z w0 w1 w2 w3 w4 w5 w6 w7 w8 w9 w10 w11 w12 w13 w14 w15 w16 kw16) (ws : List Jvm.Cond) (h0 : Heap) (n0 : Nat) (O0 : Old Z n0 h0) :
    MetFree l (⟨z1, "expected", z2⟩ : MethodName) (head1 (Jvm.Cond.code (⟨z1, "expected", z2⟩ : MethodName) method_3_code 2 (some (.object z0)) :: ws) ({ frames := 0, cells := 1, slots := 17, locals := 0 } : Room)) (fun a U => a = #[(.int (2 : Int32))] ∧ Z.Warmed39 U.vm ∧ U.heap = h0) (fun _ _ _ _ _ => True) (fun _ U o U' => ∃ v L, o = .returned v ∧ Qrm9 Z w0 w1 w2 w3 w4 w5 w6 w7 w8 w9 w10 w11 w12 w13 w14 w15 w16 kw16 h0 n0 v U'.heap L ∧ FrameEnd U o U' L ({ frames := 0, cells := 1, slots := 17, locals := 0 } : Room).cells ({ frames := 0, cells := 1, slots := 17, locals := 0 } : Room).slots) := by
  refine MetFree.of_bodySF (plainFor_of_name pn7) hisR ?_
  intro p e s m args below meth c s₁ Bd hml0 hP hK
  obtain ⟨rfl, hZ, hh⟩ := hP
  have hx := Bd.exec
  have hby := Bd.bytes
  have hml : c.maxLocals = 2 := hml0
  have hown : s.vm.findClass z1 = some m.cls := findClass_of_methodNamed Bd.named
  have hnm := (name_of_methodNamed Bd.named Bd.method).1
  have X0 : Stand p l e ({ frames := 0, cells := 1, slots := 17, locals := 0 } : Room) s m #[(.int (2 : Int32))] below meth c s₁ [] 0 0 := Stand.of_body Bd
  have e0 : s₁.heap = h0 := by rw [← hh, Bd.state]; rfl
  have N0 := Fr.nil n0
  have pre0 : ∀ t, Steps p.tables e below (s₁.setTop (mkF m 0 #[.val (.int (2 : Int32)), .unset] [])) t → Steps p.tables e below (s₁.setTop (entryFrame m #[(.int (2 : Int32))] 2)) t := fun t k => castTop (ef6 m (2 : Int32)) k
  obtain ⟨T1, h1, k1, b1, X1, e1, E1, V1, O'1, g1, O1, K1, st1⟩ := own_newR X0 hx hZ (vs := [.null, .null, .null, .null, .null, .null, .null, .null, .null, .null, .null, .null, .null, .null, .null, .null, .null]) (cap := 17) rfl hown (hw _ m4) (hw _ m5) e0 O0 (Keep.refl h0 []) (g := (mkF m 14 #[.val (.int (2 : Int32)), .unset] [(.int (17 : Int32))])) rfl (hb hby d1_14) rfl (by decide) (by decide) (by decide) (by decide) (by decide)
  obtain ⟨T2, X2, e2, st2⟩ := getS2 X1 hx hZ hown (host := "") (Or.inl (hw _ m6)) Via.refl e1 (hS.2.2.2.2.2.2.2.2.2.2.2.2.2.2.2.1.ext O1.2) (g := (mkF m 19 #[.val (.int (2 : Int32)), .unset] [(.int (0 : Int32)), (.ref b1), (.ref b1)])) rfl (hb hby d1_19)
  obtain ⟨T3, h3, L'3, X3, e3, W3, V3, O3, K3, N3, st3⟩ := own_stR X2 hx hZ e2 V1 O1 K1 N0 (Nat.le_trans (own_old_le O0) g1) (Or.inr (Nat.le_trans (Keep.refl h0 []).1 g1)) (j := (0 : Int32)) 0 (by decide) (Nat.le_of_ble_eq_true rfl) (vs' := [(.ref w5), .null, .null, .null, .null, .null, .null, .null, .null, .null, .null, .null, .null, .null, .null, .null, .null]) rfl rfl rfl (Or.inr ⟨_, _, rfl, O'1, (Ins.self (hS.2.2.2.2.2.2.2.2.2.2.2.2.2.2.2.2.1.ext O1.2))⟩) (g := (mkF m 22 #[.val (.int (2 : Int32)), .unset] [(.ref w5), (.int (0 : Int32)), (.ref b1), (.ref b1)])) rfl rfl (hb hby d1_22)
  obtain ⟨T4, X4, e4, st4⟩ := getS2 X3 hx hZ hown (host := "") (Or.inl (hw _ m10)) Via.refl e3 (hS.2.2.2.2.2.2.2.2.2.2.2.2.2.2.2.2.2.2.2.2.2.2.2.2.2.2.2.2.2.2.2.2.2.2.2.2.2.2.2.2.2.2.1.ext O3.2) (g := (mkF m 25 #[.val (.int (2 : Int32)), .unset] [(.int (1 : Int32)), (.ref b1), (.ref b1)])) rfl (hb hby d1_25)
  obtain ⟨T5, h5, L'5, X5, e5, W5, V5, O5, K5, N5, st5⟩ := own_stR X4 hx hZ e4 V3 O3 K3 N3 (Nat.le_trans (own_old_le O0) g1) (Or.inr (Nat.le_trans (Keep.refl h0 []).1 g1)) (j := (1 : Int32)) 1 (by decide) (Nat.le_of_ble_eq_true rfl) (vs' := [(.ref w5), (.ref w14), .null, .null, .null, .null, .null, .null, .null, .null, .null, .null, .null, .null, .null, .null, .null]) rfl rfl rfl (Or.inr ⟨_, _, rfl, O'1, (Ins.self (hS.2.2.2.2.2.2.2.2.2.2.2.2.2.2.2.2.2.2.2.2.2.2.2.2.2.2.2.2.2.2.2.2.2.2.2.2.2.2.2.2.2.2.2.1.ext O3.2))⟩) (g := (mkF m 28 #[.val (.int (2 : Int32)), .unset] [(.ref w14), (.int (1 : Int32)), (.ref b1), (.ref b1)])) rfl rfl (hb hby d1_28)
  obtain ⟨T6, X6, e6, st6⟩ := getS2 X5 hx hZ hown (host := "") (Or.inl (hw _ m12)) Via.refl e5 (hS.2.2.2.2.2.2.2.2.2.2.2.2.2.2.2.2.2.2.2.2.2.2.2.2.2.2.2.2.2.2.2.2.2.1.ext O5.2) (g := (mkF m 31 #[.val (.int (2 : Int32)), .unset] [(.int (2 : Int32)), (.ref b1), (.ref b1)])) rfl (hb hby d1_31)
  obtain ⟨T7, h7, L'7, X7, e7, W7, V7, O7, K7, N7, st7⟩ := own_stR X6 hx hZ e6 V5 O5 K5 N5 (Nat.le_trans (own_old_le O0) g1) (Or.inr (Nat.le_trans (Keep.refl h0 []).1 g1)) (j := (2 : Int32)) 2 (by decide) (Nat.le_of_ble_eq_true rfl) (vs' := [(.ref w5), (.ref w14), (.ref w11), .null, .null, .null, .null, .null, .null, .null, .null, .null, .null, .null, .null, .null, .null]) rfl rfl rfl (Or.inr ⟨_, _, rfl, O'1, (Ins.self (hS.2.2.2.2.2.2.2.2.2.2.2.2.2.2.2.2.2.2.2.2.2.2.2.2.2.2.2.2.2.2.2.2.2.2.1.ext O5.2))⟩) (g := (mkF m 34 #[.val (.int (2 : Int32)), .unset] [(.ref w11), (.int (2 : Int32)), (.ref b1), (.ref b1)])) rfl rfl (hb hby d1_34)
  obtain ⟨T8, X8, e8, st8⟩ := getS2 X7 hx hZ hown (host := "") (Or.inl (hw _ m14)) Via.refl e7 (hS.1.ext O7.2) (g := (mkF m 37 #[.val (.int (2 : Int32)), .unset] [(.int (3 : Int32)), (.ref b1), (.ref b1)])) rfl (hb hby d1_37)
  obtain ⟨T9, h9, L'9, X9, e9, W9, V9, O9, K9, N9, st9⟩ := own_stR X8 hx hZ e8 V7 O7 K7 N7 (Nat.le_trans (own_old_le O0) g1) (Or.inr (Nat.le_trans (Keep.refl h0 []).1 g1)) (j := (3 : Int32)) 3 (by decide) (Nat.le_of_ble_eq_true rfl) (vs' := [(.ref w5), (.ref w14), (.ref w11), (.ref w0), .null, .null, .null, .null, .null, .null, .null, .null, .null, .null, .null, .null, .null]) rfl rfl rfl (Or.inr ⟨_, _, rfl, O'1, (Ins.self (hS.2.1.ext O7.2))⟩) (g := (mkF m 40 #[.val (.int (2 : Int32)), .unset] [(.ref w0), (.int (3 : Int32)), (.ref b1), (.ref b1)])) rfl rfl (hb hby d1_40)
  obtain ⟨T10, h10, L'10, X10, e10, W10, V10, O10, K10, N10, st10⟩ := own_stR X9 hx hZ e9 V9 O9 K9 N9 (Nat.le_trans (own_old_le O0) g1) (Or.inr (Nat.le_trans (Keep.refl h0 []).1 g1)) (j := (4 : Int32)) 4 (by decide) (Nat.le_of_ble_eq_true rfl) (vs' := [(.ref w5), (.ref w14), (.ref w11), (.ref w0), .null, .null, .null, .null, .null, .null, .null, .null, .null, .null, .null, .null, .null]) rfl rfl rfl (Or.inl rfl) (g := (mkF m 44 #[.val (.int (2 : Int32)), .unset] [.null, (.int (4 : Int32)), (.ref b1), (.ref b1)])) rfl rfl (hb hby d1_44)
  obtain ⟨T11, X11, e11, st11⟩ := getS2 X10 hx hZ hown (host := "") (Or.inl (hw _ m16)) Via.refl e10 (hS.2.2.2.2.2.2.2.2.2.2.2.2.2.2.2.2.2.2.2.2.2.2.2.2.1.ext O10.2) (g := (mkF m 47 #[.val (.int (2 : Int32)), .unset] [(.int (5 : Int32)), (.ref b1), (.ref b1)])) rfl (hb hby d1_47)
  obtain ⟨T12, h12, L'12, X12, e12, W12, V12, O12, K12, N12, st12⟩ := own_stR X11 hx hZ e11 V10 O10 K10 N10 (Nat.le_trans (own_old_le O0) g1) (Or.inr (Nat.le_trans (Keep.refl h0 []).1 g1)) (j := (5 : Int32)) 5 (by decide) (Nat.le_of_ble_eq_true rfl) (vs' := [(.ref w5), (.ref w14), (.ref w11), (.ref w0), .null, (.ref w8), .null, .null, .null, .null, .null, .null, .null, .null, .null, .null, .null]) rfl rfl rfl (Or.inr ⟨_, _, rfl, O'1, (Ins.self (hS.2.2.2.2.2.2.2.2.2.2.2.2.2.2.2.2.2.2.2.2.2.2.2.2.2.1.ext O10.2))⟩) (g := (mkF m 50 #[.val (.int (2 : Int32)), .unset] [(.ref w8), (.int (5 : Int32)), (.ref b1), (.ref b1)])) rfl rfl (hb hby d1_50)
  obtain ⟨T13, X13, e13, st13⟩ := getS2 X12 hx hZ hown (host := "") (Or.inl (hw _ m18)) Via.refl e12 (hS.2.2.2.2.2.2.2.2.2.2.2.2.2.2.2.2.2.2.2.2.2.2.2.2.2.2.2.2.2.2.2.2.2.2.2.2.2.2.2.2.2.2.2.2.2.1.ext O12.2) (g := (mkF m 54 #[.val (.int (2 : Int32)), .unset] [(.int (6 : Int32)), (.ref b1), (.ref b1)])) rfl (hb hby d1_54)
  obtain ⟨T14, h14, L'14, X14, e14, W14, V14, O14, K14, N14, st14⟩ := own_stR X13 hx hZ e13 V12 O12 K12 N12 (Nat.le_trans (own_old_le O0) g1) (Or.inr (Nat.le_trans (Keep.refl h0 []).1 g1)) (j := (6 : Int32)) 6 (by decide) (Nat.le_of_ble_eq_true rfl) (vs' := [(.ref w5), (.ref w14), (.ref w11), (.ref w0), .null, (.ref w8), (.ref w15), .null, .null, .null, .null, .null, .null, .null, .null, .null, .null]) rfl rfl rfl (Or.inr ⟨_, _, rfl, O'1, (Ins.self (hS.2.2.2.2.2.2.2.2.2.2.2.2.2.2.2.2.2.2.2.2.2.2.2.2.2.2.2.2.2.2.2.2.2.2.2.2.2.2.2.2.2.2.2.2.2.2.1.ext O12.2))⟩) (g := (mkF m 57 #[.val (.int (2 : Int32)), .unset] [(.ref w15), (.int (6 : Int32)), (.ref b1), (.ref b1)])) rfl rfl (hb hby d1_57)
  obtain ⟨T15, X15, e15, st15⟩ := getS2 X14 hx hZ hown (host := "") (Or.inl (hw _ m20)) Via.refl e14 (hS.2.2.2.2.2.2.2.2.2.2.2.2.2.2.2.2.2.2.2.2.2.2.2.2.2.2.2.2.2.2.1.ext O14.2) (g := (mkF m 61 #[.val (.int (2 : Int32)), .unset] [(.int (7 : Int32)), (.ref b1), (.ref b1)])) rfl (hb hby d1_61)
  obtain ⟨T16, h16, L'16, X16, e16, W16, V16, O16, K16, N16, st16⟩ := own_stR X15 hx hZ e15 V14 O14 K14 N14 (Nat.le_trans (own_old_le O0) g1) (Or.inr (Nat.le_trans (Keep.refl h0 []).1 g1)) (j := (7 : Int32)) 7 (by decide) (Nat.le_of_ble_eq_true rfl) (vs' := [(.ref w5), (.ref w14), (.ref w11), (.ref w0), .null, (.ref w8), (.ref w15), (.ref w10), .null, .null, .null, .null, .null, .null, .null, .null, .null]) rfl rfl rfl (Or.inr ⟨_, _, rfl, O'1, (Ins.self (hS.2.2.2.2.2.2.2.2.2.2.2.2.2.2.2.2.2.2.2.2.2.2.2.2.2.2.2.2.2.2.2.1.ext O14.2))⟩) (g := (mkF m 64 #[.val (.int (2 : Int32)), .unset] [(.ref w10), (.int (7 : Int32)), (.ref b1), (.ref b1)])) rfl rfl (hb hby d1_64)
  obtain ⟨T17, X17, e17, st17⟩ := getS2 X16 hx hZ hown (host := "") (Or.inl (hw _ m22)) Via.refl e16 (hS.2.2.2.2.2.2.2.2.2.2.2.2.2.2.2.2.2.2.2.2.2.2.2.2.2.2.2.2.2.2.2.2.2.2.2.2.2.2.2.1.ext O16.2) (g := (mkF m 68 #[.val (.int (2 : Int32)), .unset] [(.int (8 : Int32)), (.ref b1), (.ref b1)])) rfl (hb hby d1_68)
  obtain ⟨T18, h18, L'18, X18, e18, W18, V18, O18, K18, N18, st18⟩ := own_stR X17 hx hZ e17 V16 O16 K16 N16 (Nat.le_trans (own_old_le O0) g1) (Or.inr (Nat.le_trans (Keep.refl h0 []).1 g1)) (j := (8 : Int32)) 8 (by decide) (Nat.le_of_ble_eq_true rfl) (vs' := [(.ref w5), (.ref w14), (.ref w11), (.ref w0), .null, (.ref w8), (.ref w15), (.ref w10), (.ref w13), .null, .null, .null, .null, .null, .null, .null, .null]) rfl rfl rfl (Or.inr ⟨_, _, rfl, O'1, (Ins.self (hS.2.2.2.2.2.2.2.2.2.2.2.2.2.2.2.2.2.2.2.2.2.2.2.2.2.2.2.2.2.2.2.2.2.2.2.2.2.2.2.2.1.ext O16.2))⟩) (g := (mkF m 71 #[.val (.int (2 : Int32)), .unset] [(.ref w13), (.int (8 : Int32)), (.ref b1), (.ref b1)])) rfl rfl (hb hby d1_71)
  obtain ⟨T19, X19, e19, st19⟩ := getS2 X18 hx hZ hown (host := "") (Or.inl (hw _ m24)) Via.refl e18 (hS.2.2.2.2.2.2.2.2.2.2.2.2.2.2.2.2.2.2.2.2.2.2.2.2.2.2.2.1.ext O18.2) (g := (mkF m 75 #[.val (.int (2 : Int32)), .unset] [(.int (9 : Int32)), (.ref b1), (.ref b1)])) rfl (hb hby d1_75)
  obtain ⟨T20, h20, L'20, X20, e20, W20, V20, O20, K20, N20, st20⟩ := own_stR X19 hx hZ e19 V18 O18 K18 N18 (Nat.le_trans (own_old_le O0) g1) (Or.inr (Nat.le_trans (Keep.refl h0 []).1 g1)) (j := (9 : Int32)) 9 (by decide) (Nat.le_of_ble_eq_true rfl) (vs' := [(.ref w5), (.ref w14), (.ref w11), (.ref w0), .null, (.ref w8), (.ref w15), (.ref w10), (.ref w13), (.ref w9), .null, .null, .null, .null, .null, .null, .null]) rfl rfl rfl (Or.inr ⟨_, _, rfl, O'1, (Ins.self (hS.2.2.2.2.2.2.2.2.2.2.2.2.2.2.2.2.2.2.2.2.2.2.2.2.2.2.2.2.1.ext O18.2))⟩) (g := (mkF m 78 #[.val (.int (2 : Int32)), .unset] [(.ref w9), (.int (9 : Int32)), (.ref b1), (.ref b1)])) rfl rfl (hb hby d1_78)
  obtain ⟨T21, X21, e21, st21⟩ := getS2 X20 hx hZ hown (host := "") (Or.inl (hw _ m26)) Via.refl e20 (hS.2.2.2.2.2.2.2.2.2.2.2.2.2.2.2.2.2.2.2.2.2.1.ext O20.2) (g := (mkF m 82 #[.val (.int (2 : Int32)), .unset] [(.int (10 : Int32)), (.ref b1), (.ref b1)])) rfl (hb hby d1_82)
  obtain ⟨T22, h22, L'22, X22, e22, W22, V22, O22, K22, N22, st22⟩ := own_stR X21 hx hZ e21 V20 O20 K20 N20 (Nat.le_trans (own_old_le O0) g1) (Or.inr (Nat.le_trans (Keep.refl h0 []).1 g1)) (j := (10 : Int32)) 10 (by decide) (Nat.le_of_ble_eq_true rfl) (vs' := [(.ref w5), (.ref w14), (.ref w11), (.ref w0), .null, (.ref w8), (.ref w15), (.ref w10), (.ref w13), (.ref w9), (.ref w7), .null, .null, .null, .null, .null, .null]) rfl rfl rfl (Or.inr ⟨_, _, rfl, O'1, (Ins.self (hS.2.2.2.2.2.2.2.2.2.2.2.2.2.2.2.2.2.2.2.2.2.2.1.ext O20.2))⟩) (g := (mkF m 85 #[.val (.int (2 : Int32)), .unset] [(.ref w7), (.int (10 : Int32)), (.ref b1), (.ref b1)])) rfl rfl (hb hby d1_85)
  obtain ⟨T23, X23, e23, st23⟩ := getS2 X22 hx hZ hown (host := "") (Or.inl (hw _ m28)) Via.refl e22 (hS.2.2.2.2.2.2.2.2.2.2.2.2.2.2.2.2.2.2.2.2.2.2.2.2.2.2.2.2.2.2.2.2.2.2.2.2.1.ext O22.2) (g := (mkF m 89 #[.val (.int (2 : Int32)), .unset] [(.int (11 : Int32)), (.ref b1), (.ref b1)])) rfl (hb hby d1_89)
  obtain ⟨T24, h24, L'24, X24, e24, W24, V24, O24, K24, N24, st24⟩ := own_stR X23 hx hZ e23 V22 O22 K22 N22 (Nat.le_trans (own_old_le O0) g1) (Or.inr (Nat.le_trans (Keep.refl h0 []).1 g1)) (j := (11 : Int32)) 11 (by decide) (Nat.le_of_ble_eq_true rfl) (vs' := [(.ref w5), (.ref w14), (.ref w11), (.ref w0), .null, (.ref w8), (.ref w15), (.ref w10), (.ref w13), (.ref w9), (.ref w7), (.ref w12), .null, .null, .null, .null, .null]) rfl rfl rfl (Or.inr ⟨_, _, rfl, O'1, (Ins.self (hS.2.2.2.2.2.2.2.2.2.2.2.2.2.2.2.2.2.2.2.2.2.2.2.2.2.2.2.2.2.2.2.2.2.2.2.2.2.1.ext O22.2))⟩) (g := (mkF m 92 #[.val (.int (2 : Int32)), .unset] [(.ref w12), (.int (11 : Int32)), (.ref b1), (.ref b1)])) rfl rfl (hb hby d1_92)
  obtain ⟨T25, X25, e25, st25⟩ := getS2 X24 hx hZ hown (host := "") (Or.inl (hw _ m30)) Via.refl e24 (hS.2.2.2.2.2.2.2.2.2.2.2.2.2.2.2.2.2.2.1.ext O24.2) (g := (mkF m 96 #[.val (.int (2 : Int32)), .unset] [(.int (12 : Int32)), (.ref b1), (.ref b1)])) rfl (hb hby d1_96)
  obtain ⟨T26, h26, L'26, X26, e26, W26, V26, O26, K26, N26, st26⟩ := own_stR X25 hx hZ e25 V24 O24 K24 N24 (Nat.le_trans (own_old_le O0) g1) (Or.inr (Nat.le_trans (Keep.refl h0 []).1 g1)) (j := (12 : Int32)) 12 (by decide) (Nat.le_of_ble_eq_true rfl) (vs' := [(.ref w5), (.ref w14), (.ref w11), (.ref w0), .null, (.ref w8), (.ref w15), (.ref w10), (.ref w13), (.ref w9), (.ref w7), (.ref w12), (.ref w6), .null, .null, .null, .null]) rfl rfl rfl (Or.inr ⟨_, _, rfl, O'1, (Ins.self (hS.2.2.2.2.2.2.2.2.2.2.2.2.2.2.2.2.2.2.2.1.ext O24.2))⟩) (g := (mkF m 99 #[.val (.int (2 : Int32)), .unset] [(.ref w6), (.int (12 : Int32)), (.ref b1), (.ref b1)])) rfl rfl (hb hby d1_99)
  obtain ⟨T27, X27, e27, st27⟩ := getS2 X26 hx hZ hown (host := "") (Or.inl (hw _ m32)) Via.refl e26 (hS.2.2.2.2.2.2.2.2.2.2.2.2.1.ext O26.2) (g := (mkF m 103 #[.val (.int (2 : Int32)), .unset] [(.int (13 : Int32)), (.ref b1), (.ref b1)])) rfl (hb hby d1_103)
  obtain ⟨T28, h28, L'28, X28, e28, W28, V28, O28, K28, N28, st28⟩ := own_stR X27 hx hZ e27 V26 O26 K26 N26 (Nat.le_trans (own_old_le O0) g1) (Or.inr (Nat.le_trans (Keep.refl h0 []).1 g1)) (j := (13 : Int32)) 13 (by decide) (Nat.le_of_ble_eq_true rfl) (vs' := [(.ref w5), (.ref w14), (.ref w11), (.ref w0), .null, (.ref w8), (.ref w15), (.ref w10), (.ref w13), (.ref w9), (.ref w7), (.ref w12), (.ref w6), (.ref w4), .null, .null, .null]) rfl rfl rfl (Or.inr ⟨_, _, rfl, O'1, (Ins.self (hS.2.2.2.2.2.2.2.2.2.2.2.2.2.1.ext O26.2))⟩) (g := (mkF m 106 #[.val (.int (2 : Int32)), .unset] [(.ref w4), (.int (13 : Int32)), (.ref b1), (.ref b1)])) rfl rfl (hb hby d1_106)
  obtain ⟨T29, X29, e29, st29⟩ := getS2 X28 hx hZ hown (host := "") (Or.inl (hw _ m34)) Via.refl e28 (hS.2.2.2.1.ext O28.2) (g := (mkF m 110 #[.val (.int (2 : Int32)), .unset] [(.int (14 : Int32)), (.ref b1), (.ref b1)])) rfl (hb hby d1_110)
  obtain ⟨T30, h30, L'30, X30, e30, W30, V30, O30, K30, N30, st30⟩ := own_stR X29 hx hZ e29 V28 O28 K28 N28 (Nat.le_trans (own_old_le O0) g1) (Or.inr (Nat.le_trans (Keep.refl h0 []).1 g1)) (j := (14 : Int32)) 14 (by decide) (Nat.le_of_ble_eq_true rfl) (vs' := [(.ref w5), (.ref w14), (.ref w11), (.ref w0), .null, (.ref w8), (.ref w15), (.ref w10), (.ref w13), (.ref w9), (.ref w7), (.ref w12), (.ref w6), (.ref w4), (.ref w1), .null, .null]) rfl rfl rfl (Or.inr ⟨_, _, rfl, O'1, (Ins.self (hS.2.2.2.2.1.ext O28.2))⟩) (g := (mkF m 113 #[.val (.int (2 : Int32)), .unset] [(.ref w1), (.int (14 : Int32)), (.ref b1), (.ref b1)])) rfl rfl (hb hby d1_113)
  obtain ⟨T31, X31, e31, st31⟩ := getS2 X30 hx hZ hown (host := "") (Or.inl (hw _ m36)) Via.refl e30 (hS.2.2.2.2.2.2.1.ext O30.2) (g := (mkF m 117 #[.val (.int (2 : Int32)), .unset] [(.int (15 : Int32)), (.ref b1), (.ref b1)])) rfl (hb hby d1_117)
  obtain ⟨T32, h32, L'32, X32, e32, W32, V32, O32, K32, N32, st32⟩ := own_stR X31 hx hZ e31 V30 O30 K30 N30 (Nat.le_trans (own_old_le O0) g1) (Or.inr (Nat.le_trans (Keep.refl h0 []).1 g1)) (j := (15 : Int32)) 15 (by decide) (Nat.le_of_ble_eq_true rfl) (vs' := [(.ref w5), (.ref w14), (.ref w11), (.ref w0), .null, (.ref w8), (.ref w15), (.ref w10), (.ref w13), (.ref w9), (.ref w7), (.ref w12), (.ref w6), (.ref w4), (.ref w1), (.ref w2), .null]) rfl rfl rfl (Or.inr ⟨_, _, rfl, O'1, (Ins.self (hS.2.2.2.2.2.2.2.1.ext O30.2))⟩) (g := (mkF m 120 #[.val (.int (2 : Int32)), .unset] [(.ref w2), (.int (15 : Int32)), (.ref b1), (.ref b1)])) rfl rfl (hb hby d1_120)
  obtain ⟨T33, X33, e33, st33⟩ := getS2 X32 hx hZ hown (host := "") (Or.inl (hw _ m38)) Via.refl e32 (hS.2.2.2.2.2.2.2.2.2.1.ext O32.2) (g := (mkF m 124 #[.val (.int (2 : Int32)), .unset] [(.int (16 : Int32)), (.ref b1), (.ref b1)])) rfl (hb hby d1_124)
  obtain ⟨T34, h34, L'34, X34, e34, W34, V34, O34, K34, N34, st34⟩ := own_stR X33 hx hZ e33 V32 O32 K32 N32 (Nat.le_trans (own_old_le O0) g1) (Or.inr (Nat.le_trans (Keep.refl h0 []).1 g1)) (j := (16 : Int32)) 16 (by decide) (Nat.le_of_ble_eq_true rfl) (vs' := [(.ref w5), (.ref w14), (.ref w11), (.ref w0), .null, (.ref w8), (.ref w15), (.ref w10), (.ref w13), (.ref w9), (.ref w7), (.ref w12), (.ref w6), (.ref w4), (.ref w1), (.ref w2), (.ref w3)]) rfl rfl rfl (Or.inr ⟨_, _, rfl, O'1, (Ins.self (hS.2.2.2.2.2.2.2.2.2.2.1.ext O32.2))⟩) (g := (mkF m 127 #[.val (.int (2 : Int32)), .unset] [(.ref w3), (.int (16 : Int32)), (.ref b1), (.ref b1)])) rfl rfl (hb hby d1_127)
  obtain ⟨fs, hr, hrun, hended, hW, hsame⟩ := X34.leave (v := some (.ref w11)) (fun h => by rw [Bd.returns] at h; cases h)
  refine ⟨_, _, pre0 _ ?_, hrun, hended, _, _, rfl, ?_, ⟨_, rfl⟩, hW, hsame.mono (by decide) (by decide)⟩
  · show Steps p.tables e below (s₁.setTop (mkF m 0 #[.val (.int (2 : Int32)), .unset] [])) _
    refine XS.iloadN X0.here hx rfl (hb hby d1_0) rfl ?_
    refine XS.ifNo X0.here hx rfl (hb hby d1_1) rfl ((if0 _ _).trans (flt (by decide : ¬ ((2 : Int32) < (0 : Int32)))).1) ?_
    refine XS.iloadN X0.here hx rfl (hb hby d1_4) rfl ?_
    refine XS.bipush X0.here hx rfl (hb hby d1_5) ?_
    show Steps p.tables e below (s₁.setTop (mkF m 7 #[.val (.int (2 : Int32)), .unset] [(.int (16 : Int32)), (.int (2 : Int32))])) _
    refine XS.icmpYes X0.here hx rfl (pc0 := 7) (pc' := 12) rfl (hb hby d1_7) rfl (flt (by decide : ¬ ((16 : Int32) < (2 : Int32)))).2.2.2 (by decide) (by decide) ?_
    refine XS.bipush X0.here hx rfl (hb hby d1_12) ?_
    refine st1 _ ?_
    refine XS.dup X1.here hx rfl (hb hby d1_17) rfl rfl ?_
    show Steps p.tables e below (T1.setTop (mkF m 18 #[.val (.int (2 : Int32)), .unset] [(.ref b1), (.ref b1)])) _
    refine XS.iconst X1.here hx rfl (hb hby d1_18) ?_
    refine st2 _ ?_
    refine st3 _ ?_
    refine XS.dup X3.here hx rfl (hb hby d1_23) rfl rfl ?_
    show Steps p.tables e below (T3.setTop (mkF m 24 #[.val (.int (2 : Int32)), .unset] [(.ref b1), (.ref b1)])) _
    refine XS.iconst X3.here hx rfl (hb hby d1_24) ?_
    refine st4 _ ?_
    refine st5 _ ?_
    refine XS.dup X5.here hx rfl (hb hby d1_29) rfl rfl ?_
    show Steps p.tables e below (T5.setTop (mkF m 30 #[.val (.int (2 : Int32)), .unset] [(.ref b1), (.ref b1)])) _
    refine XS.iconst X5.here hx rfl (hb hby d1_30) ?_
    refine st6 _ ?_
    refine st7 _ ?_
    refine XS.dup X7.here hx rfl (hb hby d1_35) rfl rfl ?_
    show Steps p.tables e below (T7.setTop (mkF m 36 #[.val (.int (2 : Int32)), .unset] [(.ref b1), (.ref b1)])) _
    refine XS.iconst X7.here hx rfl (hb hby d1_36) ?_
    refine st8 _ ?_
    refine st9 _ ?_
    refine XS.dup X9.here hx rfl (hb hby d1_41) rfl rfl ?_
    show Steps p.tables e below (T9.setTop (mkF m 42 #[.val (.int (2 : Int32)), .unset] [(.ref b1), (.ref b1)])) _
    refine XS.iconst X9.here hx rfl (hb hby d1_42) ?_
    refine XS.aconstNull X9.here hx rfl (hb hby d1_43) ?_
    refine st10 _ ?_
    refine XS.dup X10.here hx rfl (hb hby d1_45) rfl rfl ?_
    show Steps p.tables e below (T10.setTop (mkF m 46 #[.val (.int (2 : Int32)), .unset] [(.ref b1), (.ref b1)])) _
    refine XS.iconst X10.here hx rfl (hb hby d1_46) ?_
    refine st11 _ ?_
    refine st12 _ ?_
    refine XS.dup X12.here hx rfl (hb hby d1_51) rfl rfl ?_
    show Steps p.tables e below (T12.setTop (mkF m 52 #[.val (.int (2 : Int32)), .unset] [(.ref b1), (.ref b1)])) _
    refine XS.bipush X12.here hx rfl (hb hby d1_52) ?_
    refine st13 _ ?_
    refine st14 _ ?_
    refine XS.dup X14.here hx rfl (hb hby d1_58) rfl rfl ?_
    show Steps p.tables e below (T14.setTop (mkF m 59 #[.val (.int (2 : Int32)), .unset] [(.ref b1), (.ref b1)])) _
    refine XS.bipush X14.here hx rfl (hb hby d1_59) ?_
    refine st15 _ ?_
    refine st16 _ ?_
    refine XS.dup X16.here hx rfl (hb hby d1_65) rfl rfl ?_
    show Steps p.tables e below (T16.setTop (mkF m 66 #[.val (.int (2 : Int32)), .unset] [(.ref b1), (.ref b1)])) _
    refine XS.bipush X16.here hx rfl (hb hby d1_66) ?_
    refine st17 _ ?_
    refine st18 _ ?_
    refine XS.dup X18.here hx rfl (hb hby d1_72) rfl rfl ?_
    show Steps p.tables e below (T18.setTop (mkF m 73 #[.val (.int (2 : Int32)), .unset] [(.ref b1), (.ref b1)])) _
    refine XS.bipush X18.here hx rfl (hb hby d1_73) ?_
    refine st19 _ ?_
    refine st20 _ ?_
    refine XS.dup X20.here hx rfl (hb hby d1_79) rfl rfl ?_
    show Steps p.tables e below (T20.setTop (mkF m 80 #[.val (.int (2 : Int32)), .unset] [(.ref b1), (.ref b1)])) _
    refine XS.bipush X20.here hx rfl (hb hby d1_80) ?_
    refine st21 _ ?_
    refine st22 _ ?_
    refine XS.dup X22.here hx rfl (hb hby d1_86) rfl rfl ?_
    show Steps p.tables e below (T22.setTop (mkF m 87 #[.val (.int (2 : Int32)), .unset] [(.ref b1), (.ref b1)])) _
    refine XS.bipush X22.here hx rfl (hb hby d1_87) ?_
    refine st23 _ ?_
    refine st24 _ ?_
    refine XS.dup X24.here hx rfl (hb hby d1_93) rfl rfl ?_
    show Steps p.tables e below (T24.setTop (mkF m 94 #[.val (.int (2 : Int32)), .unset] [(.ref b1), (.ref b1)])) _
    refine XS.bipush X24.here hx rfl (hb hby d1_94) ?_
    refine st25 _ ?_
    refine st26 _ ?_
    refine XS.dup X26.here hx rfl (hb hby d1_100) rfl rfl ?_
    show Steps p.tables e below (T26.setTop (mkF m 101 #[.val (.int (2 : Int32)), .unset] [(.ref b1), (.ref b1)])) _
    refine XS.bipush X26.here hx rfl (hb hby d1_101) ?_
    refine st27 _ ?_
    refine st28 _ ?_
    refine XS.dup X28.here hx rfl (hb hby d1_107) rfl rfl ?_
    show Steps p.tables e below (T28.setTop (mkF m 108 #[.val (.int (2 : Int32)), .unset] [(.ref b1), (.ref b1)])) _
    refine XS.bipush X28.here hx rfl (hb hby d1_108) ?_
    refine st29 _ ?_
    refine st30 _ ?_
    refine XS.dup X30.here hx rfl (hb hby d1_114) rfl rfl ?_
    show Steps p.tables e below (T30.setTop (mkF m 115 #[.val (.int (2 : Int32)), .unset] [(.ref b1), (.ref b1)])) _
    refine XS.bipush X30.here hx rfl (hb hby d1_115) ?_
    refine st31 _ ?_
    refine st32 _ ?_
    refine XS.dup X32.here hx rfl (hb hby d1_121) rfl rfl ?_
    show Steps p.tables e below (T32.setTop (mkF m 122 #[.val (.int (2 : Int32)), .unset] [(.ref b1), (.ref b1)])) _
    refine XS.bipush X32.here hx rfl (hb hby d1_122) ?_
    refine st33 _ ?_
    refine st34 _ ?_
    refine XS.astoreN X34.here hx rfl (hb hby d1_128) rfl rfl (l' := #[.val (.int (2 : Int32)), .val (.ref b1)]) rfl ?_
    show Steps p.tables e below (T34.setTop (mkF m 129 #[.val (.int (2 : Int32)), .val (.ref b1)] [])) _
    refine XS.aloadN X34.here hx rfl (hb hby d1_129) rfl rfl ?_
    refine XS.iloadN X34.here hx rfl (hb hby d1_130) rfl ?_
    refine own_aaload X34 hx hZ e34 V34 (j := (2 : Int32)) (by decide) (v := (.ref w11)) rfl rfl (g := (mkF m 131 #[.val (.int (2 : Int32)), .val (.ref b1)] [(.int (2 : Int32)), (.ref b1)])) rfl rfl (hb hby d1_131) ?_
    exact retOut X34 hx Bd.returns rfl (Or.inr (Or.inr (Or.inr (Or.inr ⟨rfl, rfl, rfl⟩)))) (hb hby d1_132) hr
  · show Qrm9 Z w0 w1 w2 w3 w4 w5 w6 w7 w8 w9 w10 w11 w12 w13 w14 w15 w16 kw16 h0 n0 _ T34.heap _
    rw [e34]
    exact ⟨rfl, N34, K34⟩
def Qrm10 (Z : State) (w0 : Addr) (w1 : Addr) (w2 : Addr) (w3 : Addr) (w4 : Addr) (w5 : Addr) (w6 : Addr) (w7 : Addr) (w8 : Addr) (w9 : Addr) (w10 : Addr) (w11 : Addr) (w12 : Addr) (w13 : Addr) (w14 : Addr) (w15 : Addr) (w16 : Addr) (kw16 : ClassId) (h0 : Heap) (n0 : Nat) (v : Option Value) (h : Heap) (L : List Loc) : Prop := v = some (.ref w11) ∧ Fr n0 L ∧ h = h0
set_option maxRecDepth 65536 in
set_option maxHeartbeats 40000000 in
theorem rm10 (l : Launch) (Z : State) (a0 : Array Value) (hw : ∀ d ∈ tables_1, d.before a0 Z = true) (w0 : Addr) (w1 : Addr) (w2 : Addr) (w3 : Addr) (w4 : Addr) (w5 : Addr) (w6 : Addr) (w7 : Addr) (w8 : Addr) (w9 : Addr) (w10 : Addr) (w11 : Addr) (w12 : Addr) (w13 : Addr) (w14 : Addr) (w15 : Addr) (w16 : Addr) (kw16 : ClassId) (hS : SF Z w0 w1 w2 w3 w4 w5 w6 w7 w8 w9 w10 w11 w12 w13 w14 w15 w16 kw16) (ws : List Jvm.Cond) (h0 : Heap) (n0 : Nat) (O0 : Old Z n0 h0) :
    MetFree l (⟨z0, "of", z2⟩ : MethodName) (head1 (Jvm.Cond.code (⟨z0, "of", z2⟩ : MethodName) prog_90_method_5_code 1 (some (.object z0)) :: ws) ({ frames := 0, cells := 0, slots := 0, locals := 0 } : Room)) (fun a U => a = #[(.int (2 : Int32))] ∧ Z.Warmed39 U.vm ∧ U.heap = h0) (fun _ _ _ _ _ => True) (fun _ U o U' => ∃ v L, o = .returned v ∧ Qrm10 Z w0 w1 w2 w3 w4 w5 w6 w7 w8 w9 w10 w11 w12 w13 w14 w15 w16 kw16 h0 n0 v U'.heap L ∧ FrameEnd U o U' L ({ frames := 0, cells := 0, slots := 0, locals := 0 } : Room).cells ({ frames := 0, cells := 0, slots := 0, locals := 0 } : Room).slots) := by
  refine MetFree.of_bodySF (plainFor_of_name pn18) hisR ?_
  intro p e s m args below meth c s₁ Bd hml0 hP hK
  obtain ⟨rfl, hZ, hh⟩ := hP
  have hx := Bd.exec
  have hby := Bd.bytes
  have hml : c.maxLocals = 1 := hml0
  have hown : s.vm.findClass z0 = some m.cls := findClass_of_methodNamed Bd.named
  have hnm := (name_of_methodNamed Bd.named Bd.method).1
  have X0 : Stand p l e ({ frames := 0, cells := 0, slots := 0, locals := 0 } : Room) s m #[(.int (2 : Int32))] below meth c s₁ [] 0 0 := Stand.of_body Bd
  have e0 : s₁.heap = h0 := by rw [← hh, Bd.state]; rfl
  have N0 := Fr.nil n0
  have pre0 : ∀ t, Steps p.tables e below (s₁.setTop (mkF m 0 #[.val (.int (2 : Int32))] [])) t → Steps p.tables e below (s₁.setTop (entryFrame m #[(.int (2 : Int32))] 1)) t := fun t k => castTop (ef17 m (2 : Int32)) k
  obtain ⟨T1, X1, e1, st1⟩ := getS2 X0 hx hZ hown (host := "") (Or.inl (hw _ m43)) Via.refl e0 (hS.2.2.2.2.2.2.2.2.2.2.2.2.2.2.2.2.2.2.2.2.2.2.2.2.2.2.2.2.2.2.2.2.2.2.2.2.2.2.2.2.2.2.2.2.2.2.2.2.1.ext O0.2) (g := (mkF m 5 #[.val (.int (2 : Int32))] [(.int (2 : Int32))])) rfl (hb hby d2_5)
  obtain ⟨T2, X2, e2, st2⟩ := getS2 X1 hx hZ hown (host := "") (Or.inl (hw _ m43)) Via.refl e1 (hS.2.2.2.2.2.2.2.2.2.2.2.2.2.2.2.2.2.2.2.2.2.2.2.2.2.2.2.2.2.2.2.2.2.2.2.2.2.2.2.2.2.2.2.2.2.2.2.2.1.ext O0.2) (g := (mkF m 12 #[.val (.int (2 : Int32))] [])) rfl (hb hby d2_12)
  obtain ⟨fs, hr, hrun, hended, hW, hsame⟩ := X2.leave (v := some (.ref w11)) (fun h => by rw [Bd.returns] at h; cases h)
  refine ⟨_, _, pre0 _ ?_, hrun, hended, _, _, rfl, ?_, ⟨_, rfl⟩, hW, hsame.mono (by decide) (by decide)⟩
  · show Steps p.tables e below (s₁.setTop (mkF m 0 #[.val (.int (2 : Int32))] [])) _
    refine XS.iloadN X0.here hx rfl (hb hby d2_0) rfl ?_
    refine XS.ifNo X0.here hx rfl (hb hby d2_1) rfl ((if0 _ _).trans (flt (by decide : ¬ ((2 : Int32) < (0 : Int32)))).1) ?_
    refine XS.iloadN X0.here hx rfl (hb hby d2_4) rfl ?_
    refine st1 _ ?_
    show Steps p.tables e below (T1.setTop (mkF m 8 #[.val (.int (2 : Int32))] [(.ref w16), (.int (2 : Int32))])) _
    refine own_alen X1 hx hZ e1 (hS.2.2.2.2.2.2.2.2.2.2.2.2.2.2.2.2.2.2.2.2.2.2.2.2.2.2.2.2.2.2.2.2.2.2.2.2.2.2.2.2.2.2.2.2.2.2.2.2.2.ext O0.2) (g := (mkF m 8 #[.val (.int (2 : Int32))] [(.ref w16), (.int (2 : Int32))])) rfl rfl (hb hby d2_8) ?_
    refine XS.icmpNo X1.here hx rfl (hb hby d2_9) rfl (tlt (by decide : (2 : Int32) < (17 : Int32))).2.1 ?_
    refine st2 _ ?_
    refine XS.iloadN X2.here hx rfl (hb hby d2_15) rfl ?_
    show Steps p.tables e below (T2.setTop (mkF m 16 #[.val (.int (2 : Int32))] [(.int (2 : Int32)), (.ref w16)])) _
    refine own_aaload X2 hx hZ e2 (hS.2.2.2.2.2.2.2.2.2.2.2.2.2.2.2.2.2.2.2.2.2.2.2.2.2.2.2.2.2.2.2.2.2.2.2.2.2.2.2.2.2.2.2.2.2.2.2.2.2.ext O0.2) (j := (2 : Int32)) (by decide) (v := (.ref w11)) rfl rfl (g := (mkF m 16 #[.val (.int (2 : Int32))] [(.int (2 : Int32)), (.ref w16)])) rfl rfl (hb hby d2_16) ?_
    refine XS.goto X2.here hx rfl (pc0 := 17) (pc' := 21) rfl (hb hby d2_17) (by decide) (by decide) ?_
    exact retOut X2 hx Bd.returns rfl (Or.inr (Or.inr (Or.inr (Or.inr ⟨rfl, rfl, rfl⟩)))) (hb hby d2_21) hr
  · show Qrm10 Z w0 w1 w2 w3 w4 w5 w6 w7 w8 w9 w10 w11 w12 w13 w14 w15 w16 kw16 h0 n0 _ T2.heap _
    rw [e2]
    exact ⟨rfl, N0, rfl⟩
def Qrm11 (Z : State) (w0 : Addr) (w1 : Addr) (w2 : Addr) (w3 : Addr) (w4 : Addr) (w5 : Addr) (w6 : Addr) (w7 : Addr) (w8 : Addr) (w9 : Addr) (w10 : Addr) (w11 : Addr) (w12 : Addr) (w13 : Addr) (w14 : Addr) (w15 : Addr) (w16 : Addr) (kw16 : ClassId) (h0 : Heap) (n0 : Nat) (v : Option Value) (h : Heap) (L : List Loc) : Prop := v = some (.int (2 : Int32)) ∧ Fr n0 L ∧ h = h0
set_option maxRecDepth 65536 in
set_option maxHeartbeats 40000000 in
theorem rm11 (l : Launch) (Z : State) (a0 : Array Value) (hw : ∀ d ∈ tables_1, d.before a0 Z = true) (w0 : Addr) (w1 : Addr) (w2 : Addr) (w3 : Addr) (w4 : Addr) (w5 : Addr) (w6 : Addr) (w7 : Addr) (w8 : Addr) (w9 : Addr) (w10 : Addr) (w11 : Addr) (w12 : Addr) (w13 : Addr) (w14 : Addr) (w15 : Addr) (w16 : Addr) (kw16 : ClassId) (hS : SF Z w0 w1 w2 w3 w4 w5 w6 w7 w8 w9 w10 w11 w12 w13 w14 w15 w16 kw16) (ws : List Jvm.Cond) (h0 : Heap) (n0 : Nat) (O0 : Old Z n0 h0) :
    MetFree l (⟨z0, "code", "()I"⟩ : MethodName) (head1 (Jvm.Cond.code (⟨z0, "code", "()I"⟩ : MethodName) prog_90_method_4_code 1 (some .int) :: ws) ({ frames := 0, cells := 0, slots := 0, locals := 0 } : Room)) (fun a U => a = #[(.ref w11)] ∧ Z.Warmed39 U.vm ∧ U.heap = h0) (fun _ _ _ _ _ => True) (fun _ U o U' => ∃ v L, o = .returned v ∧ Qrm11 Z w0 w1 w2 w3 w4 w5 w6 w7 w8 w9 w10 w11 w12 w13 w14 w15 w16 kw16 h0 n0 v U'.heap L ∧ FrameEnd U o U' L ({ frames := 0, cells := 0, slots := 0, locals := 0 } : Room).cells ({ frames := 0, cells := 0, slots := 0, locals := 0 } : Room).slots) := by
  refine MetFree.of_bodySF (plainFor_of_name pn18) hisR ?_
  intro p e s m args below meth c s₁ Bd hml0 hP hK
  obtain ⟨rfl, hZ, hh⟩ := hP
  have hx := Bd.exec
  have hby := Bd.bytes
  have hml : c.maxLocals = 1 := hml0
  have hown : s.vm.findClass z0 = some m.cls := findClass_of_methodNamed Bd.named
  have hnm := (name_of_methodNamed Bd.named Bd.method).1
  have X0 : Stand p l e ({ frames := 0, cells := 0, slots := 0, locals := 0 } : Room) s m #[(.ref w11)] below meth c s₁ [] 0 0 := Stand.of_body Bd
  have e0 : s₁.heap = h0 := by rw [← hh, Bd.state]; rfl
  have N0 := Fr.nil n0
  have pre0 : ∀ t, Steps p.tables e below (s₁.setTop (mkF m 0 #[.val (.ref w11)] [])) t → Steps p.tables e below (s₁.setTop (entryFrame m #[(.ref w11)] 1)) t := fun t k => castTop (ef135 m w11) k
  obtain ⟨T1, X1, e1, st1⟩ := getF X0 hx hZ hown (host := "") (Or.inl (hw _ m50)) Via.refl e0 (hS.2.2.2.2.2.2.2.2.2.2.2.2.2.2.2.2.2.2.2.2.2.2.2.2.2.2.2.2.2.2.2.2.2.2.2.1.ext O0.2) (g := (mkF m 1 #[.val (.ref w11)] [(.ref w11)])) rfl rfl (hb hby d3_1)
  obtain ⟨fs, hr, hrun, hended, hW, hsame⟩ := X1.leave (v := some (.int (2 : Int32))) (fun h => by rw [Bd.returns] at h; cases h)
  refine ⟨_, _, pre0 _ ?_, hrun, hended, _, _, rfl, ?_, ⟨_, rfl⟩, hW, hsame.mono (by decide) (by decide)⟩
  · show Steps p.tables e below (s₁.setTop (mkF m 0 #[.val (.ref w11)] [])) _
    refine XS.aloadN X0.here hx rfl (hb hby d3_0) rfl rfl ?_
    refine st1 _ ?_
    exact retOut X1 hx Bd.returns rfl (Or.inl ⟨rfl, Or.inl rfl, _, rfl⟩) (hb hby d3_4) hr
  · show Qrm11 Z w0 w1 w2 w3 w4 w5 w6 w7 w8 w9 w10 w11 w12 w13 w14 w15 w16 kw16 h0 n0 _ T1.heap _
    rw [e1]
    exact ⟨rfl, N0, rfl⟩
def Qrm12 (Z : State) (w0 : Addr) (w1 : Addr) (w2 : Addr) (w3 : Addr) (w4 : Addr) (w5 : Addr) (w6 : Addr) (w7 : Addr) (w8 : Addr) (w9 : Addr) (w10 : Addr) (w11 : Addr) (w12 : Addr) (w13 : Addr) (w14 : Addr) (w15 : Addr) (w16 : Addr) (kw16 : ClassId) (h0 : Heap) (n0 : Nat) (v : Option Value) (h : Heap) (L : List Loc) : Prop := v = some (.ref w0) ∧ Fr n0 L ∧ Keep h0 h []
set_option maxRecDepth 65536 in
set_option maxHeartbeats 40000000 in
theorem rm12 (l : Launch) (Z : State) (a0 : Array Value) (hw : ∀ d ∈ tables_1, d.before a0 Z = true) (w0 : Addr) (w1 : Addr) (w2 : Addr) (w3 : Addr) (w4 : Addr) (w5 : Addr) (w6 : Addr) (w7 : Addr) (w8 : Addr) (w9 : Addr) (w10 : Addr) (w11 : Addr) (w12 : Addr) (w13 : Addr) (w14 : Addr) (w15 : Addr) (w16 : Addr) (kw16 : ClassId) (hS : SF Z w0 w1 w2 w3 w4 w5 w6 w7 w8 w9 w10 w11 w12 w13 w14 w15 w16 kw16) (ws : List Jvm.Cond) (h0 : Heap) (n0 : Nat) (O0 : Old Z n0 h0) :
    MetFree l (⟨z1, "expected", z2⟩ : MethodName) (head1 (Jvm.Cond.code (⟨z1, "expected", z2⟩ : MethodName) method_3_code 2 (some (.object z0)) :: ws) ({ frames := 0, cells := 1, slots := 17, locals := 0 } : Room)) (fun a U => a = #[(.int (3 : Int32))] ∧ Z.Warmed39 U.vm ∧ U.heap = h0) (fun _ _ _ _ _ => True) (fun _ U o U' => ∃ v L, o = .returned v ∧ Qrm12 Z w0 w1 w2 w3 w4 w5 w6 w7 w8 w9 w10 w11 w12 w13 w14 w15 w16 kw16 h0 n0 v U'.heap L ∧ FrameEnd U o U' L ({ frames := 0, cells := 1, slots := 17, locals := 0 } : Room).cells ({ frames := 0, cells := 1, slots := 17, locals := 0 } : Room).slots) := by
  refine MetFree.of_bodySF (plainFor_of_name pn7) hisR ?_
  intro p e s m args below meth c s₁ Bd hml0 hP hK
  obtain ⟨rfl, hZ, hh⟩ := hP
  have hx := Bd.exec
  have hby := Bd.bytes
  have hml : c.maxLocals = 2 := hml0
  have hown : s.vm.findClass z1 = some m.cls := findClass_of_methodNamed Bd.named
  have hnm := (name_of_methodNamed Bd.named Bd.method).1
  have X0 : Stand p l e ({ frames := 0, cells := 1, slots := 17, locals := 0 } : Room) s m #[(.int (3 : Int32))] below meth c s₁ [] 0 0 := Stand.of_body Bd
  have e0 : s₁.heap = h0 := by rw [← hh, Bd.state]; rfl
  have N0 := Fr.nil n0
  have pre0 : ∀ t, Steps p.tables e below (s₁.setTop (mkF m 0 #[.val (.int (3 : Int32)), .unset] [])) t → Steps p.tables e below (s₁.setTop (entryFrame m #[(.int (3 : Int32))] 2)) t := fun t k => castTop (ef6 m (3 : Int32)) k
  obtain ⟨T1, h1, k1, b1, X1, e1, E1, V1, O'1, g1, O1, K1, st1⟩ := own_newR X0 hx hZ (vs := [.null, .null, .null, .null, .null, .null, .null, .null, .null, .null, .null, .null, .null, .null, .null, .null, .null]) (cap := 17) rfl hown (hw _ m4) (hw _ m5) e0 O0 (Keep.refl h0 []) (g := (mkF m 14 #[.val (.int (3 : Int32)), .unset] [(.int (17 : Int32))])) rfl (hb hby d1_14) rfl (by decide) (by decide) (by decide) (by decide) (by decide)
  obtain ⟨T2, X2, e2, st2⟩ := getS2 X1 hx hZ hown (host := "") (Or.inl (hw _ m6)) Via.refl e1 (hS.2.2.2.2.2.2.2.2.2.2.2.2.2.2.2.1.ext O1.2) (g := (mkF m 19 #[.val (.int (3 : Int32)), .unset] [(.int (0 : Int32)), (.ref b1), (.ref b1)])) rfl (hb hby d1_19)
  obtain ⟨T3, h3, L'3, X3, e3, W3, V3, O3, K3, N3, st3⟩ := own_stR X2 hx hZ e2 V1 O1 K1 N0 (Nat.le_trans (own_old_le O0) g1) (Or.inr (Nat.le_trans (Keep.refl h0 []).1 g1)) (j := (0 : Int32)) 0 (by decide) (Nat.le_of_ble_eq_true rfl) (vs' := [(.ref w5), .null, .null, .null, .null, .null, .null, .null, .null, .null, .null, .null, .null, .null, .null, .null, .null]) rfl rfl rfl (Or.inr ⟨_, _, rfl, O'1, (Ins.self (hS.2.2.2.2.2.2.2.2.2.2.2.2.2.2.2.2.1.ext O1.2))⟩) (g := (mkF m 22 #[.val (.int (3 : Int32)), .unset] [(.ref w5), (.int (0 : Int32)), (.ref b1), (.ref b1)])) rfl rfl (hb hby d1_22)
  obtain ⟨T4, X4, e4, st4⟩ := getS2 X3 hx hZ hown (host := "") (Or.inl (hw _ m10)) Via.refl e3 (hS.2.2.2.2.2.2.2.2.2.2.2.2.2.2.2.2.2.2.2.2.2.2.2.2.2.2.2.2.2.2.2.2.2.2.2.2.2.2.2.2.2.2.1.ext O3.2) (g := (mkF m 25 #[.val (.int (3 : Int32)), .unset] [(.int (1 : Int32)), (.ref b1), (.ref b1)])) rfl (hb hby d1_25)
  obtain ⟨T5, h5, L'5, X5, e5, W5, V5, O5, K5, N5, st5⟩ := own_stR X4 hx hZ e4 V3 O3 K3 N3 (Nat.le_trans (own_old_le O0) g1) (Or.inr (Nat.le_trans (Keep.refl h0 []).1 g1)) (j := (1 : Int32)) 1 (by decide) (Nat.le_of_ble_eq_true rfl) (vs' := [(.ref w5), (.ref w14), .null, .null, .null, .null, .null, .null, .null, .null, .null, .null, .null, .null, .null, .null, .null]) rfl rfl rfl (Or.inr ⟨_, _, rfl, O'1, (Ins.self (hS.2.2.2.2.2.2.2.2.2.2.2.2.2.2.2.2.2.2.2.2.2.2.2.2.2.2.2.2.2.2.2.2.2.2.2.2.2.2.2.2.2.2.2.1.ext O3.2))⟩) (g := (mkF m 28 #[.val (.int (3 : Int32)), .unset] [(.ref w14), (.int (1 : Int32)), (.ref b1), (.ref b1)])) rfl rfl (hb hby d1_28)
  obtain ⟨T6, X6, e6, st6⟩ := getS2 X5 hx hZ hown (host := "") (Or.inl (hw _ m12)) Via.refl e5 (hS.2.2.2.2.2.2.2.2.2.2.2.2.2.2.2.2.2.2.2.2.2.2.2.2.2.2.2.2.2.2.2.2.2.1.ext O5.2) (g := (mkF m 31 #[.val (.int (3 : Int32)), .unset] [(.int (2 : Int32)), (.ref b1), (.ref b1)])) rfl (hb hby d1_31)
  obtain ⟨T7, h7, L'7, X7, e7, W7, V7, O7, K7, N7, st7⟩ := own_stR X6 hx hZ e6 V5 O5 K5 N5 (Nat.le_trans (own_old_le O0) g1) (Or.inr (Nat.le_trans (Keep.refl h0 []).1 g1)) (j := (2 : Int32)) 2 (by decide) (Nat.le_of_ble_eq_true rfl) (vs' := [(.ref w5), (.ref w14), (.ref w11), .null, .null, .null, .null, .null, .null, .null, .null, .null, .null, .null, .null, .null, .null]) rfl rfl rfl (Or.inr ⟨_, _, rfl, O'1, (Ins.self (hS.2.2.2.2.2.2.2.2.2.2.2.2.2.2.2.2.2.2.2.2.2.2.2.2.2.2.2.2.2.2.2.2.2.2.1.ext O5.2))⟩) (g := (mkF m 34 #[.val (.int (3 : Int32)), .unset] [(.ref w11), (.int (2 : Int32)), (.ref b1), (.ref b1)])) rfl rfl (hb hby d1_34)
  obtain ⟨T8, X8, e8, st8⟩ := getS2 X7 hx hZ hown (host := "") (Or.inl (hw _ m14)) Via.refl e7 (hS.1.ext O7.2) (g := (mkF m 37 #[.val (.int (3 : Int32)), .unset] [(.int (3 : Int32)), (.ref b1), (.ref b1)])) rfl (hb hby d1_37)
  obtain ⟨T9, h9, L'9, X9, e9, W9, V9, O9, K9, N9, st9⟩ := own_stR X8 hx hZ e8 V7 O7 K7 N7 (Nat.le_trans (own_old_le O0) g1) (Or.inr (Nat.le_trans (Keep.refl h0 []).1 g1)) (j := (3 : Int32)) 3 (by decide) (Nat.le_of_ble_eq_true rfl) (vs' := [(.ref w5), (.ref w14), (.ref w11), (.ref w0), .null, .null, .null, .null, .null, .null, .null, .null, .null, .null, .null, .null, .null]) rfl rfl rfl (Or.inr ⟨_, _, rfl, O'1, (Ins.self (hS.2.1.ext O7.2))⟩) (g := (mkF m 40 #[.val (.int (3 : Int32)), .unset] [(.ref w0), (.int (3 : Int32)), (.ref b1), (.ref b1)])) rfl rfl (hb hby d1_40)
  obtain ⟨T10, h10, L'10, X10, e10, W10, V10, O10, K10, N10, st10⟩ := own_stR X9 hx hZ e9 V9 O9 K9 N9 (Nat.le_trans (own_old_le O0) g1) (Or.inr (Nat.le_trans (Keep.refl h0 []).1 g1)) (j := (4 : Int32)) 4 (by decide) (Nat.le_of_ble_eq_true rfl) (vs' := [(.ref w5), (.ref w14), (.ref w11), (.ref w0), .null, .null, .null, .null, .null, .null, .null, .null, .null, .null, .null, .null, .null]) rfl rfl rfl (Or.inl rfl) (g := (mkF m 44 #[.val (.int (3 : Int32)), .unset] [.null, (.int (4 : Int32)), (.ref b1), (.ref b1)])) rfl rfl (hb hby d1_44)
  obtain ⟨T11, X11, e11, st11⟩ := getS2 X10 hx hZ hown (host := "") (Or.inl (hw _ m16)) Via.refl e10 (hS.2.2.2.2.2.2.2.2.2.2.2.2.2.2.2.2.2.2.2.2.2.2.2.2.1.ext O10.2) (g := (mkF m 47 #[.val (.int (3 : Int32)), .unset] [(.int (5 : Int32)), (.ref b1), (.ref b1)])) rfl (hb hby d1_47)
  obtain ⟨T12, h12, L'12, X12, e12, W12, V12, O12, K12, N12, st12⟩ := own_stR X11 hx hZ e11 V10 O10 K10 N10 (Nat.le_trans (own_old_le O0) g1) (Or.inr (Nat.le_trans (Keep.refl h0 []).1 g1)) (j := (5 : Int32)) 5 (by decide) (Nat.le_of_ble_eq_true rfl) (vs' := [(.ref w5), (.ref w14), (.ref w11), (.ref w0), .null, (.ref w8), .null, .null, .null, .null, .null, .null, .null, .null, .null, .null, .null]) rfl rfl rfl (Or.inr ⟨_, _, rfl, O'1, (Ins.self (hS.2.2.2.2.2.2.2.2.2.2.2.2.2.2.2.2.2.2.2.2.2.2.2.2.2.1.ext O10.2))⟩) (g := (mkF m 50 #[.val (.int (3 : Int32)), .unset] [(.ref w8), (.int (5 : Int32)), (.ref b1), (.ref b1)])) rfl rfl (hb hby d1_50)
  obtain ⟨T13, X13, e13, st13⟩ := getS2 X12 hx hZ hown (host := "") (Or.inl (hw _ m18)) Via.refl e12 (hS.2.2.2.2.2.2.2.2.2.2.2.2.2.2.2.2.2.2.2.2.2.2.2.2.2.2.2.2.2.2.2.2.2.2.2.2.2.2.2.2.2.2.2.2.2.1.ext O12.2) (g := (mkF m 54 #[.val (.int (3 : Int32)), .unset] [(.int (6 : Int32)), (.ref b1), (.ref b1)])) rfl (hb hby d1_54)
  obtain ⟨T14, h14, L'14, X14, e14, W14, V14, O14, K14, N14, st14⟩ := own_stR X13 hx hZ e13 V12 O12 K12 N12 (Nat.le_trans (own_old_le O0) g1) (Or.inr (Nat.le_trans (Keep.refl h0 []).1 g1)) (j := (6 : Int32)) 6 (by decide) (Nat.le_of_ble_eq_true rfl) (vs' := [(.ref w5), (.ref w14), (.ref w11), (.ref w0), .null, (.ref w8), (.ref w15), .null, .null, .null, .null, .null, .null, .null, .null, .null, .null]) rfl rfl rfl (Or.inr ⟨_, _, rfl, O'1, (Ins.self (hS.2.2.2.2.2.2.2.2.2.2.2.2.2.2.2.2.2.2.2.2.2.2.2.2.2.2.2.2.2.2.2.2.2.2.2.2.2.2.2.2.2.2.2.2.2.2.1.ext O12.2))⟩) (g := (mkF m 57 #[.val (.int (3 : Int32)), .unset] [(.ref w15), (.int (6 : Int32)), (.ref b1), (.ref b1)])) rfl rfl (hb hby d1_57)
  obtain ⟨T15, X15, e15, st15⟩ := getS2 X14 hx hZ hown (host := "") (Or.inl (hw _ m20)) Via.refl e14 (hS.2.2.2.2.2.2.2.2.2.2.2.2.2.2.2.2.2.2.2.2.2.2.2.2.2.2.2.2.2.2.1.ext O14.2) (g := (mkF m 61 #[.val (.int (3 : Int32)), .unset] [(.int (7 : Int32)), (.ref b1), (.ref b1)])) rfl (hb hby d1_61)
  obtain ⟨T16, h16, L'16, X16, e16, W16, V16, O16, K16, N16, st16⟩ := own_stR X15 hx hZ e15 V14 O14 K14 N14 (Nat.le_trans (own_old_le O0) g1) (Or.inr (Nat.le_trans (Keep.refl h0 []).1 g1)) (j := (7 : Int32)) 7 (by decide) (Nat.le_of_ble_eq_true rfl) (vs' := [(.ref w5), (.ref w14), (.ref w11), (.ref w0), .null, (.ref w8), (.ref w15), (.ref w10), .null, .null, .null, .null, .null, .null, .null, .null, .null]) rfl rfl rfl (Or.inr ⟨_, _, rfl, O'1, (Ins.self (hS.2.2.2.2.2.2.2.2.2.2.2.2.2.2.2.2.2.2.2.2.2.2.2.2.2.2.2.2.2.2.2.1.ext O14.2))⟩) (g := (mkF m 64 #[.val (.int (3 : Int32)), .unset] [(.ref w10), (.int (7 : Int32)), (.ref b1), (.ref b1)])) rfl rfl (hb hby d1_64)
  obtain ⟨T17, X17, e17, st17⟩ := getS2 X16 hx hZ hown (host := "") (Or.inl (hw _ m22)) Via.refl e16 (hS.2.2.2.2.2.2.2.2.2.2.2.2.2.2.2.2.2.2.2.2.2.2.2.2.2.2.2.2.2.2.2.2.2.2.2.2.2.2.2.1.ext O16.2) (g := (mkF m 68 #[.val (.int (3 : Int32)), .unset] [(.int (8 : Int32)), (.ref b1), (.ref b1)])) rfl (hb hby d1_68)
  obtain ⟨T18, h18, L'18, X18, e18, W18, V18, O18, K18, N18, st18⟩ := own_stR X17 hx hZ e17 V16 O16 K16 N16 (Nat.le_trans (own_old_le O0) g1) (Or.inr (Nat.le_trans (Keep.refl h0 []).1 g1)) (j := (8 : Int32)) 8 (by decide) (Nat.le_of_ble_eq_true rfl) (vs' := [(.ref w5), (.ref w14), (.ref w11), (.ref w0), .null, (.ref w8), (.ref w15), (.ref w10), (.ref w13), .null, .null, .null, .null, .null, .null, .null, .null]) rfl rfl rfl (Or.inr ⟨_, _, rfl, O'1, (Ins.self (hS.2.2.2.2.2.2.2.2.2.2.2.2.2.2.2.2.2.2.2.2.2.2.2.2.2.2.2.2.2.2.2.2.2.2.2.2.2.2.2.2.1.ext O16.2))⟩) (g := (mkF m 71 #[.val (.int (3 : Int32)), .unset] [(.ref w13), (.int (8 : Int32)), (.ref b1), (.ref b1)])) rfl rfl (hb hby d1_71)
  obtain ⟨T19, X19, e19, st19⟩ := getS2 X18 hx hZ hown (host := "") (Or.inl (hw _ m24)) Via.refl e18 (hS.2.2.2.2.2.2.2.2.2.2.2.2.2.2.2.2.2.2.2.2.2.2.2.2.2.2.2.1.ext O18.2) (g := (mkF m 75 #[.val (.int (3 : Int32)), .unset] [(.int (9 : Int32)), (.ref b1), (.ref b1)])) rfl (hb hby d1_75)
  obtain ⟨T20, h20, L'20, X20, e20, W20, V20, O20, K20, N20, st20⟩ := own_stR X19 hx hZ e19 V18 O18 K18 N18 (Nat.le_trans (own_old_le O0) g1) (Or.inr (Nat.le_trans (Keep.refl h0 []).1 g1)) (j := (9 : Int32)) 9 (by decide) (Nat.le_of_ble_eq_true rfl) (vs' := [(.ref w5), (.ref w14), (.ref w11), (.ref w0), .null, (.ref w8), (.ref w15), (.ref w10), (.ref w13), (.ref w9), .null, .null, .null, .null, .null, .null, .null]) rfl rfl rfl (Or.inr ⟨_, _, rfl, O'1, (Ins.self (hS.2.2.2.2.2.2.2.2.2.2.2.2.2.2.2.2.2.2.2.2.2.2.2.2.2.2.2.2.1.ext O18.2))⟩) (g := (mkF m 78 #[.val (.int (3 : Int32)), .unset] [(.ref w9), (.int (9 : Int32)), (.ref b1), (.ref b1)])) rfl rfl (hb hby d1_78)
  obtain ⟨T21, X21, e21, st21⟩ := getS2 X20 hx hZ hown (host := "") (Or.inl (hw _ m26)) Via.refl e20 (hS.2.2.2.2.2.2.2.2.2.2.2.2.2.2.2.2.2.2.2.2.2.1.ext O20.2) (g := (mkF m 82 #[.val (.int (3 : Int32)), .unset] [(.int (10 : Int32)), (.ref b1), (.ref b1)])) rfl (hb hby d1_82)
  obtain ⟨T22, h22, L'22, X22, e22, W22, V22, O22, K22, N22, st22⟩ := own_stR X21 hx hZ e21 V20 O20 K20 N20 (Nat.le_trans (own_old_le O0) g1) (Or.inr (Nat.le_trans (Keep.refl h0 []).1 g1)) (j := (10 : Int32)) 10 (by decide) (Nat.le_of_ble_eq_true rfl) (vs' := [(.ref w5), (.ref w14), (.ref w11), (.ref w0), .null, (.ref w8), (.ref w15), (.ref w10), (.ref w13), (.ref w9), (.ref w7), .null, .null, .null, .null, .null, .null]) rfl rfl rfl (Or.inr ⟨_, _, rfl, O'1, (Ins.self (hS.2.2.2.2.2.2.2.2.2.2.2.2.2.2.2.2.2.2.2.2.2.2.1.ext O20.2))⟩) (g := (mkF m 85 #[.val (.int (3 : Int32)), .unset] [(.ref w7), (.int (10 : Int32)), (.ref b1), (.ref b1)])) rfl rfl (hb hby d1_85)
  obtain ⟨T23, X23, e23, st23⟩ := getS2 X22 hx hZ hown (host := "") (Or.inl (hw _ m28)) Via.refl e22 (hS.2.2.2.2.2.2.2.2.2.2.2.2.2.2.2.2.2.2.2.2.2.2.2.2.2.2.2.2.2.2.2.2.2.2.2.2.1.ext O22.2) (g := (mkF m 89 #[.val (.int (3 : Int32)), .unset] [(.int (11 : Int32)), (.ref b1), (.ref b1)])) rfl (hb hby d1_89)
  obtain ⟨T24, h24, L'24, X24, e24, W24, V24, O24, K24, N24, st24⟩ := own_stR X23 hx hZ e23 V22 O22 K22 N22 (Nat.le_trans (own_old_le O0) g1) (Or.inr (Nat.le_trans (Keep.refl h0 []).1 g1)) (j := (11 : Int32)) 11 (by decide) (Nat.le_of_ble_eq_true rfl) (vs' := [(.ref w5), (.ref w14), (.ref w11), (.ref w0), .null, (.ref w8), (.ref w15), (.ref w10), (.ref w13), (.ref w9), (.ref w7), (.ref w12), .null, .null, .null, .null, .null]) rfl rfl rfl (Or.inr ⟨_, _, rfl, O'1, (Ins.self (hS.2.2.2.2.2.2.2.2.2.2.2.2.2.2.2.2.2.2.2.2.2.2.2.2.2.2.2.2.2.2.2.2.2.2.2.2.2.1.ext O22.2))⟩) (g := (mkF m 92 #[.val (.int (3 : Int32)), .unset] [(.ref w12), (.int (11 : Int32)), (.ref b1), (.ref b1)])) rfl rfl (hb hby d1_92)
  obtain ⟨T25, X25, e25, st25⟩ := getS2 X24 hx hZ hown (host := "") (Or.inl (hw _ m30)) Via.refl e24 (hS.2.2.2.2.2.2.2.2.2.2.2.2.2.2.2.2.2.2.1.ext O24.2) (g := (mkF m 96 #[.val (.int (3 : Int32)), .unset] [(.int (12 : Int32)), (.ref b1), (.ref b1)])) rfl (hb hby d1_96)
  obtain ⟨T26, h26, L'26, X26, e26, W26, V26, O26, K26, N26, st26⟩ := own_stR X25 hx hZ e25 V24 O24 K24 N24 (Nat.le_trans (own_old_le O0) g1) (Or.inr (Nat.le_trans (Keep.refl h0 []).1 g1)) (j := (12 : Int32)) 12 (by decide) (Nat.le_of_ble_eq_true rfl) (vs' := [(.ref w5), (.ref w14), (.ref w11), (.ref w0), .null, (.ref w8), (.ref w15), (.ref w10), (.ref w13), (.ref w9), (.ref w7), (.ref w12), (.ref w6), .null, .null, .null, .null]) rfl rfl rfl (Or.inr ⟨_, _, rfl, O'1, (Ins.self (hS.2.2.2.2.2.2.2.2.2.2.2.2.2.2.2.2.2.2.2.1.ext O24.2))⟩) (g := (mkF m 99 #[.val (.int (3 : Int32)), .unset] [(.ref w6), (.int (12 : Int32)), (.ref b1), (.ref b1)])) rfl rfl (hb hby d1_99)
  obtain ⟨T27, X27, e27, st27⟩ := getS2 X26 hx hZ hown (host := "") (Or.inl (hw _ m32)) Via.refl e26 (hS.2.2.2.2.2.2.2.2.2.2.2.2.1.ext O26.2) (g := (mkF m 103 #[.val (.int (3 : Int32)), .unset] [(.int (13 : Int32)), (.ref b1), (.ref b1)])) rfl (hb hby d1_103)
  obtain ⟨T28, h28, L'28, X28, e28, W28, V28, O28, K28, N28, st28⟩ := own_stR X27 hx hZ e27 V26 O26 K26 N26 (Nat.le_trans (own_old_le O0) g1) (Or.inr (Nat.le_trans (Keep.refl h0 []).1 g1)) (j := (13 : Int32)) 13 (by decide) (Nat.le_of_ble_eq_true rfl) (vs' := [(.ref w5), (.ref w14), (.ref w11), (.ref w0), .null, (.ref w8), (.ref w15), (.ref w10), (.ref w13), (.ref w9), (.ref w7), (.ref w12), (.ref w6), (.ref w4), .null, .null, .null]) rfl rfl rfl (Or.inr ⟨_, _, rfl, O'1, (Ins.self (hS.2.2.2.2.2.2.2.2.2.2.2.2.2.1.ext O26.2))⟩) (g := (mkF m 106 #[.val (.int (3 : Int32)), .unset] [(.ref w4), (.int (13 : Int32)), (.ref b1), (.ref b1)])) rfl rfl (hb hby d1_106)
  obtain ⟨T29, X29, e29, st29⟩ := getS2 X28 hx hZ hown (host := "") (Or.inl (hw _ m34)) Via.refl e28 (hS.2.2.2.1.ext O28.2) (g := (mkF m 110 #[.val (.int (3 : Int32)), .unset] [(.int (14 : Int32)), (.ref b1), (.ref b1)])) rfl (hb hby d1_110)
  obtain ⟨T30, h30, L'30, X30, e30, W30, V30, O30, K30, N30, st30⟩ := own_stR X29 hx hZ e29 V28 O28 K28 N28 (Nat.le_trans (own_old_le O0) g1) (Or.inr (Nat.le_trans (Keep.refl h0 []).1 g1)) (j := (14 : Int32)) 14 (by decide) (Nat.le_of_ble_eq_true rfl) (vs' := [(.ref w5), (.ref w14), (.ref w11), (.ref w0), .null, (.ref w8), (.ref w15), (.ref w10), (.ref w13), (.ref w9), (.ref w7), (.ref w12), (.ref w6), (.ref w4), (.ref w1), .null, .null]) rfl rfl rfl (Or.inr ⟨_, _, rfl, O'1, (Ins.self (hS.2.2.2.2.1.ext O28.2))⟩) (g := (mkF m 113 #[.val (.int (3 : Int32)), .unset] [(.ref w1), (.int (14 : Int32)), (.ref b1), (.ref b1)])) rfl rfl (hb hby d1_113)
  obtain ⟨T31, X31, e31, st31⟩ := getS2 X30 hx hZ hown (host := "") (Or.inl (hw _ m36)) Via.refl e30 (hS.2.2.2.2.2.2.1.ext O30.2) (g := (mkF m 117 #[.val (.int (3 : Int32)), .unset] [(.int (15 : Int32)), (.ref b1), (.ref b1)])) rfl (hb hby d1_117)
  obtain ⟨T32, h32, L'32, X32, e32, W32, V32, O32, K32, N32, st32⟩ := own_stR X31 hx hZ e31 V30 O30 K30 N30 (Nat.le_trans (own_old_le O0) g1) (Or.inr (Nat.le_trans (Keep.refl h0 []).1 g1)) (j := (15 : Int32)) 15 (by decide) (Nat.le_of_ble_eq_true rfl) (vs' := [(.ref w5), (.ref w14), (.ref w11), (.ref w0), .null, (.ref w8), (.ref w15), (.ref w10), (.ref w13), (.ref w9), (.ref w7), (.ref w12), (.ref w6), (.ref w4), (.ref w1), (.ref w2), .null]) rfl rfl rfl (Or.inr ⟨_, _, rfl, O'1, (Ins.self (hS.2.2.2.2.2.2.2.1.ext O30.2))⟩) (g := (mkF m 120 #[.val (.int (3 : Int32)), .unset] [(.ref w2), (.int (15 : Int32)), (.ref b1), (.ref b1)])) rfl rfl (hb hby d1_120)
  obtain ⟨T33, X33, e33, st33⟩ := getS2 X32 hx hZ hown (host := "") (Or.inl (hw _ m38)) Via.refl e32 (hS.2.2.2.2.2.2.2.2.2.1.ext O32.2) (g := (mkF m 124 #[.val (.int (3 : Int32)), .unset] [(.int (16 : Int32)), (.ref b1), (.ref b1)])) rfl (hb hby d1_124)
  obtain ⟨T34, h34, L'34, X34, e34, W34, V34, O34, K34, N34, st34⟩ := own_stR X33 hx hZ e33 V32 O32 K32 N32 (Nat.le_trans (own_old_le O0) g1) (Or.inr (Nat.le_trans (Keep.refl h0 []).1 g1)) (j := (16 : Int32)) 16 (by decide) (Nat.le_of_ble_eq_true rfl) (vs' := [(.ref w5), (.ref w14), (.ref w11), (.ref w0), .null, (.ref w8), (.ref w15), (.ref w10), (.ref w13), (.ref w9), (.ref w7), (.ref w12), (.ref w6), (.ref w4), (.ref w1), (.ref w2), (.ref w3)]) rfl rfl rfl (Or.inr ⟨_, _, rfl, O'1, (Ins.self (hS.2.2.2.2.2.2.2.2.2.2.1.ext O32.2))⟩) (g := (mkF m 127 #[.val (.int (3 : Int32)), .unset] [(.ref w3), (.int (16 : Int32)), (.ref b1), (.ref b1)])) rfl rfl (hb hby d1_127)
  obtain ⟨fs, hr, hrun, hended, hW, hsame⟩ := X34.leave (v := some (.ref w0)) (fun h => by rw [Bd.returns] at h; cases h)
  refine ⟨_, _, pre0 _ ?_, hrun, hended, _, _, rfl, ?_, ⟨_, rfl⟩, hW, hsame.mono (by decide) (by decide)⟩
  · show Steps p.tables e below (s₁.setTop (mkF m 0 #[.val (.int (3 : Int32)), .unset] [])) _
    refine XS.iloadN X0.here hx rfl (hb hby d1_0) rfl ?_
    refine XS.ifNo X0.here hx rfl (hb hby d1_1) rfl ((if0 _ _).trans (flt (by decide : ¬ ((3 : Int32) < (0 : Int32)))).1) ?_
    refine XS.iloadN X0.here hx rfl (hb hby d1_4) rfl ?_
    refine XS.bipush X0.here hx rfl (hb hby d1_5) ?_
    show Steps p.tables e below (s₁.setTop (mkF m 7 #[.val (.int (3 : Int32)), .unset] [(.int (16 : Int32)), (.int (3 : Int32))])) _
    refine XS.icmpYes X0.here hx rfl (pc0 := 7) (pc' := 12) rfl (hb hby d1_7) rfl (flt (by decide : ¬ ((16 : Int32) < (3 : Int32)))).2.2.2 (by decide) (by decide) ?_
    refine XS.bipush X0.here hx rfl (hb hby d1_12) ?_
    refine st1 _ ?_
    refine XS.dup X1.here hx rfl (hb hby d1_17) rfl rfl ?_
    show Steps p.tables e below (T1.setTop (mkF m 18 #[.val (.int (3 : Int32)), .unset] [(.ref b1), (.ref b1)])) _
    refine XS.iconst X1.here hx rfl (hb hby d1_18) ?_
    refine st2 _ ?_
    refine st3 _ ?_
    refine XS.dup X3.here hx rfl (hb hby d1_23) rfl rfl ?_
    show Steps p.tables e below (T3.setTop (mkF m 24 #[.val (.int (3 : Int32)), .unset] [(.ref b1), (.ref b1)])) _
    refine XS.iconst X3.here hx rfl (hb hby d1_24) ?_
    refine st4 _ ?_
    refine st5 _ ?_
    refine XS.dup X5.here hx rfl (hb hby d1_29) rfl rfl ?_
    show Steps p.tables e below (T5.setTop (mkF m 30 #[.val (.int (3 : Int32)), .unset] [(.ref b1), (.ref b1)])) _
    refine XS.iconst X5.here hx rfl (hb hby d1_30) ?_
    refine st6 _ ?_
    refine st7 _ ?_
    refine XS.dup X7.here hx rfl (hb hby d1_35) rfl rfl ?_
    show Steps p.tables e below (T7.setTop (mkF m 36 #[.val (.int (3 : Int32)), .unset] [(.ref b1), (.ref b1)])) _
    refine XS.iconst X7.here hx rfl (hb hby d1_36) ?_
    refine st8 _ ?_
    refine st9 _ ?_
    refine XS.dup X9.here hx rfl (hb hby d1_41) rfl rfl ?_
    show Steps p.tables e below (T9.setTop (mkF m 42 #[.val (.int (3 : Int32)), .unset] [(.ref b1), (.ref b1)])) _
    refine XS.iconst X9.here hx rfl (hb hby d1_42) ?_
    refine XS.aconstNull X9.here hx rfl (hb hby d1_43) ?_
    refine st10 _ ?_
    refine XS.dup X10.here hx rfl (hb hby d1_45) rfl rfl ?_
    show Steps p.tables e below (T10.setTop (mkF m 46 #[.val (.int (3 : Int32)), .unset] [(.ref b1), (.ref b1)])) _
    refine XS.iconst X10.here hx rfl (hb hby d1_46) ?_
    refine st11 _ ?_
    refine st12 _ ?_
    refine XS.dup X12.here hx rfl (hb hby d1_51) rfl rfl ?_
    show Steps p.tables e below (T12.setTop (mkF m 52 #[.val (.int (3 : Int32)), .unset] [(.ref b1), (.ref b1)])) _
    refine XS.bipush X12.here hx rfl (hb hby d1_52) ?_
    refine st13 _ ?_
    refine st14 _ ?_
    refine XS.dup X14.here hx rfl (hb hby d1_58) rfl rfl ?_
    show Steps p.tables e below (T14.setTop (mkF m 59 #[.val (.int (3 : Int32)), .unset] [(.ref b1), (.ref b1)])) _
    refine XS.bipush X14.here hx rfl (hb hby d1_59) ?_
    refine st15 _ ?_
    refine st16 _ ?_
    refine XS.dup X16.here hx rfl (hb hby d1_65) rfl rfl ?_
    show Steps p.tables e below (T16.setTop (mkF m 66 #[.val (.int (3 : Int32)), .unset] [(.ref b1), (.ref b1)])) _
    refine XS.bipush X16.here hx rfl (hb hby d1_66) ?_
    refine st17 _ ?_
    refine st18 _ ?_
    refine XS.dup X18.here hx rfl (hb hby d1_72) rfl rfl ?_
    show Steps p.tables e below (T18.setTop (mkF m 73 #[.val (.int (3 : Int32)), .unset] [(.ref b1), (.ref b1)])) _
    refine XS.bipush X18.here hx rfl (hb hby d1_73) ?_
    refine st19 _ ?_
    refine st20 _ ?_
    refine XS.dup X20.here hx rfl (hb hby d1_79) rfl rfl ?_
    show Steps p.tables e below (T20.setTop (mkF m 80 #[.val (.int (3 : Int32)), .unset] [(.ref b1), (.ref b1)])) _
    refine XS.bipush X20.here hx rfl (hb hby d1_80) ?_
    refine st21 _ ?_
    refine st22 _ ?_
    refine XS.dup X22.here hx rfl (hb hby d1_86) rfl rfl ?_
    show Steps p.tables e below (T22.setTop (mkF m 87 #[.val (.int (3 : Int32)), .unset] [(.ref b1), (.ref b1)])) _
    refine XS.bipush X22.here hx rfl (hb hby d1_87) ?_
    refine st23 _ ?_
    refine st24 _ ?_
    refine XS.dup X24.here hx rfl (hb hby d1_93) rfl rfl ?_
    show Steps p.tables e below (T24.setTop (mkF m 94 #[.val (.int (3 : Int32)), .unset] [(.ref b1), (.ref b1)])) _
    refine XS.bipush X24.here hx rfl (hb hby d1_94) ?_
    refine st25 _ ?_
    refine st26 _ ?_
    refine XS.dup X26.here hx rfl (hb hby d1_100) rfl rfl ?_
    show Steps p.tables e below (T26.setTop (mkF m 101 #[.val (.int (3 : Int32)), .unset] [(.ref b1), (.ref b1)])) _
    refine XS.bipush X26.here hx rfl (hb hby d1_101) ?_
    refine st27 _ ?_
    refine st28 _ ?_
    refine XS.dup X28.here hx rfl (hb hby d1_107) rfl rfl ?_
    show Steps p.tables e below (T28.setTop (mkF m 108 #[.val (.int (3 : Int32)), .unset] [(.ref b1), (.ref b1)])) _
    refine XS.bipush X28.here hx rfl (hb hby d1_108) ?_
    refine st29 _ ?_
    refine st30 _ ?_
    refine XS.dup X30.here hx rfl (hb hby d1_114) rfl rfl ?_
    show Steps p.tables e below (T30.setTop (mkF m 115 #[.val (.int (3 : Int32)), .unset] [(.ref b1), (.ref b1)])) _
    refine XS.bipush X30.here hx rfl (hb hby d1_115) ?_
    refine st31 _ ?_
    refine st32 _ ?_
    refine XS.dup X32.here hx rfl (hb hby d1_121) rfl rfl ?_
    show Steps p.tables e below (T32.setTop (mkF m 122 #[.val (.int (3 : Int32)), .unset] [(.ref b1), (.ref b1)])) _
    refine XS.bipush X32.here hx rfl (hb hby d1_122) ?_
    refine st33 _ ?_
    refine st34 _ ?_
    refine XS.astoreN X34.here hx rfl (hb hby d1_128) rfl rfl (l' := #[.val (.int (3 : Int32)), .val (.ref b1)]) rfl ?_
    show Steps p.tables e below (T34.setTop (mkF m 129 #[.val (.int (3 : Int32)), .val (.ref b1)] [])) _
    refine XS.aloadN X34.here hx rfl (hb hby d1_129) rfl rfl ?_
    refine XS.iloadN X34.here hx rfl (hb hby d1_130) rfl ?_
    refine own_aaload X34 hx hZ e34 V34 (j := (3 : Int32)) (by decide) (v := (.ref w0)) rfl rfl (g := (mkF m 131 #[.val (.int (3 : Int32)), .val (.ref b1)] [(.int (3 : Int32)), (.ref b1)])) rfl rfl (hb hby d1_131) ?_
    exact retOut X34 hx Bd.returns rfl (Or.inr (Or.inr (Or.inr (Or.inr ⟨rfl, rfl, rfl⟩)))) (hb hby d1_132) hr
  · show Qrm12 Z w0 w1 w2 w3 w4 w5 w6 w7 w8 w9 w10 w11 w12 w13 w14 w15 w16 kw16 h0 n0 _ T34.heap _
    rw [e34]
    exact ⟨rfl, N34, K34⟩
def Qrm13 (Z : State) (w0 : Addr) (w1 : Addr) (w2 : Addr) (w3 : Addr) (w4 : Addr) (w5 : Addr) (w6 : Addr) (w7 : Addr) (w8 : Addr) (w9 : Addr) (w10 : Addr) (w11 : Addr) (w12 : Addr) (w13 : Addr) (w14 : Addr) (w15 : Addr) (w16 : Addr) (kw16 : ClassId) (h0 : Heap) (n0 : Nat) (v : Option Value) (h : Heap) (L : List Loc) : Prop := v = some (.ref w0) ∧ Fr n0 L ∧ h = h0
set_option maxRecDepth 65536 in
set_option maxHeartbeats 40000000 in
theorem rm13 (l : Launch) (Z : State) (a0 : Array Value) (hw : ∀ d ∈ tables_1, d.before a0 Z = true) (w0 : Addr) (w1 : Addr) (w2 : Addr) (w3 : Addr) (w4 : Addr) (w5 : Addr) (w6 : Addr) (w7 : Addr) (w8 : Addr) (w9 : Addr) (w10 : Addr) (w11 : Addr) (w12 : Addr) (w13 : Addr) (w14 : Addr) (w15 : Addr) (w16 : Addr) (kw16 : ClassId) (hS : SF Z w0 w1 w2 w3 w4 w5 w6 w7 w8 w9 w10 w11 w12 w13 w14 w15 w16 kw16) (ws : List Jvm.Cond) (h0 : Heap) (n0 : Nat) (O0 : Old Z n0 h0) :
    MetFree l (⟨z0, "of", z2⟩ : MethodName) (head1 (Jvm.Cond.code (⟨z0, "of", z2⟩ : MethodName) prog_90_method_5_code 1 (some (.object z0)) :: ws) ({ frames := 0, cells := 0, slots := 0, locals := 0 } : Room)) (fun a U => a = #[(.int (3 : Int32))] ∧ Z.Warmed39 U.vm ∧ U.heap = h0) (fun _ _ _ _ _ => True) (fun _ U o U' => ∃ v L, o = .returned v ∧ Qrm13 Z w0 w1 w2 w3 w4 w5 w6 w7 w8 w9 w10 w11 w12 w13 w14 w15 w16 kw16 h0 n0 v U'.heap L ∧ FrameEnd U o U' L ({ frames := 0, cells := 0, slots := 0, locals := 0 } : Room).cells ({ frames := 0, cells := 0, slots := 0, locals := 0 } : Room).slots) := by
  refine MetFree.of_bodySF (plainFor_of_name pn18) hisR ?_
  intro p e s m args below meth c s₁ Bd hml0 hP hK
  obtain ⟨rfl, hZ, hh⟩ := hP
  have hx := Bd.exec
  have hby := Bd.bytes
  have hml : c.maxLocals = 1 := hml0
  have hown : s.vm.findClass z0 = some m.cls := findClass_of_methodNamed Bd.named
  have hnm := (name_of_methodNamed Bd.named Bd.method).1
  have X0 : Stand p l e ({ frames := 0, cells := 0, slots := 0, locals := 0 } : Room) s m #[(.int (3 : Int32))] below meth c s₁ [] 0 0 := Stand.of_body Bd
  have e0 : s₁.heap = h0 := by rw [← hh, Bd.state]; rfl
  have N0 := Fr.nil n0
  have pre0 : ∀ t, Steps p.tables e below (s₁.setTop (mkF m 0 #[.val (.int (3 : Int32))] [])) t → Steps p.tables e below (s₁.setTop (entryFrame m #[(.int (3 : Int32))] 1)) t := fun t k => castTop (ef17 m (3 : Int32)) k
  obtain ⟨T1, X1, e1, st1⟩ := getS2 X0 hx hZ hown (host := "") (Or.inl (hw _ m43)) Via.refl e0 (hS.2.2.2.2.2.2.2.2.2.2.2.2.2.2.2.2.2.2.2.2.2.2.2.2.2.2.2.2.2.2.2.2.2.2.2.2.2.2.2.2.2.2.2.2.2.2.2.2.1.ext O0.2) (g := (mkF m 5 #[.val (.int (3 : Int32))] [(.int (3 : Int32))])) rfl (hb hby d2_5)
  obtain ⟨T2, X2, e2, st2⟩ := getS2 X1 hx hZ hown (host := "") (Or.inl (hw _ m43)) Via.refl e1 (hS.2.2.2.2.2.2.2.2.2.2.2.2.2.2.2.2.2.2.2.2.2.2.2.2.2.2.2.2.2.2.2.2.2.2.2.2.2.2.2.2.2.2.2.2.2.2.2.2.1.ext O0.2) (g := (mkF m 12 #[.val (.int (3 : Int32))] [])) rfl (hb hby d2_12)
  obtain ⟨fs, hr, hrun, hended, hW, hsame⟩ := X2.leave (v := some (.ref w0)) (fun h => by rw [Bd.returns] at h; cases h)
  refine ⟨_, _, pre0 _ ?_, hrun, hended, _, _, rfl, ?_, ⟨_, rfl⟩, hW, hsame.mono (by decide) (by decide)⟩
  · show Steps p.tables e below (s₁.setTop (mkF m 0 #[.val (.int (3 : Int32))] [])) _
    refine XS.iloadN X0.here hx rfl (hb hby d2_0) rfl ?_
    refine XS.ifNo X0.here hx rfl (hb hby d2_1) rfl ((if0 _ _).trans (flt (by decide : ¬ ((3 : Int32) < (0 : Int32)))).1) ?_
    refine XS.iloadN X0.here hx rfl (hb hby d2_4) rfl ?_
    refine st1 _ ?_
    show Steps p.tables e below (T1.setTop (mkF m 8 #[.val (.int (3 : Int32))] [(.ref w16), (.int (3 : Int32))])) _
    refine own_alen X1 hx hZ e1 (hS.2.2.2.2.2.2.2.2.2.2.2.2.2.2.2.2.2.2.2.2.2.2.2.2.2.2.2.2.2.2.2.2.2.2.2.2.2.2.2.2.2.2.2.2.2.2.2.2.2.ext O0.2) (g := (mkF m 8 #[.val (.int (3 : Int32))] [(.ref w16), (.int (3 : Int32))])) rfl rfl (hb hby d2_8) ?_
    refine XS.icmpNo X1.here hx rfl (hb hby d2_9) rfl (tlt (by decide : (3 : Int32) < (17 : Int32))).2.1 ?_
    refine st2 _ ?_
    refine XS.iloadN X2.here hx rfl (hb hby d2_15) rfl ?_
    show Steps p.tables e below (T2.setTop (mkF m 16 #[.val (.int (3 : Int32))] [(.int (3 : Int32)), (.ref w16)])) _
    refine own_aaload X2 hx hZ e2 (hS.2.2.2.2.2.2.2.2.2.2.2.2.2.2.2.2.2.2.2.2.2.2.2.2.2.2.2.2.2.2.2.2.2.2.2.2.2.2.2.2.2.2.2.2.2.2.2.2.2.ext O0.2) (j := (3 : Int32)) (by decide) (v := (.ref w0)) rfl rfl (g := (mkF m 16 #[.val (.int (3 : Int32))] [(.int (3 : Int32)), (.ref w16)])) rfl rfl (hb hby d2_16) ?_
    refine XS.goto X2.here hx rfl (pc0 := 17) (pc' := 21) rfl (hb hby d2_17) (by decide) (by decide) ?_
    exact retOut X2 hx Bd.returns rfl (Or.inr (Or.inr (Or.inr (Or.inr ⟨rfl, rfl, rfl⟩)))) (hb hby d2_21) hr
  · show Qrm13 Z w0 w1 w2 w3 w4 w5 w6 w7 w8 w9 w10 w11 w12 w13 w14 w15 w16 kw16 h0 n0 _ T2.heap _
    rw [e2]
    exact ⟨rfl, N0, rfl⟩
def Qrm14 (Z : State) (w0 : Addr) (w1 : Addr) (w2 : Addr) (w3 : Addr) (w4 : Addr) (w5 : Addr) (w6 : Addr) (w7 : Addr) (w8 : Addr) (w9 : Addr) (w10 : Addr) (w11 : Addr) (w12 : Addr) (w13 : Addr) (w14 : Addr) (w15 : Addr) (w16 : Addr) (kw16 : ClassId) (h0 : Heap) (n0 : Nat) (v : Option Value) (h : Heap) (L : List Loc) : Prop := v = some (.int (3 : Int32)) ∧ Fr n0 L ∧ h = h0
set_option maxRecDepth 65536 in
set_option maxHeartbeats 40000000 in
theorem rm14 (l : Launch) (Z : State) (a0 : Array Value) (hw : ∀ d ∈ tables_1, d.before a0 Z = true) (w0 : Addr) (w1 : Addr) (w2 : Addr) (w3 : Addr) (w4 : Addr) (w5 : Addr) (w6 : Addr) (w7 : Addr) (w8 : Addr) (w9 : Addr) (w10 : Addr) (w11 : Addr) (w12 : Addr) (w13 : Addr) (w14 : Addr) (w15 : Addr) (w16 : Addr) (kw16 : ClassId) (hS : SF Z w0 w1 w2 w3 w4 w5 w6 w7 w8 w9 w10 w11 w12 w13 w14 w15 w16 kw16) (ws : List Jvm.Cond) (h0 : Heap) (n0 : Nat) (O0 : Old Z n0 h0) :
    MetFree l (⟨z0, "code", "()I"⟩ : MethodName) (head1 (Jvm.Cond.code (⟨z0, "code", "()I"⟩ : MethodName) prog_90_method_4_code 1 (some .int) :: ws) ({ frames := 0, cells := 0, slots := 0, locals := 0 } : Room)) (fun a U => a = #[(.ref w0)] ∧ Z.Warmed39 U.vm ∧ U.heap = h0) (fun _ _ _ _ _ => True) (fun _ U o U' => ∃ v L, o = .returned v ∧ Qrm14 Z w0 w1 w2 w3 w4 w5 w6 w7 w8 w9 w10 w11 w12 w13 w14 w15 w16 kw16 h0 n0 v U'.heap L ∧ FrameEnd U o U' L ({ frames := 0, cells := 0, slots := 0, locals := 0 } : Room).cells ({ frames := 0, cells := 0, slots := 0, locals := 0 } : Room).slots) := by
  refine MetFree.of_bodySF (plainFor_of_name pn18) hisR ?_
  intro p e s m args below meth c s₁ Bd hml0 hP hK
  obtain ⟨rfl, hZ, hh⟩ := hP
  have hx := Bd.exec
  have hby := Bd.bytes
  have hml : c.maxLocals = 1 := hml0
  have hown : s.vm.findClass z0 = some m.cls := findClass_of_methodNamed Bd.named
  have hnm := (name_of_methodNamed Bd.named Bd.method).1
  have X0 : Stand p l e ({ frames := 0, cells := 0, slots := 0, locals := 0 } : Room) s m #[(.ref w0)] below meth c s₁ [] 0 0 := Stand.of_body Bd
  have e0 : s₁.heap = h0 := by rw [← hh, Bd.state]; rfl
  have N0 := Fr.nil n0
  have pre0 : ∀ t, Steps p.tables e below (s₁.setTop (mkF m 0 #[.val (.ref w0)] [])) t → Steps p.tables e below (s₁.setTop (entryFrame m #[(.ref w0)] 1)) t := fun t k => castTop (ef135 m w0) k
  obtain ⟨T1, X1, e1, st1⟩ := getF X0 hx hZ hown (host := "") (Or.inl (hw _ m50)) Via.refl e0 (hS.2.2.1.ext O0.2) (g := (mkF m 1 #[.val (.ref w0)] [(.ref w0)])) rfl rfl (hb hby d3_1)
  obtain ⟨fs, hr, hrun, hended, hW, hsame⟩ := X1.leave (v := some (.int (3 : Int32))) (fun h => by rw [Bd.returns] at h; cases h)
  refine ⟨_, _, pre0 _ ?_, hrun, hended, _, _, rfl, ?_, ⟨_, rfl⟩, hW, hsame.mono (by decide) (by decide)⟩
  · show Steps p.tables e below (s₁.setTop (mkF m 0 #[.val (.ref w0)] [])) _
    refine XS.aloadN X0.here hx rfl (hb hby d3_0) rfl rfl ?_
    refine st1 _ ?_
    exact retOut X1 hx Bd.returns rfl (Or.inl ⟨rfl, Or.inl rfl, _, rfl⟩) (hb hby d3_4) hr
  · show Qrm14 Z w0 w1 w2 w3 w4 w5 w6 w7 w8 w9 w10 w11 w12 w13 w14 w15 w16 kw16 h0 n0 _ T1.heap _
    rw [e1]
    exact ⟨rfl, N0, rfl⟩
def Qrm15 (Z : State) (w0 : Addr) (w1 : Addr) (w2 : Addr) (w3 : Addr) (w4 : Addr) (w5 : Addr) (w6 : Addr) (w7 : Addr) (w8 : Addr) (w9 : Addr) (w10 : Addr) (w11 : Addr) (w12 : Addr) (w13 : Addr) (w14 : Addr) (w15 : Addr) (w16 : Addr) (kw16 : ClassId) (h0 : Heap) (n0 : Nat) (v : Option Value) (h : Heap) (L : List Loc) : Prop := v = some .null ∧ Fr n0 L ∧ Keep h0 h []
set_option maxRecDepth 65536 in
set_option maxHeartbeats 40000000 in
theorem rm15 (l : Launch) (Z : State) (a0 : Array Value) (hw : ∀ d ∈ tables_1, d.before a0 Z = true) (w0 : Addr) (w1 : Addr) (w2 : Addr) (w3 : Addr) (w4 : Addr) (w5 : Addr) (w6 : Addr) (w7 : Addr) (w8 : Addr) (w9 : Addr) (w10 : Addr) (w11 : Addr) (w12 : Addr) (w13 : Addr) (w14 : Addr) (w15 : Addr) (w16 : Addr) (kw16 : ClassId) (hS : SF Z w0 w1 w2 w3 w4 w5 w6 w7 w8 w9 w10 w11 w12 w13 w14 w15 w16 kw16) (ws : List Jvm.Cond) (h0 : Heap) (n0 : Nat) (O0 : Old Z n0 h0) :
    MetFree l (⟨z1, "expected", z2⟩ : MethodName) (head1 (Jvm.Cond.code (⟨z1, "expected", z2⟩ : MethodName) method_3_code 2 (some (.object z0)) :: ws) ({ frames := 0, cells := 1, slots := 17, locals := 0 } : Room)) (fun a U => a = #[(.int (4 : Int32))] ∧ Z.Warmed39 U.vm ∧ U.heap = h0) (fun _ _ _ _ _ => True) (fun _ U o U' => ∃ v L, o = .returned v ∧ Qrm15 Z w0 w1 w2 w3 w4 w5 w6 w7 w8 w9 w10 w11 w12 w13 w14 w15 w16 kw16 h0 n0 v U'.heap L ∧ FrameEnd U o U' L ({ frames := 0, cells := 1, slots := 17, locals := 0 } : Room).cells ({ frames := 0, cells := 1, slots := 17, locals := 0 } : Room).slots) := by
  refine MetFree.of_bodySF (plainFor_of_name pn7) hisR ?_
  intro p e s m args below meth c s₁ Bd hml0 hP hK
  obtain ⟨rfl, hZ, hh⟩ := hP
  have hx := Bd.exec
  have hby := Bd.bytes
  have hml : c.maxLocals = 2 := hml0
  have hown : s.vm.findClass z1 = some m.cls := findClass_of_methodNamed Bd.named
  have hnm := (name_of_methodNamed Bd.named Bd.method).1
  have X0 : Stand p l e ({ frames := 0, cells := 1, slots := 17, locals := 0 } : Room) s m #[(.int (4 : Int32))] below meth c s₁ [] 0 0 := Stand.of_body Bd
  have e0 : s₁.heap = h0 := by rw [← hh, Bd.state]; rfl
  have N0 := Fr.nil n0
  have pre0 : ∀ t, Steps p.tables e below (s₁.setTop (mkF m 0 #[.val (.int (4 : Int32)), .unset] [])) t → Steps p.tables e below (s₁.setTop (entryFrame m #[(.int (4 : Int32))] 2)) t := fun t k => castTop (ef6 m (4 : Int32)) k
  obtain ⟨T1, h1, k1, b1, X1, e1, E1, V1, O'1, g1, O1, K1, st1⟩ := own_newR X0 hx hZ (vs := [.null, .null, .null, .null, .null, .null, .null, .null, .null, .null, .null, .null, .null, .null, .null, .null, .null]) (cap := 17) rfl hown (hw _ m4) (hw _ m5) e0 O0 (Keep.refl h0 []) (g := (mkF m 14 #[.val (.int (4 : Int32)), .unset] [(.int (17 : Int32))])) rfl (hb hby d1_14) rfl (by decide) (by decide) (by decide) (by decide) (by decide)
  obtain ⟨T2, X2, e2, st2⟩ := getS2 X1 hx hZ hown (host := "") (Or.inl (hw _ m6)) Via.refl e1 (hS.2.2.2.2.2.2.2.2.2.2.2.2.2.2.2.1.ext O1.2) (g := (mkF m 19 #[.val (.int (4 : Int32)), .unset] [(.int (0 : Int32)), (.ref b1), (.ref b1)])) rfl (hb hby d1_19)
  obtain ⟨T3, h3, L'3, X3, e3, W3, V3, O3, K3, N3, st3⟩ := own_stR X2 hx hZ e2 V1 O1 K1 N0 (Nat.le_trans (own_old_le O0) g1) (Or.inr (Nat.le_trans (Keep.refl h0 []).1 g1)) (j := (0 : Int32)) 0 (by decide) (Nat.le_of_ble_eq_true rfl) (vs' := [(.ref w5), .null, .null, .null, .null, .null, .null, .null, .null, .null, .null, .null, .null, .null, .null, .null, .null]) rfl rfl rfl (Or.inr ⟨_, _, rfl, O'1, (Ins.self (hS.2.2.2.2.2.2.2.2.2.2.2.2.2.2.2.2.1.ext O1.2))⟩) (g := (mkF m 22 #[.val (.int (4 : Int32)), .unset] [(.ref w5), (.int (0 : Int32)), (.ref b1), (.ref b1)])) rfl rfl (hb hby d1_22)
  obtain ⟨T4, X4, e4, st4⟩ := getS2 X3 hx hZ hown (host := "") (Or.inl (hw _ m10)) Via.refl e3 (hS.2.2.2.2.2.2.2.2.2.2.2.2.2.2.2.2.2.2.2.2.2.2.2.2.2.2.2.2.2.2.2.2.2.2.2.2.2.2.2.2.2.2.1.ext O3.2) (g := (mkF m 25 #[.val (.int (4 : Int32)), .unset] [(.int (1 : Int32)), (.ref b1), (.ref b1)])) rfl (hb hby d1_25)
  obtain ⟨T5, h5, L'5, X5, e5, W5, V5, O5, K5, N5, st5⟩ := own_stR X4 hx hZ e4 V3 O3 K3 N3 (Nat.le_trans (own_old_le O0) g1) (Or.inr (Nat.le_trans (Keep.refl h0 []).1 g1)) (j := (1 : Int32)) 1 (by decide) (Nat.le_of_ble_eq_true rfl) (vs' := [(.ref w5), (.ref w14), .null, .null, .null, .null, .null, .null, .null, .null, .null, .null, .null, .null, .null, .null, .null]) rfl rfl rfl (Or.inr ⟨_, _, rfl, O'1, (Ins.self (hS.2.2.2.2.2.2.2.2.2.2.2.2.2.2.2.2.2.2.2.2.2.2.2.2.2.2.2.2.2.2.2.2.2.2.2.2.2.2.2.2.2.2.2.1.ext O3.2))⟩) (g := (mkF m 28 #[.val (.int (4 : Int32)), .unset] [(.ref w14), (.int (1 : Int32)), (.ref b1), (.ref b1)])) rfl rfl (hb hby d1_28)
  obtain ⟨T6, X6, e6, st6⟩ := getS2 X5 hx hZ hown (host := "") (Or.inl (hw _ m12)) Via.refl e5 (hS.2.2.2.2.2.2.2.2.2.2.2.2.2.2.2.2.2.2.2.2.2.2.2.2.2.2.2.2.2.2.2.2.2.1.ext O5.2) (g := (mkF m 31 #[.val (.int (4 : Int32)), .unset] [(.int (2 : Int32)), (.ref b1), (.ref b1)])) rfl (hb hby d1_31)
  obtain ⟨T7, h7, L'7, X7, e7, W7, V7, O7, K7, N7, st7⟩ := own_stR X6 hx hZ e6 V5 O5 K5 N5 (Nat.le_trans (own_old_le O0) g1) (Or.inr (Nat.le_trans (Keep.refl h0 []).1 g1)) (j := (2 : Int32)) 2 (by decide) (Nat.le_of_ble_eq_true rfl) (vs' := [(.ref w5), (.ref w14), (.ref w11), .null, .null, .null, .null, .null, .null, .null, .null, .null, .null, .null, .null, .null, .null]) rfl rfl rfl (Or.inr ⟨_, _, rfl, O'1, (Ins.self (hS.2.2.2.2.2.2.2.2.2.2.2.2.2.2.2.2.2.2.2.2.2.2.2.2.2.2.2.2.2.2.2.2.2.2.1.ext O5.2))⟩) (g := (mkF m 34 #[.val (.int (4 : Int32)), .unset] [(.ref w11), (.int (2 : Int32)), (.ref b1), (.ref b1)])) rfl rfl (hb hby d1_34)
  obtain ⟨T8, X8, e8, st8⟩ := getS2 X7 hx hZ hown (host := "") (Or.inl (hw _ m14)) Via.refl e7 (hS.1.ext O7.2) (g := (mkF m 37 #[.val (.int (4 : Int32)), .unset] [(.int (3 : Int32)), (.ref b1), (.ref b1)])) rfl (hb hby d1_37)
  obtain ⟨T9, h9, L'9, X9, e9, W9, V9, O9, K9, N9, st9⟩ := own_stR X8 hx hZ e8 V7 O7 K7 N7 (Nat.le_trans (own_old_le O0) g1) (Or.inr (Nat.le_trans (Keep.refl h0 []).1 g1)) (j := (3 : Int32)) 3 (by decide) (Nat.le_of_ble_eq_true rfl) (vs' := [(.ref w5), (.ref w14), (.ref w11), (.ref w0), .null, .null, .null, .null, .null, .null, .null, .null, .null, .null, .null, .null, .null]) rfl rfl rfl (Or.inr ⟨_, _, rfl, O'1, (Ins.self (hS.2.1.ext O7.2))⟩) (g := (mkF m 40 #[.val (.int (4 : Int32)), .unset] [(.ref w0), (.int (3 : Int32)), (.ref b1), (.ref b1)])) rfl rfl (hb hby d1_40)
  obtain ⟨T10, h10, L'10, X10, e10, W10, V10, O10, K10, N10, st10⟩ := own_stR X9 hx hZ e9 V9 O9 K9 N9 (Nat.le_trans (own_old_le O0) g1) (Or.inr (Nat.le_trans (Keep.refl h0 []).1 g1)) (j := (4 : Int32)) 4 (by decide) (Nat.le_of_ble_eq_true rfl) (vs' := [(.ref w5), (.ref w14), (.ref w11), (.ref w0), .null, .null, .null, .null, .null, .null, .null, .null, .null, .null, .null, .null, .null]) rfl rfl rfl (Or.inl rfl) (g := (mkF m 44 #[.val (.int (4 : Int32)), .unset] [.null, (.int (4 : Int32)), (.ref b1), (.ref b1)])) rfl rfl (hb hby d1_44)
  obtain ⟨T11, X11, e11, st11⟩ := getS2 X10 hx hZ hown (host := "") (Or.inl (hw _ m16)) Via.refl e10 (hS.2.2.2.2.2.2.2.2.2.2.2.2.2.2.2.2.2.2.2.2.2.2.2.2.1.ext O10.2) (g := (mkF m 47 #[.val (.int (4 : Int32)), .unset] [(.int (5 : Int32)), (.ref b1), (.ref b1)])) rfl (hb hby d1_47)
  obtain ⟨T12, h12, L'12, X12, e12, W12, V12, O12, K12, N12, st12⟩ := own_stR X11 hx hZ e11 V10 O10 K10 N10 (Nat.le_trans (own_old_le O0) g1) (Or.inr (Nat.le_trans (Keep.refl h0 []).1 g1)) (j := (5 : Int32)) 5 (by decide) (Nat.le_of_ble_eq_true rfl) (vs' := [(.ref w5), (.ref w14), (.ref w11), (.ref w0), .null, (.ref w8), .null, .null, .null, .null, .null, .null, .null, .null, .null, .null, .null]) rfl rfl rfl (Or.inr ⟨_, _, rfl, O'1, (Ins.self (hS.2.2.2.2.2.2.2.2.2.2.2.2.2.2.2.2.2.2.2.2.2.2.2.2.2.1.ext O10.2))⟩) (g := (mkF m 50 #[.val (.int (4 : Int32)), .unset] [(.ref w8), (.int (5 : Int32)), (.ref b1), (.ref b1)])) rfl rfl (hb hby d1_50)
  obtain ⟨T13, X13, e13, st13⟩ := getS2 X12 hx hZ hown (host := "") (Or.inl (hw _ m18)) Via.refl e12 (hS.2.2.2.2.2.2.2.2.2.2.2.2.2.2.2.2.2.2.2.2.2.2.2.2.2.2.2.2.2.2.2.2.2.2.2.2.2.2.2.2.2.2.2.2.2.1.ext O12.2) (g := (mkF m 54 #[.val (.int (4 : Int32)), .unset] [(.int (6 : Int32)), (.ref b1), (.ref b1)])) rfl (hb hby d1_54)
  obtain ⟨T14, h14, L'14, X14, e14, W14, V14, O14, K14, N14, st14⟩ := own_stR X13 hx hZ e13 V12 O12 K12 N12 (Nat.le_trans (own_old_le O0) g1) (Or.inr (Nat.le_trans (Keep.refl h0 []).1 g1)) (j := (6 : Int32)) 6 (by decide) (Nat.le_of_ble_eq_true rfl) (vs' := [(.ref w5), (.ref w14), (.ref w11), (.ref w0), .null, (.ref w8), (.ref w15), .null, .null, .null, .null, .null, .null, .null, .null, .null, .null]) rfl rfl rfl (Or.inr ⟨_, _, rfl, O'1, (Ins.self (hS.2.2.2.2.2.2.2.2.2.2.2.2.2.2.2.2.2.2.2.2.2.2.2.2.2.2.2.2.2.2.2.2.2.2.2.2.2.2.2.2.2.2.2.2.2.2.1.ext O12.2))⟩) (g := (mkF m 57 #[.val (.int (4 : Int32)), .unset] [(.ref w15), (.int (6 : Int32)), (.ref b1), (.ref b1)])) rfl rfl (hb hby d1_57)
  obtain ⟨T15, X15, e15, st15⟩ := getS2 X14 hx hZ hown (host := "") (Or.inl (hw _ m20)) Via.refl e14 (hS.2.2.2.2.2.2.2.2.2.2.2.2.2.2.2.2.2.2.2.2.2.2.2.2.2.2.2.2.2.2.1.ext O14.2) (g := (mkF m 61 #[.val (.int (4 : Int32)), .unset] [(.int (7 : Int32)), (.ref b1), (.ref b1)])) rfl (hb hby d1_61)
  obtain ⟨T16, h16, L'16, X16, e16, W16, V16, O16, K16, N16, st16⟩ := own_stR X15 hx hZ e15 V14 O14 K14 N14 (Nat.le_trans (own_old_le O0) g1) (Or.inr (Nat.le_trans (Keep.refl h0 []).1 g1)) (j := (7 : Int32)) 7 (by decide) (Nat.le_of_ble_eq_true rfl) (vs' := [(.ref w5), (.ref w14), (.ref w11), (.ref w0), .null, (.ref w8), (.ref w15), (.ref w10), .null, .null, .null, .null, .null, .null, .null, .null, .null]) rfl rfl rfl (Or.inr ⟨_, _, rfl, O'1, (Ins.self (hS.2.2.2.2.2.2.2.2.2.2.2.2.2.2.2.2.2.2.2.2.2.2.2.2.2.2.2.2.2.2.2.1.ext O14.2))⟩) (g := (mkF m 64 #[.val (.int (4 : Int32)), .unset] [(.ref w10), (.int (7 : Int32)), (.ref b1), (.ref b1)])) rfl rfl (hb hby d1_64)
  obtain ⟨T17, X17, e17, st17⟩ := getS2 X16 hx hZ hown (host := "") (Or.inl (hw _ m22)) Via.refl e16 (hS.2.2.2.2.2.2.2.2.2.2.2.2.2.2.2.2.2.2.2.2.2.2.2.2.2.2.2.2.2.2.2.2.2.2.2.2.2.2.2.1.ext O16.2) (g := (mkF m 68 #[.val (.int (4 : Int32)), .unset] [(.int (8 : Int32)), (.ref b1), (.ref b1)])) rfl (hb hby d1_68)
  obtain ⟨T18, h18, L'18, X18, e18, W18, V18, O18, K18, N18, st18⟩ := own_stR X17 hx hZ e17 V16 O16 K16 N16 (Nat.le_trans (own_old_le O0) g1) (Or.inr (Nat.le_trans (Keep.refl h0 []).1 g1)) (j := (8 : Int32)) 8 (by decide) (Nat.le_of_ble_eq_true rfl) (vs' := [(.ref w5), (.ref w14), (.ref w11), (.ref w0), .null, (.ref w8), (.ref w15), (.ref w10), (.ref w13), .null, .null, .null, .null, .null, .null, .null, .null]) rfl rfl rfl (Or.inr ⟨_, _, rfl, O'1, (Ins.self (hS.2.2.2.2.2.2.2.2.2.2.2.2.2.2.2.2.2.2.2.2.2.2.2.2.2.2.2.2.2.2.2.2.2.2.2.2.2.2.2.2.1.ext O16.2))⟩) (g := (mkF m 71 #[.val (.int (4 : Int32)), .unset] [(.ref w13), (.int (8 : Int32)), (.ref b1), (.ref b1)])) rfl rfl (hb hby d1_71)
  obtain ⟨T19, X19, e19, st19⟩ := getS2 X18 hx hZ hown (host := "") (Or.inl (hw _ m24)) Via.refl e18 (hS.2.2.2.2.2.2.2.2.2.2.2.2.2.2.2.2.2.2.2.2.2.2.2.2.2.2.2.1.ext O18.2) (g := (mkF m 75 #[.val (.int (4 : Int32)), .unset] [(.int (9 : Int32)), (.ref b1), (.ref b1)])) rfl (hb hby d1_75)
  obtain ⟨T20, h20, L'20, X20, e20, W20, V20, O20, K20, N20, st20⟩ := own_stR X19 hx hZ e19 V18 O18 K18 N18 (Nat.le_trans (own_old_le O0) g1) (Or.inr (Nat.le_trans (Keep.refl h0 []).1 g1)) (j := (9 : Int32)) 9 (by decide) (Nat.le_of_ble_eq_true rfl) (vs' := [(.ref w5), (.ref w14), (.ref w11), (.ref w0), .null, (.ref w8), (.ref w15), (.ref w10), (.ref w13), (.ref w9), .null, .null, .null, .null, .null, .null, .null]) rfl rfl rfl (Or.inr ⟨_, _, rfl, O'1, (Ins.self (hS.2.2.2.2.2.2.2.2.2.2.2.2.2.2.2.2.2.2.2.2.2.2.2.2.2.2.2.2.1.ext O18.2))⟩) (g := (mkF m 78 #[.val (.int (4 : Int32)), .unset] [(.ref w9), (.int (9 : Int32)), (.ref b1), (.ref b1)])) rfl rfl (hb hby d1_78)
  obtain ⟨T21, X21, e21, st21⟩ := getS2 X20 hx hZ hown (host := "") (Or.inl (hw _ m26)) Via.refl e20 (hS.2.2.2.2.2.2.2.2.2.2.2.2.2.2.2.2.2.2.2.2.2.1.ext O20.2) (g := (mkF m 82 #[.val (.int (4 : Int32)), .unset] [(.int (10 : Int32)), (.ref b1), (.ref b1)])) rfl (hb hby d1_82)
  obtain ⟨T22, h22, L'22, X22, e22, W22, V22, O22, K22, N22, st22⟩ := own_stR X21 hx hZ e21 V20 O20 K20 N20 (Nat.le_trans (own_old_le O0) g1) (Or.inr (Nat.le_trans (Keep.refl h0 []).1 g1)) (j := (10 : Int32)) 10 (by decide) (Nat.le_of_ble_eq_true rfl) (vs' := [(.ref w5), (.ref w14), (.ref w11), (.ref w0), .null, (.ref w8), (.ref w15), (.ref w10), (.ref w13), (.ref w9), (.ref w7), .null, .null, .null, .null, .null, .null]) rfl rfl rfl (Or.inr ⟨_, _, rfl, O'1, (Ins.self (hS.2.2.2.2.2.2.2.2.2.2.2.2.2.2.2.2.2.2.2.2.2.2.1.ext O20.2))⟩) (g := (mkF m 85 #[.val (.int (4 : Int32)), .unset] [(.ref w7), (.int (10 : Int32)), (.ref b1), (.ref b1)])) rfl rfl (hb hby d1_85)
  obtain ⟨T23, X23, e23, st23⟩ := getS2 X22 hx hZ hown (host := "") (Or.inl (hw _ m28)) Via.refl e22 (hS.2.2.2.2.2.2.2.2.2.2.2.2.2.2.2.2.2.2.2.2.2.2.2.2.2.2.2.2.2.2.2.2.2.2.2.2.1.ext O22.2) (g := (mkF m 89 #[.val (.int (4 : Int32)), .unset] [(.int (11 : Int32)), (.ref b1), (.ref b1)])) rfl (hb hby d1_89)
  obtain ⟨T24, h24, L'24, X24, e24, W24, V24, O24, K24, N24, st24⟩ := own_stR X23 hx hZ e23 V22 O22 K22 N22 (Nat.le_trans (own_old_le O0) g1) (Or.inr (Nat.le_trans (Keep.refl h0 []).1 g1)) (j := (11 : Int32)) 11 (by decide) (Nat.le_of_ble_eq_true rfl) (vs' := [(.ref w5), (.ref w14), (.ref w11), (.ref w0), .null, (.ref w8), (.ref w15), (.ref w10), (.ref w13), (.ref w9), (.ref w7), (.ref w12), .null, .null, .null, .null, .null]) rfl rfl rfl (Or.inr ⟨_, _, rfl, O'1, (Ins.self (hS.2.2.2.2.2.2.2.2.2.2.2.2.2.2.2.2.2.2.2.2.2.2.2.2.2.2.2.2.2.2.2.2.2.2.2.2.2.1.ext O22.2))⟩) (g := (mkF m 92 #[.val (.int (4 : Int32)), .unset] [(.ref w12), (.int (11 : Int32)), (.ref b1), (.ref b1)])) rfl rfl (hb hby d1_92)
  obtain ⟨T25, X25, e25, st25⟩ := getS2 X24 hx hZ hown (host := "") (Or.inl (hw _ m30)) Via.refl e24 (hS.2.2.2.2.2.2.2.2.2.2.2.2.2.2.2.2.2.2.1.ext O24.2) (g := (mkF m 96 #[.val (.int (4 : Int32)), .unset] [(.int (12 : Int32)), (.ref b1), (.ref b1)])) rfl (hb hby d1_96)
  obtain ⟨T26, h26, L'26, X26, e26, W26, V26, O26, K26, N26, st26⟩ := own_stR X25 hx hZ e25 V24 O24 K24 N24 (Nat.le_trans (own_old_le O0) g1) (Or.inr (Nat.le_trans (Keep.refl h0 []).1 g1)) (j := (12 : Int32)) 12 (by decide) (Nat.le_of_ble_eq_true rfl) (vs' := [(.ref w5), (.ref w14), (.ref w11), (.ref w0), .null, (.ref w8), (.ref w15), (.ref w10), (.ref w13), (.ref w9), (.ref w7), (.ref w12), (.ref w6), .null, .null, .null, .null]) rfl rfl rfl (Or.inr ⟨_, _, rfl, O'1, (Ins.self (hS.2.2.2.2.2.2.2.2.2.2.2.2.2.2.2.2.2.2.2.1.ext O24.2))⟩) (g := (mkF m 99 #[.val (.int (4 : Int32)), .unset] [(.ref w6), (.int (12 : Int32)), (.ref b1), (.ref b1)])) rfl rfl (hb hby d1_99)
  obtain ⟨T27, X27, e27, st27⟩ := getS2 X26 hx hZ hown (host := "") (Or.inl (hw _ m32)) Via.refl e26 (hS.2.2.2.2.2.2.2.2.2.2.2.2.1.ext O26.2) (g := (mkF m 103 #[.val (.int (4 : Int32)), .unset] [(.int (13 : Int32)), (.ref b1), (.ref b1)])) rfl (hb hby d1_103)
  obtain ⟨T28, h28, L'28, X28, e28, W28, V28, O28, K28, N28, st28⟩ := own_stR X27 hx hZ e27 V26 O26 K26 N26 (Nat.le_trans (own_old_le O0) g1) (Or.inr (Nat.le_trans (Keep.refl h0 []).1 g1)) (j := (13 : Int32)) 13 (by decide) (Nat.le_of_ble_eq_true rfl) (vs' := [(.ref w5), (.ref w14), (.ref w11), (.ref w0), .null, (.ref w8), (.ref w15), (.ref w10), (.ref w13), (.ref w9), (.ref w7), (.ref w12), (.ref w6), (.ref w4), .null, .null, .null]) rfl rfl rfl (Or.inr ⟨_, _, rfl, O'1, (Ins.self (hS.2.2.2.2.2.2.2.2.2.2.2.2.2.1.ext O26.2))⟩) (g := (mkF m 106 #[.val (.int (4 : Int32)), .unset] [(.ref w4), (.int (13 : Int32)), (.ref b1), (.ref b1)])) rfl rfl (hb hby d1_106)
  obtain ⟨T29, X29, e29, st29⟩ := getS2 X28 hx hZ hown (host := "") (Or.inl (hw _ m34)) Via.refl e28 (hS.2.2.2.1.ext O28.2) (g := (mkF m 110 #[.val (.int (4 : Int32)), .unset] [(.int (14 : Int32)), (.ref b1), (.ref b1)])) rfl (hb hby d1_110)
  obtain ⟨T30, h30, L'30, X30, e30, W30, V30, O30, K30, N30, st30⟩ := own_stR X29 hx hZ e29 V28 O28 K28 N28 (Nat.le_trans (own_old_le O0) g1) (Or.inr (Nat.le_trans (Keep.refl h0 []).1 g1)) (j := (14 : Int32)) 14 (by decide) (Nat.le_of_ble_eq_true rfl) (vs' := [(.ref w5), (.ref w14), (.ref w11), (.ref w0), .null, (.ref w8), (.ref w15), (.ref w10), (.ref w13), (.ref w9), (.ref w7), (.ref w12), (.ref w6), (.ref w4), (.ref w1), .null, .null]) rfl rfl rfl (Or.inr ⟨_, _, rfl, O'1, (Ins.self (hS.2.2.2.2.1.ext O28.2))⟩) (g := (mkF m 113 #[.val (.int (4 : Int32)), .unset] [(.ref w1), (.int (14 : Int32)), (.ref b1), (.ref b1)])) rfl rfl (hb hby d1_113)
  obtain ⟨T31, X31, e31, st31⟩ := getS2 X30 hx hZ hown (host := "") (Or.inl (hw _ m36)) Via.refl e30 (hS.2.2.2.2.2.2.1.ext O30.2) (g := (mkF m 117 #[.val (.int (4 : Int32)), .unset] [(.int (15 : Int32)), (.ref b1), (.ref b1)])) rfl (hb hby d1_117)
  obtain ⟨T32, h32, L'32, X32, e32, W32, V32, O32, K32, N32, st32⟩ := own_stR X31 hx hZ e31 V30 O30 K30 N30 (Nat.le_trans (own_old_le O0) g1) (Or.inr (Nat.le_trans (Keep.refl h0 []).1 g1)) (j := (15 : Int32)) 15 (by decide) (Nat.le_of_ble_eq_true rfl) (vs' := [(.ref w5), (.ref w14), (.ref w11), (.ref w0), .null, (.ref w8), (.ref w15), (.ref w10), (.ref w13), (.ref w9), (.ref w7), (.ref w12), (.ref w6), (.ref w4), (.ref w1), (.ref w2), .null]) rfl rfl rfl (Or.inr ⟨_, _, rfl, O'1, (Ins.self (hS.2.2.2.2.2.2.2.1.ext O30.2))⟩) (g := (mkF m 120 #[.val (.int (4 : Int32)), .unset] [(.ref w2), (.int (15 : Int32)), (.ref b1), (.ref b1)])) rfl rfl (hb hby d1_120)
  obtain ⟨T33, X33, e33, st33⟩ := getS2 X32 hx hZ hown (host := "") (Or.inl (hw _ m38)) Via.refl e32 (hS.2.2.2.2.2.2.2.2.2.1.ext O32.2) (g := (mkF m 124 #[.val (.int (4 : Int32)), .unset] [(.int (16 : Int32)), (.ref b1), (.ref b1)])) rfl (hb hby d1_124)
  obtain ⟨T34, h34, L'34, X34, e34, W34, V34, O34, K34, N34, st34⟩ := own_stR X33 hx hZ e33 V32 O32 K32 N32 (Nat.le_trans (own_old_le O0) g1) (Or.inr (Nat.le_trans (Keep.refl h0 []).1 g1)) (j := (16 : Int32)) 16 (by decide) (Nat.le_of_ble_eq_true rfl) (vs' := [(.ref w5), (.ref w14), (.ref w11), (.ref w0), .null, (.ref w8), (.ref w15), (.ref w10), (.ref w13), (.ref w9), (.ref w7), (.ref w12), (.ref w6), (.ref w4), (.ref w1), (.ref w2), (.ref w3)]) rfl rfl rfl (Or.inr ⟨_, _, rfl, O'1, (Ins.self (hS.2.2.2.2.2.2.2.2.2.2.1.ext O32.2))⟩) (g := (mkF m 127 #[.val (.int (4 : Int32)), .unset] [(.ref w3), (.int (16 : Int32)), (.ref b1), (.ref b1)])) rfl rfl (hb hby d1_127)
  obtain ⟨fs, hr, hrun, hended, hW, hsame⟩ := X34.leave (v := some .null) (fun h => by rw [Bd.returns] at h; cases h)
  refine ⟨_, _, pre0 _ ?_, hrun, hended, _, _, rfl, ?_, ⟨_, rfl⟩, hW, hsame.mono (by decide) (by decide)⟩
  · show Steps p.tables e below (s₁.setTop (mkF m 0 #[.val (.int (4 : Int32)), .unset] [])) _
    refine XS.iloadN X0.here hx rfl (hb hby d1_0) rfl ?_
    refine XS.ifNo X0.here hx rfl (hb hby d1_1) rfl ((if0 _ _).trans (flt (by decide : ¬ ((4 : Int32) < (0 : Int32)))).1) ?_
    refine XS.iloadN X0.here hx rfl (hb hby d1_4) rfl ?_
    refine XS.bipush X0.here hx rfl (hb hby d1_5) ?_
    show Steps p.tables e below (s₁.setTop (mkF m 7 #[.val (.int (4 : Int32)), .unset] [(.int (16 : Int32)), (.int (4 : Int32))])) _
    refine XS.icmpYes X0.here hx rfl (pc0 := 7) (pc' := 12) rfl (hb hby d1_7) rfl (flt (by decide : ¬ ((16 : Int32) < (4 : Int32)))).2.2.2 (by decide) (by decide) ?_
    refine XS.bipush X0.here hx rfl (hb hby d1_12) ?_
    refine st1 _ ?_
    refine XS.dup X1.here hx rfl (hb hby d1_17) rfl rfl ?_
    show Steps p.tables e below (T1.setTop (mkF m 18 #[.val (.int (4 : Int32)), .unset] [(.ref b1), (.ref b1)])) _
    refine XS.iconst X1.here hx rfl (hb hby d1_18) ?_
    refine st2 _ ?_
    refine st3 _ ?_
    refine XS.dup X3.here hx rfl (hb hby d1_23) rfl rfl ?_
    show Steps p.tables e below (T3.setTop (mkF m 24 #[.val (.int (4 : Int32)), .unset] [(.ref b1), (.ref b1)])) _
    refine XS.iconst X3.here hx rfl (hb hby d1_24) ?_
    refine st4 _ ?_
    refine st5 _ ?_
    refine XS.dup X5.here hx rfl (hb hby d1_29) rfl rfl ?_
    show Steps p.tables e below (T5.setTop (mkF m 30 #[.val (.int (4 : Int32)), .unset] [(.ref b1), (.ref b1)])) _
    refine XS.iconst X5.here hx rfl (hb hby d1_30) ?_
    refine st6 _ ?_
    refine st7 _ ?_
    refine XS.dup X7.here hx rfl (hb hby d1_35) rfl rfl ?_
    show Steps p.tables e below (T7.setTop (mkF m 36 #[.val (.int (4 : Int32)), .unset] [(.ref b1), (.ref b1)])) _
    refine XS.iconst X7.here hx rfl (hb hby d1_36) ?_
    refine st8 _ ?_
    refine st9 _ ?_
    refine XS.dup X9.here hx rfl (hb hby d1_41) rfl rfl ?_
    show Steps p.tables e below (T9.setTop (mkF m 42 #[.val (.int (4 : Int32)), .unset] [(.ref b1), (.ref b1)])) _
    refine XS.iconst X9.here hx rfl (hb hby d1_42) ?_
    refine XS.aconstNull X9.here hx rfl (hb hby d1_43) ?_
    refine st10 _ ?_
    refine XS.dup X10.here hx rfl (hb hby d1_45) rfl rfl ?_
    show Steps p.tables e below (T10.setTop (mkF m 46 #[.val (.int (4 : Int32)), .unset] [(.ref b1), (.ref b1)])) _
    refine XS.iconst X10.here hx rfl (hb hby d1_46) ?_
    refine st11 _ ?_
    refine st12 _ ?_
    refine XS.dup X12.here hx rfl (hb hby d1_51) rfl rfl ?_
    show Steps p.tables e below (T12.setTop (mkF m 52 #[.val (.int (4 : Int32)), .unset] [(.ref b1), (.ref b1)])) _
    refine XS.bipush X12.here hx rfl (hb hby d1_52) ?_
    refine st13 _ ?_
    refine st14 _ ?_
    refine XS.dup X14.here hx rfl (hb hby d1_58) rfl rfl ?_
    show Steps p.tables e below (T14.setTop (mkF m 59 #[.val (.int (4 : Int32)), .unset] [(.ref b1), (.ref b1)])) _
    refine XS.bipush X14.here hx rfl (hb hby d1_59) ?_
    refine st15 _ ?_
    refine st16 _ ?_
    refine XS.dup X16.here hx rfl (hb hby d1_65) rfl rfl ?_
    show Steps p.tables e below (T16.setTop (mkF m 66 #[.val (.int (4 : Int32)), .unset] [(.ref b1), (.ref b1)])) _
    refine XS.bipush X16.here hx rfl (hb hby d1_66) ?_
    refine st17 _ ?_
    refine st18 _ ?_
    refine XS.dup X18.here hx rfl (hb hby d1_72) rfl rfl ?_
    show Steps p.tables e below (T18.setTop (mkF m 73 #[.val (.int (4 : Int32)), .unset] [(.ref b1), (.ref b1)])) _
    refine XS.bipush X18.here hx rfl (hb hby d1_73) ?_
    refine st19 _ ?_
    refine st20 _ ?_
    refine XS.dup X20.here hx rfl (hb hby d1_79) rfl rfl ?_
    show Steps p.tables e below (T20.setTop (mkF m 80 #[.val (.int (4 : Int32)), .unset] [(.ref b1), (.ref b1)])) _
    refine XS.bipush X20.here hx rfl (hb hby d1_80) ?_
    refine st21 _ ?_
    refine st22 _ ?_
    refine XS.dup X22.here hx rfl (hb hby d1_86) rfl rfl ?_
    show Steps p.tables e below (T22.setTop (mkF m 87 #[.val (.int (4 : Int32)), .unset] [(.ref b1), (.ref b1)])) _
    refine XS.bipush X22.here hx rfl (hb hby d1_87) ?_
    refine st23 _ ?_
    refine st24 _ ?_
    refine XS.dup X24.here hx rfl (hb hby d1_93) rfl rfl ?_
    show Steps p.tables e below (T24.setTop (mkF m 94 #[.val (.int (4 : Int32)), .unset] [(.ref b1), (.ref b1)])) _
    refine XS.bipush X24.here hx rfl (hb hby d1_94) ?_
    refine st25 _ ?_
    refine st26 _ ?_
    refine XS.dup X26.here hx rfl (hb hby d1_100) rfl rfl ?_
    show Steps p.tables e below (T26.setTop (mkF m 101 #[.val (.int (4 : Int32)), .unset] [(.ref b1), (.ref b1)])) _
    refine XS.bipush X26.here hx rfl (hb hby d1_101) ?_
    refine st27 _ ?_
    refine st28 _ ?_
    refine XS.dup X28.here hx rfl (hb hby d1_107) rfl rfl ?_
    show Steps p.tables e below (T28.setTop (mkF m 108 #[.val (.int (4 : Int32)), .unset] [(.ref b1), (.ref b1)])) _
    refine XS.bipush X28.here hx rfl (hb hby d1_108) ?_
    refine st29 _ ?_
    refine st30 _ ?_
    refine XS.dup X30.here hx rfl (hb hby d1_114) rfl rfl ?_
    show Steps p.tables e below (T30.setTop (mkF m 115 #[.val (.int (4 : Int32)), .unset] [(.ref b1), (.ref b1)])) _
    refine XS.bipush X30.here hx rfl (hb hby d1_115) ?_
    refine st31 _ ?_
    refine st32 _ ?_
    refine XS.dup X32.here hx rfl (hb hby d1_121) rfl rfl ?_
    show Steps p.tables e below (T32.setTop (mkF m 122 #[.val (.int (4 : Int32)), .unset] [(.ref b1), (.ref b1)])) _
    refine XS.bipush X32.here hx rfl (hb hby d1_122) ?_
    refine st33 _ ?_
    refine st34 _ ?_
    refine XS.astoreN X34.here hx rfl (hb hby d1_128) rfl rfl (l' := #[.val (.int (4 : Int32)), .val (.ref b1)]) rfl ?_
    show Steps p.tables e below (T34.setTop (mkF m 129 #[.val (.int (4 : Int32)), .val (.ref b1)] [])) _
    refine XS.aloadN X34.here hx rfl (hb hby d1_129) rfl rfl ?_
    refine XS.iloadN X34.here hx rfl (hb hby d1_130) rfl ?_
    refine own_aaload X34 hx hZ e34 V34 (j := (4 : Int32)) (by decide) (v := .null) rfl rfl (g := (mkF m 131 #[.val (.int (4 : Int32)), .val (.ref b1)] [(.int (4 : Int32)), (.ref b1)])) rfl rfl (hb hby d1_131) ?_
    exact retOut X34 hx Bd.returns rfl (Or.inr (Or.inr (Or.inr (Or.inr ⟨rfl, rfl, rfl⟩)))) (hb hby d1_132) hr
  · show Qrm15 Z w0 w1 w2 w3 w4 w5 w6 w7 w8 w9 w10 w11 w12 w13 w14 w15 w16 kw16 h0 n0 _ T34.heap _
    rw [e34]
    exact ⟨rfl, N34, K34⟩
def Qrm16 (Z : State) (w0 : Addr) (w1 : Addr) (w2 : Addr) (w3 : Addr) (w4 : Addr) (w5 : Addr) (w6 : Addr) (w7 : Addr) (w8 : Addr) (w9 : Addr) (w10 : Addr) (w11 : Addr) (w12 : Addr) (w13 : Addr) (w14 : Addr) (w15 : Addr) (w16 : Addr) (kw16 : ClassId) (h0 : Heap) (n0 : Nat) (v : Option Value) (h : Heap) (L : List Loc) : Prop := v = some .null ∧ Fr n0 L ∧ h = h0
set_option maxRecDepth 65536 in
set_option maxHeartbeats 40000000 in
theorem rm16 (l : Launch) (Z : State) (a0 : Array Value) (hw : ∀ d ∈ tables_1, d.before a0 Z = true) (w0 : Addr) (w1 : Addr) (w2 : Addr) (w3 : Addr) (w4 : Addr) (w5 : Addr) (w6 : Addr) (w7 : Addr) (w8 : Addr) (w9 : Addr) (w10 : Addr) (w11 : Addr) (w12 : Addr) (w13 : Addr) (w14 : Addr) (w15 : Addr) (w16 : Addr) (kw16 : ClassId) (hS : SF Z w0 w1 w2 w3 w4 w5 w6 w7 w8 w9 w10 w11 w12 w13 w14 w15 w16 kw16) (ws : List Jvm.Cond) (h0 : Heap) (n0 : Nat) (O0 : Old Z n0 h0) :
    MetFree l (⟨z0, "of", z2⟩ : MethodName) (head1 (Jvm.Cond.code (⟨z0, "of", z2⟩ : MethodName) prog_90_method_5_code 1 (some (.object z0)) :: ws) ({ frames := 0, cells := 0, slots := 0, locals := 0 } : Room)) (fun a U => a = #[(.int (4 : Int32))] ∧ Z.Warmed39 U.vm ∧ U.heap = h0) (fun _ _ _ _ _ => True) (fun _ U o U' => ∃ v L, o = .returned v ∧ Qrm16 Z w0 w1 w2 w3 w4 w5 w6 w7 w8 w9 w10 w11 w12 w13 w14 w15 w16 kw16 h0 n0 v U'.heap L ∧ FrameEnd U o U' L ({ frames := 0, cells := 0, slots := 0, locals := 0 } : Room).cells ({ frames := 0, cells := 0, slots := 0, locals := 0 } : Room).slots) := by
  refine MetFree.of_bodySF (plainFor_of_name pn18) hisR ?_
  intro p e s m args below meth c s₁ Bd hml0 hP hK
  obtain ⟨rfl, hZ, hh⟩ := hP
  have hx := Bd.exec
  have hby := Bd.bytes
  have hml : c.maxLocals = 1 := hml0
  have hown : s.vm.findClass z0 = some m.cls := findClass_of_methodNamed Bd.named
  have hnm := (name_of_methodNamed Bd.named Bd.method).1
  have X0 : Stand p l e ({ frames := 0, cells := 0, slots := 0, locals := 0 } : Room) s m #[(.int (4 : Int32))] below meth c s₁ [] 0 0 := Stand.of_body Bd
  have e0 : s₁.heap = h0 := by rw [← hh, Bd.state]; rfl
  have N0 := Fr.nil n0
  have pre0 : ∀ t, Steps p.tables e below (s₁.setTop (mkF m 0 #[.val (.int (4 : Int32))] [])) t → Steps p.tables e below (s₁.setTop (entryFrame m #[(.int (4 : Int32))] 1)) t := fun t k => castTop (ef17 m (4 : Int32)) k
  obtain ⟨T1, X1, e1, st1⟩ := getS2 X0 hx hZ hown (host := "") (Or.inl (hw _ m43)) Via.refl e0 (hS.2.2.2.2.2.2.2.2.2.2.2.2.2.2.2.2.2.2.2.2.2.2.2.2.2.2.2.2.2.2.2.2.2.2.2.2.2.2.2.2.2.2.2.2.2.2.2.2.1.ext O0.2) (g := (mkF m 5 #[.val (.int (4 : Int32))] [(.int (4 : Int32))])) rfl (hb hby d2_5)
  obtain ⟨T2, X2, e2, st2⟩ := getS2 X1 hx hZ hown (host := "") (Or.inl (hw _ m43)) Via.refl e1 (hS.2.2.2.2.2.2.2.2.2.2.2.2.2.2.2.2.2.2.2.2.2.2.2.2.2.2.2.2.2.2.2.2.2.2.2.2.2.2.2.2.2.2.2.2.2.2.2.2.1.ext O0.2) (g := (mkF m 12 #[.val (.int (4 : Int32))] [])) rfl (hb hby d2_12)
  obtain ⟨fs, hr, hrun, hended, hW, hsame⟩ := X2.leave (v := some .null) (fun h => by rw [Bd.returns] at h; cases h)
  refine ⟨_, _, pre0 _ ?_, hrun, hended, _, _, rfl, ?_, ⟨_, rfl⟩, hW, hsame.mono (by decide) (by decide)⟩
  · show Steps p.tables e below (s₁.setTop (mkF m 0 #[.val (.int (4 : Int32))] [])) _
    refine XS.iloadN X0.here hx rfl (hb hby d2_0) rfl ?_
    refine XS.ifNo X0.here hx rfl (hb hby d2_1) rfl ((if0 _ _).trans (flt (by decide : ¬ ((4 : Int32) < (0 : Int32)))).1) ?_
    refine XS.iloadN X0.here hx rfl (hb hby d2_4) rfl ?_
    refine st1 _ ?_
    show Steps p.tables e below (T1.setTop (mkF m 8 #[.val (.int (4 : Int32))] [(.ref w16), (.int (4 : Int32))])) _
    refine own_alen X1 hx hZ e1 (hS.2.2.2.2.2.2.2.2.2.2.2.2.2.2.2.2.2.2.2.2.2.2.2.2.2.2.2.2.2.2.2.2.2.2.2.2.2.2.2.2.2.2.2.2.2.2.2.2.2.ext O0.2) (g := (mkF m 8 #[.val (.int (4 : Int32))] [(.ref w16), (.int (4 : Int32))])) rfl rfl (hb hby d2_8) ?_
    refine XS.icmpNo X1.here hx rfl (hb hby d2_9) rfl (tlt (by decide : (4 : Int32) < (17 : Int32))).2.1 ?_
    refine st2 _ ?_
    refine XS.iloadN X2.here hx rfl (hb hby d2_15) rfl ?_
    show Steps p.tables e below (T2.setTop (mkF m 16 #[.val (.int (4 : Int32))] [(.int (4 : Int32)), (.ref w16)])) _
    refine own_aaload X2 hx hZ e2 (hS.2.2.2.2.2.2.2.2.2.2.2.2.2.2.2.2.2.2.2.2.2.2.2.2.2.2.2.2.2.2.2.2.2.2.2.2.2.2.2.2.2.2.2.2.2.2.2.2.2.ext O0.2) (j := (4 : Int32)) (by decide) (v := .null) rfl rfl (g := (mkF m 16 #[.val (.int (4 : Int32))] [(.int (4 : Int32)), (.ref w16)])) rfl rfl (hb hby d2_16) ?_
    refine XS.goto X2.here hx rfl (pc0 := 17) (pc' := 21) rfl (hb hby d2_17) (by decide) (by decide) ?_
    exact retOut X2 hx Bd.returns rfl (Or.inr (Or.inr (Or.inr (Or.inr ⟨rfl, rfl, rfl⟩)))) (hb hby d2_21) hr
  · show Qrm16 Z w0 w1 w2 w3 w4 w5 w6 w7 w8 w9 w10 w11 w12 w13 w14 w15 w16 kw16 h0 n0 _ T2.heap _
    rw [e2]
    exact ⟨rfl, N0, rfl⟩
def Qrm17 (Z : State) (w0 : Addr) (w1 : Addr) (w2 : Addr) (w3 : Addr) (w4 : Addr) (w5 : Addr) (w6 : Addr) (w7 : Addr) (w8 : Addr) (w9 : Addr) (w10 : Addr) (w11 : Addr) (w12 : Addr) (w13 : Addr) (w14 : Addr) (w15 : Addr) (w16 : Addr) (kw16 : ClassId) (h0 : Heap) (n0 : Nat) (v : Option Value) (h : Heap) (L : List Loc) : Prop := v = some (.ref w8) ∧ Fr n0 L ∧ Keep h0 h []
set_option maxRecDepth 65536 in
set_option maxHeartbeats 40000000 in
theorem rm17 (l : Launch) (Z : State) (a0 : Array Value) (hw : ∀ d ∈ tables_1, d.before a0 Z = true) (w0 : Addr) (w1 : Addr) (w2 : Addr) (w3 : Addr) (w4 : Addr) (w5 : Addr) (w6 : Addr) (w7 : Addr) (w8 : Addr) (w9 : Addr) (w10 : Addr) (w11 : Addr) (w12 : Addr) (w13 : Addr) (w14 : Addr) (w15 : Addr) (w16 : Addr) (kw16 : ClassId) (hS : SF Z w0 w1 w2 w3 w4 w5 w6 w7 w8 w9 w10 w11 w12 w13 w14 w15 w16 kw16) (ws : List Jvm.Cond) (h0 : Heap) (n0 : Nat) (O0 : Old Z n0 h0) :
    MetFree l (⟨z1, "expected", z2⟩ : MethodName) (head1 (Jvm.Cond.code (⟨z1, "expected", z2⟩ : MethodName) method_3_code 2 (some (.object z0)) :: ws) ({ frames := 0, cells := 1, slots := 17, locals := 0 } : Room)) (fun a U => a = #[(.int (5 : Int32))] ∧ Z.Warmed39 U.vm ∧ U.heap = h0) (fun _ _ _ _ _ => True) (fun _ U o U' => ∃ v L, o = .returned v ∧ Qrm17 Z w0 w1 w2 w3 w4 w5 w6 w7 w8 w9 w10 w11 w12 w13 w14 w15 w16 kw16 h0 n0 v U'.heap L ∧ FrameEnd U o U' L ({ frames := 0, cells := 1, slots := 17, locals := 0 } : Room).cells ({ frames := 0, cells := 1, slots := 17, locals := 0 } : Room).slots) := by
  refine MetFree.of_bodySF (plainFor_of_name pn7) hisR ?_
  intro p e s m args below meth c s₁ Bd hml0 hP hK
  obtain ⟨rfl, hZ, hh⟩ := hP
  have hx := Bd.exec
  have hby := Bd.bytes
  have hml : c.maxLocals = 2 := hml0
  have hown : s.vm.findClass z1 = some m.cls := findClass_of_methodNamed Bd.named
  have hnm := (name_of_methodNamed Bd.named Bd.method).1
  have X0 : Stand p l e ({ frames := 0, cells := 1, slots := 17, locals := 0 } : Room) s m #[(.int (5 : Int32))] below meth c s₁ [] 0 0 := Stand.of_body Bd
  have e0 : s₁.heap = h0 := by rw [← hh, Bd.state]; rfl
  have N0 := Fr.nil n0
  have pre0 : ∀ t, Steps p.tables e below (s₁.setTop (mkF m 0 #[.val (.int (5 : Int32)), .unset] [])) t → Steps p.tables e below (s₁.setTop (entryFrame m #[(.int (5 : Int32))] 2)) t := fun t k => castTop (ef6 m (5 : Int32)) k
  obtain ⟨T1, h1, k1, b1, X1, e1, E1, V1, O'1, g1, O1, K1, st1⟩ := own_newR X0 hx hZ (vs := [.null, .null, .null, .null, .null, .null, .null, .null, .null, .null, .null, .null, .null, .null, .null, .null, .null]) (cap := 17) rfl hown (hw _ m4) (hw _ m5) e0 O0 (Keep.refl h0 []) (g := (mkF m 14 #[.val (.int (5 : Int32)), .unset] [(.int (17 : Int32))])) rfl (hb hby d1_14) rfl (by decide) (by decide) (by decide) (by decide) (by decide)
  obtain ⟨T2, X2, e2, st2⟩ := getS2 X1 hx hZ hown (host := "") (Or.inl (hw _ m6)) Via.refl e1 (hS.2.2.2.2.2.2.2.2.2.2.2.2.2.2.2.1.ext O1.2) (g := (mkF m 19 #[.val (.int (5 : Int32)), .unset] [(.int (0 : Int32)), (.ref b1), (.ref b1)])) rfl (hb hby d1_19)
  obtain ⟨T3, h3, L'3, X3, e3, W3, V3, O3, K3, N3, st3⟩ := own_stR X2 hx hZ e2 V1 O1 K1 N0 (Nat.le_trans (own_old_le O0) g1) (Or.inr (Nat.le_trans (Keep.refl h0 []).1 g1)) (j := (0 : Int32)) 0 (by decide) (Nat.le_of_ble_eq_true rfl) (vs' := [(.ref w5), .null, .null, .null, .null, .null, .null, .null, .null, .null, .null, .null, .null, .null, .null, .null, .null]) rfl rfl rfl (Or.inr ⟨_, _, rfl, O'1, (Ins.self (hS.2.2.2.2.2.2.2.2.2.2.2.2.2.2.2.2.1.ext O1.2))⟩) (g := (mkF m 22 #[.val (.int (5 : Int32)), .unset] [(.ref w5), (.int (0 : Int32)), (.ref b1), (.ref b1)])) rfl rfl (hb hby d1_22)
  obtain ⟨T4, X4, e4, st4⟩ := getS2 X3 hx hZ hown (host := "") (Or.inl (hw _ m10)) Via.refl e3 (hS.2.2.2.2.2.2.2.2.2.2.2.2.2.2.2.2.2.2.2.2.2.2.2.2.2.2.2.2.2.2.2.2.2.2.2.2.2.2.2.2.2.2.1.ext O3.2) (g := (mkF m 25 #[.val (.int (5 : Int32)), .unset] [(.int (1 : Int32)), (.ref b1), (.ref b1)])) rfl (hb hby d1_25)
  obtain ⟨T5, h5, L'5, X5, e5, W5, V5, O5, K5, N5, st5⟩ := own_stR X4 hx hZ e4 V3 O3 K3 N3 (Nat.le_trans (own_old_le O0) g1) (Or.inr (Nat.le_trans (Keep.refl h0 []).1 g1)) (j := (1 : Int32)) 1 (by decide) (Nat.le_of_ble_eq_true rfl) (vs' := [(.ref w5), (.ref w14), .null, .null, .null, .null, .null, .null, .null, .null, .null, .null, .null, .null, .null, .null, .null]) rfl rfl rfl (Or.inr ⟨_, _, rfl, O'1, (Ins.self (hS.2.2.2.2.2.2.2.2.2.2.2.2.2.2.2.2.2.2.2.2.2.2.2.2.2.2.2.2.2.2.2.2.2.2.2.2.2.2.2.2.2.2.2.1.ext O3.2))⟩) (g := (mkF m 28 #[.val (.int (5 : Int32)), .unset] [(.ref w14), (.int (1 : Int32)), (.ref b1), (.ref b1)])) rfl rfl (hb hby d1_28)
  obtain ⟨T6, X6, e6, st6⟩ := getS2 X5 hx hZ hown (host := "") (Or.inl (hw _ m12)) Via.refl e5 (hS.2.2.2.2.2.2.2.2.2.2.2.2.2.2.2.2.2.2.2.2.2.2.2.2.2.2.2.2.2.2.2.2.2.1.ext O5.2) (g := (mkF m 31 #[.val (.int (5 : Int32)), .unset] [(.int (2 : Int32)), (.ref b1), (.ref b1)])) rfl (hb hby d1_31)
  obtain ⟨T7, h7, L'7, X7, e7, W7, V7, O7, K7, N7, st7⟩ := own_stR X6 hx hZ e6 V5 O5 K5 N5 (Nat.le_trans (own_old_le O0) g1) (Or.inr (Nat.le_trans (Keep.refl h0 []).1 g1)) (j := (2 : Int32)) 2 (by decide) (Nat.le_of_ble_eq_true rfl) (vs' := [(.ref w5), (.ref w14), (.ref w11), .null, .null, .null, .null, .null, .null, .null, .null, .null, .null, .null, .null, .null, .null]) rfl rfl rfl (Or.inr ⟨_, _, rfl, O'1, (Ins.self (hS.2.2.2.2.2.2.2.2.2.2.2.2.2.2.2.2.2.2.2.2.2.2.2.2.2.2.2.2.2.2.2.2.2.2.1.ext O5.2))⟩) (g := (mkF m 34 #[.val (.int (5 : Int32)), .unset] [(.ref w11), (.int (2 : Int32)), (.ref b1), (.ref b1)])) rfl rfl (hb hby d1_34)
  obtain ⟨T8, X8, e8, st8⟩ := getS2 X7 hx hZ hown (host := "") (Or.inl (hw _ m14)) Via.refl e7 (hS.1.ext O7.2) (g := (mkF m 37 #[.val (.int (5 : Int32)), .unset] [(.int (3 : Int32)), (.ref b1), (.ref b1)])) rfl (hb hby d1_37)
  obtain ⟨T9, h9, L'9, X9, e9, W9, V9, O9, K9, N9, st9⟩ := own_stR X8 hx hZ e8 V7 O7 K7 N7 (Nat.le_trans (own_old_le O0) g1) (Or.inr (Nat.le_trans (Keep.refl h0 []).1 g1)) (j := (3 : Int32)) 3 (by decide) (Nat.le_of_ble_eq_true rfl) (vs' := [(.ref w5), (.ref w14), (.ref w11), (.ref w0), .null, .null, .null, .null, .null, .null, .null, .null, .null, .null, .null, .null, .null]) rfl rfl rfl (Or.inr ⟨_, _, rfl, O'1, (Ins.self (hS.2.1.ext O7.2))⟩) (g := (mkF m 40 #[.val (.int (5 : Int32)), .unset] [(.ref w0), (.int (3 : Int32)), (.ref b1), (.ref b1)])) rfl rfl (hb hby d1_40)
  obtain ⟨T10, h10, L'10, X10, e10, W10, V10, O10, K10, N10, st10⟩ := own_stR X9 hx hZ e9 V9 O9 K9 N9 (Nat.le_trans (own_old_le O0) g1) (Or.inr (Nat.le_trans (Keep.refl h0 []).1 g1)) (j := (4 : Int32)) 4 (by decide) (Nat.le_of_ble_eq_true rfl) (vs' := [(.ref w5), (.ref w14), (.ref w11), (.ref w0), .null, .null, .null, .null, .null, .null, .null, .null, .null, .null, .null, .null, .null]) rfl rfl rfl (Or.inl rfl) (g := (mkF m 44 #[.val (.int (5 : Int32)), .unset] [.null, (.int (4 : Int32)), (.ref b1), (.ref b1)])) rfl rfl (hb hby d1_44)
  obtain ⟨T11, X11, e11, st11⟩ := getS2 X10 hx hZ hown (host := "") (Or.inl (hw _ m16)) Via.refl e10 (hS.2.2.2.2.2.2.2.2.2.2.2.2.2.2.2.2.2.2.2.2.2.2.2.2.1.ext O10.2) (g := (mkF m 47 #[.val (.int (5 : Int32)), .unset] [(.int (5 : Int32)), (.ref b1), (.ref b1)])) rfl (hb hby d1_47)
  obtain ⟨T12, h12, L'12, X12, e12, W12, V12, O12, K12, N12, st12⟩ := own_stR X11 hx hZ e11 V10 O10 K10 N10 (Nat.le_trans (own_old_le O0) g1) (Or.inr (Nat.le_trans (Keep.refl h0 []).1 g1)) (j := (5 : Int32)) 5 (by decide) (Nat.le_of_ble_eq_true rfl) (vs' := [(.ref w5), (.ref w14), (.ref w11), (.ref w0), .null, (.ref w8), .null, .null, .null, .null, .null, .null, .null, .null, .null, .null, .null]) rfl rfl rfl (Or.inr ⟨_, _, rfl, O'1, (Ins.self (hS.2.2.2.2.2.2.2.2.2.2.2.2.2.2.2.2.2.2.2.2.2.2.2.2.2.1.ext O10.2))⟩) (g := (mkF m 50 #[.val (.int (5 : Int32)), .unset] [(.ref w8), (.int (5 : Int32)), (.ref b1), (.ref b1)])) rfl rfl (hb hby d1_50)
  obtain ⟨T13, X13, e13, st13⟩ := getS2 X12 hx hZ hown (host := "") (Or.inl (hw _ m18)) Via.refl e12 (hS.2.2.2.2.2.2.2.2.2.2.2.2.2.2.2.2.2.2.2.2.2.2.2.2.2.2.2.2.2.2.2.2.2.2.2.2.2.2.2.2.2.2.2.2.2.1.ext O12.2) (g := (mkF m 54 #[.val (.int (5 : Int32)), .unset] [(.int (6 : Int32)), (.ref b1), (.ref b1)])) rfl (hb hby d1_54)
  obtain ⟨T14, h14, L'14, X14, e14, W14, V14, O14, K14, N14, st14⟩ := own_stR X13 hx hZ e13 V12 O12 K12 N12 (Nat.le_trans (own_old_le O0) g1) (Or.inr (Nat.le_trans (Keep.refl h0 []).1 g1)) (j := (6 : Int32)) 6 (by decide) (Nat.le_of_ble_eq_true rfl) (vs' := [(.ref w5), (.ref w14), (.ref w11), (.ref w0), .null, (.ref w8), (.ref w15), .null, .null, .null, .null, .null, .null, .null, .null, .null, .null]) rfl rfl rfl (Or.inr ⟨_, _, rfl, O'1, (Ins.self (hS.2.2.2.2.2.2.2.2.2.2.2.2.2.2.2.2.2.2.2.2.2.2.2.2.2.2.2.2.2.2.2.2.2.2.2.2.2.2.2.2.2.2.2.2.2.2.1.ext O12.2))⟩) (g := (mkF m 57 #[.val (.int (5 : Int32)), .unset] [(.ref w15), (.int (6 : Int32)), (.ref b1), (.ref b1)])) rfl rfl (hb hby d1_57)
  obtain ⟨T15, X15, e15, st15⟩ := getS2 X14 hx hZ hown (host := "") (Or.inl (hw _ m20)) Via.refl e14 (hS.2.2.2.2.2.2.2.2.2.2.2.2.2.2.2.2.2.2.2.2.2.2.2.2.2.2.2.2.2.2.1.ext O14.2) (g := (mkF m 61 #[.val (.int (5 : Int32)), .unset] [(.int (7 : Int32)), (.ref b1), (.ref b1)])) rfl (hb hby d1_61)
  obtain ⟨T16, h16, L'16, X16, e16, W16, V16, O16, K16, N16, st16⟩ := own_stR X15 hx hZ e15 V14 O14 K14 N14 (Nat.le_trans (own_old_le O0) g1) (Or.inr (Nat.le_trans (Keep.refl h0 []).1 g1)) (j := (7 : Int32)) 7 (by decide) (Nat.le_of_ble_eq_true rfl) (vs' := [(.ref w5), (.ref w14), (.ref w11), (.ref w0), .null, (.ref w8), (.ref w15), (.ref w10), .null, .null, .null, .null, .null, .null, .null, .null, .null]) rfl rfl rfl (Or.inr ⟨_, _, rfl, O'1, (Ins.self (hS.2.2.2.2.2.2.2.2.2.2.2.2.2.2.2.2.2.2.2.2.2.2.2.2.2.2.2.2.2.2.2.1.ext O14.2))⟩) (g := (mkF m 64 #[.val (.int (5 : Int32)), .unset] [(.ref w10), (.int (7 : Int32)), (.ref b1), (.ref b1)])) rfl rfl (hb hby d1_64)
  obtain ⟨T17, X17, e17, st17⟩ := getS2 X16 hx hZ hown (host := "") (Or.inl (hw _ m22)) Via.refl e16 (hS.2.2.2.2.2.2.2.2.2.2.2.2.2.2.2.2.2.2.2.2.2.2.2.2.2.2.2.2.2.2.2.2.2.2.2.2.2.2.2.1.ext O16.2) (g := (mkF m 68 #[.val (.int (5 : Int32)), .unset] [(.int (8 : Int32)), (.ref b1), (.ref b1)])) rfl (hb hby d1_68)
  obtain ⟨T18, h18, L'18, X18, e18, W18, V18, O18, K18, N18, st18⟩ := own_stR X17 hx hZ e17 V16 O16 K16 N16 (Nat.le_trans (own_old_le O0) g1) (Or.inr (Nat.le_trans (Keep.refl h0 []).1 g1)) (j := (8 : Int32)) 8 (by decide) (Nat.le_of_ble_eq_true rfl) (vs' := [(.ref w5), (.ref w14), (.ref w11), (.ref w0), .null, (.ref w8), (.ref w15), (.ref w10), (.ref w13), .null, .null, .null, .null, .null, .null, .null, .null]) rfl rfl rfl (Or.inr ⟨_, _, rfl, O'1, (Ins.self (hS.2.2.2.2.2.2.2.2.2.2.2.2.2.2.2.2.2.2.2.2.2.2.2.2.2.2.2.2.2.2.2.2.2.2.2.2.2.2.2.2.1.ext O16.2))⟩) (g := (mkF m 71 #[.val (.int (5 : Int32)), .unset] [(.ref w13), (.int (8 : Int32)), (.ref b1), (.ref b1)])) rfl rfl (hb hby d1_71)
  obtain ⟨T19, X19, e19, st19⟩ := getS2 X18 hx hZ hown (host := "") (Or.inl (hw _ m24)) Via.refl e18 (hS.2.2.2.2.2.2.2.2.2.2.2.2.2.2.2.2.2.2.2.2.2.2.2.2.2.2.2.1.ext O18.2) (g := (mkF m 75 #[.val (.int (5 : Int32)), .unset] [(.int (9 : Int32)), (.ref b1), (.ref b1)])) rfl (hb hby d1_75)
  obtain ⟨T20, h20, L'20, X20, e20, W20, V20, O20, K20, N20, st20⟩ := own_stR X19 hx hZ e19 V18 O18 K18 N18 (Nat.le_trans (own_old_le O0) g1) (Or.inr (Nat.le_trans (Keep.refl h0 []).1 g1)) (j := (9 : Int32)) 9 (by decide) (Nat.le_of_ble_eq_true rfl) (vs' := [(.ref w5), (.ref w14), (.ref w11), (.ref w0), .null, (.ref w8), (.ref w15), (.ref w10), (.ref w13), (.ref w9), .null, .null, .null, .null, .null, .null, .null]) rfl rfl rfl (Or.inr ⟨_, _, rfl, O'1, (Ins.self (hS.2.2.2.2.2.2.2.2.2.2.2.2.2.2.2.2.2.2.2.2.2.2.2.2.2.2.2.2.1.ext O18.2))⟩) (g := (mkF m 78 #[.val (.int (5 : Int32)), .unset] [(.ref w9), (.int (9 : Int32)), (.ref b1), (.ref b1)])) rfl rfl (hb hby d1_78)
  obtain ⟨T21, X21, e21, st21⟩ := getS2 X20 hx hZ hown (host := "") (Or.inl (hw _ m26)) Via.refl e20 (hS.2.2.2.2.2.2.2.2.2.2.2.2.2.2.2.2.2.2.2.2.2.1.ext O20.2) (g := (mkF m 82 #[.val (.int (5 : Int32)), .unset] [(.int (10 : Int32)), (.ref b1), (.ref b1)])) rfl (hb hby d1_82)
  obtain ⟨T22, h22, L'22, X22, e22, W22, V22, O22, K22, N22, st22⟩ := own_stR X21 hx hZ e21 V20 O20 K20 N20 (Nat.le_trans (own_old_le O0) g1) (Or.inr (Nat.le_trans (Keep.refl h0 []).1 g1)) (j := (10 : Int32)) 10 (by decide) (Nat.le_of_ble_eq_true rfl) (vs' := [(.ref w5), (.ref w14), (.ref w11), (.ref w0), .null, (.ref w8), (.ref w15), (.ref w10), (.ref w13), (.ref w9), (.ref w7), .null, .null, .null, .null, .null, .null]) rfl rfl rfl (Or.inr ⟨_, _, rfl, O'1, (Ins.self (hS.2.2.2.2.2.2.2.2.2.2.2.2.2.2.2.2.2.2.2.2.2.2.1.ext O20.2))⟩) (g := (mkF m 85 #[.val (.int (5 : Int32)), .unset] [(.ref w7), (.int (10 : Int32)), (.ref b1), (.ref b1)])) rfl rfl (hb hby d1_85)
  obtain ⟨T23, X23, e23, st23⟩ := getS2 X22 hx hZ hown (host := "") (Or.inl (hw _ m28)) Via.refl e22 (hS.2.2.2.2.2.2.2.2.2.2.2.2.2.2.2.2.2.2.2.2.2.2.2.2.2.2.2.2.2.2.2.2.2.2.2.2.1.ext O22.2) (g := (mkF m 89 #[.val (.int (5 : Int32)), .unset] [(.int (11 : Int32)), (.ref b1), (.ref b1)])) rfl (hb hby d1_89)
  obtain ⟨T24, h24, L'24, X24, e24, W24, V24, O24, K24, N24, st24⟩ := own_stR X23 hx hZ e23 V22 O22 K22 N22 (Nat.le_trans (own_old_le O0) g1) (Or.inr (Nat.le_trans (Keep.refl h0 []).1 g1)) (j := (11 : Int32)) 11 (by decide) (Nat.le_of_ble_eq_true rfl) (vs' := [(.ref w5), (.ref w14), (.ref w11), (.ref w0), .null, (.ref w8), (.ref w15), (.ref w10), (.ref w13), (.ref w9), (.ref w7), (.ref w12), .null, .null, .null, .null, .null]) rfl rfl rfl (Or.inr ⟨_, _, rfl, O'1, (Ins.self (hS.2.2.2.2.2.2.2.2.2.2.2.2.2.2.2.2.2.2.2.2.2.2.2.2.2.2.2.2.2.2.2.2.2.2.2.2.2.1.ext O22.2))⟩) (g := (mkF m 92 #[.val (.int (5 : Int32)), .unset] [(.ref w12), (.int (11 : Int32)), (.ref b1), (.ref b1)])) rfl rfl (hb hby d1_92)
  obtain ⟨T25, X25, e25, st25⟩ := getS2 X24 hx hZ hown (host := "") (Or.inl (hw _ m30)) Via.refl e24 (hS.2.2.2.2.2.2.2.2.2.2.2.2.2.2.2.2.2.2.1.ext O24.2) (g := (mkF m 96 #[.val (.int (5 : Int32)), .unset] [(.int (12 : Int32)), (.ref b1), (.ref b1)])) rfl (hb hby d1_96)
  obtain ⟨T26, h26, L'26, X26, e26, W26, V26, O26, K26, N26, st26⟩ := own_stR X25 hx hZ e25 V24 O24 K24 N24 (Nat.le_trans (own_old_le O0) g1) (Or.inr (Nat.le_trans (Keep.refl h0 []).1 g1)) (j := (12 : Int32)) 12 (by decide) (Nat.le_of_ble_eq_true rfl) (vs' := [(.ref w5), (.ref w14), (.ref w11), (.ref w0), .null, (.ref w8), (.ref w15), (.ref w10), (.ref w13), (.ref w9), (.ref w7), (.ref w12), (.ref w6), .null, .null, .null, .null]) rfl rfl rfl (Or.inr ⟨_, _, rfl, O'1, (Ins.self (hS.2.2.2.2.2.2.2.2.2.2.2.2.2.2.2.2.2.2.2.1.ext O24.2))⟩) (g := (mkF m 99 #[.val (.int (5 : Int32)), .unset] [(.ref w6), (.int (12 : Int32)), (.ref b1), (.ref b1)])) rfl rfl (hb hby d1_99)
  obtain ⟨T27, X27, e27, st27⟩ := getS2 X26 hx hZ hown (host := "") (Or.inl (hw _ m32)) Via.refl e26 (hS.2.2.2.2.2.2.2.2.2.2.2.2.1.ext O26.2) (g := (mkF m 103 #[.val (.int (5 : Int32)), .unset] [(.int (13 : Int32)), (.ref b1), (.ref b1)])) rfl (hb hby d1_103)
  obtain ⟨T28, h28, L'28, X28, e28, W28, V28, O28, K28, N28, st28⟩ := own_stR X27 hx hZ e27 V26 O26 K26 N26 (Nat.le_trans (own_old_le O0) g1) (Or.inr (Nat.le_trans (Keep.refl h0 []).1 g1)) (j := (13 : Int32)) 13 (by decide) (Nat.le_of_ble_eq_true rfl) (vs' := [(.ref w5), (.ref w14), (.ref w11), (.ref w0), .null, (.ref w8), (.ref w15), (.ref w10), (.ref w13), (.ref w9), (.ref w7), (.ref w12), (.ref w6), (.ref w4), .null, .null, .null]) rfl rfl rfl (Or.inr ⟨_, _, rfl, O'1, (Ins.self (hS.2.2.2.2.2.2.2.2.2.2.2.2.2.1.ext O26.2))⟩) (g := (mkF m 106 #[.val (.int (5 : Int32)), .unset] [(.ref w4), (.int (13 : Int32)), (.ref b1), (.ref b1)])) rfl rfl (hb hby d1_106)
  obtain ⟨T29, X29, e29, st29⟩ := getS2 X28 hx hZ hown (host := "") (Or.inl (hw _ m34)) Via.refl e28 (hS.2.2.2.1.ext O28.2) (g := (mkF m 110 #[.val (.int (5 : Int32)), .unset] [(.int (14 : Int32)), (.ref b1), (.ref b1)])) rfl (hb hby d1_110)
  obtain ⟨T30, h30, L'30, X30, e30, W30, V30, O30, K30, N30, st30⟩ := own_stR X29 hx hZ e29 V28 O28 K28 N28 (Nat.le_trans (own_old_le O0) g1) (Or.inr (Nat.le_trans (Keep.refl h0 []).1 g1)) (j := (14 : Int32)) 14 (by decide) (Nat.le_of_ble_eq_true rfl) (vs' := [(.ref w5), (.ref w14), (.ref w11), (.ref w0), .null, (.ref w8), (.ref w15), (.ref w10), (.ref w13), (.ref w9), (.ref w7), (.ref w12), (.ref w6), (.ref w4), (.ref w1), .null, .null]) rfl rfl rfl (Or.inr ⟨_, _, rfl, O'1, (Ins.self (hS.2.2.2.2.1.ext O28.2))⟩) (g := (mkF m 113 #[.val (.int (5 : Int32)), .unset] [(.ref w1), (.int (14 : Int32)), (.ref b1), (.ref b1)])) rfl rfl (hb hby d1_113)
  obtain ⟨T31, X31, e31, st31⟩ := getS2 X30 hx hZ hown (host := "") (Or.inl (hw _ m36)) Via.refl e30 (hS.2.2.2.2.2.2.1.ext O30.2) (g := (mkF m 117 #[.val (.int (5 : Int32)), .unset] [(.int (15 : Int32)), (.ref b1), (.ref b1)])) rfl (hb hby d1_117)
  obtain ⟨T32, h32, L'32, X32, e32, W32, V32, O32, K32, N32, st32⟩ := own_stR X31 hx hZ e31 V30 O30 K30 N30 (Nat.le_trans (own_old_le O0) g1) (Or.inr (Nat.le_trans (Keep.refl h0 []).1 g1)) (j := (15 : Int32)) 15 (by decide) (Nat.le_of_ble_eq_true rfl) (vs' := [(.ref w5), (.ref w14), (.ref w11), (.ref w0), .null, (.ref w8), (.ref w15), (.ref w10), (.ref w13), (.ref w9), (.ref w7), (.ref w12), (.ref w6), (.ref w4), (.ref w1), (.ref w2), .null]) rfl rfl rfl (Or.inr ⟨_, _, rfl, O'1, (Ins.self (hS.2.2.2.2.2.2.2.1.ext O30.2))⟩) (g := (mkF m 120 #[.val (.int (5 : Int32)), .unset] [(.ref w2), (.int (15 : Int32)), (.ref b1), (.ref b1)])) rfl rfl (hb hby d1_120)
  obtain ⟨T33, X33, e33, st33⟩ := getS2 X32 hx hZ hown (host := "") (Or.inl (hw _ m38)) Via.refl e32 (hS.2.2.2.2.2.2.2.2.2.1.ext O32.2) (g := (mkF m 124 #[.val (.int (5 : Int32)), .unset] [(.int (16 : Int32)), (.ref b1), (.ref b1)])) rfl (hb hby d1_124)
  obtain ⟨T34, h34, L'34, X34, e34, W34, V34, O34, K34, N34, st34⟩ := own_stR X33 hx hZ e33 V32 O32 K32 N32 (Nat.le_trans (own_old_le O0) g1) (Or.inr (Nat.le_trans (Keep.refl h0 []).1 g1)) (j := (16 : Int32)) 16 (by decide) (Nat.le_of_ble_eq_true rfl) (vs' := [(.ref w5), (.ref w14), (.ref w11), (.ref w0), .null, (.ref w8), (.ref w15), (.ref w10), (.ref w13), (.ref w9), (.ref w7), (.ref w12), (.ref w6), (.ref w4), (.ref w1), (.ref w2), (.ref w3)]) rfl rfl rfl (Or.inr ⟨_, _, rfl, O'1, (Ins.self (hS.2.2.2.2.2.2.2.2.2.2.1.ext O32.2))⟩) (g := (mkF m 127 #[.val (.int (5 : Int32)), .unset] [(.ref w3), (.int (16 : Int32)), (.ref b1), (.ref b1)])) rfl rfl (hb hby d1_127)
  obtain ⟨fs, hr, hrun, hended, hW, hsame⟩ := X34.leave (v := some (.ref w8)) (fun h => by rw [Bd.returns] at h; cases h)
  refine ⟨_, _, pre0 _ ?_, hrun, hended, _, _, rfl, ?_, ⟨_, rfl⟩, hW, hsame.mono (by decide) (by decide)⟩
  · show Steps p.tables e below (s₁.setTop (mkF m 0 #[.val (.int (5 : Int32)), .unset] [])) _
    refine XS.iloadN X0.here hx rfl (hb hby d1_0) rfl ?_
    refine XS.ifNo X0.here hx rfl (hb hby d1_1) rfl ((if0 _ _).trans (flt (by decide : ¬ ((5 : Int32) < (0 : Int32)))).1) ?_
    refine XS.iloadN X0.here hx rfl (hb hby d1_4) rfl ?_
    refine XS.bipush X0.here hx rfl (hb hby d1_5) ?_
    show Steps p.tables e below (s₁.setTop (mkF m 7 #[.val (.int (5 : Int32)), .unset] [(.int (16 : Int32)), (.int (5 : Int32))])) _
    refine XS.icmpYes X0.here hx rfl (pc0 := 7) (pc' := 12) rfl (hb hby d1_7) rfl (flt (by decide : ¬ ((16 : Int32) < (5 : Int32)))).2.2.2 (by decide) (by decide) ?_
    refine XS.bipush X0.here hx rfl (hb hby d1_12) ?_
    refine st1 _ ?_
    refine XS.dup X1.here hx rfl (hb hby d1_17) rfl rfl ?_
    show Steps p.tables e below (T1.setTop (mkF m 18 #[.val (.int (5 : Int32)), .unset] [(.ref b1), (.ref b1)])) _
    refine XS.iconst X1.here hx rfl (hb hby d1_18) ?_
    refine st2 _ ?_
    refine st3 _ ?_
    refine XS.dup X3.here hx rfl (hb hby d1_23) rfl rfl ?_
    show Steps p.tables e below (T3.setTop (mkF m 24 #[.val (.int (5 : Int32)), .unset] [(.ref b1), (.ref b1)])) _
    refine XS.iconst X3.here hx rfl (hb hby d1_24) ?_
    refine st4 _ ?_
    refine st5 _ ?_
    refine XS.dup X5.here hx rfl (hb hby d1_29) rfl rfl ?_
    show Steps p.tables e below (T5.setTop (mkF m 30 #[.val (.int (5 : Int32)), .unset] [(.ref b1), (.ref b1)])) _
    refine XS.iconst X5.here hx rfl (hb hby d1_30) ?_
    refine st6 _ ?_
    refine st7 _ ?_
    refine XS.dup X7.here hx rfl (hb hby d1_35) rfl rfl ?_
    show Steps p.tables e below (T7.setTop (mkF m 36 #[.val (.int (5 : Int32)), .unset] [(.ref b1), (.ref b1)])) _
    refine XS.iconst X7.here hx rfl (hb hby d1_36) ?_
    refine st8 _ ?_
    refine st9 _ ?_
    refine XS.dup X9.here hx rfl (hb hby d1_41) rfl rfl ?_
    show Steps p.tables e below (T9.setTop (mkF m 42 #[.val (.int (5 : Int32)), .unset] [(.ref b1), (.ref b1)])) _
    refine XS.iconst X9.here hx rfl (hb hby d1_42) ?_
    refine XS.aconstNull X9.here hx rfl (hb hby d1_43) ?_
    refine st10 _ ?_
    refine XS.dup X10.here hx rfl (hb hby d1_45) rfl rfl ?_
    show Steps p.tables e below (T10.setTop (mkF m 46 #[.val (.int (5 : Int32)), .unset] [(.ref b1), (.ref b1)])) _
    refine XS.iconst X10.here hx rfl (hb hby d1_46) ?_
    refine st11 _ ?_
    refine st12 _ ?_
    refine XS.dup X12.here hx rfl (hb hby d1_51) rfl rfl ?_
    show Steps p.tables e below (T12.setTop (mkF m 52 #[.val (.int (5 : Int32)), .unset] [(.ref b1), (.ref b1)])) _
    refine XS.bipush X12.here hx rfl (hb hby d1_52) ?_
    refine st13 _ ?_
    refine st14 _ ?_
    refine XS.dup X14.here hx rfl (hb hby d1_58) rfl rfl ?_
    show Steps p.tables e below (T14.setTop (mkF m 59 #[.val (.int (5 : Int32)), .unset] [(.ref b1), (.ref b1)])) _
    refine XS.bipush X14.here hx rfl (hb hby d1_59) ?_
    refine st15 _ ?_
    refine st16 _ ?_
    refine XS.dup X16.here hx rfl (hb hby d1_65) rfl rfl ?_
    show Steps p.tables e below (T16.setTop (mkF m 66 #[.val (.int (5 : Int32)), .unset] [(.ref b1), (.ref b1)])) _
    refine XS.bipush X16.here hx rfl (hb hby d1_66) ?_
    refine st17 _ ?_
    refine st18 _ ?_
    refine XS.dup X18.here hx rfl (hb hby d1_72) rfl rfl ?_
    show Steps p.tables e below (T18.setTop (mkF m 73 #[.val (.int (5 : Int32)), .unset] [(.ref b1), (.ref b1)])) _
    refine XS.bipush X18.here hx rfl (hb hby d1_73) ?_
    refine st19 _ ?_
    refine st20 _ ?_
    refine XS.dup X20.here hx rfl (hb hby d1_79) rfl rfl ?_
    show Steps p.tables e below (T20.setTop (mkF m 80 #[.val (.int (5 : Int32)), .unset] [(.ref b1), (.ref b1)])) _
    refine XS.bipush X20.here hx rfl (hb hby d1_80) ?_
    refine st21 _ ?_
    refine st22 _ ?_
    refine XS.dup X22.here hx rfl (hb hby d1_86) rfl rfl ?_
    show Steps p.tables e below (T22.setTop (mkF m 87 #[.val (.int (5 : Int32)), .unset] [(.ref b1), (.ref b1)])) _
    refine XS.bipush X22.here hx rfl (hb hby d1_87) ?_
    refine st23 _ ?_
    refine st24 _ ?_
    refine XS.dup X24.here hx rfl (hb hby d1_93) rfl rfl ?_
    show Steps p.tables e below (T24.setTop (mkF m 94 #[.val (.int (5 : Int32)), .unset] [(.ref b1), (.ref b1)])) _
    refine XS.bipush X24.here hx rfl (hb hby d1_94) ?_
    refine st25 _ ?_
    refine st26 _ ?_
    refine XS.dup X26.here hx rfl (hb hby d1_100) rfl rfl ?_
    show Steps p.tables e below (T26.setTop (mkF m 101 #[.val (.int (5 : Int32)), .unset] [(.ref b1), (.ref b1)])) _
    refine XS.bipush X26.here hx rfl (hb hby d1_101) ?_
    refine st27 _ ?_
    refine st28 _ ?_
    refine XS.dup X28.here hx rfl (hb hby d1_107) rfl rfl ?_
    show Steps p.tables e below (T28.setTop (mkF m 108 #[.val (.int (5 : Int32)), .unset] [(.ref b1), (.ref b1)])) _
    refine XS.bipush X28.here hx rfl (hb hby d1_108) ?_
    refine st29 _ ?_
    refine st30 _ ?_
    refine XS.dup X30.here hx rfl (hb hby d1_114) rfl rfl ?_
    show Steps p.tables e below (T30.setTop (mkF m 115 #[.val (.int (5 : Int32)), .unset] [(.ref b1), (.ref b1)])) _
    refine XS.bipush X30.here hx rfl (hb hby d1_115) ?_
    refine st31 _ ?_
    refine st32 _ ?_
    refine XS.dup X32.here hx rfl (hb hby d1_121) rfl rfl ?_
    show Steps p.tables e below (T32.setTop (mkF m 122 #[.val (.int (5 : Int32)), .unset] [(.ref b1), (.ref b1)])) _
    refine XS.bipush X32.here hx rfl (hb hby d1_122) ?_
    refine st33 _ ?_
    refine st34 _ ?_
    refine XS.astoreN X34.here hx rfl (hb hby d1_128) rfl rfl (l' := #[.val (.int (5 : Int32)), .val (.ref b1)]) rfl ?_
    show Steps p.tables e below (T34.setTop (mkF m 129 #[.val (.int (5 : Int32)), .val (.ref b1)] [])) _
    refine XS.aloadN X34.here hx rfl (hb hby d1_129) rfl rfl ?_
    refine XS.iloadN X34.here hx rfl (hb hby d1_130) rfl ?_
    refine own_aaload X34 hx hZ e34 V34 (j := (5 : Int32)) (by decide) (v := (.ref w8)) rfl rfl (g := (mkF m 131 #[.val (.int (5 : Int32)), .val (.ref b1)] [(.int (5 : Int32)), (.ref b1)])) rfl rfl (hb hby d1_131) ?_
    exact retOut X34 hx Bd.returns rfl (Or.inr (Or.inr (Or.inr (Or.inr ⟨rfl, rfl, rfl⟩)))) (hb hby d1_132) hr
  · show Qrm17 Z w0 w1 w2 w3 w4 w5 w6 w7 w8 w9 w10 w11 w12 w13 w14 w15 w16 kw16 h0 n0 _ T34.heap _
    rw [e34]
    exact ⟨rfl, N34, K34⟩
def Qrm18 (Z : State) (w0 : Addr) (w1 : Addr) (w2 : Addr) (w3 : Addr) (w4 : Addr) (w5 : Addr) (w6 : Addr) (w7 : Addr) (w8 : Addr) (w9 : Addr) (w10 : Addr) (w11 : Addr) (w12 : Addr) (w13 : Addr) (w14 : Addr) (w15 : Addr) (w16 : Addr) (kw16 : ClassId) (h0 : Heap) (n0 : Nat) (v : Option Value) (h : Heap) (L : List Loc) : Prop := v = some (.ref w8) ∧ Fr n0 L ∧ h = h0
set_option maxRecDepth 65536 in
set_option maxHeartbeats 40000000 in
theorem rm18 (l : Launch) (Z : State) (a0 : Array Value) (hw : ∀ d ∈ tables_1, d.before a0 Z = true) (w0 : Addr) (w1 : Addr) (w2 : Addr) (w3 : Addr) (w4 : Addr) (w5 : Addr) (w6 : Addr) (w7 : Addr) (w8 : Addr) (w9 : Addr) (w10 : Addr) (w11 : Addr) (w12 : Addr) (w13 : Addr) (w14 : Addr) (w15 : Addr) (w16 : Addr) (kw16 : ClassId) (hS : SF Z w0 w1 w2 w3 w4 w5 w6 w7 w8 w9 w10 w11 w12 w13 w14 w15 w16 kw16) (ws : List Jvm.Cond) (h0 : Heap) (n0 : Nat) (O0 : Old Z n0 h0) :
    MetFree l (⟨z0, "of", z2⟩ : MethodName) (head1 (Jvm.Cond.code (⟨z0, "of", z2⟩ : MethodName) prog_90_method_5_code 1 (some (.object z0)) :: ws) ({ frames := 0, cells := 0, slots := 0, locals := 0 } : Room)) (fun a U => a = #[(.int (5 : Int32))] ∧ Z.Warmed39 U.vm ∧ U.heap = h0) (fun _ _ _ _ _ => True) (fun _ U o U' => ∃ v L, o = .returned v ∧ Qrm18 Z w0 w1 w2 w3 w4 w5 w6 w7 w8 w9 w10 w11 w12 w13 w14 w15 w16 kw16 h0 n0 v U'.heap L ∧ FrameEnd U o U' L ({ frames := 0, cells := 0, slots := 0, locals := 0 } : Room).cells ({ frames := 0, cells := 0, slots := 0, locals := 0 } : Room).slots) := by
  refine MetFree.of_bodySF (plainFor_of_name pn18) hisR ?_
  intro p e s m args below meth c s₁ Bd hml0 hP hK
  obtain ⟨rfl, hZ, hh⟩ := hP
  have hx := Bd.exec
  have hby := Bd.bytes
  have hml : c.maxLocals = 1 := hml0
  have hown : s.vm.findClass z0 = some m.cls := findClass_of_methodNamed Bd.named
  have hnm := (name_of_methodNamed Bd.named Bd.method).1
  have X0 : Stand p l e ({ frames := 0, cells := 0, slots := 0, locals := 0 } : Room) s m #[(.int (5 : Int32))] below meth c s₁ [] 0 0 := Stand.of_body Bd
  have e0 : s₁.heap = h0 := by rw [← hh, Bd.state]; rfl
  have N0 := Fr.nil n0
  have pre0 : ∀ t, Steps p.tables e below (s₁.setTop (mkF m 0 #[.val (.int (5 : Int32))] [])) t → Steps p.tables e below (s₁.setTop (entryFrame m #[(.int (5 : Int32))] 1)) t := fun t k => castTop (ef17 m (5 : Int32)) k
  obtain ⟨T1, X1, e1, st1⟩ := getS2 X0 hx hZ hown (host := "") (Or.inl (hw _ m43)) Via.refl e0 (hS.2.2.2.2.2.2.2.2.2.2.2.2.2.2.2.2.2.2.2.2.2.2.2.2.2.2.2.2.2.2.2.2.2.2.2.2.2.2.2.2.2.2.2.2.2.2.2.2.1.ext O0.2) (g := (mkF m 5 #[.val (.int (5 : Int32))] [(.int (5 : Int32))])) rfl (hb hby d2_5)
  obtain ⟨T2, X2, e2, st2⟩ := getS2 X1 hx hZ hown (host := "") (Or.inl (hw _ m43)) Via.refl e1 (hS.2.2.2.2.2.2.2.2.2.2.2.2.2.2.2.2.2.2.2.2.2.2.2.2.2.2.2.2.2.2.2.2.2.2.2.2.2.2.2.2.2.2.2.2.2.2.2.2.1.ext O0.2) (g := (mkF m 12 #[.val (.int (5 : Int32))] [])) rfl (hb hby d2_12)
  obtain ⟨fs, hr, hrun, hended, hW, hsame⟩ := X2.leave (v := some (.ref w8)) (fun h => by rw [Bd.returns] at h; cases h)
  refine ⟨_, _, pre0 _ ?_, hrun, hended, _, _, rfl, ?_, ⟨_, rfl⟩, hW, hsame.mono (by decide) (by decide)⟩
  · show Steps p.tables e below (s₁.setTop (mkF m 0 #[.val (.int (5 : Int32))] [])) _
    refine XS.iloadN X0.here hx rfl (hb hby d2_0) rfl ?_
    refine XS.ifNo X0.here hx rfl (hb hby d2_1) rfl ((if0 _ _).trans (flt (by decide : ¬ ((5 : Int32) < (0 : Int32)))).1) ?_
    refine XS.iloadN X0.here hx rfl (hb hby d2_4) rfl ?_
    refine st1 _ ?_
    show Steps p.tables e below (T1.setTop (mkF m 8 #[.val (.int (5 : Int32))] [(.ref w16), (.int (5 : Int32))])) _
    refine own_alen X1 hx hZ e1 (hS.2.2.2.2.2.2.2.2.2.2.2.2.2.2.2.2.2.2.2.2.2.2.2.2.2.2.2.2.2.2.2.2.2.2.2.2.2.2.2.2.2.2.2.2.2.2.2.2.2.ext O0.2) (g := (mkF m 8 #[.val (.int (5 : Int32))] [(.ref w16), (.int (5 : Int32))])) rfl rfl (hb hby d2_8) ?_
    refine XS.icmpNo X1.here hx rfl (hb hby d2_9) rfl (tlt (by decide : (5 : Int32) < (17 : Int32))).2.1 ?_
    refine st2 _ ?_
    refine XS.iloadN X2.here hx rfl (hb hby d2_15) rfl ?_
    show Steps p.tables e below (T2.setTop (mkF m 16 #[.val (.int (5 : Int32))] [(.int (5 : Int32)), (.ref w16)])) _
    refine own_aaload X2 hx hZ e2 (hS.2.2.2.2.2.2.2.2.2.2.2.2.2.2.2.2.2.2.2.2.2.2.2.2.2.2.2.2.2.2.2.2.2.2.2.2.2.2.2.2.2.2.2.2.2.2.2.2.2.ext O0.2) (j := (5 : Int32)) (by decide) (v := (.ref w8)) rfl rfl (g := (mkF m 16 #[.val (.int (5 : Int32))] [(.int (5 : Int32)), (.ref w16)])) rfl rfl (hb hby d2_16) ?_
    refine XS.goto X2.here hx rfl (pc0 := 17) (pc' := 21) rfl (hb hby d2_17) (by decide) (by decide) ?_
    exact retOut X2 hx Bd.returns rfl (Or.inr (Or.inr (Or.inr (Or.inr ⟨rfl, rfl, rfl⟩)))) (hb hby d2_21) hr
  · show Qrm18 Z w0 w1 w2 w3 w4 w5 w6 w7 w8 w9 w10 w11 w12 w13 w14 w15 w16 kw16 h0 n0 _ T2.heap _
    rw [e2]
    exact ⟨rfl, N0, rfl⟩
def Qrm19 (Z : State) (w0 : Addr) (w1 : Addr) (w2 : Addr) (w3 : Addr) (w4 : Addr) (w5 : Addr) (w6 : Addr) (w7 : Addr) (w8 : Addr) (w9 : Addr) (w10 : Addr) (w11 : Addr) (w12 : Addr) (w13 : Addr) (w14 : Addr) (w15 : Addr) (w16 : Addr) (kw16 : ClassId) (h0 : Heap) (n0 : Nat) (v : Option Value) (h : Heap) (L : List Loc) : Prop := v = some (.int (5 : Int32)) ∧ Fr n0 L ∧ h = h0
set_option maxRecDepth 65536 in
set_option maxHeartbeats 40000000 in
theorem rm19 (l : Launch) (Z : State) (a0 : Array Value) (hw : ∀ d ∈ tables_1, d.before a0 Z = true) (w0 : Addr) (w1 : Addr) (w2 : Addr) (w3 : Addr) (w4 : Addr) (w5 : Addr) (w6 : Addr) (w7 : Addr) (w8 : Addr) (w9 : Addr) (w10 : Addr) (w11 : Addr) (w12 : Addr) (w13 : Addr) (w14 : Addr) (w15 : Addr) (w16 : Addr) (kw16 : ClassId) (hS : SF Z w0 w1 w2 w3 w4 w5 w6 w7 w8 w9 w10 w11 w12 w13 w14 w15 w16 kw16) (ws : List Jvm.Cond) (h0 : Heap) (n0 : Nat) (O0 : Old Z n0 h0) :
    MetFree l (⟨z0, "code", "()I"⟩ : MethodName) (head1 (Jvm.Cond.code (⟨z0, "code", "()I"⟩ : MethodName) prog_90_method_4_code 1 (some .int) :: ws) ({ frames := 0, cells := 0, slots := 0, locals := 0 } : Room)) (fun a U => a = #[(.ref w8)] ∧ Z.Warmed39 U.vm ∧ U.heap = h0) (fun _ _ _ _ _ => True) (fun _ U o U' => ∃ v L, o = .returned v ∧ Qrm19 Z w0 w1 w2 w3 w4 w5 w6 w7 w8 w9 w10 w11 w12 w13 w14 w15 w16 kw16 h0 n0 v U'.heap L ∧ FrameEnd U o U' L ({ frames := 0, cells := 0, slots := 0, locals := 0 } : Room).cells ({ frames := 0, cells := 0, slots := 0, locals := 0 } : Room).slots) := by
  refine MetFree.of_bodySF (plainFor_of_name pn18) hisR ?_
  intro p e s m args below meth c s₁ Bd hml0 hP hK
  obtain ⟨rfl, hZ, hh⟩ := hP
  have hx := Bd.exec
  have hby := Bd.bytes
  have hml : c.maxLocals = 1 := hml0
  have hown : s.vm.findClass z0 = some m.cls := findClass_of_methodNamed Bd.named
  have hnm := (name_of_methodNamed Bd.named Bd.method).1
  have X0 : Stand p l e ({ frames := 0, cells := 0, slots := 0, locals := 0 } : Room) s m #[(.ref w8)] below meth c s₁ [] 0 0 := Stand.of_body Bd
  have e0 : s₁.heap = h0 := by rw [← hh, Bd.state]; rfl
  have N0 := Fr.nil n0
  have pre0 : ∀ t, Steps p.tables e below (s₁.setTop (mkF m 0 #[.val (.ref w8)] [])) t → Steps p.tables e below (s₁.setTop (entryFrame m #[(.ref w8)] 1)) t := fun t k => castTop (ef135 m w8) k
  obtain ⟨T1, X1, e1, st1⟩ := getF X0 hx hZ hown (host := "") (Or.inl (hw _ m50)) Via.refl e0 (hS.2.2.2.2.2.2.2.2.2.2.2.2.2.2.2.2.2.2.2.2.2.2.2.2.2.2.1.ext O0.2) (g := (mkF m 1 #[.val (.ref w8)] [(.ref w8)])) rfl rfl (hb hby d3_1)
  obtain ⟨fs, hr, hrun, hended, hW, hsame⟩ := X1.leave (v := some (.int (5 : Int32))) (fun h => by rw [Bd.returns] at h; cases h)
  refine ⟨_, _, pre0 _ ?_, hrun, hended, _, _, rfl, ?_, ⟨_, rfl⟩, hW, hsame.mono (by decide) (by decide)⟩
  · show Steps p.tables e below (s₁.setTop (mkF m 0 #[.val (.ref w8)] [])) _
    refine XS.aloadN X0.here hx rfl (hb hby d3_0) rfl rfl ?_
    refine st1 _ ?_
    exact retOut X1 hx Bd.returns rfl (Or.inl ⟨rfl, Or.inl rfl, _, rfl⟩) (hb hby d3_4) hr
  · show Qrm19 Z w0 w1 w2 w3 w4 w5 w6 w7 w8 w9 w10 w11 w12 w13 w14 w15 w16 kw16 h0 n0 _ T1.heap _
    rw [e1]
    exact ⟨rfl, N0, rfl⟩
def Qrm20 (Z : State) (w0 : Addr) (w1 : Addr) (w2 : Addr) (w3 : Addr) (w4 : Addr) (w5 : Addr) (w6 : Addr) (w7 : Addr) (w8 : Addr) (w9 : Addr) (w10 : Addr) (w11 : Addr) (w12 : Addr) (w13 : Addr) (w14 : Addr) (w15 : Addr) (w16 : Addr) (kw16 : ClassId) (h0 : Heap) (n0 : Nat) (v : Option Value) (h : Heap) (L : List Loc) : Prop := v = some (.ref w15) ∧ Fr n0 L ∧ Keep h0 h []
set_option maxRecDepth 65536 in
set_option maxHeartbeats 40000000 in
theorem rm20 (l : Launch) (Z : State) (a0 : Array Value) (hw : ∀ d ∈ tables_1, d.before a0 Z = true) (w0 : Addr) (w1 : Addr) (w2 : Addr) (w3 : Addr) (w4 : Addr) (w5 : Addr) (w6 : Addr) (w7 : Addr) (w8 : Addr) (w9 : Addr) (w10 : Addr) (w11 : Addr) (w12 : Addr) (w13 : Addr) (w14 : Addr) (w15 : Addr) (w16 : Addr) (kw16 : ClassId) (hS : SF Z w0 w1 w2 w3 w4 w5 w6 w7 w8 w9 w10 w11 w12 w13 w14 w15 w16 kw16) (ws : List Jvm.Cond) (h0 : Heap) (n0 : Nat) (O0 : Old Z n0 h0) :
    MetFree l (⟨z1, "expected", z2⟩ : MethodName) (head1 (Jvm.Cond.code (⟨z1, "expected", z2⟩ : MethodName) method_3_code 2 (some (.object z0)) :: ws) ({ frames := 0, cells := 1, slots := 17, locals := 0 } : Room)) (fun a U => a = #[(.int (6 : Int32))] ∧ Z.Warmed39 U.vm ∧ U.heap = h0) (fun _ _ _ _ _ => True) (fun _ U o U' => ∃ v L, o = .returned v ∧ Qrm20 Z w0 w1 w2 w3 w4 w5 w6 w7 w8 w9 w10 w11 w12 w13 w14 w15 w16 kw16 h0 n0 v U'.heap L ∧ FrameEnd U o U' L ({ frames := 0, cells := 1, slots := 17, locals := 0 } : Room).cells ({ frames := 0, cells := 1, slots := 17, locals := 0 } : Room).slots) := by
  refine MetFree.of_bodySF (plainFor_of_name pn7) hisR ?_
  intro p e s m args below meth c s₁ Bd hml0 hP hK
  obtain ⟨rfl, hZ, hh⟩ := hP
  have hx := Bd.exec
  have hby := Bd.bytes
  have hml : c.maxLocals = 2 := hml0
  have hown : s.vm.findClass z1 = some m.cls := findClass_of_methodNamed Bd.named
  have hnm := (name_of_methodNamed Bd.named Bd.method).1
  have X0 : Stand p l e ({ frames := 0, cells := 1, slots := 17, locals := 0 } : Room) s m #[(.int (6 : Int32))] below meth c s₁ [] 0 0 := Stand.of_body Bd
  have e0 : s₁.heap = h0 := by rw [← hh, Bd.state]; rfl
  have N0 := Fr.nil n0
  have pre0 : ∀ t, Steps p.tables e below (s₁.setTop (mkF m 0 #[.val (.int (6 : Int32)), .unset] [])) t → Steps p.tables e below (s₁.setTop (entryFrame m #[(.int (6 : Int32))] 2)) t := fun t k => castTop (ef6 m (6 : Int32)) k
  obtain ⟨T1, h1, k1, b1, X1, e1, E1, V1, O'1, g1, O1, K1, st1⟩ := own_newR X0 hx hZ (vs := [.null, .null, .null, .null, .null, .null, .null, .null, .null, .null, .null, .null, .null, .null, .null, .null, .null]) (cap := 17) rfl hown (hw _ m4) (hw _ m5) e0 O0 (Keep.refl h0 []) (g := (mkF m 14 #[.val (.int (6 : Int32)), .unset] [(.int (17 : Int32))])) rfl (hb hby d1_14) rfl (by decide) (by decide) (by decide) (by decide) (by decide)
  obtain ⟨T2, X2, e2, st2⟩ := getS2 X1 hx hZ hown (host := "") (Or.inl (hw _ m6)) Via.refl e1 (hS.2.2.2.2.2.2.2.2.2.2.2.2.2.2.2.1.ext O1.2) (g := (mkF m 19 #[.val (.int (6 : Int32)), .unset] [(.int (0 : Int32)), (.ref b1), (.ref b1)])) rfl (hb hby d1_19)
  obtain ⟨T3, h3, L'3, X3, e3, W3, V3, O3, K3, N3, st3⟩ := own_stR X2 hx hZ e2 V1 O1 K1 N0 (Nat.le_trans (own_old_le O0) g1) (Or.inr (Nat.le_trans (Keep.refl h0 []).1 g1)) (j := (0 : Int32)) 0 (by decide) (Nat.le_of_ble_eq_true rfl) (vs' := [(.ref w5), .null, .null, .null, .null, .null, .null, .null, .null, .null, .null, .null, .null, .null, .null, .null, .null]) rfl rfl rfl (Or.inr ⟨_, _, rfl, O'1, (Ins.self (hS.2.2.2.2.2.2.2.2.2.2.2.2.2.2.2.2.1.ext O1.2))⟩) (g := (mkF m 22 #[.val (.int (6 : Int32)), .unset] [(.ref w5), (.int (0 : Int32)), (.ref b1), (.ref b1)])) rfl rfl (hb hby d1_22)
  obtain ⟨T4, X4, e4, st4⟩ := getS2 X3 hx hZ hown (host := "") (Or.inl (hw _ m10)) Via.refl e3 (hS.2.2.2.2.2.2.2.2.2.2.2.2.2.2.2.2.2.2.2.2.2.2.2.2.2.2.2.2.2.2.2.2.2.2.2.2.2.2.2.2.2.2.1.ext O3.2) (g := (mkF m 25 #[.val (.int (6 : Int32)), .unset] [(.int (1 : Int32)), (.ref b1), (.ref b1)])) rfl (hb hby d1_25)
  obtain ⟨T5, h5, L'5, X5, e5, W5, V5, O5, K5, N5, st5⟩ := own_stR X4 hx hZ e4 V3 O3 K3 N3 (Nat.le_trans (own_old_le O0) g1) (Or.inr (Nat.le_trans (Keep.refl h0 []).1 g1)) (j := (1 : Int32)) 1 (by decide) (Nat.le_of_ble_eq_true rfl) (vs' := [(.ref w5), (.ref w14), .null, .null, .null, .null, .null, .null, .null, .null, .null, .null, .null, .null, .null, .null, .null]) rfl rfl rfl (Or.inr ⟨_, _, rfl, O'1, (Ins.self (hS.2.2.2.2.2.2.2.2.2.2.2.2.2.2.2.2.2.2.2.2.2.2.2.2.2.2.2.2.2.2.2.2.2.2.2.2.2.2.2.2.2.2.2.1.ext O3.2))⟩) (g := (mkF m 28 #[.val (.int (6 : Int32)), .unset] [(.ref w14), (.int (1 : Int32)), (.ref b1), (.ref b1)])) rfl rfl (hb hby d1_28)
  obtain ⟨T6, X6, e6, st6⟩ := getS2 X5 hx hZ hown (host := "") (Or.inl (hw _ m12)) Via.refl e5 (hS.2.2.2.2.2.2.2.2.2.2.2.2.2.2.2.2.2.2.2.2.2.2.2.2.2.2.2.2.2.2.2.2.2.1.ext O5.2) (g := (mkF m 31 #[.val (.int (6 : Int32)), .unset] [(.int (2 : Int32)), (.ref b1), (.ref b1)])) rfl (hb hby d1_31)
  obtain ⟨T7, h7, L'7, X7, e7, W7, V7, O7, K7, N7, st7⟩ := own_stR X6 hx hZ e6 V5 O5 K5 N5 (Nat.le_trans (own_old_le O0) g1) (Or.inr (Nat.le_trans (Keep.refl h0 []).1 g1)) (j := (2 : Int32)) 2 (by decide) (Nat.le_of_ble_eq_true rfl) (vs' := [(.ref w5), (.ref w14), (.ref w11), .null, .null, .null, .null, .null, .null, .null, .null, .null, .null, .null, .null, .null, .null]) rfl rfl rfl (Or.inr ⟨_, _, rfl, O'1, (Ins.self (hS.2.2.2.2.2.2.2.2.2.2.2.2.2.2.2.2.2.2.2.2.2.2.2.2.2.2.2.2.2.2.2.2.2.2.1.ext O5.2))⟩) (g := (mkF m 34 #[.val (.int (6 : Int32)), .unset] [(.ref w11), (.int (2 : Int32)), (.ref b1), (.ref b1)])) rfl rfl (hb hby d1_34)
  obtain ⟨T8, X8, e8, st8⟩ := getS2 X7 hx hZ hown (host := "") (Or.inl (hw _ m14)) Via.refl e7 (hS.1.ext O7.2) (g := (mkF m 37 #[.val (.int (6 : Int32)), .unset] [(.int (3 : Int32)), (.ref b1), (.ref b1)])) rfl (hb hby d1_37)
  obtain ⟨T9, h9, L'9, X9, e9, W9, V9, O9, K9, N9, st9⟩ := own_stR X8 hx hZ e8 V7 O7 K7 N7 (Nat.le_trans (own_old_le O0) g1) (Or.inr (Nat.le_trans (Keep.refl h0 []).1 g1)) (j := (3 : Int32)) 3 (by decide) (Nat.le_of_ble_eq_true rfl) (vs' := [(.ref w5), (.ref w14), (.ref w11), (.ref w0), .null, .null, .null, .null, .null, .null, .null, .null, .null, .null, .null, .null, .null]) rfl rfl rfl (Or.inr ⟨_, _, rfl, O'1, (Ins.self (hS.2.1.ext O7.2))⟩) (g := (mkF m 40 #[.val (.int (6 : Int32)), .unset] [(.ref w0), (.int (3 : Int32)), (.ref b1), (.ref b1)])) rfl rfl (hb hby d1_40)
  obtain ⟨T10, h10, L'10, X10, e10, W10, V10, O10, K10, N10, st10⟩ := own_stR X9 hx hZ e9 V9 O9 K9 N9 (Nat.le_trans (own_old_le O0) g1) (Or.inr (Nat.le_trans (Keep.refl h0 []).1 g1)) (j := (4 : Int32)) 4 (by decide) (Nat.le_of_ble_eq_true rfl) (vs' := [(.ref w5), (.ref w14), (.ref w11), (.ref w0), .null, .null, .null, .null, .null, .null, .null, .null, .null, .null, .null, .null, .null]) rfl rfl rfl (Or.inl rfl) (g := (mkF m 44 #[.val (.int (6 : Int32)), .unset] [.null, (.int (4 : Int32)), (.ref b1), (.ref b1)])) rfl rfl (hb hby d1_44)
  obtain ⟨T11, X11, e11, st11⟩ := getS2 X10 hx hZ hown (host := "") (Or.inl (hw _ m16)) Via.refl e10 (hS.2.2.2.2.2.2.2.2.2.2.2.2.2.2.2.2.2.2.2.2.2.2.2.2.1.ext O10.2) (g := (mkF m 47 #[.val (.int (6 : Int32)), .unset] [(.int (5 : Int32)), (.ref b1), (.ref b1)])) rfl (hb hby d1_47)
  obtain ⟨T12, h12, L'12, X12, e12, W12, V12, O12, K12, N12, st12⟩ := own_stR X11 hx hZ e11 V10 O10 K10 N10 (Nat.le_trans (own_old_le O0) g1) (Or.inr (Nat.le_trans (Keep.refl h0 []).1 g1)) (j := (5 : Int32)) 5 (by decide) (Nat.le_of_ble_eq_true rfl) (vs' := [(.ref w5), (.ref w14), (.ref w11), (.ref w0), .null, (.ref w8), .null, .null, .null, .null, .null, .null, .null, .null, .null, .null, .null]) rfl rfl rfl (Or.inr ⟨_, _, rfl, O'1, (Ins.self (hS.2.2.2.2.2.2.2.2.2.2.2.2.2.2.2.2.2.2.2.2.2.2.2.2.2.1.ext O10.2))⟩) (g := (mkF m 50 #[.val (.int (6 : Int32)), .unset] [(.ref w8), (.int (5 : Int32)), (.ref b1), (.ref b1)])) rfl rfl (hb hby d1_50)
  obtain ⟨T13, X13, e13, st13⟩ := getS2 X12 hx hZ hown (host := "") (Or.inl (hw _ m18)) Via.refl e12 (hS.2.2.2.2.2.2.2.2.2.2.2.2.2.2.2.2.2.2.2.2.2.2.2.2.2.2.2.2.2.2.2.2.2.2.2.2.2.2.2.2.2.2.2.2.2.1.ext O12.2) (g := (mkF m 54 #[.val (.int (6 : Int32)), .unset] [(.int (6 : Int32)), (.ref b1), (.ref b1)])) rfl (hb hby d1_54)
  obtain ⟨T14, h14, L'14, X14, e14, W14, V14, O14, K14, N14, st14⟩ := own_stR X13 hx hZ e13 V12 O12 K12 N12 (Nat.le_trans (own_old_le O0) g1) (Or.inr (Nat.le_trans (Keep.refl h0 []).1 g1)) (j := (6 : Int32)) 6 (by decide) (Nat.le_of_ble_eq_true rfl) (vs' := [(.ref w5), (.ref w14), (.ref w11), (.ref w0), .null, (.ref w8), (.ref w15), .null, .null, .null, .null, .null, .null, .null, .null, .null, .null]) rfl rfl rfl (Or.inr ⟨_, _, rfl, O'1, (Ins.self (hS.2.2.2.2.2.2.2.2.2.2.2.2.2.2.2.2.2.2.2.2.2.2.2.2.2.2.2.2.2.2.2.2.2.2.2.2.2.2.2.2.2.2.2.2.2.2.1.ext O12.2))⟩) (g := (mkF m 57 #[.val (.int (6 : Int32)), .unset] [(.ref w15), (.int (6 : Int32)), (.ref b1), (.ref b1)])) rfl rfl (hb hby d1_57)
  obtain ⟨T15, X15, e15, st15⟩ := getS2 X14 hx hZ hown (host := "") (Or.inl (hw _ m20)) Via.refl e14 (hS.2.2.2.2.2.2.2.2.2.2.2.2.2.2.2.2.2.2.2.2.2.2.2.2.2.2.2.2.2.2.1.ext O14.2) (g := (mkF m 61 #[.val (.int (6 : Int32)), .unset] [(.int (7 : Int32)), (.ref b1), (.ref b1)])) rfl (hb hby d1_61)
  obtain ⟨T16, h16, L'16, X16, e16, W16, V16, O16, K16, N16, st16⟩ := own_stR X15 hx hZ e15 V14 O14 K14 N14 (Nat.le_trans (own_old_le O0) g1) (Or.inr (Nat.le_trans (Keep.refl h0 []).1 g1)) (j := (7 : Int32)) 7 (by decide) (Nat.le_of_ble_eq_true rfl) (vs' := [(.ref w5), (.ref w14), (.ref w11), (.ref w0), .null, (.ref w8), (.ref w15), (.ref w10), .null, .null, .null, .null, .null, .null, .null, .null, .null]) rfl rfl rfl (Or.inr ⟨_, _, rfl, O'1, (Ins.self (hS.2.2.2.2.2.2.2.2.2.2.2.2.2.2.2.2.2.2.2.2.2.2.2.2.2.2.2.2.2.2.2.1.ext O14.2))⟩) (g := (mkF m 64 #[.val (.int (6 : Int32)), .unset] [(.ref w10), (.int (7 : Int32)), (.ref b1), (.ref b1)])) rfl rfl (hb hby d1_64)
  obtain ⟨T17, X17, e17, st17⟩ := getS2 X16 hx hZ hown (host := "") (Or.inl (hw _ m22)) Via.refl e16 (hS.2.2.2.2.2.2.2.2.2.2.2.2.2.2.2.2.2.2.2.2.2.2.2.2.2.2.2.2.2.2.2.2.2.2.2.2.2.2.2.1.ext O16.2) (g := (mkF m 68 #[.val (.int (6 : Int32)), .unset] [(.int (8 : Int32)), (.ref b1), (.ref b1)])) rfl (hb hby d1_68)
  obtain ⟨T18, h18, L'18, X18, e18, W18, V18, O18, K18, N18, st18⟩ := own_stR X17 hx hZ e17 V16 O16 K16 N16 (Nat.le_trans (own_old_le O0) g1) (Or.inr (Nat.le_trans (Keep.refl h0 []).1 g1)) (j := (8 : Int32)) 8 (by decide) (Nat.le_of_ble_eq_true rfl) (vs' := [(.ref w5), (.ref w14), (.ref w11), (.ref w0), .null, (.ref w8), (.ref w15), (.ref w10), (.ref w13), .null, .null, .null, .null, .null, .null, .null, .null]) rfl rfl rfl (Or.inr ⟨_, _, rfl, O'1, (Ins.self (hS.2.2.2.2.2.2.2.2.2.2.2.2.2.2.2.2.2.2.2.2.2.2.2.2.2.2.2.2.2.2.2.2.2.2.2.2.2.2.2.2.1.ext O16.2))⟩) (g := (mkF m 71 #[.val (.int (6 : Int32)), .unset] [(.ref w13), (.int (8 : Int32)), (.ref b1), (.ref b1)])) rfl rfl (hb hby d1_71)
  obtain ⟨T19, X19, e19, st19⟩ := getS2 X18 hx hZ hown (host := "") (Or.inl (hw _ m24)) Via.refl e18 (hS.2.2.2.2.2.2.2.2.2.2.2.2.2.2.2.2.2.2.2.2.2.2.2.2.2.2.2.1.ext O18.2) (g := (mkF m 75 #[.val (.int (6 : Int32)), .unset] [(.int (9 : Int32)), (.ref b1), (.ref b1)])) rfl (hb hby d1_75)
  obtain ⟨T20, h20, L'20, X20, e20, W20, V20, O20, K20, N20, st20⟩ := own_stR X19 hx hZ e19 V18 O18 K18 N18 (Nat.le_trans (own_old_le O0) g1) (Or.inr (Nat.le_trans (Keep.refl h0 []).1 g1)) (j := (9 : Int32)) 9 (by decide) (Nat.le_of_ble_eq_true rfl) (vs' := [(.ref w5), (.ref w14), (.ref w11), (.ref w0), .null, (.ref w8), (.ref w15), (.ref w10), (.ref w13), (.ref w9), .null, .null, .null, .null, .null, .null, .null]) rfl rfl rfl (Or.inr ⟨_, _, rfl, O'1, (Ins.self (hS.2.2.2.2.2.2.2.2.2.2.2.2.2.2.2.2.2.2.2.2.2.2.2.2.2.2.2.2.1.ext O18.2))⟩) (g := (mkF m 78 #[.val (.int (6 : Int32)), .unset] [(.ref w9), (.int (9 : Int32)), (.ref b1), (.ref b1)])) rfl rfl (hb hby d1_78)
  obtain ⟨T21, X21, e21, st21⟩ := getS2 X20 hx hZ hown (host := "") (Or.inl (hw _ m26)) Via.refl e20 (hS.2.2.2.2.2.2.2.2.2.2.2.2.2.2.2.2.2.2.2.2.2.1.ext O20.2) (g := (mkF m 82 #[.val (.int (6 : Int32)), .unset] [(.int (10 : Int32)), (.ref b1), (.ref b1)])) rfl (hb hby d1_82)
  obtain ⟨T22, h22, L'22, X22, e22, W22, V22, O22, K22, N22, st22⟩ := own_stR X21 hx hZ e21 V20 O20 K20 N20 (Nat.le_trans (own_old_le O0) g1) (Or.inr (Nat.le_trans (Keep.refl h0 []).1 g1)) (j := (10 : Int32)) 10 (by decide) (Nat.le_of_ble_eq_true rfl) (vs' := [(.ref w5), (.ref w14), (.ref w11), (.ref w0), .null, (.ref w8), (.ref w15), (.ref w10), (.ref w13), (.ref w9), (.ref w7), .null, .null, .null, .null, .null, .null]) rfl rfl rfl (Or.inr ⟨_, _, rfl, O'1, (Ins.self (hS.2.2.2.2.2.2.2.2.2.2.2.2.2.2.2.2.2.2.2.2.2.2.1.ext O20.2))⟩) (g := (mkF m 85 #[.val (.int (6 : Int32)), .unset] [(.ref w7), (.int (10 : Int32)), (.ref b1), (.ref b1)])) rfl rfl (hb hby d1_85)
  obtain ⟨T23, X23, e23, st23⟩ := getS2 X22 hx hZ hown (host := "") (Or.inl (hw _ m28)) Via.refl e22 (hS.2.2.2.2.2.2.2.2.2.2.2.2.2.2.2.2.2.2.2.2.2.2.2.2.2.2.2.2.2.2.2.2.2.2.2.2.1.ext O22.2) (g := (mkF m 89 #[.val (.int (6 : Int32)), .unset] [(.int (11 : Int32)), (.ref b1), (.ref b1)])) rfl (hb hby d1_89)
  obtain ⟨T24, h24, L'24, X24, e24, W24, V24, O24, K24, N24, st24⟩ := own_stR X23 hx hZ e23 V22 O22 K22 N22 (Nat.le_trans (own_old_le O0) g1) (Or.inr (Nat.le_trans (Keep.refl h0 []).1 g1)) (j := (11 : Int32)) 11 (by decide) (Nat.le_of_ble_eq_true rfl) (vs' := [(.ref w5), (.ref w14), (.ref w11), (.ref w0), .null, (.ref w8), (.ref w15), (.ref w10), (.ref w13), (.ref w9), (.ref w7), (.ref w12), .null, .null, .null, .null, .null]) rfl rfl rfl (Or.inr ⟨_, _, rfl, O'1, (Ins.self (hS.2.2.2.2.2.2.2.2.2.2.2.2.2.2.2.2.2.2.2.2.2.2.2.2.2.2.2.2.2.2.2.2.2.2.2.2.2.1.ext O22.2))⟩) (g := (mkF m 92 #[.val (.int (6 : Int32)), .unset] [(.ref w12), (.int (11 : Int32)), (.ref b1), (.ref b1)])) rfl rfl (hb hby d1_92)
  obtain ⟨T25, X25, e25, st25⟩ := getS2 X24 hx hZ hown (host := "") (Or.inl (hw _ m30)) Via.refl e24 (hS.2.2.2.2.2.2.2.2.2.2.2.2.2.2.2.2.2.2.1.ext O24.2) (g := (mkF m 96 #[.val (.int (6 : Int32)), .unset] [(.int (12 : Int32)), (.ref b1), (.ref b1)])) rfl (hb hby d1_96)
  obtain ⟨T26, h26, L'26, X26, e26, W26, V26, O26, K26, N26, st26⟩ := own_stR X25 hx hZ e25 V24 O24 K24 N24 (Nat.le_trans (own_old_le O0) g1) (Or.inr (Nat.le_trans (Keep.refl h0 []).1 g1)) (j := (12 : Int32)) 12 (by decide) (Nat.le_of_ble_eq_true rfl) (vs' := [(.ref w5), (.ref w14), (.ref w11), (.ref w0), .null, (.ref w8), (.ref w15), (.ref w10), (.ref w13), (.ref w9), (.ref w7), (.ref w12), (.ref w6), .null, .null, .null, .null]) rfl rfl rfl (Or.inr ⟨_, _, rfl, O'1, (Ins.self (hS.2.2.2.2.2.2.2.2.2.2.2.2.2.2.2.2.2.2.2.1.ext O24.2))⟩) (g := (mkF m 99 #[.val (.int (6 : Int32)), .unset] [(.ref w6), (.int (12 : Int32)), (.ref b1), (.ref b1)])) rfl rfl (hb hby d1_99)
  obtain ⟨T27, X27, e27, st27⟩ := getS2 X26 hx hZ hown (host := "") (Or.inl (hw _ m32)) Via.refl e26 (hS.2.2.2.2.2.2.2.2.2.2.2.2.1.ext O26.2) (g := (mkF m 103 #[.val (.int (6 : Int32)), .unset] [(.int (13 : Int32)), (.ref b1), (.ref b1)])) rfl (hb hby d1_103)
  obtain ⟨T28, h28, L'28, X28, e28, W28, V28, O28, K28, N28, st28⟩ := own_stR X27 hx hZ e27 V26 O26 K26 N26 (Nat.le_trans (own_old_le O0) g1) (Or.inr (Nat.le_trans (Keep.refl h0 []).1 g1)) (j := (13 : Int32)) 13 (by decide) (Nat.le_of_ble_eq_true rfl) (vs' := [(.ref w5), (.ref w14), (.ref w11), (.ref w0), .null, (.ref w8), (.ref w15), (.ref w10), (.ref w13), (.ref w9), (.ref w7), (.ref w12), (.ref w6), (.ref w4), .null, .null, .null]) rfl rfl rfl (Or.inr ⟨_, _, rfl, O'1, (Ins.self (hS.2.2.2.2.2.2.2.2.2.2.2.2.2.1.ext O26.2))⟩) (g := (mkF m 106 #[.val (.int (6 : Int32)), .unset] [(.ref w4), (.int (13 : Int32)), (.ref b1), (.ref b1)])) rfl rfl (hb hby d1_106)
  obtain ⟨T29, X29, e29, st29⟩ := getS2 X28 hx hZ hown (host := "") (Or.inl (hw _ m34)) Via.refl e28 (hS.2.2.2.1.ext O28.2) (g := (mkF m 110 #[.val (.int (6 : Int32)), .unset] [(.int (14 : Int32)), (.ref b1), (.ref b1)])) rfl (hb hby d1_110)
  obtain ⟨T30, h30, L'30, X30, e30, W30, V30, O30, K30, N30, st30⟩ := own_stR X29 hx hZ e29 V28 O28 K28 N28 (Nat.le_trans (own_old_le O0) g1) (Or.inr (Nat.le_trans (Keep.refl h0 []).1 g1)) (j := (14 : Int32)) 14 (by decide) (Nat.le_of_ble_eq_true rfl) (vs' := [(.ref w5), (.ref w14), (.ref w11), (.ref w0), .null, (.ref w8), (.ref w15), (.ref w10), (.ref w13), (.ref w9), (.ref w7), (.ref w12), (.ref w6), (.ref w4), (.ref w1), .null, .null]) rfl rfl rfl (Or.inr ⟨_, _, rfl, O'1, (Ins.self (hS.2.2.2.2.1.ext O28.2))⟩) (g := (mkF m 113 #[.val (.int (6 : Int32)), .unset] [(.ref w1), (.int (14 : Int32)), (.ref b1), (.ref b1)])) rfl rfl (hb hby d1_113)
  obtain ⟨T31, X31, e31, st31⟩ := getS2 X30 hx hZ hown (host := "") (Or.inl (hw _ m36)) Via.refl e30 (hS.2.2.2.2.2.2.1.ext O30.2) (g := (mkF m 117 #[.val (.int (6 : Int32)), .unset] [(.int (15 : Int32)), (.ref b1), (.ref b1)])) rfl (hb hby d1_117)
  obtain ⟨T32, h32, L'32, X32, e32, W32, V32, O32, K32, N32, st32⟩ := own_stR X31 hx hZ e31 V30 O30 K30 N30 (Nat.le_trans (own_old_le O0) g1) (Or.inr (Nat.le_trans (Keep.refl h0 []).1 g1)) (j := (15 : Int32)) 15 (by decide) (Nat.le_of_ble_eq_true rfl) (vs' := [(.ref w5), (.ref w14), (.ref w11), (.ref w0), .null, (.ref w8), (.ref w15), (.ref w10), (.ref w13), (.ref w9), (.ref w7), (.ref w12), (.ref w6), (.ref w4), (.ref w1), (.ref w2), .null]) rfl rfl rfl (Or.inr ⟨_, _, rfl, O'1, (Ins.self (hS.2.2.2.2.2.2.2.1.ext O30.2))⟩) (g := (mkF m 120 #[.val (.int (6 : Int32)), .unset] [(.ref w2), (.int (15 : Int32)), (.ref b1), (.ref b1)])) rfl rfl (hb hby d1_120)
  obtain ⟨T33, X33, e33, st33⟩ := getS2 X32 hx hZ hown (host := "") (Or.inl (hw _ m38)) Via.refl e32 (hS.2.2.2.2.2.2.2.2.2.1.ext O32.2) (g := (mkF m 124 #[.val (.int (6 : Int32)), .unset] [(.int (16 : Int32)), (.ref b1), (.ref b1)])) rfl (hb hby d1_124)
  obtain ⟨T34, h34, L'34, X34, e34, W34, V34, O34, K34, N34, st34⟩ := own_stR X33 hx hZ e33 V32 O32 K32 N32 (Nat.le_trans (own_old_le O0) g1) (Or.inr (Nat.le_trans (Keep.refl h0 []).1 g1)) (j := (16 : Int32)) 16 (by decide) (Nat.le_of_ble_eq_true rfl) (vs' := [(.ref w5), (.ref w14), (.ref w11), (.ref w0), .null, (.ref w8), (.ref w15), (.ref w10), (.ref w13), (.ref w9), (.ref w7), (.ref w12), (.ref w6), (.ref w4), (.ref w1), (.ref w2), (.ref w3)]) rfl rfl rfl (Or.inr ⟨_, _, rfl, O'1, (Ins.self (hS.2.2.2.2.2.2.2.2.2.2.1.ext O32.2))⟩) (g := (mkF m 127 #[.val (.int (6 : Int32)), .unset] [(.ref w3), (.int (16 : Int32)), (.ref b1), (.ref b1)])) rfl rfl (hb hby d1_127)
  obtain ⟨fs, hr, hrun, hended, hW, hsame⟩ := X34.leave (v := some (.ref w15)) (fun h => by rw [Bd.returns] at h; cases h)
  refine ⟨_, _, pre0 _ ?_, hrun, hended, _, _, rfl, ?_, ⟨_, rfl⟩, hW, hsame.mono (by decide) (by decide)⟩
  · show Steps p.tables e below (s₁.setTop (mkF m 0 #[.val (.int (6 : Int32)), .unset] [])) _
    refine XS.iloadN X0.here hx rfl (hb hby d1_0) rfl ?_
    refine XS.ifNo X0.here hx rfl (hb hby d1_1) rfl ((if0 _ _).trans (flt (by decide : ¬ ((6 : Int32) < (0 : Int32)))).1) ?_
    refine XS.iloadN X0.here hx rfl (hb hby d1_4) rfl ?_
    refine XS.bipush X0.here hx rfl (hb hby d1_5) ?_
    show Steps p.tables e below (s₁.setTop (mkF m 7 #[.val (.int (6 : Int32)), .unset] [(.int (16 : Int32)), (.int (6 : Int32))])) _
    refine XS.icmpYes X0.here hx rfl (pc0 := 7) (pc' := 12) rfl (hb hby d1_7) rfl (flt (by decide : ¬ ((16 : Int32) < (6 : Int32)))).2.2.2 (by decide) (by decide) ?_
    refine XS.bipush X0.here hx rfl (hb hby d1_12) ?_
    refine st1 _ ?_
    refine XS.dup X1.here hx rfl (hb hby d1_17) rfl rfl ?_
    show Steps p.tables e below (T1.setTop (mkF m 18 #[.val (.int (6 : Int32)), .unset] [(.ref b1), (.ref b1)])) _
    refine XS.iconst X1.here hx rfl (hb hby d1_18) ?_
    refine st2 _ ?_
    refine st3 _ ?_
    refine XS.dup X3.here hx rfl (hb hby d1_23) rfl rfl ?_
    show Steps p.tables e below (T3.setTop (mkF m 24 #[.val (.int (6 : Int32)), .unset] [(.ref b1), (.ref b1)])) _
    refine XS.iconst X3.here hx rfl (hb hby d1_24) ?_
    refine st4 _ ?_
    refine st5 _ ?_
    refine XS.dup X5.here hx rfl (hb hby d1_29) rfl rfl ?_
    show Steps p.tables e below (T5.setTop (mkF m 30 #[.val (.int (6 : Int32)), .unset] [(.ref b1), (.ref b1)])) _
    refine XS.iconst X5.here hx rfl (hb hby d1_30) ?_
    refine st6 _ ?_
    refine st7 _ ?_
    refine XS.dup X7.here hx rfl (hb hby d1_35) rfl rfl ?_
    show Steps p.tables e below (T7.setTop (mkF m 36 #[.val (.int (6 : Int32)), .unset] [(.ref b1), (.ref b1)])) _
    refine XS.iconst X7.here hx rfl (hb hby d1_36) ?_
    refine st8 _ ?_
    refine st9 _ ?_
    refine XS.dup X9.here hx rfl (hb hby d1_41) rfl rfl ?_
    show Steps p.tables e below (T9.setTop (mkF m 42 #[.val (.int (6 : Int32)), .unset] [(.ref b1), (.ref b1)])) _
    refine XS.iconst X9.here hx rfl (hb hby d1_42) ?_
    refine XS.aconstNull X9.here hx rfl (hb hby d1_43) ?_
    refine st10 _ ?_
    refine XS.dup X10.here hx rfl (hb hby d1_45) rfl rfl ?_
    show Steps p.tables e below (T10.setTop (mkF m 46 #[.val (.int (6 : Int32)), .unset] [(.ref b1), (.ref b1)])) _
    refine XS.iconst X10.here hx rfl (hb hby d1_46) ?_
    refine st11 _ ?_
    refine st12 _ ?_
    refine XS.dup X12.here hx rfl (hb hby d1_51) rfl rfl ?_
    show Steps p.tables e below (T12.setTop (mkF m 52 #[.val (.int (6 : Int32)), .unset] [(.ref b1), (.ref b1)])) _
    refine XS.bipush X12.here hx rfl (hb hby d1_52) ?_
    refine st13 _ ?_
    refine st14 _ ?_
    refine XS.dup X14.here hx rfl (hb hby d1_58) rfl rfl ?_
    show Steps p.tables e below (T14.setTop (mkF m 59 #[.val (.int (6 : Int32)), .unset] [(.ref b1), (.ref b1)])) _
    refine XS.bipush X14.here hx rfl (hb hby d1_59) ?_
    refine st15 _ ?_
    refine st16 _ ?_
    refine XS.dup X16.here hx rfl (hb hby d1_65) rfl rfl ?_
    show Steps p.tables e below (T16.setTop (mkF m 66 #[.val (.int (6 : Int32)), .unset] [(.ref b1), (.ref b1)])) _
    refine XS.bipush X16.here hx rfl (hb hby d1_66) ?_
    refine st17 _ ?_
    refine st18 _ ?_
    refine XS.dup X18.here hx rfl (hb hby d1_72) rfl rfl ?_
    show Steps p.tables e below (T18.setTop (mkF m 73 #[.val (.int (6 : Int32)), .unset] [(.ref b1), (.ref b1)])) _
    refine XS.bipush X18.here hx rfl (hb hby d1_73) ?_
    refine st19 _ ?_
    refine st20 _ ?_
    refine XS.dup X20.here hx rfl (hb hby d1_79) rfl rfl ?_
    show Steps p.tables e below (T20.setTop (mkF m 80 #[.val (.int (6 : Int32)), .unset] [(.ref b1), (.ref b1)])) _
    refine XS.bipush X20.here hx rfl (hb hby d1_80) ?_
    refine st21 _ ?_
    refine st22 _ ?_
    refine XS.dup X22.here hx rfl (hb hby d1_86) rfl rfl ?_
    show Steps p.tables e below (T22.setTop (mkF m 87 #[.val (.int (6 : Int32)), .unset] [(.ref b1), (.ref b1)])) _
    refine XS.bipush X22.here hx rfl (hb hby d1_87) ?_
    refine st23 _ ?_
    refine st24 _ ?_
    refine XS.dup X24.here hx rfl (hb hby d1_93) rfl rfl ?_
    show Steps p.tables e below (T24.setTop (mkF m 94 #[.val (.int (6 : Int32)), .unset] [(.ref b1), (.ref b1)])) _
    refine XS.bipush X24.here hx rfl (hb hby d1_94) ?_
    refine st25 _ ?_
    refine st26 _ ?_
    refine XS.dup X26.here hx rfl (hb hby d1_100) rfl rfl ?_
    show Steps p.tables e below (T26.setTop (mkF m 101 #[.val (.int (6 : Int32)), .unset] [(.ref b1), (.ref b1)])) _
    refine XS.bipush X26.here hx rfl (hb hby d1_101) ?_
    refine st27 _ ?_
    refine st28 _ ?_
    refine XS.dup X28.here hx rfl (hb hby d1_107) rfl rfl ?_
    show Steps p.tables e below (T28.setTop (mkF m 108 #[.val (.int (6 : Int32)), .unset] [(.ref b1), (.ref b1)])) _
    refine XS.bipush X28.here hx rfl (hb hby d1_108) ?_
    refine st29 _ ?_
    refine st30 _ ?_
    refine XS.dup X30.here hx rfl (hb hby d1_114) rfl rfl ?_
    show Steps p.tables e below (T30.setTop (mkF m 115 #[.val (.int (6 : Int32)), .unset] [(.ref b1), (.ref b1)])) _
    refine XS.bipush X30.here hx rfl (hb hby d1_115) ?_
    refine st31 _ ?_
    refine st32 _ ?_
    refine XS.dup X32.here hx rfl (hb hby d1_121) rfl rfl ?_
    show Steps p.tables e below (T32.setTop (mkF m 122 #[.val (.int (6 : Int32)), .unset] [(.ref b1), (.ref b1)])) _
    refine XS.bipush X32.here hx rfl (hb hby d1_122) ?_
    refine st33 _ ?_
    refine st34 _ ?_
    refine XS.astoreN X34.here hx rfl (hb hby d1_128) rfl rfl (l' := #[.val (.int (6 : Int32)), .val (.ref b1)]) rfl ?_
    show Steps p.tables e below (T34.setTop (mkF m 129 #[.val (.int (6 : Int32)), .val (.ref b1)] [])) _
    refine XS.aloadN X34.here hx rfl (hb hby d1_129) rfl rfl ?_
    refine XS.iloadN X34.here hx rfl (hb hby d1_130) rfl ?_
    refine own_aaload X34 hx hZ e34 V34 (j := (6 : Int32)) (by decide) (v := (.ref w15)) rfl rfl (g := (mkF m 131 #[.val (.int (6 : Int32)), .val (.ref b1)] [(.int (6 : Int32)), (.ref b1)])) rfl rfl (hb hby d1_131) ?_
    exact retOut X34 hx Bd.returns rfl (Or.inr (Or.inr (Or.inr (Or.inr ⟨rfl, rfl, rfl⟩)))) (hb hby d1_132) hr
  · show Qrm20 Z w0 w1 w2 w3 w4 w5 w6 w7 w8 w9 w10 w11 w12 w13 w14 w15 w16 kw16 h0 n0 _ T34.heap _
    rw [e34]
    exact ⟨rfl, N34, K34⟩
def Qrm21 (Z : State) (w0 : Addr) (w1 : Addr) (w2 : Addr) (w3 : Addr) (w4 : Addr) (w5 : Addr) (w6 : Addr) (w7 : Addr) (w8 : Addr) (w9 : Addr) (w10 : Addr) (w11 : Addr) (w12 : Addr) (w13 : Addr) (w14 : Addr) (w15 : Addr) (w16 : Addr) (kw16 : ClassId) (h0 : Heap) (n0 : Nat) (v : Option Value) (h : Heap) (L : List Loc) : Prop := v = some (.ref w15) ∧ Fr n0 L ∧ h = h0
set_option maxRecDepth 65536 in
set_option maxHeartbeats 40000000 in
theorem rm21 (l : Launch) (Z : State) (a0 : Array Value) (hw : ∀ d ∈ tables_1, d.before a0 Z = true) (w0 : Addr) (w1 : Addr) (w2 : Addr) (w3 : Addr) (w4 : Addr) (w5 : Addr) (w6 : Addr) (w7 : Addr) (w8 : Addr) (w9 : Addr) (w10 : Addr) (w11 : Addr) (w12 : Addr) (w13 : Addr) (w14 : Addr) (w15 : Addr) (w16 : Addr) (kw16 : ClassId) (hS : SF Z w0 w1 w2 w3 w4 w5 w6 w7 w8 w9 w10 w11 w12 w13 w14 w15 w16 kw16) (ws : List Jvm.Cond) (h0 : Heap) (n0 : Nat) (O0 : Old Z n0 h0) :
    MetFree l (⟨z0, "of", z2⟩ : MethodName) (head1 (Jvm.Cond.code (⟨z0, "of", z2⟩ : MethodName) prog_90_method_5_code 1 (some (.object z0)) :: ws) ({ frames := 0, cells := 0, slots := 0, locals := 0 } : Room)) (fun a U => a = #[(.int (6 : Int32))] ∧ Z.Warmed39 U.vm ∧ U.heap = h0) (fun _ _ _ _ _ => True) (fun _ U o U' => ∃ v L, o = .returned v ∧ Qrm21 Z w0 w1 w2 w3 w4 w5 w6 w7 w8 w9 w10 w11 w12 w13 w14 w15 w16 kw16 h0 n0 v U'.heap L ∧ FrameEnd U o U' L ({ frames := 0, cells := 0, slots := 0, locals := 0 } : Room).cells ({ frames := 0, cells := 0, slots := 0, locals := 0 } : Room).slots) := by
  refine MetFree.of_bodySF (plainFor_of_name pn18) hisR ?_
  intro p e s m args below meth c s₁ Bd hml0 hP hK
  obtain ⟨rfl, hZ, hh⟩ := hP
  have hx := Bd.exec
  have hby := Bd.bytes
  have hml : c.maxLocals = 1 := hml0
  have hown : s.vm.findClass z0 = some m.cls := findClass_of_methodNamed Bd.named
  have hnm := (name_of_methodNamed Bd.named Bd.method).1
  have X0 : Stand p l e ({ frames := 0, cells := 0, slots := 0, locals := 0 } : Room) s m #[(.int (6 : Int32))] below meth c s₁ [] 0 0 := Stand.of_body Bd
  have e0 : s₁.heap = h0 := by rw [← hh, Bd.state]; rfl
  have N0 := Fr.nil n0
  have pre0 : ∀ t, Steps p.tables e below (s₁.setTop (mkF m 0 #[.val (.int (6 : Int32))] [])) t → Steps p.tables e below (s₁.setTop (entryFrame m #[(.int (6 : Int32))] 1)) t := fun t k => castTop (ef17 m (6 : Int32)) k
  obtain ⟨T1, X1, e1, st1⟩ := getS2 X0 hx hZ hown (host := "") (Or.inl (hw _ m43)) Via.refl e0 (hS.2.2.2.2.2.2.2.2.2.2.2.2.2.2.2.2.2.2.2.2.2.2.2.2.2.2.2.2.2.2.2.2.2.2.2.2.2.2.2.2.2.2.2.2.2.2.2.2.1.ext O0.2) (g := (mkF m 5 #[.val (.int (6 : Int32))] [(.int (6 : Int32))])) rfl (hb hby d2_5)
  obtain ⟨T2, X2, e2, st2⟩ := getS2 X1 hx hZ hown (host := "") (Or.inl (hw _ m43)) Via.refl e1 (hS.2.2.2.2.2.2.2.2.2.2.2.2.2.2.2.2.2.2.2.2.2.2.2.2.2.2.2.2.2.2.2.2.2.2.2.2.2.2.2.2.2.2.2.2.2.2.2.2.1.ext O0.2) (g := (mkF m 12 #[.val (.int (6 : Int32))] [])) rfl (hb hby d2_12)
  obtain ⟨fs, hr, hrun, hended, hW, hsame⟩ := X2.leave (v := some (.ref w15)) (fun h => by rw [Bd.returns] at h; cases h)
  refine ⟨_, _, pre0 _ ?_, hrun, hended, _, _, rfl, ?_, ⟨_, rfl⟩, hW, hsame.mono (by decide) (by decide)⟩
  · show Steps p.tables e below (s₁.setTop (mkF m 0 #[.val (.int (6 : Int32))] [])) _
    refine XS.iloadN X0.here hx rfl (hb hby d2_0) rfl ?_
    refine XS.ifNo X0.here hx rfl (hb hby d2_1) rfl ((if0 _ _).trans (flt (by decide : ¬ ((6 : Int32) < (0 : Int32)))).1) ?_
    refine XS.iloadN X0.here hx rfl (hb hby d2_4) rfl ?_
    refine st1 _ ?_
    show Steps p.tables e below (T1.setTop (mkF m 8 #[.val (.int (6 : Int32))] [(.ref w16), (.int (6 : Int32))])) _
    refine own_alen X1 hx hZ e1 (hS.2.2.2.2.2.2.2.2.2.2.2.2.2.2.2.2.2.2.2.2.2.2.2.2.2.2.2.2.2.2.2.2.2.2.2.2.2.2.2.2.2.2.2.2.2.2.2.2.2.ext O0.2) (g := (mkF m 8 #[.val (.int (6 : Int32))] [(.ref w16), (.int (6 : Int32))])) rfl rfl (hb hby d2_8) ?_
    refine XS.icmpNo X1.here hx rfl (hb hby d2_9) rfl (tlt (by decide : (6 : Int32) < (17 : Int32))).2.1 ?_
    refine st2 _ ?_
    refine XS.iloadN X2.here hx rfl (hb hby d2_15) rfl ?_
    show Steps p.tables e below (T2.setTop (mkF m 16 #[.val (.int (6 : Int32))] [(.int (6 : Int32)), (.ref w16)])) _
    refine own_aaload X2 hx hZ e2 (hS.2.2.2.2.2.2.2.2.2.2.2.2.2.2.2.2.2.2.2.2.2.2.2.2.2.2.2.2.2.2.2.2.2.2.2.2.2.2.2.2.2.2.2.2.2.2.2.2.2.ext O0.2) (j := (6 : Int32)) (by decide) (v := (.ref w15)) rfl rfl (g := (mkF m 16 #[.val (.int (6 : Int32))] [(.int (6 : Int32)), (.ref w16)])) rfl rfl (hb hby d2_16) ?_
    refine XS.goto X2.here hx rfl (pc0 := 17) (pc' := 21) rfl (hb hby d2_17) (by decide) (by decide) ?_
    exact retOut X2 hx Bd.returns rfl (Or.inr (Or.inr (Or.inr (Or.inr ⟨rfl, rfl, rfl⟩)))) (hb hby d2_21) hr
  · show Qrm21 Z w0 w1 w2 w3 w4 w5 w6 w7 w8 w9 w10 w11 w12 w13 w14 w15 w16 kw16 h0 n0 _ T2.heap _
    rw [e2]
    exact ⟨rfl, N0, rfl⟩
def Qrm22 (Z : State) (w0 : Addr) (w1 : Addr) (w2 : Addr) (w3 : Addr) (w4 : Addr) (w5 : Addr) (w6 : Addr) (w7 : Addr) (w8 : Addr) (w9 : Addr) (w10 : Addr) (w11 : Addr) (w12 : Addr) (w13 : Addr) (w14 : Addr) (w15 : Addr) (w16 : Addr) (kw16 : ClassId) (h0 : Heap) (n0 : Nat) (v : Option Value) (h : Heap) (L : List Loc) : Prop := v = some (.int (6 : Int32)) ∧ Fr n0 L ∧ h = h0
set_option maxRecDepth 65536 in
set_option maxHeartbeats 40000000 in
theorem rm22 (l : Launch) (Z : State) (a0 : Array Value) (hw : ∀ d ∈ tables_1, d.before a0 Z = true) (w0 : Addr) (w1 : Addr) (w2 : Addr) (w3 : Addr) (w4 : Addr) (w5 : Addr) (w6 : Addr) (w7 : Addr) (w8 : Addr) (w9 : Addr) (w10 : Addr) (w11 : Addr) (w12 : Addr) (w13 : Addr) (w14 : Addr) (w15 : Addr) (w16 : Addr) (kw16 : ClassId) (hS : SF Z w0 w1 w2 w3 w4 w5 w6 w7 w8 w9 w10 w11 w12 w13 w14 w15 w16 kw16) (ws : List Jvm.Cond) (h0 : Heap) (n0 : Nat) (O0 : Old Z n0 h0) :
    MetFree l (⟨z0, "code", "()I"⟩ : MethodName) (head1 (Jvm.Cond.code (⟨z0, "code", "()I"⟩ : MethodName) prog_90_method_4_code 1 (some .int) :: ws) ({ frames := 0, cells := 0, slots := 0, locals := 0 } : Room)) (fun a U => a = #[(.ref w15)] ∧ Z.Warmed39 U.vm ∧ U.heap = h0) (fun _ _ _ _ _ => True) (fun _ U o U' => ∃ v L, o = .returned v ∧ Qrm22 Z w0 w1 w2 w3 w4 w5 w6 w7 w8 w9 w10 w11 w12 w13 w14 w15 w16 kw16 h0 n0 v U'.heap L ∧ FrameEnd U o U' L ({ frames := 0, cells := 0, slots := 0, locals := 0 } : Room).cells ({ frames := 0, cells := 0, slots := 0, locals := 0 } : Room).slots) := by
  refine MetFree.of_bodySF (plainFor_of_name pn18) hisR ?_
  intro p e s m args below meth c s₁ Bd hml0 hP hK
  obtain ⟨rfl, hZ, hh⟩ := hP
  have hx := Bd.exec
  have hby := Bd.bytes
  have hml : c.maxLocals = 1 := hml0
  have hown : s.vm.findClass z0 = some m.cls := findClass_of_methodNamed Bd.named
  have hnm := (name_of_methodNamed Bd.named Bd.method).1
  have X0 : Stand p l e ({ frames := 0, cells := 0, slots := 0, locals := 0 } : Room) s m #[(.ref w15)] below meth c s₁ [] 0 0 := Stand.of_body Bd
  have e0 : s₁.heap = h0 := by rw [← hh, Bd.state]; rfl
  have N0 := Fr.nil n0
  have pre0 : ∀ t, Steps p.tables e below (s₁.setTop (mkF m 0 #[.val (.ref w15)] [])) t → Steps p.tables e below (s₁.setTop (entryFrame m #[(.ref w15)] 1)) t := fun t k => castTop (ef135 m w15) k
  obtain ⟨T1, X1, e1, st1⟩ := getF X0 hx hZ hown (host := "") (Or.inl (hw _ m50)) Via.refl e0 (hS.2.2.2.2.2.2.2.2.2.2.2.2.2.2.2.2.2.2.2.2.2.2.2.2.2.2.2.2.2.2.2.2.2.2.2.2.2.2.2.2.2.2.2.2.2.2.2.1.ext O0.2) (g := (mkF m 1 #[.val (.ref w15)] [(.ref w15)])) rfl rfl (hb hby d3_1)
  obtain ⟨fs, hr, hrun, hended, hW, hsame⟩ := X1.leave (v := some (.int (6 : Int32))) (fun h => by rw [Bd.returns] at h; cases h)
  refine ⟨_, _, pre0 _ ?_, hrun, hended, _, _, rfl, ?_, ⟨_, rfl⟩, hW, hsame.mono (by decide) (by decide)⟩
  · show Steps p.tables e below (s₁.setTop (mkF m 0 #[.val (.ref w15)] [])) _
    refine XS.aloadN X0.here hx rfl (hb hby d3_0) rfl rfl ?_
    refine st1 _ ?_
    exact retOut X1 hx Bd.returns rfl (Or.inl ⟨rfl, Or.inl rfl, _, rfl⟩) (hb hby d3_4) hr
  · show Qrm22 Z w0 w1 w2 w3 w4 w5 w6 w7 w8 w9 w10 w11 w12 w13 w14 w15 w16 kw16 h0 n0 _ T1.heap _
    rw [e1]
    exact ⟨rfl, N0, rfl⟩
def Qrm23 (Z : State) (w0 : Addr) (w1 : Addr) (w2 : Addr) (w3 : Addr) (w4 : Addr) (w5 : Addr) (w6 : Addr) (w7 : Addr) (w8 : Addr) (w9 : Addr) (w10 : Addr) (w11 : Addr) (w12 : Addr) (w13 : Addr) (w14 : Addr) (w15 : Addr) (w16 : Addr) (kw16 : ClassId) (h0 : Heap) (n0 : Nat) (v : Option Value) (h : Heap) (L : List Loc) : Prop := v = some (.ref w10) ∧ Fr n0 L ∧ Keep h0 h []
set_option maxRecDepth 65536 in
set_option maxHeartbeats 40000000 in
theorem rm23 (l : Launch) (Z : State) (a0 : Array Value) (hw : ∀ d ∈ tables_1, d.before a0 Z = true) (w0 : Addr) (w1 : Addr) (w2 : Addr) (w3 : Addr) (w4 : Addr) (w5 : Addr) (w6 : Addr) (w7 : Addr) (w8 : Addr) (w9 : Addr) (w10 : Addr) (w11 : Addr) (w12 : Addr) (w13 : Addr) (w14 : Addr) (w15 : Addr) (w16 : Addr) (kw16 : ClassId) (hS : SF Z w0 w1 w2 w3 w4 w5 w6 w7 w8 w9 w10 w11 w12 w13 w14 w15 w16 kw16) (ws : List Jvm.Cond) (h0 : Heap) (n0 : Nat) (O0 : Old Z n0 h0) :
    MetFree l (⟨z1, "expected", z2⟩ : MethodName) (head1 (Jvm.Cond.code (⟨z1, "expected", z2⟩ : MethodName) method_3_code 2 (some (.object z0)) :: ws) ({ frames := 0, cells := 1, slots := 17, locals := 0 } : Room)) (fun a U => a = #[(.int (7 : Int32))] ∧ Z.Warmed39 U.vm ∧ U.heap = h0) (fun _ _ _ _ _ => True) (fun _ U o U' => ∃ v L, o = .returned v ∧ Qrm23 Z w0 w1 w2 w3 w4 w5 w6 w7 w8 w9 w10 w11 w12 w13 w14 w15 w16 kw16 h0 n0 v U'.heap L ∧ FrameEnd U o U' L ({ frames := 0, cells := 1, slots := 17, locals := 0 } : Room).cells ({ frames := 0, cells := 1, slots := 17, locals := 0 } : Room).slots) := by
  refine MetFree.of_bodySF (plainFor_of_name pn7) hisR ?_
  intro p e s m args below meth c s₁ Bd hml0 hP hK
  obtain ⟨rfl, hZ, hh⟩ := hP
  have hx := Bd.exec
  have hby := Bd.bytes
  have hml : c.maxLocals = 2 := hml0
  have hown : s.vm.findClass z1 = some m.cls := findClass_of_methodNamed Bd.named
  have hnm := (name_of_methodNamed Bd.named Bd.method).1
  have X0 : Stand p l e ({ frames := 0, cells := 1, slots := 17, locals := 0 } : Room) s m #[(.int (7 : Int32))] below meth c s₁ [] 0 0 := Stand.of_body Bd
  have e0 : s₁.heap = h0 := by rw [← hh, Bd.state]; rfl
  have N0 := Fr.nil n0
  have pre0 : ∀ t, Steps p.tables e below (s₁.setTop (mkF m 0 #[.val (.int (7 : Int32)), .unset] [])) t → Steps p.tables e below (s₁.setTop (entryFrame m #[(.int (7 : Int32))] 2)) t := fun t k => castTop (ef6 m (7 : Int32)) k
  obtain ⟨T1, h1, k1, b1, X1, e1, E1, V1, O'1, g1, O1, K1, st1⟩ := own_newR X0 hx hZ (vs := [.null, .null, .null, .null, .null, .null, .null, .null, .null, .null, .null, .null, .null, .null, .null, .null, .null]) (cap := 17) rfl hown (hw _ m4) (hw _ m5) e0 O0 (Keep.refl h0 []) (g := (mkF m 14 #[.val (.int (7 : Int32)), .unset] [(.int (17 : Int32))])) rfl (hb hby d1_14) rfl (by decide) (by decide) (by decide) (by decide) (by decide)
  obtain ⟨T2, X2, e2, st2⟩ := getS2 X1 hx hZ hown (host := "") (Or.inl (hw _ m6)) Via.refl e1 (hS.2.2.2.2.2.2.2.2.2.2.2.2.2.2.2.1.ext O1.2) (g := (mkF m 19 #[.val (.int (7 : Int32)), .unset] [(.int (0 : Int32)), (.ref b1), (.ref b1)])) rfl (hb hby d1_19)
  obtain ⟨T3, h3, L'3, X3, e3, W3, V3, O3, K3, N3, st3⟩ := own_stR X2 hx hZ e2 V1 O1 K1 N0 (Nat.le_trans (own_old_le O0) g1) (Or.inr (Nat.le_trans (Keep.refl h0 []).1 g1)) (j := (0 : Int32)) 0 (by decide) (Nat.le_of_ble_eq_true rfl) (vs' := [(.ref w5), .null, .null, .null, .null, .null, .null, .null, .null, .null, .null, .null, .null, .null, .null, .null, .null]) rfl rfl rfl (Or.inr ⟨_, _, rfl, O'1, (Ins.self (hS.2.2.2.2.2.2.2.2.2.2.2.2.2.2.2.2.1.ext O1.2))⟩) (g := (mkF m 22 #[.val (.int (7 : Int32)), .unset] [(.ref w5), (.int (0 : Int32)), (.ref b1), (.ref b1)])) rfl rfl (hb hby d1_22)
  obtain ⟨T4, X4, e4, st4⟩ := getS2 X3 hx hZ hown (host := "") (Or.inl (hw _ m10)) Via.refl e3 (hS.2.2.2.2.2.2.2.2.2.2.2.2.2.2.2.2.2.2.2.2.2.2.2.2.2.2.2.2.2.2.2.2.2.2.2.2.2.2.2.2.2.2.1.ext O3.2) (g := (mkF m 25 #[.val (.int (7 : Int32)), .unset] [(.int (1 : Int32)), (.ref b1), (.ref b1)])) rfl (hb hby d1_25)
  obtain ⟨T5, h5, L'5, X5, e5, W5, V5, O5, K5, N5, st5⟩ := own_stR X4 hx hZ e4 V3 O3 K3 N3 (Nat.le_trans (own_old_le O0) g1) (Or.inr (Nat.le_trans (Keep.refl h0 []).1 g1)) (j := (1 : Int32)) 1 (by decide) (Nat.le_of_ble_eq_true rfl) (vs' := [(.ref w5), (.ref w14), .null, .null, .null, .null, .null, .null, .null, .null, .null, .null, .null, .null, .null, .null, .null]) rfl rfl rfl (Or.inr ⟨_, _, rfl, O'1, (Ins.self (hS.2.2.2.2.2.2.2.2.2.2.2.2.2.2.2.2.2.2.2.2.2.2.2.2.2.2.2.2.2.2.2.2.2.2.2.2.2.2.2.2.2.2.2.1.ext O3.2))⟩) (g := (mkF m 28 #[.val (.int (7 : Int32)), .unset] [(.ref w14), (.int (1 : Int32)), (.ref b1), (.ref b1)])) rfl rfl (hb hby d1_28)
  obtain ⟨T6, X6, e6, st6⟩ := getS2 X5 hx hZ hown (host := "") (Or.inl (hw _ m12)) Via.refl e5 (hS.2.2.2.2.2.2.2.2.2.2.2.2.2.2.2.2.2.2.2.2.2.2.2.2.2.2.2.2.2.2.2.2.2.1.ext O5.2) (g := (mkF m 31 #[.val (.int (7 : Int32)), .unset] [(.int (2 : Int32)), (.ref b1), (.ref b1)])) rfl (hb hby d1_31)
  obtain ⟨T7, h7, L'7, X7, e7, W7, V7, O7, K7, N7, st7⟩ := own_stR X6 hx hZ e6 V5 O5 K5 N5 (Nat.le_trans (own_old_le O0) g1) (Or.inr (Nat.le_trans (Keep.refl h0 []).1 g1)) (j := (2 : Int32)) 2 (by decide) (Nat.le_of_ble_eq_true rfl) (vs' := [(.ref w5), (.ref w14), (.ref w11), .null, .null, .null, .null, .null, .null, .null, .null, .null, .null, .null, .null, .null, .null]) rfl rfl rfl (Or.inr ⟨_, _, rfl, O'1, (Ins.self (hS.2.2.2.2.2.2.2.2.2.2.2.2.2.2.2.2.2.2.2.2.2.2.2.2.2.2.2.2.2.2.2.2.2.2.1.ext O5.2))⟩) (g := (mkF m 34 #[.val (.int (7 : Int32)), .unset] [(.ref w11), (.int (2 : Int32)), (.ref b1), (.ref b1)])) rfl rfl (hb hby d1_34)
  obtain ⟨T8, X8, e8, st8⟩ := getS2 X7 hx hZ hown (host := "") (Or.inl (hw _ m14)) Via.refl e7 (hS.1.ext O7.2) (g := (mkF m 37 #[.val (.int (7 : Int32)), .unset] [(.int (3 : Int32)), (.ref b1), (.ref b1)])) rfl (hb hby d1_37)
  obtain ⟨T9, h9, L'9, X9, e9, W9, V9, O9, K9, N9, st9⟩ := own_stR X8 hx hZ e8 V7 O7 K7 N7 (Nat.le_trans (own_old_le O0) g1) (Or.inr (Nat.le_trans (Keep.refl h0 []).1 g1)) (j := (3 : Int32)) 3 (by decide) (Nat.le_of_ble_eq_true rfl) (vs' := [(.ref w5), (.ref w14), (.ref w11), (.ref w0), .null, .null, .null, .null, .null, .null, .null, .null, .null, .null, .null, .null, .null]) rfl rfl rfl (Or.inr ⟨_, _, rfl, O'1, (Ins.self (hS.2.1.ext O7.2))⟩) (g := (mkF m 40 #[.val (.int (7 : Int32)), .unset] [(.ref w0), (.int (3 : Int32)), (.ref b1), (.ref b1)])) rfl rfl (hb hby d1_40)
  obtain ⟨T10, h10, L'10, X10, e10, W10, V10, O10, K10, N10, st10⟩ := own_stR X9 hx hZ e9 V9 O9 K9 N9 (Nat.le_trans (own_old_le O0) g1) (Or.inr (Nat.le_trans (Keep.refl h0 []).1 g1)) (j := (4 : Int32)) 4 (by decide) (Nat.le_of_ble_eq_true rfl) (vs' := [(.ref w5), (.ref w14), (.ref w11), (.ref w0), .null, .null, .null, .null, .null, .null, .null, .null, .null, .null, .null, .null, .null]) rfl rfl rfl (Or.inl rfl) (g := (mkF m 44 #[.val (.int (7 : Int32)), .unset] [.null, (.int (4 : Int32)), (.ref b1), (.ref b1)])) rfl rfl (hb hby d1_44)
  obtain ⟨T11, X11, e11, st11⟩ := getS2 X10 hx hZ hown (host := "") (Or.inl (hw _ m16)) Via.refl e10 (hS.2.2.2.2.2.2.2.2.2.2.2.2.2.2.2.2.2.2.2.2.2.2.2.2.1.ext O10.2) (g := (mkF m 47 #[.val (.int (7 : Int32)), .unset] [(.int (5 : Int32)), (.ref b1), (.ref b1)])) rfl (hb hby d1_47)
  obtain ⟨T12, h12, L'12, X12, e12, W12, V12, O12, K12, N12, st12⟩ := own_stR X11 hx hZ e11 V10 O10 K10 N10 (Nat.le_trans (own_old_le O0) g1) (Or.inr (Nat.le_trans (Keep.refl h0 []).1 g1)) (j := (5 : Int32)) 5 (by decide) (Nat.le_of_ble_eq_true rfl) (vs' := [(.ref w5), (.ref w14), (.ref w11), (.ref w0), .null, (.ref w8), .null, .null, .null, .null, .null, .null, .null, .null, .null, .null, .null]) rfl rfl rfl (Or.inr ⟨_, _, rfl, O'1, (Ins.self (hS.2.2.2.2.2.2.2.2.2.2.2.2.2.2.2.2.2.2.2.2.2.2.2.2.2.1.ext O10.2))⟩) (g := (mkF m 50 #[.val (.int (7 : Int32)), .unset] [(.ref w8), (.int (5 : Int32)), (.ref b1), (.ref b1)])) rfl rfl (hb hby d1_50)
  obtain ⟨T13, X13, e13, st13⟩ := getS2 X12 hx hZ hown (host := "") (Or.inl (hw _ m18)) Via.refl e12 (hS.2.2.2.2.2.2.2.2.2.2.2.2.2.2.2.2.2.2.2.2.2.2.2.2.2.2.2.2.2.2.2.2.2.2.2.2.2.2.2.2.2.2.2.2.2.1.ext O12.2) (g := (mkF m 54 #[.val (.int (7 : Int32)), .unset] [(.int (6 : Int32)), (.ref b1), (.ref b1)])) rfl (hb hby d1_54)
  obtain ⟨T14, h14, L'14, X14, e14, W14, V14, O14, K14, N14, st14⟩ := own_stR X13 hx hZ e13 V12 O12 K12 N12 (Nat.le_trans (own_old_le O0) g1) (Or.inr (Nat.le_trans (Keep.refl h0 []).1 g1)) (j := (6 : Int32)) 6 (by decide) (Nat.le_of_ble_eq_true rfl) (vs' := [(.ref w5), (.ref w14), (.ref w11), (.ref w0), .null, (.ref w8), (.ref w15), .null, .null, .null, .null, .null, .null, .null, .null, .null, .null]) rfl rfl rfl (Or.inr ⟨_, _, rfl, O'1, (Ins.self (hS.2.2.2.2.2.2.2.2.2.2.2.2.2.2.2.2.2.2.2.2.2.2.2.2.2.2.2.2.2.2.2.2.2.2.2.2.2.2.2.2.2.2.2.2.2.2.1.ext O12.2))⟩) (g := (mkF m 57 #[.val (.int (7 : Int32)), .unset] [(.ref w15), (.int (6 : Int32)), (.ref b1), (.ref b1)])) rfl rfl (hb hby d1_57)
  obtain ⟨T15, X15, e15, st15⟩ := getS2 X14 hx hZ hown (host := "") (Or.inl (hw _ m20)) Via.refl e14 (hS.2.2.2.2.2.2.2.2.2.2.2.2.2.2.2.2.2.2.2.2.2.2.2.2.2.2.2.2.2.2.1.ext O14.2) (g := (mkF m 61 #[.val (.int (7 : Int32)), .unset] [(.int (7 : Int32)), (.ref b1), (.ref b1)])) rfl (hb hby d1_61)
  obtain ⟨T16, h16, L'16, X16, e16, W16, V16, O16, K16, N16, st16⟩ := own_stR X15 hx hZ e15 V14 O14 K14 N14 (Nat.le_trans (own_old_le O0) g1) (Or.inr (Nat.le_trans (Keep.refl h0 []).1 g1)) (j := (7 : Int32)) 7 (by decide) (Nat.le_of_ble_eq_true rfl) (vs' := [(.ref w5), (.ref w14), (.ref w11), (.ref w0), .null, (.ref w8), (.ref w15), (.ref w10), .null, .null, .null, .null, .null, .null, .null, .null, .null]) rfl rfl rfl (Or.inr ⟨_, _, rfl, O'1, (Ins.self (hS.2.2.2.2.2.2.2.2.2.2.2.2.2.2.2.2.2.2.2.2.2.2.2.2.2.2.2.2.2.2.2.1.ext O14.2))⟩) (g := (mkF m 64 #[.val (.int (7 : Int32)), .unset] [(.ref w10), (.int (7 : Int32)), (.ref b1), (.ref b1)])) rfl rfl (hb hby d1_64)
  obtain ⟨T17, X17, e17, st17⟩ := getS2 X16 hx hZ hown (host := "") (Or.inl (hw _ m22)) Via.refl e16 (hS.2.2.2.2.2.2.2.2.2.2.2.2.2.2.2.2.2.2.2.2.2.2.2.2.2.2.2.2.2.2.2.2.2.2.2.2.2.2.2.1.ext O16.2) (g := (mkF m 68 #[.val (.int (7 : Int32)), .unset] [(.int (8 : Int32)), (.ref b1), (.ref b1)])) rfl (hb hby d1_68)
  obtain ⟨T18, h18, L'18, X18, e18, W18, V18, O18, K18, N18, st18⟩ := own_stR X17 hx hZ e17 V16 O16 K16 N16 (Nat.le_trans (own_old_le O0) g1) (Or.inr (Nat.le_trans (Keep.refl h0 []).1 g1)) (j := (8 : Int32)) 8 (by decide) (Nat.le_of_ble_eq_true rfl) (vs' := [(.ref w5), (.ref w14), (.ref w11), (.ref w0), .null, (.ref w8), (.ref w15), (.ref w10), (.ref w13), .null, .null, .null, .null, .null, .null, .null, .null]) rfl rfl rfl (Or.inr ⟨_, _, rfl, O'1, (Ins.self (hS.2.2.2.2.2.2.2.2.2.2.2.2.2.2.2.2.2.2.2.2.2.2.2.2.2.2.2.2.2.2.2.2.2.2.2.2.2.2.2.2.1.ext O16.2))⟩) (g := (mkF m 71 #[.val (.int (7 : Int32)), .unset] [(.ref w13), (.int (8 : Int32)), (.ref b1), (.ref b1)])) rfl rfl (hb hby d1_71)
  obtain ⟨T19, X19, e19, st19⟩ := getS2 X18 hx hZ hown (host := "") (Or.inl (hw _ m24)) Via.refl e18 (hS.2.2.2.2.2.2.2.2.2.2.2.2.2.2.2.2.2.2.2.2.2.2.2.2.2.2.2.1.ext O18.2) (g := (mkF m 75 #[.val (.int (7 : Int32)), .unset] [(.int (9 : Int32)), (.ref b1), (.ref b1)])) rfl (hb hby d1_75)
  obtain ⟨T20, h20, L'20, X20, e20, W20, V20, O20, K20, N20, st20⟩ := own_stR X19 hx hZ e19 V18 O18 K18 N18 (Nat.le_trans (own_old_le O0) g1) (Or.inr (Nat.le_trans (Keep.refl h0 []).1 g1)) (j := (9 : Int32)) 9 (by decide) (Nat.le_of_ble_eq_true rfl) (vs' := [(.ref w5), (.ref w14), (.ref w11), (.ref w0), .null, (.ref w8), (.ref w15), (.ref w10), (.ref w13), (.ref w9), .null, .null, .null, .null, .null, .null, .null]) rfl rfl rfl (Or.inr ⟨_, _, rfl, O'1, (Ins.self (hS.2.2.2.2.2.2.2.2.2.2.2.2.2.2.2.2.2.2.2.2.2.2.2.2.2.2.2.2.1.ext O18.2))⟩) (g := (mkF m 78 #[.val (.int (7 : Int32)), .unset] [(.ref w9), (.int (9 : Int32)), (.ref b1), (.ref b1)])) rfl rfl (hb hby d1_78)
  obtain ⟨T21, X21, e21, st21⟩ := getS2 X20 hx hZ hown (host := "") (Or.inl (hw _ m26)) Via.refl e20 (hS.2.2.2.2.2.2.2.2.2.2.2.2.2.2.2.2.2.2.2.2.2.1.ext O20.2) (g := (mkF m 82 #[.val (.int (7 : Int32)), .unset] [(.int (10 : Int32)), (.ref b1), (.ref b1)])) rfl (hb hby d1_82)
  obtain ⟨T22, h22, L'22, X22, e22, W22, V22, O22, K22, N22, st22⟩ := own_stR X21 hx hZ e21 V20 O20 K20 N20 (Nat.le_trans (own_old_le O0) g1) (Or.inr (Nat.le_trans (Keep.refl h0 []).1 g1)) (j := (10 : Int32)) 10 (by decide) (Nat.le_of_ble_eq_true rfl) (vs' := [(.ref w5), (.ref w14), (.ref w11), (.ref w0), .null, (.ref w8), (.ref w15), (.ref w10), (.ref w13), (.ref w9), (.ref w7), .null, .null, .null, .null, .null, .null]) rfl rfl rfl (Or.inr ⟨_, _, rfl, O'1, (Ins.self (hS.2.2.2.2.2.2.2.2.2.2.2.2.2.2.2.2.2.2.2.2.2.2.1.ext O20.2))⟩) (g := (mkF m 85 #[.val (.int (7 : Int32)), .unset] [(.ref w7), (.int (10 : Int32)), (.ref b1), (.ref b1)])) rfl rfl (hb hby d1_85)
  obtain ⟨T23, X23, e23, st23⟩ := getS2 X22 hx hZ hown (host := "") (Or.inl (hw _ m28)) Via.refl e22 (hS.2.2.2.2.2.2.2.2.2.2.2.2.2.2.2.2.2.2.2.2.2.2.2.2.2.2.2.2.2.2.2.2.2.2.2.2.1.ext O22.2) (g := (mkF m 89 #[.val (.int (7 : Int32)), .unset] [(.int (11 : Int32)), (.ref b1), (.ref b1)])) rfl (hb hby d1_89)
  obtain ⟨T24, h24, L'24, X24, e24, W24, V24, O24, K24, N24, st24⟩ := own_stR X23 hx hZ e23 V22 O22 K22 N22 (Nat.le_trans (own_old_le O0) g1) (Or.inr (Nat.le_trans (Keep.refl h0 []).1 g1)) (j := (11 : Int32)) 11 (by decide) (Nat.le_of_ble_eq_true rfl) (vs' := [(.ref w5), (.ref w14), (.ref w11), (.ref w0), .null, (.ref w8), (.ref w15), (.ref w10), (.ref w13), (.ref w9), (.ref w7), (.ref w12), .null, .null, .null, .null, .null]) rfl rfl rfl (Or.inr ⟨_, _, rfl, O'1, (Ins.self (hS.2.2.2.2.2.2.2.2.2.2.2.2.2.2.2.2.2.2.2.2.2.2.2.2.2.2.2.2.2.2.2.2.2.2.2.2.2.1.ext O22.2))⟩) (g := (mkF m 92 #[.val (.int (7 : Int32)), .unset] [(.ref w12), (.int (11 : Int32)), (.ref b1), (.ref b1)])) rfl rfl (hb hby d1_92)
  obtain ⟨T25, X25, e25, st25⟩ := getS2 X24 hx hZ hown (host := "") (Or.inl (hw _ m30)) Via.refl e24 (hS.2.2.2.2.2.2.2.2.2.2.2.2.2.2.2.2.2.2.1.ext O24.2) (g := (mkF m 96 #[.val (.int (7 : Int32)), .unset] [(.int (12 : Int32)), (.ref b1), (.ref b1)])) rfl (hb hby d1_96)
  obtain ⟨T26, h26, L'26, X26, e26, W26, V26, O26, K26, N26, st26⟩ := own_stR X25 hx hZ e25 V24 O24 K24 N24 (Nat.le_trans (own_old_le O0) g1) (Or.inr (Nat.le_trans (Keep.refl h0 []).1 g1)) (j := (12 : Int32)) 12 (by decide) (Nat.le_of_ble_eq_true rfl) (vs' := [(.ref w5), (.ref w14), (.ref w11), (.ref w0), .null, (.ref w8), (.ref w15), (.ref w10), (.ref w13), (.ref w9), (.ref w7), (.ref w12), (.ref w6), .null, .null, .null, .null]) rfl rfl rfl (Or.inr ⟨_, _, rfl, O'1, (Ins.self (hS.2.2.2.2.2.2.2.2.2.2.2.2.2.2.2.2.2.2.2.1.ext O24.2))⟩) (g := (mkF m 99 #[.val (.int (7 : Int32)), .unset] [(.ref w6), (.int (12 : Int32)), (.ref b1), (.ref b1)])) rfl rfl (hb hby d1_99)
  obtain ⟨T27, X27, e27, st27⟩ := getS2 X26 hx hZ hown (host := "") (Or.inl (hw _ m32)) Via.refl e26 (hS.2.2.2.2.2.2.2.2.2.2.2.2.1.ext O26.2) (g := (mkF m 103 #[.val (.int (7 : Int32)), .unset] [(.int (13 : Int32)), (.ref b1), (.ref b1)])) rfl (hb hby d1_103)
  obtain ⟨T28, h28, L'28, X28, e28, W28, V28, O28, K28, N28, st28⟩ := own_stR X27 hx hZ e27 V26 O26 K26 N26 (Nat.le_trans (own_old_le O0) g1) (Or.inr (Nat.le_trans (Keep.refl h0 []).1 g1)) (j := (13 : Int32)) 13 (by decide) (Nat.le_of_ble_eq_true rfl) (vs' := [(.ref w5), (.ref w14), (.ref w11), (.ref w0), .null, (.ref w8), (.ref w15), (.ref w10), (.ref w13), (.ref w9), (.ref w7), (.ref w12), (.ref w6), (.ref w4), .null, .null, .null]) rfl rfl rfl (Or.inr ⟨_, _, rfl, O'1, (Ins.self (hS.2.2.2.2.2.2.2.2.2.2.2.2.2.1.ext O26.2))⟩) (g := (mkF m 106 #[.val (.int (7 : Int32)), .unset] [(.ref w4), (.int (13 : Int32)), (.ref b1), (.ref b1)])) rfl rfl (hb hby d1_106)
  obtain ⟨T29, X29, e29, st29⟩ := getS2 X28 hx hZ hown (host := "") (Or.inl (hw _ m34)) Via.refl e28 (hS.2.2.2.1.ext O28.2) (g := (mkF m 110 #[.val (.int (7 : Int32)), .unset] [(.int (14 : Int32)), (.ref b1), (.ref b1)])) rfl (hb hby d1_110)
  obtain ⟨T30, h30, L'30, X30, e30, W30, V30, O30, K30, N30, st30⟩ := own_stR X29 hx hZ e29 V28 O28 K28 N28 (Nat.le_trans (own_old_le O0) g1) (Or.inr (Nat.le_trans (Keep.refl h0 []).1 g1)) (j := (14 : Int32)) 14 (by decide) (Nat.le_of_ble_eq_true rfl) (vs' := [(.ref w5), (.ref w14), (.ref w11), (.ref w0), .null, (.ref w8), (.ref w15), (.ref w10), (.ref w13), (.ref w9), (.ref w7), (.ref w12), (.ref w6), (.ref w4), (.ref w1), .null, .null]) rfl rfl rfl (Or.inr ⟨_, _, rfl, O'1, (Ins.self (hS.2.2.2.2.1.ext O28.2))⟩) (g := (mkF m 113 #[.val (.int (7 : Int32)), .unset] [(.ref w1), (.int (14 : Int32)), (.ref b1), (.ref b1)])) rfl rfl (hb hby d1_113)
  obtain ⟨T31, X31, e31, st31⟩ := getS2 X30 hx hZ hown (host := "") (Or.inl (hw _ m36)) Via.refl e30 (hS.2.2.2.2.2.2.1.ext O30.2) (g := (mkF m 117 #[.val (.int (7 : Int32)), .unset] [(.int (15 : Int32)), (.ref b1), (.ref b1)])) rfl (hb hby d1_117)
  obtain ⟨T32, h32, L'32, X32, e32, W32, V32, O32, K32, N32, st32⟩ := own_stR X31 hx hZ e31 V30 O30 K30 N30 (Nat.le_trans (own_old_le O0) g1) (Or.inr (Nat.le_trans (Keep.refl h0 []).1 g1)) (j := (15 : Int32)) 15 (by decide) (Nat.le_of_ble_eq_true rfl) (vs' := [(.ref w5), (.ref w14), (.ref w11), (.ref w0), .null, (.ref w8), (.ref w15), (.ref w10), (.ref w13), (.ref w9), (.ref w7), (.ref w12), (.ref w6), (.ref w4), (.ref w1), (.ref w2), .null]) rfl rfl rfl (Or.inr ⟨_, _, rfl, O'1, (Ins.self (hS.2.2.2.2.2.2.2.1.ext O30.2))⟩) (g := (mkF m 120 #[.val (.int (7 : Int32)), .unset] [(.ref w2), (.int (15 : Int32)), (.ref b1), (.ref b1)])) rfl rfl (hb hby d1_120)
  obtain ⟨T33, X33, e33, st33⟩ := getS2 X32 hx hZ hown (host := "") (Or.inl (hw _ m38)) Via.refl e32 (hS.2.2.2.2.2.2.2.2.2.1.ext O32.2) (g := (mkF m 124 #[.val (.int (7 : Int32)), .unset] [(.int (16 : Int32)), (.ref b1), (.ref b1)])) rfl (hb hby d1_124)
  obtain ⟨T34, h34, L'34, X34, e34, W34, V34, O34, K34, N34, st34⟩ := own_stR X33 hx hZ e33 V32 O32 K32 N32 (Nat.le_trans (own_old_le O0) g1) (Or.inr (Nat.le_trans (Keep.refl h0 []).1 g1)) (j := (16 : Int32)) 16 (by decide) (Nat.le_of_ble_eq_true rfl) (vs' := [(.ref w5), (.ref w14), (.ref w11), (.ref w0), .null, (.ref w8), (.ref w15), (.ref w10), (.ref w13), (.ref w9), (.ref w7), (.ref w12), (.ref w6), (.ref w4), (.ref w1), (.ref w2), (.ref w3)]) rfl rfl rfl (Or.inr ⟨_, _, rfl, O'1, (Ins.self (hS.2.2.2.2.2.2.2.2.2.2.1.ext O32.2))⟩) (g := (mkF m 127 #[.val (.int (7 : Int32)), .unset] [(.ref w3), (.int (16 : Int32)), (.ref b1), (.ref b1)])) rfl rfl (hb hby d1_127)
  obtain ⟨fs, hr, hrun, hended, hW, hsame⟩ := X34.leave (v := some (.ref w10)) (fun h => by rw [Bd.returns] at h; cases h)
  refine ⟨_, _, pre0 _ ?_, hrun, hended, _, _, rfl, ?_, ⟨_, rfl⟩, hW, hsame.mono (by decide) (by decide)⟩
  · show Steps p.tables e below (s₁.setTop (mkF m 0 #[.val (.int (7 : Int32)), .unset] [])) _
    refine XS.iloadN X0.here hx rfl (hb hby d1_0) rfl ?_
    refine XS.ifNo X0.here hx rfl (hb hby d1_1) rfl ((if0 _ _).trans (flt (by decide : ¬ ((7 : Int32) < (0 : Int32)))).1) ?_
    refine XS.iloadN X0.here hx rfl (hb hby d1_4) rfl ?_
    refine XS.bipush X0.here hx rfl (hb hby d1_5) ?_
    show Steps p.tables e below (s₁.setTop (mkF m 7 #[.val (.int (7 : Int32)), .unset] [(.int (16 : Int32)), (.int (7 : Int32))])) _
    refine XS.icmpYes X0.here hx rfl (pc0 := 7) (pc' := 12) rfl (hb hby d1_7) rfl (flt (by decide : ¬ ((16 : Int32) < (7 : Int32)))).2.2.2 (by decide) (by decide) ?_
    refine XS.bipush X0.here hx rfl (hb hby d1_12) ?_
    refine st1 _ ?_
    refine XS.dup X1.here hx rfl (hb hby d1_17) rfl rfl ?_
    show Steps p.tables e below (T1.setTop (mkF m 18 #[.val (.int (7 : Int32)), .unset] [(.ref b1), (.ref b1)])) _
    refine XS.iconst X1.here hx rfl (hb hby d1_18) ?_
    refine st2 _ ?_
    refine st3 _ ?_
    refine XS.dup X3.here hx rfl (hb hby d1_23) rfl rfl ?_
    show Steps p.tables e below (T3.setTop (mkF m 24 #[.val (.int (7 : Int32)), .unset] [(.ref b1), (.ref b1)])) _
    refine XS.iconst X3.here hx rfl (hb hby d1_24) ?_
    refine st4 _ ?_
    refine st5 _ ?_
    refine XS.dup X5.here hx rfl (hb hby d1_29) rfl rfl ?_
    show Steps p.tables e below (T5.setTop (mkF m 30 #[.val (.int (7 : Int32)), .unset] [(.ref b1), (.ref b1)])) _
    refine XS.iconst X5.here hx rfl (hb hby d1_30) ?_
    refine st6 _ ?_
    refine st7 _ ?_
    refine XS.dup X7.here hx rfl (hb hby d1_35) rfl rfl ?_
    show Steps p.tables e below (T7.setTop (mkF m 36 #[.val (.int (7 : Int32)), .unset] [(.ref b1), (.ref b1)])) _
    refine XS.iconst X7.here hx rfl (hb hby d1_36) ?_
    refine st8 _ ?_
    refine st9 _ ?_
    refine XS.dup X9.here hx rfl (hb hby d1_41) rfl rfl ?_
    show Steps p.tables e below (T9.setTop (mkF m 42 #[.val (.int (7 : Int32)), .unset] [(.ref b1), (.ref b1)])) _
    refine XS.iconst X9.here hx rfl (hb hby d1_42) ?_
    refine XS.aconstNull X9.here hx rfl (hb hby d1_43) ?_
    refine st10 _ ?_
    refine XS.dup X10.here hx rfl (hb hby d1_45) rfl rfl ?_
    show Steps p.tables e below (T10.setTop (mkF m 46 #[.val (.int (7 : Int32)), .unset] [(.ref b1), (.ref b1)])) _
    refine XS.iconst X10.here hx rfl (hb hby d1_46) ?_
    refine st11 _ ?_
    refine st12 _ ?_
    refine XS.dup X12.here hx rfl (hb hby d1_51) rfl rfl ?_
    show Steps p.tables e below (T12.setTop (mkF m 52 #[.val (.int (7 : Int32)), .unset] [(.ref b1), (.ref b1)])) _
    refine XS.bipush X12.here hx rfl (hb hby d1_52) ?_
    refine st13 _ ?_
    refine st14 _ ?_
    refine XS.dup X14.here hx rfl (hb hby d1_58) rfl rfl ?_
    show Steps p.tables e below (T14.setTop (mkF m 59 #[.val (.int (7 : Int32)), .unset] [(.ref b1), (.ref b1)])) _
    refine XS.bipush X14.here hx rfl (hb hby d1_59) ?_
    refine st15 _ ?_
    refine st16 _ ?_
    refine XS.dup X16.here hx rfl (hb hby d1_65) rfl rfl ?_
    show Steps p.tables e below (T16.setTop (mkF m 66 #[.val (.int (7 : Int32)), .unset] [(.ref b1), (.ref b1)])) _
    refine XS.bipush X16.here hx rfl (hb hby d1_66) ?_
    refine st17 _ ?_
    refine st18 _ ?_
    refine XS.dup X18.here hx rfl (hb hby d1_72) rfl rfl ?_
    show Steps p.tables e below (T18.setTop (mkF m 73 #[.val (.int (7 : Int32)), .unset] [(.ref b1), (.ref b1)])) _
    refine XS.bipush X18.here hx rfl (hb hby d1_73) ?_
    refine st19 _ ?_
    refine st20 _ ?_
    refine XS.dup X20.here hx rfl (hb hby d1_79) rfl rfl ?_
    show Steps p.tables e below (T20.setTop (mkF m 80 #[.val (.int (7 : Int32)), .unset] [(.ref b1), (.ref b1)])) _
    refine XS.bipush X20.here hx rfl (hb hby d1_80) ?_
    refine st21 _ ?_
    refine st22 _ ?_
    refine XS.dup X22.here hx rfl (hb hby d1_86) rfl rfl ?_
    show Steps p.tables e below (T22.setTop (mkF m 87 #[.val (.int (7 : Int32)), .unset] [(.ref b1), (.ref b1)])) _
    refine XS.bipush X22.here hx rfl (hb hby d1_87) ?_
    refine st23 _ ?_
    refine st24 _ ?_
    refine XS.dup X24.here hx rfl (hb hby d1_93) rfl rfl ?_
    show Steps p.tables e below (T24.setTop (mkF m 94 #[.val (.int (7 : Int32)), .unset] [(.ref b1), (.ref b1)])) _
    refine XS.bipush X24.here hx rfl (hb hby d1_94) ?_
    refine st25 _ ?_
    refine st26 _ ?_
    refine XS.dup X26.here hx rfl (hb hby d1_100) rfl rfl ?_
    show Steps p.tables e below (T26.setTop (mkF m 101 #[.val (.int (7 : Int32)), .unset] [(.ref b1), (.ref b1)])) _
    refine XS.bipush X26.here hx rfl (hb hby d1_101) ?_
    refine st27 _ ?_
    refine st28 _ ?_
    refine XS.dup X28.here hx rfl (hb hby d1_107) rfl rfl ?_
    show Steps p.tables e below (T28.setTop (mkF m 108 #[.val (.int (7 : Int32)), .unset] [(.ref b1), (.ref b1)])) _
    refine XS.bipush X28.here hx rfl (hb hby d1_108) ?_
    refine st29 _ ?_
    refine st30 _ ?_
    refine XS.dup X30.here hx rfl (hb hby d1_114) rfl rfl ?_
    show Steps p.tables e below (T30.setTop (mkF m 115 #[.val (.int (7 : Int32)), .unset] [(.ref b1), (.ref b1)])) _
    refine XS.bipush X30.here hx rfl (hb hby d1_115) ?_
    refine st31 _ ?_
    refine st32 _ ?_
    refine XS.dup X32.here hx rfl (hb hby d1_121) rfl rfl ?_
    show Steps p.tables e below (T32.setTop (mkF m 122 #[.val (.int (7 : Int32)), .unset] [(.ref b1), (.ref b1)])) _
    refine XS.bipush X32.here hx rfl (hb hby d1_122) ?_
    refine st33 _ ?_
    refine st34 _ ?_
    refine XS.astoreN X34.here hx rfl (hb hby d1_128) rfl rfl (l' := #[.val (.int (7 : Int32)), .val (.ref b1)]) rfl ?_
    show Steps p.tables e below (T34.setTop (mkF m 129 #[.val (.int (7 : Int32)), .val (.ref b1)] [])) _
    refine XS.aloadN X34.here hx rfl (hb hby d1_129) rfl rfl ?_
    refine XS.iloadN X34.here hx rfl (hb hby d1_130) rfl ?_
    refine own_aaload X34 hx hZ e34 V34 (j := (7 : Int32)) (by decide) (v := (.ref w10)) rfl rfl (g := (mkF m 131 #[.val (.int (7 : Int32)), .val (.ref b1)] [(.int (7 : Int32)), (.ref b1)])) rfl rfl (hb hby d1_131) ?_
    exact retOut X34 hx Bd.returns rfl (Or.inr (Or.inr (Or.inr (Or.inr ⟨rfl, rfl, rfl⟩)))) (hb hby d1_132) hr
  · show Qrm23 Z w0 w1 w2 w3 w4 w5 w6 w7 w8 w9 w10 w11 w12 w13 w14 w15 w16 kw16 h0 n0 _ T34.heap _
    rw [e34]
    exact ⟨rfl, N34, K34⟩
def Qrm24 (Z : State) (w0 : Addr) (w1 : Addr) (w2 : Addr) (w3 : Addr) (w4 : Addr) (w5 : Addr) (w6 : Addr) (w7 : Addr) (w8 : Addr) (w9 : Addr) (w10 : Addr) (w11 : Addr) (w12 : Addr) (w13 : Addr) (w14 : Addr) (w15 : Addr) (w16 : Addr) (kw16 : ClassId) (h0 : Heap) (n0 : Nat) (v : Option Value) (h : Heap) (L : List Loc) : Prop := v = some (.ref w10) ∧ Fr n0 L ∧ h = h0
set_option maxRecDepth 65536 in
set_option maxHeartbeats 40000000 in
theorem rm24 (l : Launch) (Z : State) (a0 : Array Value) (hw : ∀ d ∈ tables_1, d.before a0 Z = true) (w0 : Addr) (w1 : Addr) (w2 : Addr) (w3 : Addr) (w4 : Addr) (w5 : Addr) (w6 : Addr) (w7 : Addr) (w8 : Addr) (w9 : Addr) (w10 : Addr) (w11 : Addr) (w12 : Addr) (w13 : Addr) (w14 : Addr) (w15 : Addr) (w16 : Addr) (kw16 : ClassId) (hS : SF Z w0 w1 w2 w3 w4 w5 w6 w7 w8 w9 w10 w11 w12 w13 w14 w15 w16 kw16) (ws : List Jvm.Cond) (h0 : Heap) (n0 : Nat) (O0 : Old Z n0 h0) :
    MetFree l (⟨z0, "of", z2⟩ : MethodName) (head1 (Jvm.Cond.code (⟨z0, "of", z2⟩ : MethodName) prog_90_method_5_code 1 (some (.object z0)) :: ws) ({ frames := 0, cells := 0, slots := 0, locals := 0 } : Room)) (fun a U => a = #[(.int (7 : Int32))] ∧ Z.Warmed39 U.vm ∧ U.heap = h0) (fun _ _ _ _ _ => True) (fun _ U o U' => ∃ v L, o = .returned v ∧ Qrm24 Z w0 w1 w2 w3 w4 w5 w6 w7 w8 w9 w10 w11 w12 w13 w14 w15 w16 kw16 h0 n0 v U'.heap L ∧ FrameEnd U o U' L ({ frames := 0, cells := 0, slots := 0, locals := 0 } : Room).cells ({ frames := 0, cells := 0, slots := 0, locals := 0 } : Room).slots) := by
  refine MetFree.of_bodySF (plainFor_of_name pn18) hisR ?_
  intro p e s m args below meth c s₁ Bd hml0 hP hK
  obtain ⟨rfl, hZ, hh⟩ := hP
  have hx := Bd.exec
  have hby := Bd.bytes
  have hml : c.maxLocals = 1 := hml0
  have hown : s.vm.findClass z0 = some m.cls := findClass_of_methodNamed Bd.named
  have hnm := (name_of_methodNamed Bd.named Bd.method).1
  have X0 : Stand p l e ({ frames := 0, cells := 0, slots := 0, locals := 0 } : Room) s m #[(.int (7 : Int32))] below meth c s₁ [] 0 0 := Stand.of_body Bd
  have e0 : s₁.heap = h0 := by rw [← hh, Bd.state]; rfl
  have N0 := Fr.nil n0
  have pre0 : ∀ t, Steps p.tables e below (s₁.setTop (mkF m 0 #[.val (.int (7 : Int32))] [])) t → Steps p.tables e below (s₁.setTop (entryFrame m #[(.int (7 : Int32))] 1)) t := fun t k => castTop (ef17 m (7 : Int32)) k
  obtain ⟨T1, X1, e1, st1⟩ := getS2 X0 hx hZ hown (host := "") (Or.inl (hw _ m43)) Via.refl e0 (hS.2.2.2.2.2.2.2.2.2.2.2.2.2.2.2.2.2.2.2.2.2.2.2.2.2.2.2.2.2.2.2.2.2.2.2.2.2.2.2.2.2.2.2.2.2.2.2.2.1.ext O0.2) (g := (mkF m 5 #[.val (.int (7 : Int32))] [(.int (7 : Int32))])) rfl (hb hby d2_5)
  obtain ⟨T2, X2, e2, st2⟩ := getS2 X1 hx hZ hown (host := "") (Or.inl (hw _ m43)) Via.refl e1 (hS.2.2.2.2.2.2.2.2.2.2.2.2.2.2.2.2.2.2.2.2.2.2.2.2.2.2.2.2.2.2.2.2.2.2.2.2.2.2.2.2.2.2.2.2.2.2.2.2.1.ext O0.2) (g := (mkF m 12 #[.val (.int (7 : Int32))] [])) rfl (hb hby d2_12)
  obtain ⟨fs, hr, hrun, hended, hW, hsame⟩ := X2.leave (v := some (.ref w10)) (fun h => by rw [Bd.returns] at h; cases h)
  refine ⟨_, _, pre0 _ ?_, hrun, hended, _, _, rfl, ?_, ⟨_, rfl⟩, hW, hsame.mono (by decide) (by decide)⟩
  · show Steps p.tables e below (s₁.setTop (mkF m 0 #[.val (.int (7 : Int32))] [])) _
    refine XS.iloadN X0.here hx rfl (hb hby d2_0) rfl ?_
    refine XS.ifNo X0.here hx rfl (hb hby d2_1) rfl ((if0 _ _).trans (flt (by decide : ¬ ((7 : Int32) < (0 : Int32)))).1) ?_
    refine XS.iloadN X0.here hx rfl (hb hby d2_4) rfl ?_
    refine st1 _ ?_
    show Steps p.tables e below (T1.setTop (mkF m 8 #[.val (.int (7 : Int32))] [(.ref w16), (.int (7 : Int32))])) _
    refine own_alen X1 hx hZ e1 (hS.2.2.2.2.2.2.2.2.2.2.2.2.2.2.2.2.2.2.2.2.2.2.2.2.2.2.2.2.2.2.2.2.2.2.2.2.2.2.2.2.2.2.2.2.2.2.2.2.2.ext O0.2) (g := (mkF m 8 #[.val (.int (7 : Int32))] [(.ref w16), (.int (7 : Int32))])) rfl rfl (hb hby d2_8) ?_
    refine XS.icmpNo X1.here hx rfl (hb hby d2_9) rfl (tlt (by decide : (7 : Int32) < (17 : Int32))).2.1 ?_
    refine st2 _ ?_
    refine XS.iloadN X2.here hx rfl (hb hby d2_15) rfl ?_
    show Steps p.tables e below (T2.setTop (mkF m 16 #[.val (.int (7 : Int32))] [(.int (7 : Int32)), (.ref w16)])) _
    refine own_aaload X2 hx hZ e2 (hS.2.2.2.2.2.2.2.2.2.2.2.2.2.2.2.2.2.2.2.2.2.2.2.2.2.2.2.2.2.2.2.2.2.2.2.2.2.2.2.2.2.2.2.2.2.2.2.2.2.ext O0.2) (j := (7 : Int32)) (by decide) (v := (.ref w10)) rfl rfl (g := (mkF m 16 #[.val (.int (7 : Int32))] [(.int (7 : Int32)), (.ref w16)])) rfl rfl (hb hby d2_16) ?_
    refine XS.goto X2.here hx rfl (pc0 := 17) (pc' := 21) rfl (hb hby d2_17) (by decide) (by decide) ?_
    exact retOut X2 hx Bd.returns rfl (Or.inr (Or.inr (Or.inr (Or.inr ⟨rfl, rfl, rfl⟩)))) (hb hby d2_21) hr
  · show Qrm24 Z w0 w1 w2 w3 w4 w5 w6 w7 w8 w9 w10 w11 w12 w13 w14 w15 w16 kw16 h0 n0 _ T2.heap _
    rw [e2]
    exact ⟨rfl, N0, rfl⟩
def Qrm25 (Z : State) (w0 : Addr) (w1 : Addr) (w2 : Addr) (w3 : Addr) (w4 : Addr) (w5 : Addr) (w6 : Addr) (w7 : Addr) (w8 : Addr) (w9 : Addr) (w10 : Addr) (w11 : Addr) (w12 : Addr) (w13 : Addr) (w14 : Addr) (w15 : Addr) (w16 : Addr) (kw16 : ClassId) (h0 : Heap) (n0 : Nat) (v : Option Value) (h : Heap) (L : List Loc) : Prop := v = some (.int (7 : Int32)) ∧ Fr n0 L ∧ h = h0
set_option maxRecDepth 65536 in
set_option maxHeartbeats 40000000 in
theorem rm25 (l : Launch) (Z : State) (a0 : Array Value) (hw : ∀ d ∈ tables_1, d.before a0 Z = true) (w0 : Addr) (w1 : Addr) (w2 : Addr) (w3 : Addr) (w4 : Addr) (w5 : Addr) (w6 : Addr) (w7 : Addr) (w8 : Addr) (w9 : Addr) (w10 : Addr) (w11 : Addr) (w12 : Addr) (w13 : Addr) (w14 : Addr) (w15 : Addr) (w16 : Addr) (kw16 : ClassId) (hS : SF Z w0 w1 w2 w3 w4 w5 w6 w7 w8 w9 w10 w11 w12 w13 w14 w15 w16 kw16) (ws : List Jvm.Cond) (h0 : Heap) (n0 : Nat) (O0 : Old Z n0 h0) :
    MetFree l (⟨z0, "code", "()I"⟩ : MethodName) (head1 (Jvm.Cond.code (⟨z0, "code", "()I"⟩ : MethodName) prog_90_method_4_code 1 (some .int) :: ws) ({ frames := 0, cells := 0, slots := 0, locals := 0 } : Room)) (fun a U => a = #[(.ref w10)] ∧ Z.Warmed39 U.vm ∧ U.heap = h0) (fun _ _ _ _ _ => True) (fun _ U o U' => ∃ v L, o = .returned v ∧ Qrm25 Z w0 w1 w2 w3 w4 w5 w6 w7 w8 w9 w10 w11 w12 w13 w14 w15 w16 kw16 h0 n0 v U'.heap L ∧ FrameEnd U o U' L ({ frames := 0, cells := 0, slots := 0, locals := 0 } : Room).cells ({ frames := 0, cells := 0, slots := 0, locals := 0 } : Room).slots) := by
  refine MetFree.of_bodySF (plainFor_of_name pn18) hisR ?_
  intro p e s m args below meth c s₁ Bd hml0 hP hK
  obtain ⟨rfl, hZ, hh⟩ := hP
  have hx := Bd.exec
  have hby := Bd.bytes
  have hml : c.maxLocals = 1 := hml0
  have hown : s.vm.findClass z0 = some m.cls := findClass_of_methodNamed Bd.named
  have hnm := (name_of_methodNamed Bd.named Bd.method).1
  have X0 : Stand p l e ({ frames := 0, cells := 0, slots := 0, locals := 0 } : Room) s m #[(.ref w10)] below meth c s₁ [] 0 0 := Stand.of_body Bd
  have e0 : s₁.heap = h0 := by rw [← hh, Bd.state]; rfl
  have N0 := Fr.nil n0
  have pre0 : ∀ t, Steps p.tables e below (s₁.setTop (mkF m 0 #[.val (.ref w10)] [])) t → Steps p.tables e below (s₁.setTop (entryFrame m #[(.ref w10)] 1)) t := fun t k => castTop (ef135 m w10) k
  obtain ⟨T1, X1, e1, st1⟩ := getF X0 hx hZ hown (host := "") (Or.inl (hw _ m50)) Via.refl e0 (hS.2.2.2.2.2.2.2.2.2.2.2.2.2.2.2.2.2.2.2.2.2.2.2.2.2.2.2.2.2.2.2.2.1.ext O0.2) (g := (mkF m 1 #[.val (.ref w10)] [(.ref w10)])) rfl rfl (hb hby d3_1)
  obtain ⟨fs, hr, hrun, hended, hW, hsame⟩ := X1.leave (v := some (.int (7 : Int32))) (fun h => by rw [Bd.returns] at h; cases h)
  refine ⟨_, _, pre0 _ ?_, hrun, hended, _, _, rfl, ?_, ⟨_, rfl⟩, hW, hsame.mono (by decide) (by decide)⟩
  · show Steps p.tables e below (s₁.setTop (mkF m 0 #[.val (.ref w10)] [])) _
    refine XS.aloadN X0.here hx rfl (hb hby d3_0) rfl rfl ?_
    refine st1 _ ?_
    exact retOut X1 hx Bd.returns rfl (Or.inl ⟨rfl, Or.inl rfl, _, rfl⟩) (hb hby d3_4) hr
  · show Qrm25 Z w0 w1 w2 w3 w4 w5 w6 w7 w8 w9 w10 w11 w12 w13 w14 w15 w16 kw16 h0 n0 _ T1.heap _
    rw [e1]
    exact ⟨rfl, N0, rfl⟩
def Qrm26 (Z : State) (w0 : Addr) (w1 : Addr) (w2 : Addr) (w3 : Addr) (w4 : Addr) (w5 : Addr) (w6 : Addr) (w7 : Addr) (w8 : Addr) (w9 : Addr) (w10 : Addr) (w11 : Addr) (w12 : Addr) (w13 : Addr) (w14 : Addr) (w15 : Addr) (w16 : Addr) (kw16 : ClassId) (h0 : Heap) (n0 : Nat) (v : Option Value) (h : Heap) (L : List Loc) : Prop := v = some (.ref w13) ∧ Fr n0 L ∧ Keep h0 h []
set_option maxRecDepth 65536 in
set_option maxHeartbeats 40000000 in
theorem rm26 (l : Launch) (Z : State) (a0 : Array Value) (hw : ∀ d ∈ tables_1, d.before a0 Z = true) (w0 : Addr) (w1 : Addr) (w2 : Addr) (w3 : Addr) (w4 : Addr) (w5 : Addr) (w6 : Addr) (w7 : Addr) (w8 : Addr) (w9 : Addr) (w10 : Addr) (w11 : Addr) (w12 : Addr) (w13 : Addr) (w14 : Addr) (w15 : Addr) (w16 : Addr) (kw16 : ClassId) (hS : SF Z w0 w1 w2 w3 w4 w5 w6 w7 w8 w9 w10 w11 w12 w13 w14 w15 w16 kw16) (ws : List Jvm.Cond) (h0 : Heap) (n0 : Nat) (O0 : Old Z n0 h0) :
    MetFree l (⟨z1, "expected", z2⟩ : MethodName) (head1 (Jvm.Cond.code (⟨z1, "expected", z2⟩ : MethodName) method_3_code 2 (some (.object z0)) :: ws) ({ frames := 0, cells := 1, slots := 17, locals := 0 } : Room)) (fun a U => a = #[(.int (8 : Int32))] ∧ Z.Warmed39 U.vm ∧ U.heap = h0) (fun _ _ _ _ _ => True) (fun _ U o U' => ∃ v L, o = .returned v ∧ Qrm26 Z w0 w1 w2 w3 w4 w5 w6 w7 w8 w9 w10 w11 w12 w13 w14 w15 w16 kw16 h0 n0 v U'.heap L ∧ FrameEnd U o U' L ({ frames := 0, cells := 1, slots := 17, locals := 0 } : Room).cells ({ frames := 0, cells := 1, slots := 17, locals := 0 } : Room).slots) := by
  refine MetFree.of_bodySF (plainFor_of_name pn7) hisR ?_
  intro p e s m args below meth c s₁ Bd hml0 hP hK
  obtain ⟨rfl, hZ, hh⟩ := hP
  have hx := Bd.exec
  have hby := Bd.bytes
  have hml : c.maxLocals = 2 := hml0
  have hown : s.vm.findClass z1 = some m.cls := findClass_of_methodNamed Bd.named
  have hnm := (name_of_methodNamed Bd.named Bd.method).1
  have X0 : Stand p l e ({ frames := 0, cells := 1, slots := 17, locals := 0 } : Room) s m #[(.int (8 : Int32))] below meth c s₁ [] 0 0 := Stand.of_body Bd
  have e0 : s₁.heap = h0 := by rw [← hh, Bd.state]; rfl
  have N0 := Fr.nil n0
  have pre0 : ∀ t, Steps p.tables e below (s₁.setTop (mkF m 0 #[.val (.int (8 : Int32)), .unset] [])) t → Steps p.tables e below (s₁.setTop (entryFrame m #[(.int (8 : Int32))] 2)) t := fun t k => castTop (ef6 m (8 : Int32)) k
  obtain ⟨T1, h1, k1, b1, X1, e1, E1, V1, O'1, g1, O1, K1, st1⟩ := own_newR X0 hx hZ (vs := [.null, .null, .null, .null, .null, .null, .null, .null, .null, .null, .null, .null, .null, .null, .null, .null, .null]) (cap := 17) rfl hown (hw _ m4) (hw _ m5) e0 O0 (Keep.refl h0 []) (g := (mkF m 14 #[.val (.int (8 : Int32)), .unset] [(.int (17 : Int32))])) rfl (hb hby d1_14) rfl (by decide) (by decide) (by decide) (by decide) (by decide)
  obtain ⟨T2, X2, e2, st2⟩ := getS2 X1 hx hZ hown (host := "") (Or.inl (hw _ m6)) Via.refl e1 (hS.2.2.2.2.2.2.2.2.2.2.2.2.2.2.2.1.ext O1.2) (g := (mkF m 19 #[.val (.int (8 : Int32)), .unset] [(.int (0 : Int32)), (.ref b1), (.ref b1)])) rfl (hb hby d1_19)
  obtain ⟨T3, h3, L'3, X3, e3, W3, V3, O3, K3, N3, st3⟩ := own_stR X2 hx hZ e2 V1 O1 K1 N0 (Nat.le_trans (own_old_le O0) g1) (Or.inr (Nat.le_trans (Keep.refl h0 []).1 g1)) (j := (0 : Int32)) 0 (by decide) (Nat.le_of_ble_eq_true rfl) (vs' := [(.ref w5), .null, .null, .null, .null, .null, .null, .null, .null, .null, .null, .null, .null, .null, .null, .null, .null]) rfl rfl rfl (Or.inr ⟨_, _, rfl, O'1, (Ins.self (hS.2.2.2.2.2.2.2.2.2.2.2.2.2.2.2.2.1.ext O1.2))⟩) (g := (mkF m 22 #[.val (.int (8 : Int32)), .unset] [(.ref w5), (.int (0 : Int32)), (.ref b1), (.ref b1)])) rfl rfl (hb hby d1_22)
  obtain ⟨T4, X4, e4, st4⟩ := getS2 X3 hx hZ hown (host := "") (Or.inl (hw _ m10)) Via.refl e3 (hS.2.2.2.2.2.2.2.2.2.2.2.2.2.2.2.2.2.2.2.2.2.2.2.2.2.2.2.2.2.2.2.2.2.2.2.2.2.2.2.2.2.2.1.ext O3.2) (g := (mkF m 25 #[.val (.int (8 : Int32)), .unset] [(.int (1 : Int32)), (.ref b1), (.ref b1)])) rfl (hb hby d1_25)
  obtain ⟨T5, h5, L'5, X5, e5, W5, V5, O5, K5, N5, st5⟩ := own_stR X4 hx hZ e4 V3 O3 K3 N3 (Nat.le_trans (own_old_le O0) g1) (Or.inr (Nat.le_trans (Keep.refl h0 []).1 g1)) (j := (1 : Int32)) 1 (by decide) (Nat.le_of_ble_eq_true rfl) (vs' := [(.ref w5), (.ref w14), .null, .null, .null, .null, .null, .null, .null, .null, .null, .null, .null, .null, .null, .null, .null]) rfl rfl rfl (Or.inr ⟨_, _, rfl, O'1, (Ins.self (hS.2.2.2.2.2.2.2.2.2.2.2.2.2.2.2.2.2.2.2.2.2.2.2.2.2.2.2.2.2.2.2.2.2.2.2.2.2.2.2.2.2.2.2.1.ext O3.2))⟩) (g := (mkF m 28 #[.val (.int (8 : Int32)), .unset] [(.ref w14), (.int (1 : Int32)), (.ref b1), (.ref b1)])) rfl rfl (hb hby d1_28)
  obtain ⟨T6, X6, e6, st6⟩ := getS2 X5 hx hZ hown (host := "") (Or.inl (hw _ m12)) Via.refl e5 (hS.2.2.2.2.2.2.2.2.2.2.2.2.2.2.2.2.2.2.2.2.2.2.2.2.2.2.2.2.2.2.2.2.2.1.ext O5.2) (g := (mkF m 31 #[.val (.int (8 : Int32)), .unset] [(.int (2 : Int32)), (.ref b1), (.ref b1)])) rfl (hb hby d1_31)
  obtain ⟨T7, h7, L'7, X7, e7, W7, V7, O7, K7, N7, st7⟩ := own_stR X6 hx hZ e6 V5 O5 K5 N5 (Nat.le_trans (own_old_le O0) g1) (Or.inr (Nat.le_trans (Keep.refl h0 []).1 g1)) (j := (2 : Int32)) 2 (by decide) (Nat.le_of_ble_eq_true rfl) (vs' := [(.ref w5), (.ref w14), (.ref w11), .null, .null, .null, .null, .null, .null, .null, .null, .null, .null, .null, .null, .null, .null]) rfl rfl rfl (Or.inr ⟨_, _, rfl, O'1, (Ins.self (hS.2.2.2.2.2.2.2.2.2.2.2.2.2.2.2.2.2.2.2.2.2.2.2.2.2.2.2.2.2.2.2.2.2.2.1.ext O5.2))⟩) (g := (mkF m 34 #[.val (.int (8 : Int32)), .unset] [(.ref w11), (.int (2 : Int32)), (.ref b1), (.ref b1)])) rfl rfl (hb hby d1_34)
  obtain ⟨T8, X8, e8, st8⟩ := getS2 X7 hx hZ hown (host := "") (Or.inl (hw _ m14)) Via.refl e7 (hS.1.ext O7.2) (g := (mkF m 37 #[.val (.int (8 : Int32)), .unset] [(.int (3 : Int32)), (.ref b1), (.ref b1)])) rfl (hb hby d1_37)
  obtain ⟨T9, h9, L'9, X9, e9, W9, V9, O9, K9, N9, st9⟩ := own_stR X8 hx hZ e8 V7 O7 K7 N7 (Nat.le_trans (own_old_le O0) g1) (Or.inr (Nat.le_trans (Keep.refl h0 []).1 g1)) (j := (3 : Int32)) 3 (by decide) (Nat.le_of_ble_eq_true rfl) (vs' := [(.ref w5), (.ref w14), (.ref w11), (.ref w0), .null, .null, .null, .null, .null, .null, .null, .null, .null, .null, .null, .null, .null]) rfl rfl rfl (Or.inr ⟨_, _, rfl, O'1, (Ins.self (hS.2.1.ext O7.2))⟩) (g := (mkF m 40 #[.val (.int (8 : Int32)), .unset] [(.ref w0), (.int (3 : Int32)), (.ref b1), (.ref b1)])) rfl rfl (hb hby d1_40)
  obtain ⟨T10, h10, L'10, X10, e10, W10, V10, O10, K10, N10, st10⟩ := own_stR X9 hx hZ e9 V9 O9 K9 N9 (Nat.le_trans (own_old_le O0) g1) (Or.inr (Nat.le_trans (Keep.refl h0 []).1 g1)) (j := (4 : Int32)) 4 (by decide) (Nat.le_of_ble_eq_true rfl) (vs' := [(.ref w5), (.ref w14), (.ref w11), (.ref w0), .null, .null, .null, .null, .null, .null, .null, .null, .null, .null, .null, .null, .null]) rfl rfl rfl (Or.inl rfl) (g := (mkF m 44 #[.val (.int (8 : Int32)), .unset] [.null, (.int (4 : Int32)), (.ref b1), (.ref b1)])) rfl rfl (hb hby d1_44)
  obtain ⟨T11, X11, e11, st11⟩ := getS2 X10 hx hZ hown (host := "") (Or.inl (hw _ m16)) Via.refl e10 (hS.2.2.2.2.2.2.2.2.2.2.2.2.2.2.2.2.2.2.2.2.2.2.2.2.1.ext O10.2) (g := (mkF m 47 #[.val (.int (8 : Int32)), .unset] [(.int (5 : Int32)), (.ref b1), (.ref b1)])) rfl (hb hby d1_47)
  obtain ⟨T12, h12, L'12, X12, e12, W12, V12, O12, K12, N12, st12⟩ := own_stR X11 hx hZ e11 V10 O10 K10 N10 (Nat.le_trans (own_old_le O0) g1) (Or.inr (Nat.le_trans (Keep.refl h0 []).1 g1)) (j := (5 : Int32)) 5 (by decide) (Nat.le_of_ble_eq_true rfl) (vs' := [(.ref w5), (.ref w14), (.ref w11), (.ref w0), .null, (.ref w8), .null, .null, .null, .null, .null, .null, .null, .null, .null, .null, .null]) rfl rfl rfl (Or.inr ⟨_, _, rfl, O'1, (Ins.self (hS.2.2.2.2.2.2.2.2.2.2.2.2.2.2.2.2.2.2.2.2.2.2.2.2.2.1.ext O10.2))⟩) (g := (mkF m 50 #[.val (.int (8 : Int32)), .unset] [(.ref w8), (.int (5 : Int32)), (.ref b1), (.ref b1)])) rfl rfl (hb hby d1_50)
  obtain ⟨T13, X13, e13, st13⟩ := getS2 X12 hx hZ hown (host := "") (Or.inl (hw _ m18)) Via.refl e12 (hS.2.2.2.2.2.2.2.2.2.2.2.2.2.2.2.2.2.2.2.2.2.2.2.2.2.2.2.2.2.2.2.2.2.2.2.2.2.2.2.2.2.2.2.2.2.1.ext O12.2) (g := (mkF m 54 #[.val (.int (8 : Int32)), .unset] [(.int (6 : Int32)), (.ref b1), (.ref b1)])) rfl (hb hby d1_54)
  obtain ⟨T14, h14, L'14, X14, e14, W14, V14, O14, K14, N14, st14⟩ := own_stR X13 hx hZ e13 V12 O12 K12 N12 (Nat.le_trans (own_old_le O0) g1) (Or.inr (Nat.le_trans (Keep.refl h0 []).1 g1)) (j := (6 : Int32)) 6 (by decide) (Nat.le_of_ble_eq_true rfl) (vs' := [(.ref w5), (.ref w14), (.ref w11), (.ref w0), .null, (.ref w8), (.ref w15), .null, .null, .null, .null, .null, .null, .null, .null, .null, .null]) rfl rfl rfl (Or.inr ⟨_, _, rfl, O'1, (Ins.self (hS.2.2.2.2.2.2.2.2.2.2.2.2.2.2.2.2.2.2.2.2.2.2.2.2.2.2.2.2.2.2.2.2.2.2.2.2.2.2.2.2.2.2.2.2.2.2.1.ext O12.2))⟩) (g := (mkF m 57 #[.val (.int (8 : Int32)), .unset] [(.ref w15), (.int (6 : Int32)), (.ref b1), (.ref b1)])) rfl rfl (hb hby d1_57)
  obtain ⟨T15, X15, e15, st15⟩ := getS2 X14 hx hZ hown (host := "") (Or.inl (hw _ m20)) Via.refl e14 (hS.2.2.2.2.2.2.2.2.2.2.2.2.2.2.2.2.2.2.2.2.2.2.2.2.2.2.2.2.2.2.1.ext O14.2) (g := (mkF m 61 #[.val (.int (8 : Int32)), .unset] [(.int (7 : Int32)), (.ref b1), (.ref b1)])) rfl (hb hby d1_61)
  obtain ⟨T16, h16, L'16, X16, e16, W16, V16, O16, K16, N16, st16⟩ := own_stR X15 hx hZ e15 V14 O14 K14 N14 (Nat.le_trans (own_old_le O0) g1) (Or.inr (Nat.le_trans (Keep.refl h0 []).1 g1)) (j := (7 : Int32)) 7 (by decide) (Nat.le_of_ble_eq_true rfl) (vs' := [(.ref w5), (.ref w14), (.ref w11), (.ref w0), .null, (.ref w8), (.ref w15), (.ref w10), .null, .null, .null, .null, .null, .null, .null, .null, .null]) rfl rfl rfl (Or.inr ⟨_, _, rfl, O'1, (Ins.self (hS.2.2.2.2.2.2.2.2.2.2.2.2.2.2.2.2.2.2.2.2.2.2.2.2.2.2.2.2.2.2.2.1.ext O14.2))⟩) (g := (mkF m 64 #[.val (.int (8 : Int32)), .unset] [(.ref w10), (.int (7 : Int32)), (.ref b1), (.ref b1)])) rfl rfl (hb hby d1_64)
  obtain ⟨T17, X17, e17, st17⟩ := getS2 X16 hx hZ hown (host := "") (Or.inl (hw _ m22)) Via.refl e16 (hS.2.2.2.2.2.2.2.2.2.2.2.2.2.2.2.2.2.2.2.2.2.2.2.2.2.2.2.2.2.2.2.2.2.2.2.2.2.2.2.1.ext O16.2) (g := (mkF m 68 #[.val (.int (8 : Int32)), .unset] [(.int (8 : Int32)), (.ref b1), (.ref b1)])) rfl (hb hby d1_68)
  obtain ⟨T18, h18, L'18, X18, e18, W18, V18, O18, K18, N18, st18⟩ := own_stR X17 hx hZ e17 V16 O16 K16 N16 (Nat.le_trans (own_old_le O0) g1) (Or.inr (Nat.le_trans (Keep.refl h0 []).1 g1)) (j := (8 : Int32)) 8 (by decide) (Nat.le_of_ble_eq_true rfl) (vs' := [(.ref w5), (.ref w14), (.ref w11), (.ref w0), .null, (.ref w8), (.ref w15), (.ref w10), (.ref w13), .null, .null, .null, .null, .null, .null, .null, .null]) rfl rfl rfl (Or.inr ⟨_, _, rfl, O'1, (Ins.self (hS.2.2.2.2.2.2.2.2.2.2.2.2.2.2.2.2.2.2.2.2.2.2.2.2.2.2.2.2.2.2.2.2.2.2.2.2.2.2.2.2.1.ext O16.2))⟩) (g := (mkF m 71 #[.val (.int (8 : Int32)), .unset] [(.ref w13), (.int (8 : Int32)), (.ref b1), (.ref b1)])) rfl rfl (hb hby d1_71)
  obtain ⟨T19, X19, e19, st19⟩ := getS2 X18 hx hZ hown (host := "") (Or.inl (hw _ m24)) Via.refl e18 (hS.2.2.2.2.2.2.2.2.2.2.2.2.2.2.2.2.2.2.2.2.2.2.2.2.2.2.2.1.ext O18.2) (g := (mkF m 75 #[.val (.int (8 : Int32)), .unset] [(.int (9 : Int32)), (.ref b1), (.ref b1)])) rfl (hb hby d1_75)
  obtain ⟨T20, h20, L'20, X20, e20, W20, V20, O20, K20, N20, st20⟩ := own_stR X19 hx hZ e19 V18 O18 K18 N18 (Nat.le_trans (own_old_le O0) g1) (Or.inr (Nat.le_trans (Keep.refl h0 []).1 g1)) (j := (9 : Int32)) 9 (by decide) (Nat.le_of_ble_eq_true rfl) (vs' := [(.ref w5), (.ref w14), (.ref w11), (.ref w0), .null, (.ref w8), (.ref w15), (.ref w10), (.ref w13), (.ref w9), .null, .null, .null, .null, .null, .null, .null]) rfl rfl rfl (Or.inr ⟨_, _, rfl, O'1, (Ins.self (hS.2.2.2.2.2.2.2.2.2.2.2.2.2.2.2.2.2.2.2.2.2.2.2.2.2.2.2.2.1.ext O18.2))⟩) (g := (mkF m 78 #[.val (.int (8 : Int32)), .unset] [(.ref w9), (.int (9 : Int32)), (.ref b1), (.ref b1)])) rfl rfl (hb hby d1_78)
  obtain ⟨T21, X21, e21, st21⟩ := getS2 X20 hx hZ hown (host := "") (Or.inl (hw _ m26)) Via.refl e20 (hS.2.2.2.2.2.2.2.2.2.2.2.2.2.2.2.2.2.2.2.2.2.1.ext O20.2) (g := (mkF m 82 #[.val (.int (8 : Int32)), .unset] [(.int (10 : Int32)), (.ref b1), (.ref b1)])) rfl (hb hby d1_82)
  obtain ⟨T22, h22, L'22, X22, e22, W22, V22, O22, K22, N22, st22⟩ := own_stR X21 hx hZ e21 V20 O20 K20 N20 (Nat.le_trans (own_old_le O0) g1) (Or.inr (Nat.le_trans (Keep.refl h0 []).1 g1)) (j := (10 : Int32)) 10 (by decide) (Nat.le_of_ble_eq_true rfl) (vs' := [(.ref w5), (.ref w14), (.ref w11), (.ref w0), .null, (.ref w8), (.ref w15), (.ref w10), (.ref w13), (.ref w9), (.ref w7), .null, .null, .null, .null, .null, .null]) rfl rfl rfl (Or.inr ⟨_, _, rfl, O'1, (Ins.self (hS.2.2.2.2.2.2.2.2.2.2.2.2.2.2.2.2.2.2.2.2.2.2.1.ext O20.2))⟩) (g := (mkF m 85 #[.val (.int (8 : Int32)), .unset] [(.ref w7), (.int (10 : Int32)), (.ref b1), (.ref b1)])) rfl rfl (hb hby d1_85)
  obtain ⟨T23, X23, e23, st23⟩ := getS2 X22 hx hZ hown (host := "") (Or.inl (hw _ m28)) Via.refl e22 (hS.2.2.2.2.2.2.2.2.2.2.2.2.2.2.2.2.2.2.2.2.2.2.2.2.2.2.2.2.2.2.2.2.2.2.2.2.1.ext O22.2) (g := (mkF m 89 #[.val (.int (8 : Int32)), .unset] [(.int (11 : Int32)), (.ref b1), (.ref b1)])) rfl (hb hby d1_89)
  obtain ⟨T24, h24, L'24, X24, e24, W24, V24, O24, K24, N24, st24⟩ := own_stR X23 hx hZ e23 V22 O22 K22 N22 (Nat.le_trans (own_old_le O0) g1) (Or.inr (Nat.le_trans (Keep.refl h0 []).1 g1)) (j := (11 : Int32)) 11 (by decide) (Nat.le_of_ble_eq_true rfl) (vs' := [(.ref w5), (.ref w14), (.ref w11), (.ref w0), .null, (.ref w8), (.ref w15), (.ref w10), (.ref w13), (.ref w9), (.ref w7), (.ref w12), .null, .null, .null, .null, .null]) rfl rfl rfl (Or.inr ⟨_, _, rfl, O'1, (Ins.self (hS.2.2.2.2.2.2.2.2.2.2.2.2.2.2.2.2.2.2.2.2.2.2.2.2.2.2.2.2.2.2.2.2.2.2.2.2.2.1.ext O22.2))⟩) (g := (mkF m 92 #[.val (.int (8 : Int32)), .unset] [(.ref w12), (.int (11 : Int32)), (.ref b1), (.ref b1)])) rfl rfl (hb hby d1_92)
  obtain ⟨T25, X25, e25, st25⟩ := getS2 X24 hx hZ hown (host := "") (Or.inl (hw _ m30)) Via.refl e24 (hS.2.2.2.2.2.2.2.2.2.2.2.2.2.2.2.2.2.2.1.ext O24.2) (g := (mkF m 96 #[.val (.int (8 : Int32)), .unset] [(.int (12 : Int32)), (.ref b1), (.ref b1)])) rfl (hb hby d1_96)
  obtain ⟨T26, h26, L'26, X26, e26, W26, V26, O26, K26, N26, st26⟩ := own_stR X25 hx hZ e25 V24 O24 K24 N24 (Nat.le_trans (own_old_le O0) g1) (Or.inr (Nat.le_trans (Keep.refl h0 []).1 g1)) (j := (12 : Int32)) 12 (by decide) (Nat.le_of_ble_eq_true rfl) (vs' := [(.ref w5), (.ref w14), (.ref w11), (.ref w0), .null, (.ref w8), (.ref w15), (.ref w10), (.ref w13), (.ref w9), (.ref w7), (.ref w12), (.ref w6), .null, .null, .null, .null]) rfl rfl rfl (Or.inr ⟨_, _, rfl, O'1, (Ins.self (hS.2.2.2.2.2.2.2.2.2.2.2.2.2.2.2.2.2.2.2.1.ext O24.2))⟩) (g := (mkF m 99 #[.val (.int (8 : Int32)), .unset] [(.ref w6), (.int (12 : Int32)), (.ref b1), (.ref b1)])) rfl rfl (hb hby d1_99)
  obtain ⟨T27, X27, e27, st27⟩ := getS2 X26 hx hZ hown (host := "") (Or.inl (hw _ m32)) Via.refl e26 (hS.2.2.2.2.2.2.2.2.2.2.2.2.1.ext O26.2) (g := (mkF m 103 #[.val (.int (8 : Int32)), .unset] [(.int (13 : Int32)), (.ref b1), (.ref b1)])) rfl (hb hby d1_103)
  obtain ⟨T28, h28, L'28, X28, e28, W28, V28, O28, K28, N28, st28⟩ := own_stR X27 hx hZ e27 V26 O26 K26 N26 (Nat.le_trans (own_old_le O0) g1) (Or.inr (Nat.le_trans (Keep.refl h0 []).1 g1)) (j := (13 : Int32)) 13 (by decide) (Nat.le_of_ble_eq_true rfl) (vs' := [(.ref w5), (.ref w14), (.ref w11), (.ref w0), .null, (.ref w8), (.ref w15), (.ref w10), (.ref w13), (.ref w9), (.ref w7), (.ref w12), (.ref w6), (.ref w4), .null, .null, .null]) rfl rfl rfl (Or.inr ⟨_, _, rfl, O'1, (Ins.self (hS.2.2.2.2.2.2.2.2.2.2.2.2.2.1.ext O26.2))⟩) (g := (mkF m 106 #[.val (.int (8 : Int32)), .unset] [(.ref w4), (.int (13 : Int32)), (.ref b1), (.ref b1)])) rfl rfl (hb hby d1_106)
  obtain ⟨T29, X29, e29, st29⟩ := getS2 X28 hx hZ hown (host := "") (Or.inl (hw _ m34)) Via.refl e28 (hS.2.2.2.1.ext O28.2) (g := (mkF m 110 #[.val (.int (8 : Int32)), .unset] [(.int (14 : Int32)), (.ref b1), (.ref b1)])) rfl (hb hby d1_110)
  obtain ⟨T30, h30, L'30, X30, e30, W30, V30, O30, K30, N30, st30⟩ := own_stR X29 hx hZ e29 V28 O28 K28 N28 (Nat.le_trans (own_old_le O0) g1) (Or.inr (Nat.le_trans (Keep.refl h0 []).1 g1)) (j := (14 : Int32)) 14 (by decide) (Nat.le_of_ble_eq_true rfl) (vs' := [(.ref w5), (.ref w14), (.ref w11), (.ref w0), .null, (.ref w8), (.ref w15), (.ref w10), (.ref w13), (.ref w9), (.ref w7), (.ref w12), (.ref w6), (.ref w4), (.ref w1), .null, .null]) rfl rfl rfl (Or.inr ⟨_, _, rfl, O'1, (Ins.self (hS.2.2.2.2.1.ext O28.2))⟩) (g := (mkF m 113 #[.val (.int (8 : Int32)), .unset] [(.ref w1), (.int (14 : Int32)), (.ref b1), (.ref b1)])) rfl rfl (hb hby d1_113)
  obtain ⟨T31, X31, e31, st31⟩ := getS2 X30 hx hZ hown (host := "") (Or.inl (hw _ m36)) Via.refl e30 (hS.2.2.2.2.2.2.1.ext O30.2) (g := (mkF m 117 #[.val (.int (8 : Int32)), .unset] [(.int (15 : Int32)), (.ref b1), (.ref b1)])) rfl (hb hby d1_117)
  obtain ⟨T32, h32, L'32, X32, e32, W32, V32, O32, K32, N32, st32⟩ := own_stR X31 hx hZ e31 V30 O30 K30 N30 (Nat.le_trans (own_old_le O0) g1) (Or.inr (Nat.le_trans (Keep.refl h0 []).1 g1)) (j := (15 : Int32)) 15 (by decide) (Nat.le_of_ble_eq_true rfl) (vs' := [(.ref w5), (.ref w14), (.ref w11), (.ref w0), .null, (.ref w8), (.ref w15), (.ref w10), (.ref w13), (.ref w9), (.ref w7), (.ref w12), (.ref w6), (.ref w4), (.ref w1), (.ref w2), .null]) rfl rfl rfl (Or.inr ⟨_, _, rfl, O'1, (Ins.self (hS.2.2.2.2.2.2.2.1.ext O30.2))⟩) (g := (mkF m 120 #[.val (.int (8 : Int32)), .unset] [(.ref w2), (.int (15 : Int32)), (.ref b1), (.ref b1)])) rfl rfl (hb hby d1_120)
  obtain ⟨T33, X33, e33, st33⟩ := getS2 X32 hx hZ hown (host := "") (Or.inl (hw _ m38)) Via.refl e32 (hS.2.2.2.2.2.2.2.2.2.1.ext O32.2) (g := (mkF m 124 #[.val (.int (8 : Int32)), .unset] [(.int (16 : Int32)), (.ref b1), (.ref b1)])) rfl (hb hby d1_124)
  obtain ⟨T34, h34, L'34, X34, e34, W34, V34, O34, K34, N34, st34⟩ := own_stR X33 hx hZ e33 V32 O32 K32 N32 (Nat.le_trans (own_old_le O0) g1) (Or.inr (Nat.le_trans (Keep.refl h0 []).1 g1)) (j := (16 : Int32)) 16 (by decide) (Nat.le_of_ble_eq_true rfl) (vs' := [(.ref w5), (.ref w14), (.ref w11), (.ref w0), .null, (.ref w8), (.ref w15), (.ref w10), (.ref w13), (.ref w9), (.ref w7), (.ref w12), (.ref w6), (.ref w4), (.ref w1), (.ref w2), (.ref w3)]) rfl rfl rfl (Or.inr ⟨_, _, rfl, O'1, (Ins.self (hS.2.2.2.2.2.2.2.2.2.2.1.ext O32.2))⟩) (g := (mkF m 127 #[.val (.int (8 : Int32)), .unset] [(.ref w3), (.int (16 : Int32)), (.ref b1), (.ref b1)])) rfl rfl (hb hby d1_127)
  obtain ⟨fs, hr, hrun, hended, hW, hsame⟩ := X34.leave (v := some (.ref w13)) (fun h => by rw [Bd.returns] at h; cases h)
  refine ⟨_, _, pre0 _ ?_, hrun, hended, _, _, rfl, ?_, ⟨_, rfl⟩, hW, hsame.mono (by decide) (by decide)⟩
  · show Steps p.tables e below (s₁.setTop (mkF m 0 #[.val (.int (8 : Int32)), .unset] [])) _
    refine XS.iloadN X0.here hx rfl (hb hby d1_0) rfl ?_
    refine XS.ifNo X0.here hx rfl (hb hby d1_1) rfl ((if0 _ _).trans (flt (by decide : ¬ ((8 : Int32) < (0 : Int32)))).1) ?_
    refine XS.iloadN X0.here hx rfl (hb hby d1_4) rfl ?_
    refine XS.bipush X0.here hx rfl (hb hby d1_5) ?_
    show Steps p.tables e below (s₁.setTop (mkF m 7 #[.val (.int (8 : Int32)), .unset] [(.int (16 : Int32)), (.int (8 : Int32))])) _
    refine XS.icmpYes X0.here hx rfl (pc0 := 7) (pc' := 12) rfl (hb hby d1_7) rfl (flt (by decide : ¬ ((16 : Int32) < (8 : Int32)))).2.2.2 (by decide) (by decide) ?_
    refine XS.bipush X0.here hx rfl (hb hby d1_12) ?_
    refine st1 _ ?_
    refine XS.dup X1.here hx rfl (hb hby d1_17) rfl rfl ?_
    show Steps p.tables e below (T1.setTop (mkF m 18 #[.val (.int (8 : Int32)), .unset] [(.ref b1), (.ref b1)])) _
    refine XS.iconst X1.here hx rfl (hb hby d1_18) ?_
    refine st2 _ ?_
    refine st3 _ ?_
    refine XS.dup X3.here hx rfl (hb hby d1_23) rfl rfl ?_
    show Steps p.tables e below (T3.setTop (mkF m 24 #[.val (.int (8 : Int32)), .unset] [(.ref b1), (.ref b1)])) _
    refine XS.iconst X3.here hx rfl (hb hby d1_24) ?_
    refine st4 _ ?_
    refine st5 _ ?_
    refine XS.dup X5.here hx rfl (hb hby d1_29) rfl rfl ?_
    show Steps p.tables e below (T5.setTop (mkF m 30 #[.val (.int (8 : Int32)), .unset] [(.ref b1), (.ref b1)])) _
    refine XS.iconst X5.here hx rfl (hb hby d1_30) ?_
    refine st6 _ ?_
    refine st7 _ ?_
    refine XS.dup X7.here hx rfl (hb hby d1_35) rfl rfl ?_
    show Steps p.tables e below (T7.setTop (mkF m 36 #[.val (.int (8 : Int32)), .unset] [(.ref b1), (.ref b1)])) _
    refine XS.iconst X7.here hx rfl (hb hby d1_36) ?_
    refine st8 _ ?_
    refine st9 _ ?_
    refine XS.dup X9.here hx rfl (hb hby d1_41) rfl rfl ?_
    show Steps p.tables e below (T9.setTop (mkF m 42 #[.val (.int (8 : Int32)), .unset] [(.ref b1), (.ref b1)])) _
    refine XS.iconst X9.here hx rfl (hb hby d1_42) ?_
    refine XS.aconstNull X9.here hx rfl (hb hby d1_43) ?_
    refine st10 _ ?_
    refine XS.dup X10.here hx rfl (hb hby d1_45) rfl rfl ?_
    show Steps p.tables e below (T10.setTop (mkF m 46 #[.val (.int (8 : Int32)), .unset] [(.ref b1), (.ref b1)])) _
    refine XS.iconst X10.here hx rfl (hb hby d1_46) ?_
    refine st11 _ ?_
    refine st12 _ ?_
    refine XS.dup X12.here hx rfl (hb hby d1_51) rfl rfl ?_
    show Steps p.tables e below (T12.setTop (mkF m 52 #[.val (.int (8 : Int32)), .unset] [(.ref b1), (.ref b1)])) _
    refine XS.bipush X12.here hx rfl (hb hby d1_52) ?_
    refine st13 _ ?_
    refine st14 _ ?_
    refine XS.dup X14.here hx rfl (hb hby d1_58) rfl rfl ?_
    show Steps p.tables e below (T14.setTop (mkF m 59 #[.val (.int (8 : Int32)), .unset] [(.ref b1), (.ref b1)])) _
    refine XS.bipush X14.here hx rfl (hb hby d1_59) ?_
    refine st15 _ ?_
    refine st16 _ ?_
    refine XS.dup X16.here hx rfl (hb hby d1_65) rfl rfl ?_
    show Steps p.tables e below (T16.setTop (mkF m 66 #[.val (.int (8 : Int32)), .unset] [(.ref b1), (.ref b1)])) _
    refine XS.bipush X16.here hx rfl (hb hby d1_66) ?_
    refine st17 _ ?_
    refine st18 _ ?_
    refine XS.dup X18.here hx rfl (hb hby d1_72) rfl rfl ?_
    show Steps p.tables e below (T18.setTop (mkF m 73 #[.val (.int (8 : Int32)), .unset] [(.ref b1), (.ref b1)])) _
    refine XS.bipush X18.here hx rfl (hb hby d1_73) ?_
    refine st19 _ ?_
    refine st20 _ ?_
    refine XS.dup X20.here hx rfl (hb hby d1_79) rfl rfl ?_
    show Steps p.tables e below (T20.setTop (mkF m 80 #[.val (.int (8 : Int32)), .unset] [(.ref b1), (.ref b1)])) _
    refine XS.bipush X20.here hx rfl (hb hby d1_80) ?_
    refine st21 _ ?_
    refine st22 _ ?_
    refine XS.dup X22.here hx rfl (hb hby d1_86) rfl rfl ?_
    show Steps p.tables e below (T22.setTop (mkF m 87 #[.val (.int (8 : Int32)), .unset] [(.ref b1), (.ref b1)])) _
    refine XS.bipush X22.here hx rfl (hb hby d1_87) ?_
    refine st23 _ ?_
    refine st24 _ ?_
    refine XS.dup X24.here hx rfl (hb hby d1_93) rfl rfl ?_
    show Steps p.tables e below (T24.setTop (mkF m 94 #[.val (.int (8 : Int32)), .unset] [(.ref b1), (.ref b1)])) _
    refine XS.bipush X24.here hx rfl (hb hby d1_94) ?_
    refine st25 _ ?_
    refine st26 _ ?_
    refine XS.dup X26.here hx rfl (hb hby d1_100) rfl rfl ?_
    show Steps p.tables e below (T26.setTop (mkF m 101 #[.val (.int (8 : Int32)), .unset] [(.ref b1), (.ref b1)])) _
    refine XS.bipush X26.here hx rfl (hb hby d1_101) ?_
    refine st27 _ ?_
    refine st28 _ ?_
    refine XS.dup X28.here hx rfl (hb hby d1_107) rfl rfl ?_
    show Steps p.tables e below (T28.setTop (mkF m 108 #[.val (.int (8 : Int32)), .unset] [(.ref b1), (.ref b1)])) _
    refine XS.bipush X28.here hx rfl (hb hby d1_108) ?_
    refine st29 _ ?_
    refine st30 _ ?_
    refine XS.dup X30.here hx rfl (hb hby d1_114) rfl rfl ?_
    show Steps p.tables e below (T30.setTop (mkF m 115 #[.val (.int (8 : Int32)), .unset] [(.ref b1), (.ref b1)])) _
    refine XS.bipush X30.here hx rfl (hb hby d1_115) ?_
    refine st31 _ ?_
    refine st32 _ ?_
    refine XS.dup X32.here hx rfl (hb hby d1_121) rfl rfl ?_
    show Steps p.tables e below (T32.setTop (mkF m 122 #[.val (.int (8 : Int32)), .unset] [(.ref b1), (.ref b1)])) _
    refine XS.bipush X32.here hx rfl (hb hby d1_122) ?_
    refine st33 _ ?_
    refine st34 _ ?_
    refine XS.astoreN X34.here hx rfl (hb hby d1_128) rfl rfl (l' := #[.val (.int (8 : Int32)), .val (.ref b1)]) rfl ?_
    show Steps p.tables e below (T34.setTop (mkF m 129 #[.val (.int (8 : Int32)), .val (.ref b1)] [])) _
    refine XS.aloadN X34.here hx rfl (hb hby d1_129) rfl rfl ?_
    refine XS.iloadN X34.here hx rfl (hb hby d1_130) rfl ?_
    refine own_aaload X34 hx hZ e34 V34 (j := (8 : Int32)) (by decide) (v := (.ref w13)) rfl rfl (g := (mkF m 131 #[.val (.int (8 : Int32)), .val (.ref b1)] [(.int (8 : Int32)), (.ref b1)])) rfl rfl (hb hby d1_131) ?_
    exact retOut X34 hx Bd.returns rfl (Or.inr (Or.inr (Or.inr (Or.inr ⟨rfl, rfl, rfl⟩)))) (hb hby d1_132) hr
  · show Qrm26 Z w0 w1 w2 w3 w4 w5 w6 w7 w8 w9 w10 w11 w12 w13 w14 w15 w16 kw16 h0 n0 _ T34.heap _
    rw [e34]
    exact ⟨rfl, N34, K34⟩
def Qrm27 (Z : State) (w0 : Addr) (w1 : Addr) (w2 : Addr) (w3 : Addr) (w4 : Addr) (w5 : Addr) (w6 : Addr) (w7 : Addr) (w8 : Addr) (w9 : Addr) (w10 : Addr) (w11 : Addr) (w12 : Addr) (w13 : Addr) (w14 : Addr) (w15 : Addr) (w16 : Addr) (kw16 : ClassId) (h0 : Heap) (n0 : Nat) (v : Option Value) (h : Heap) (L : List Loc) : Prop := v = some (.ref w13) ∧ Fr n0 L ∧ h = h0
set_option maxRecDepth 65536 in
set_option maxHeartbeats 40000000 in
theorem rm27 (l : Launch) (Z : State) (a0 : Array Value) (hw : ∀ d ∈ tables_1, d.before a0 Z = true) (w0 : Addr) (w1 : Addr) (w2 : Addr) (w3 : Addr) (w4 : Addr) (w5 : Addr) (w6 : Addr) (w7 : Addr) (w8 : Addr) (w9 : Addr) (w10 : Addr) (w11 : Addr) (w12 : Addr) (w13 : Addr) (w14 : Addr) (w15 : Addr) (w16 : Addr) (kw16 : ClassId) (hS : SF Z w0 w1 w2 w3 w4 w5 w6 w7 w8 w9 w10 w11 w12 w13 w14 w15 w16 kw16) (ws : List Jvm.Cond) (h0 : Heap) (n0 : Nat) (O0 : Old Z n0 h0) :
    MetFree l (⟨z0, "of", z2⟩ : MethodName) (head1 (Jvm.Cond.code (⟨z0, "of", z2⟩ : MethodName) prog_90_method_5_code 1 (some (.object z0)) :: ws) ({ frames := 0, cells := 0, slots := 0, locals := 0 } : Room)) (fun a U => a = #[(.int (8 : Int32))] ∧ Z.Warmed39 U.vm ∧ U.heap = h0) (fun _ _ _ _ _ => True) (fun _ U o U' => ∃ v L, o = .returned v ∧ Qrm27 Z w0 w1 w2 w3 w4 w5 w6 w7 w8 w9 w10 w11 w12 w13 w14 w15 w16 kw16 h0 n0 v U'.heap L ∧ FrameEnd U o U' L ({ frames := 0, cells := 0, slots := 0, locals := 0 } : Room).cells ({ frames := 0, cells := 0, slots := 0, locals := 0 } : Room).slots) := by
  refine MetFree.of_bodySF (plainFor_of_name pn18) hisR ?_
  intro p e s m args below meth c s₁ Bd hml0 hP hK
  obtain ⟨rfl, hZ, hh⟩ := hP
  have hx := Bd.exec
  have hby := Bd.bytes
  have hml : c.maxLocals = 1 := hml0
  have hown : s.vm.findClass z0 = some m.cls := findClass_of_methodNamed Bd.named
  have hnm := (name_of_methodNamed Bd.named Bd.method).1
  have X0 : Stand p l e ({ frames := 0, cells := 0, slots := 0, locals := 0 } : Room) s m #[(.int (8 : Int32))] below meth c s₁ [] 0 0 := Stand.of_body Bd
  have e0 : s₁.heap = h0 := by rw [← hh, Bd.state]; rfl
  have N0 := Fr.nil n0
  have pre0 : ∀ t, Steps p.tables e below (s₁.setTop (mkF m 0 #[.val (.int (8 : Int32))] [])) t → Steps p.tables e below (s₁.setTop (entryFrame m #[(.int (8 : Int32))] 1)) t := fun t k => castTop (ef17 m (8 : Int32)) k
  obtain ⟨T1, X1, e1, st1⟩ := getS2 X0 hx hZ hown (host := "") (Or.inl (hw _ m43)) Via.refl e0 (hS.2.2.2.2.2.2.2.2.2.2.2.2.2.2.2.2.2.2.2.2.2.2.2.2.2.2.2.2.2.2.2.2.2.2.2.2.2.2.2.2.2.2.2.2.2.2.2.2.1.ext O0.2) (g := (mkF m 5 #[.val (.int (8 : Int32))] [(.int (8 : Int32))])) rfl (hb hby d2_5)
  obtain ⟨T2, X2, e2, st2⟩ := getS2 X1 hx hZ hown (host := "") (Or.inl (hw _ m43)) Via.refl e1 (hS.2.2.2.2.2.2.2.2.2.2.2.2.2.2.2.2.2.2.2.2.2.2.2.2.2.2.2.2.2.2.2.2.2.2.2.2.2.2.2.2.2.2.2.2.2.2.2.2.1.ext O0.2) (g := (mkF m 12 #[.val (.int (8 : Int32))] [])) rfl (hb hby d2_12)
  obtain ⟨fs, hr, hrun, hended, hW, hsame⟩ := X2.leave (v := some (.ref w13)) (fun h => by rw [Bd.returns] at h; cases h)
  refine ⟨_, _, pre0 _ ?_, hrun, hended, _, _, rfl, ?_, ⟨_, rfl⟩, hW, hsame.mono (by decide) (by decide)⟩
  · show Steps p.tables e below (s₁.setTop (mkF m 0 #[.val (.int (8 : Int32))] [])) _
    refine XS.iloadN X0.here hx rfl (hb hby d2_0) rfl ?_
    refine XS.ifNo X0.here hx rfl (hb hby d2_1) rfl ((if0 _ _).trans (flt (by decide : ¬ ((8 : Int32) < (0 : Int32)))).1) ?_
    refine XS.iloadN X0.here hx rfl (hb hby d2_4) rfl ?_
    refine st1 _ ?_
    show Steps p.tables e below (T1.setTop (mkF m 8 #[.val (.int (8 : Int32))] [(.ref w16), (.int (8 : Int32))])) _
    refine own_alen X1 hx hZ e1 (hS.2.2.2.2.2.2.2.2.2.2.2.2.2.2.2.2.2.2.2.2.2.2.2.2.2.2.2.2.2.2.2.2.2.2.2.2.2.2.2.2.2.2.2.2.2.2.2.2.2.ext O0.2) (g := (mkF m 8 #[.val (.int (8 : Int32))] [(.ref w16), (.int (8 : Int32))])) rfl rfl (hb hby d2_8) ?_
    refine XS.icmpNo X1.here hx rfl (hb hby d2_9) rfl (tlt (by decide : (8 : Int32) < (17 : Int32))).2.1 ?_
    refine st2 _ ?_
    refine XS.iloadN X2.here hx rfl (hb hby d2_15) rfl ?_
    show Steps p.tables e below (T2.setTop (mkF m 16 #[.val (.int (8 : Int32))] [(.int (8 : Int32)), (.ref w16)])) _
    refine own_aaload X2 hx hZ e2 (hS.2.2.2.2.2.2.2.2.2.2.2.2.2.2.2.2.2.2.2.2.2.2.2.2.2.2.2.2.2.2.2.2.2.2.2.2.2.2.2.2.2.2.2.2.2.2.2.2.2.ext O0.2) (j := (8 : Int32)) (by decide) (v := (.ref w13)) rfl rfl (g := (mkF m 16 #[.val (.int (8 : Int32))] [(.int (8 : Int32)), (.ref w16)])) rfl rfl (hb hby d2_16) ?_
    refine XS.goto X2.here hx rfl (pc0 := 17) (pc' := 21) rfl (hb hby d2_17) (by decide) (by decide) ?_
    exact retOut X2 hx Bd.returns rfl (Or.inr (Or.inr (Or.inr (Or.inr ⟨rfl, rfl, rfl⟩)))) (hb hby d2_21) hr
  · show Qrm27 Z w0 w1 w2 w3 w4 w5 w6 w7 w8 w9 w10 w11 w12 w13 w14 w15 w16 kw16 h0 n0 _ T2.heap _
    rw [e2]
    exact ⟨rfl, N0, rfl⟩
def Qrm28 (Z : State) (w0 : Addr) (w1 : Addr) (w2 : Addr) (w3 : Addr) (w4 : Addr) (w5 : Addr) (w6 : Addr) (w7 : Addr) (w8 : Addr) (w9 : Addr) (w10 : Addr) (w11 : Addr) (w12 : Addr) (w13 : Addr) (w14 : Addr) (w15 : Addr) (w16 : Addr) (kw16 : ClassId) (h0 : Heap) (n0 : Nat) (v : Option Value) (h : Heap) (L : List Loc) : Prop := v = some (.int (8 : Int32)) ∧ Fr n0 L ∧ h = h0
set_option maxRecDepth 65536 in
set_option maxHeartbeats 40000000 in
theorem rm28 (l : Launch) (Z : State) (a0 : Array Value) (hw : ∀ d ∈ tables_1, d.before a0 Z = true) (w0 : Addr) (w1 : Addr) (w2 : Addr) (w3 : Addr) (w4 : Addr) (w5 : Addr) (w6 : Addr) (w7 : Addr) (w8 : Addr) (w9 : Addr) (w10 : Addr) (w11 : Addr) (w12 : Addr) (w13 : Addr) (w14 : Addr) (w15 : Addr) (w16 : Addr) (kw16 : ClassId) (hS : SF Z w0 w1 w2 w3 w4 w5 w6 w7 w8 w9 w10 w11 w12 w13 w14 w15 w16 kw16) (ws : List Jvm.Cond) (h0 : Heap) (n0 : Nat) (O0 : Old Z n0 h0) :
    MetFree l (⟨z0, "code", "()I"⟩ : MethodName) (head1 (Jvm.Cond.code (⟨z0, "code", "()I"⟩ : MethodName) prog_90_method_4_code 1 (some .int) :: ws) ({ frames := 0, cells := 0, slots := 0, locals := 0 } : Room)) (fun a U => a = #[(.ref w13)] ∧ Z.Warmed39 U.vm ∧ U.heap = h0) (fun _ _ _ _ _ => True) (fun _ U o U' => ∃ v L, o = .returned v ∧ Qrm28 Z w0 w1 w2 w3 w4 w5 w6 w7 w8 w9 w10 w11 w12 w13 w14 w15 w16 kw16 h0 n0 v U'.heap L ∧ FrameEnd U o U' L ({ frames := 0, cells := 0, slots := 0, locals := 0 } : Room).cells ({ frames := 0, cells := 0, slots := 0, locals := 0 } : Room).slots) := by
  refine MetFree.of_bodySF (plainFor_of_name pn18) hisR ?_
  intro p e s m args below meth c s₁ Bd hml0 hP hK
  obtain ⟨rfl, hZ, hh⟩ := hP
  have hx := Bd.exec
  have hby := Bd.bytes
  have hml : c.maxLocals = 1 := hml0
  have hown : s.vm.findClass z0 = some m.cls := findClass_of_methodNamed Bd.named
  have hnm := (name_of_methodNamed Bd.named Bd.method).1
  have X0 : Stand p l e ({ frames := 0, cells := 0, slots := 0, locals := 0 } : Room) s m #[(.ref w13)] below meth c s₁ [] 0 0 := Stand.of_body Bd
  have e0 : s₁.heap = h0 := by rw [← hh, Bd.state]; rfl
  have N0 := Fr.nil n0
  have pre0 : ∀ t, Steps p.tables e below (s₁.setTop (mkF m 0 #[.val (.ref w13)] [])) t → Steps p.tables e below (s₁.setTop (entryFrame m #[(.ref w13)] 1)) t := fun t k => castTop (ef135 m w13) k
  obtain ⟨T1, X1, e1, st1⟩ := getF X0 hx hZ hown (host := "") (Or.inl (hw _ m50)) Via.refl e0 (hS.2.2.2.2.2.2.2.2.2.2.2.2.2.2.2.2.2.2.2.2.2.2.2.2.2.2.2.2.2.2.2.2.2.2.2.2.2.2.2.2.2.1.ext O0.2) (g := (mkF m 1 #[.val (.ref w13)] [(.ref w13)])) rfl rfl (hb hby d3_1)
  obtain ⟨fs, hr, hrun, hended, hW, hsame⟩ := X1.leave (v := some (.int (8 : Int32))) (fun h => by rw [Bd.returns] at h; cases h)
  refine ⟨_, _, pre0 _ ?_, hrun, hended, _, _, rfl, ?_, ⟨_, rfl⟩, hW, hsame.mono (by decide) (by decide)⟩
  · show Steps p.tables e below (s₁.setTop (mkF m 0 #[.val (.ref w13)] [])) _
    refine XS.aloadN X0.here hx rfl (hb hby d3_0) rfl rfl ?_
    refine st1 _ ?_
    exact retOut X1 hx Bd.returns rfl (Or.inl ⟨rfl, Or.inl rfl, _, rfl⟩) (hb hby d3_4) hr
  · show Qrm28 Z w0 w1 w2 w3 w4 w5 w6 w7 w8 w9 w10 w11 w12 w13 w14 w15 w16 kw16 h0 n0 _ T1.heap _
    rw [e1]
    exact ⟨rfl, N0, rfl⟩
def Qrm29 (Z : State) (w0 : Addr) (w1 : Addr) (w2 : Addr) (w3 : Addr) (w4 : Addr) (w5 : Addr) (w6 : Addr) (w7 : Addr) (w8 : Addr) (w9 : Addr) (w10 : Addr) (w11 : Addr) (w12 : Addr) (w13 : Addr) (w14 : Addr) (w15 : Addr) (w16 : Addr) (kw16 : ClassId) (h0 : Heap) (n0 : Nat) (v : Option Value) (h : Heap) (L : List Loc) : Prop := v = some (.ref w9) ∧ Fr n0 L ∧ Keep h0 h []
set_option maxRecDepth 65536 in
set_option maxHeartbeats 40000000 in
theorem rm29 (l : Launch) (Z : State) (a0 : Array Value) (hw : ∀ d ∈ tables_1, d.before a0 Z = true) (w0 : Addr) (w1 : Addr) (w2 : Addr) (w3 : Addr) (w4 : Addr) (w5 : Addr) (w6 : Addr) (w7 : Addr) (w8 : Addr) (w9 : Addr) (w10 : Addr) (w11 : Addr) (w12 : Addr) (w13 : Addr) (w14 : Addr) (w15 : Addr) (w16 : Addr) (kw16 : ClassId) (hS : SF Z w0 w1 w2 w3 w4 w5 w6 w7 w8 w9 w10 w11 w12 w13 w14 w15 w16 kw16) (ws : List Jvm.Cond) (h0 : Heap) (n0 : Nat) (O0 : Old Z n0 h0) :
    MetFree l (⟨z1, "expected", z2⟩ : MethodName) (head1 (Jvm.Cond.code (⟨z1, "expected", z2⟩ : MethodName) method_3_code 2 (some (.object z0)) :: ws) ({ frames := 0, cells := 1, slots := 17, locals := 0 } : Room)) (fun a U => a = #[(.int (9 : Int32))] ∧ Z.Warmed39 U.vm ∧ U.heap = h0) (fun _ _ _ _ _ => True) (fun _ U o U' => ∃ v L, o = .returned v ∧ Qrm29 Z w0 w1 w2 w3 w4 w5 w6 w7 w8 w9 w10 w11 w12 w13 w14 w15 w16 kw16 h0 n0 v U'.heap L ∧ FrameEnd U o U' L ({ frames := 0, cells := 1, slots := 17, locals := 0 } : Room).cells ({ frames := 0, cells := 1, slots := 17, locals := 0 } : Room).slots) := by
  refine MetFree.of_bodySF (plainFor_of_name pn7) hisR ?_
  intro p e s m args below meth c s₁ Bd hml0 hP hK
  obtain ⟨rfl, hZ, hh⟩ := hP
  have hx := Bd.exec
  have hby := Bd.bytes
  have hml : c.maxLocals = 2 := hml0
  have hown : s.vm.findClass z1 = some m.cls := findClass_of_methodNamed Bd.named
  have hnm := (name_of_methodNamed Bd.named Bd.method).1
  have X0 : Stand p l e ({ frames := 0, cells := 1, slots := 17, locals := 0 } : Room) s m #[(.int (9 : Int32))] below meth c s₁ [] 0 0 := Stand.of_body Bd
  have e0 : s₁.heap = h0 := by rw [← hh, Bd.state]; rfl
  have N0 := Fr.nil n0
  have pre0 : ∀ t, Steps p.tables e below (s₁.setTop (mkF m 0 #[.val (.int (9 : Int32)), .unset] [])) t → Steps p.tables e below (s₁.setTop (entryFrame m #[(.int (9 : Int32))] 2)) t := fun t k => castTop (ef6 m (9 : Int32)) k
  obtain ⟨T1, h1, k1, b1, X1, e1, E1, V1, O'1, g1, O1, K1, st1⟩ := own_newR X0 hx hZ (vs := [.null, .null, .null, .null, .null, .null, .null, .null, .null, .null, .null, .null, .null, .null, .null, .null, .null]) (cap := 17) rfl hown (hw _ m4) (hw _ m5) e0 O0 (Keep.refl h0 []) (g := (mkF m 14 #[.val (.int (9 : Int32)), .unset] [(.int (17 : Int32))])) rfl (hb hby d1_14) rfl (by decide) (by decide) (by decide) (by decide) (by decide)
  obtain ⟨T2, X2, e2, st2⟩ := getS2 X1 hx hZ hown (host := "") (Or.inl (hw _ m6)) Via.refl e1 (hS.2.2.2.2.2.2.2.2.2.2.2.2.2.2.2.1.ext O1.2) (g := (mkF m 19 #[.val (.int (9 : Int32)), .unset] [(.int (0 : Int32)), (.ref b1), (.ref b1)])) rfl (hb hby d1_19)
  obtain ⟨T3, h3, L'3, X3, e3, W3, V3, O3, K3, N3, st3⟩ := own_stR X2 hx hZ e2 V1 O1 K1 N0 (Nat.le_trans (own_old_le O0) g1) (Or.inr (Nat.le_trans (Keep.refl h0 []).1 g1)) (j := (0 : Int32)) 0 (by decide) (Nat.le_of_ble_eq_true rfl) (vs' := [(.ref w5), .null, .null, .null, .null, .null, .null, .null, .null, .null, .null, .null, .null, .null, .null, .null, .null]) rfl rfl rfl (Or.inr ⟨_, _, rfl, O'1, (Ins.self (hS.2.2.2.2.2.2.2.2.2.2.2.2.2.2.2.2.1.ext O1.2))⟩) (g := (mkF m 22 #[.val (.int (9 : Int32)), .unset] [(.ref w5), (.int (0 : Int32)), (.ref b1), (.ref b1)])) rfl rfl (hb hby d1_22)
  obtain ⟨T4, X4, e4, st4⟩ := getS2 X3 hx hZ hown (host := "") (Or.inl (hw _ m10)) Via.refl e3 (hS.2.2.2.2.2.2.2.2.2.2.2.2.2.2.2.2.2.2.2.2.2.2.2.2.2.2.2.2.2.2.2.2.2.2.2.2.2.2.2.2.2.2.1.ext O3.2) (g := (mkF m 25 #[.val (.int (9 : Int32)), .unset] [(.int (1 : Int32)), (.ref b1), (.ref b1)])) rfl (hb hby d1_25)
  obtain ⟨T5, h5, L'5, X5, e5, W5, V5, O5, K5, N5, st5⟩ := own_stR X4 hx hZ e4 V3 O3 K3 N3 (Nat.le_trans (own_old_le O0) g1) (Or.inr (Nat.le_trans (Keep.refl h0 []).1 g1)) (j := (1 : Int32)) 1 (by decide) (Nat.le_of_ble_eq_true rfl) (vs' := [(.ref w5), (.ref w14), .null, .null, .null, .null, .null, .null, .null, .null, .null, .null, .null, .null, .null, .null, .null]) rfl rfl rfl (Or.inr ⟨_, _, rfl, O'1, (Ins.self (hS.2.2.2.2.2.2.2.2.2.2.2.2.2.2.2.2.2.2.2.2.2.2.2.2.2.2.2.2.2.2.2.2.2.2.2.2.2.2.2.2.2.2.2.1.ext O3.2))⟩) (g := (mkF m 28 #[.val (.int (9 : Int32)), .unset] [(.ref w14), (.int (1 : Int32)), (.ref b1), (.ref b1)])) rfl rfl (hb hby d1_28)
  obtain ⟨T6, X6, e6, st6⟩ := getS2 X5 hx hZ hown (host := "") (Or.inl (hw _ m12)) Via.refl e5 (hS.2.2.2.2.2.2.2.2.2.2.2.2.2.2.2.2.2.2.2.2.2.2.2.2.2.2.2.2.2.2.2.2.2.1.ext O5.2) (g := (mkF m 31 #[.val (.int (9 : Int32)), .unset] [(.int (2 : Int32)), (.ref b1), (.ref b1)])) rfl (hb hby d1_31)
  obtain ⟨T7, h7, L'7, X7, e7, W7, V7, O7, K7, N7, st7⟩ := own_stR X6 hx hZ e6 V5 O5 K5 N5 (Nat.le_trans (own_old_le O0) g1) (Or.inr (Nat.le_trans (Keep.refl h0 []).1 g1)) (j := (2 : Int32)) 2 (by decide) (Nat.le_of_ble_eq_true rfl) (vs' := [(.ref w5), (.ref w14), (.ref w11), .null, .null, .null, .null, .null, .null, .null, .null, .null, .null, .null, .null, .null, .null]) rfl rfl rfl (Or.inr ⟨_, _, rfl, O'1, (Ins.self (hS.2.2.2.2.2.2.2.2.2.2.2.2.2.2.2.2.2.2.2.2.2.2.2.2.2.2.2.2.2.2.2.2.2.2.1.ext O5.2))⟩) (g := (mkF m 34 #[.val (.int (9 : Int32)), .unset] [(.ref w11), (.int (2 : Int32)), (.ref b1), (.ref b1)])) rfl rfl (hb hby d1_34)
  obtain ⟨T8, X8, e8, st8⟩ := getS2 X7 hx hZ hown (host := "") (Or.inl (hw _ m14)) Via.refl e7 (hS.1.ext O7.2) (g := (mkF m 37 #[.val (.int (9 : Int32)), .unset] [(.int (3 : Int32)), (.ref b1), (.ref b1)])) rfl (hb hby d1_37)
  obtain ⟨T9, h9, L'9, X9, e9, W9, V9, O9, K9, N9, st9⟩ := own_stR X8 hx hZ e8 V7 O7 K7 N7 (Nat.le_trans (own_old_le O0) g1) (Or.inr (Nat.le_trans (Keep.refl h0 []).1 g1)) (j := (3 : Int32)) 3 (by decide) (Nat.le_of_ble_eq_true rfl) (vs' := [(.ref w5), (.ref w14), (.ref w11), (.ref w0), .null, .null, .null, .null, .null, .null, .null, .null, .null, .null, .null, .null, .null]) rfl rfl rfl (Or.inr ⟨_, _, rfl, O'1, (Ins.self (hS.2.1.ext O7.2))⟩) (g := (mkF m 40 #[.val (.int (9 : Int32)), .unset] [(.ref w0), (.int (3 : Int32)), (.ref b1), (.ref b1)])) rfl rfl (hb hby d1_40)
  obtain ⟨T10, h10, L'10, X10, e10, W10, V10, O10, K10, N10, st10⟩ := own_stR X9 hx hZ e9 V9 O9 K9 N9 (Nat.le_trans (own_old_le O0) g1) (Or.inr (Nat.le_trans (Keep.refl h0 []).1 g1)) (j := (4 : Int32)) 4 (by decide) (Nat.le_of_ble_eq_true rfl) (vs' := [(.ref w5), (.ref w14), (.ref w11), (.ref w0), .null, .null, .null, .null, .null, .null, .null, .null, .null, .null, .null, .null, .null]) rfl rfl rfl (Or.inl rfl) (g := (mkF m 44 #[.val (.int (9 : Int32)), .unset] [.null, (.int (4 : Int32)), (.ref b1), (.ref b1)])) rfl rfl (hb hby d1_44)
  obtain ⟨T11, X11, e11, st11⟩ := getS2 X10 hx hZ hown (host := "") (Or.inl (hw _ m16)) Via.refl e10 (hS.2.2.2.2.2.2.2.2.2.2.2.2.2.2.2.2.2.2.2.2.2.2.2.2.1.ext O10.2) (g := (mkF m 47 #[.val (.int (9 : Int32)), .unset] [(.int (5 : Int32)), (.ref b1), (.ref b1)])) rfl (hb hby d1_47)
  obtain ⟨T12, h12, L'12, X12, e12, W12, V12, O12, K12, N12, st12⟩ := own_stR X11 hx hZ e11 V10 O10 K10 N10 (Nat.le_trans (own_old_le O0) g1) (Or.inr (Nat.le_trans (Keep.refl h0 []).1 g1)) (j := (5 : Int32)) 5 (by decide) (Nat.le_of_ble_eq_true rfl) (vs' := [(.ref w5), (.ref w14), (.ref w11), (.ref w0), .null, (.ref w8), .null, .null, .null, .null, .null, .null, .null, .null, .null, .null, .null]) rfl rfl rfl (Or.inr ⟨_, _, rfl, O'1, (Ins.self (hS.2.2.2.2.2.2.2.2.2.2.2.2.2.2.2.2.2.2.2.2.2.2.2.2.2.1.ext O10.2))⟩) (g := (mkF m 50 #[.val (.int (9 : Int32)), .unset] [(.ref w8), (.int (5 : Int32)), (.ref b1), (.ref b1)])) rfl rfl (hb hby d1_50)
  obtain ⟨T13, X13, e13, st13⟩ := getS2 X12 hx hZ hown (host := "") (Or.inl (hw _ m18)) Via.refl e12 (hS.2.2.2.2.2.2.2.2.2.2.2.2.2.2.2.2.2.2.2.2.2.2.2.2.2.2.2.2.2.2.2.2.2.2.2.2.2.2.2.2.2.2.2.2.2.1.ext O12.2) (g := (mkF m 54 #[.val (.int (9 : Int32)), .unset] [(.int (6 : Int32)), (.ref b1), (.ref b1)])) rfl (hb hby d1_54)
  obtain ⟨T14, h14, L'14, X14, e14, W14, V14, O14, K14, N14, st14⟩ := own_stR X13 hx hZ e13 V12 O12 K12 N12 (Nat.le_trans (own_old_le O0) g1) (Or.inr (Nat.le_trans (Keep.refl h0 []).1 g1)) (j := (6 : Int32)) 6 (by decide) (Nat.le_of_ble_eq_true rfl) (vs' := [(.ref w5), (.ref w14), (.ref w11), (.ref w0), .null, (.ref w8), (.ref w15), .null, .null, .null, .null, .null, .null, .null, .null, .null, .null]) rfl rfl rfl (Or.inr ⟨_, _, rfl, O'1, (Ins.self (hS.2.2.2.2.2.2.2.2.2.2.2.2.2.2.2.2.2.2.2.2.2.2.2.2.2.2.2.2.2.2.2.2.2.2.2.2.2.2.2.2.2.2.2.2.2.2.1.ext O12.2))⟩) (g := (mkF m 57 #[.val (.int (9 : Int32)), .unset] [(.ref w15), (.int (6 : Int32)), (.ref b1), (.ref b1)])) rfl rfl (hb hby d1_57)
  obtain ⟨T15, X15, e15, st15⟩ := getS2 X14 hx hZ hown (host := "") (Or.inl (hw _ m20)) Via.refl e14 (hS.2.2.2.2.2.2.2.2.2.2.2.2.2.2.2.2.2.2.2.2.2.2.2.2.2.2.2.2.2.2.1.ext O14.2) (g := (mkF m 61 #[.val (.int (9 : Int32)), .unset] [(.int (7 : Int32)), (.ref b1), (.ref b1)])) rfl (hb hby d1_61)
  obtain ⟨T16, h16, L'16, X16, e16, W16, V16, O16, K16, N16, st16⟩ := own_stR X15 hx hZ e15 V14 O14 K14 N14 (Nat.le_trans (own_old_le O0) g1) (Or.inr (Nat.le_trans (Keep.refl h0 []).1 g1)) (j := (7 : Int32)) 7 (by decide) (Nat.le_of_ble_eq_true rfl) (vs' := [(.ref w5), (.ref w14), (.ref w11), (.ref w0), .null, (.ref w8), (.ref w15), (.ref w10), .null, .null, .null, .null, .null, .null, .null, .null, .null]) rfl rfl rfl (Or.inr ⟨_, _, rfl, O'1, (Ins.self (hS.2.2.2.2.2.2.2.2.2.2.2.2.2.2.2.2.2.2.2.2.2.2.2.2.2.2.2.2.2.2.2.1.ext O14.2))⟩) (g := (mkF m 64 #[.val (.int (9 : Int32)), .unset] [(.ref w10), (.int (7 : Int32)), (.ref b1), (.ref b1)])) rfl rfl (hb hby d1_64)
  obtain ⟨T17, X17, e17, st17⟩ := getS2 X16 hx hZ hown (host := "") (Or.inl (hw _ m22)) Via.refl e16 (hS.2.2.2.2.2.2.2.2.2.2.2.2.2.2.2.2.2.2.2.2.2.2.2.2.2.2.2.2.2.2.2.2.2.2.2.2.2.2.2.1.ext O16.2) (g := (mkF m 68 #[.val (.int (9 : Int32)), .unset] [(.int (8 : Int32)), (.ref b1), (.ref b1)])) rfl (hb hby d1_68)
  obtain ⟨T18, h18, L'18, X18, e18, W18, V18, O18, K18, N18, st18⟩ := own_stR X17 hx hZ e17 V16 O16 K16 N16 (Nat.le_trans (own_old_le O0) g1) (Or.inr (Nat.le_trans (Keep.refl h0 []).1 g1)) (j := (8 : Int32)) 8 (by decide) (Nat.le_of_ble_eq_true rfl) (vs' := [(.ref w5), (.ref w14), (.ref w11), (.ref w0), .null, (.ref w8), (.ref w15), (.ref w10), (.ref w13), .null, .null, .null, .null, .null, .null, .null, .null]) rfl rfl rfl (Or.inr ⟨_, _, rfl, O'1, (Ins.self (hS.2.2.2.2.2.2.2.2.2.2.2.2.2.2.2.2.2.2.2.2.2.2.2.2.2.2.2.2.2.2.2.2.2.2.2.2.2.2.2.2.1.ext O16.2))⟩) (g := (mkF m 71 #[.val (.int (9 : Int32)), .unset] [(.ref w13), (.int (8 : Int32)), (.ref b1), (.ref b1)])) rfl rfl (hb hby d1_71)
  obtain ⟨T19, X19, e19, st19⟩ := getS2 X18 hx hZ hown (host := "") (Or.inl (hw _ m24)) Via.refl e18 (hS.2.2.2.2.2.2.2.2.2.2.2.2.2.2.2.2.2.2.2.2.2.2.2.2.2.2.2.1.ext O18.2) (g := (mkF m 75 #[.val (.int (9 : Int32)), .unset] [(.int (9 : Int32)), (.ref b1), (.ref b1)])) rfl (hb hby d1_75)
  obtain ⟨T20, h20, L'20, X20, e20, W20, V20, O20, K20, N20, st20⟩ := own_stR X19 hx hZ e19 V18 O18 K18 N18 (Nat.le_trans (own_old_le O0) g1) (Or.inr (Nat.le_trans (Keep.refl h0 []).1 g1)) (j := (9 : Int32)) 9 (by decide) (Nat.le_of_ble_eq_true rfl) (vs' := [(.ref w5), (.ref w14), (.ref w11), (.ref w0), .null, (.ref w8), (.ref w15), (.ref w10), (.ref w13), (.ref w9), .null, .null, .null, .null, .null, .null, .null]) rfl rfl rfl (Or.inr ⟨_, _, rfl, O'1, (Ins.self (hS.2.2.2.2.2.2.2.2.2.2.2.2.2.2.2.2.2.2.2.2.2.2.2.2.2.2.2.2.1.ext O18.2))⟩) (g := (mkF m 78 #[.val (.int (9 : Int32)), .unset] [(.ref w9), (.int (9 : Int32)), (.ref b1), (.ref b1)])) rfl rfl (hb hby d1_78)
  obtain ⟨T21, X21, e21, st21⟩ := getS2 X20 hx hZ hown (host := "") (Or.inl (hw _ m26)) Via.refl e20 (hS.2.2.2.2.2.2.2.2.2.2.2.2.2.2.2.2.2.2.2.2.2.1.ext O20.2) (g := (mkF m 82 #[.val (.int (9 : Int32)), .unset] [(.int (10 : Int32)), (.ref b1), (.ref b1)])) rfl (hb hby d1_82)
  obtain ⟨T22, h22, L'22, X22, e22, W22, V22, O22, K22, N22, st22⟩ := own_stR X21 hx hZ e21 V20 O20 K20 N20 (Nat.le_trans (own_old_le O0) g1) (Or.inr (Nat.le_trans (Keep.refl h0 []).1 g1)) (j := (10 : Int32)) 10 (by decide) (Nat.le_of_ble_eq_true rfl) (vs' := [(.ref w5), (.ref w14), (.ref w11), (.ref w0), .null, (.ref w8), (.ref w15), (.ref w10), (.ref w13), (.ref w9), (.ref w7), .null, .null, .null, .null, .null, .null]) rfl rfl rfl (Or.inr ⟨_, _, rfl, O'1, (Ins.self (hS.2.2.2.2.2.2.2.2.2.2.2.2.2.2.2.2.2.2.2.2.2.2.1.ext O20.2))⟩) (g := (mkF m 85 #[.val (.int (9 : Int32)), .unset] [(.ref w7), (.int (10 : Int32)), (.ref b1), (.ref b1)])) rfl rfl (hb hby d1_85)
  obtain ⟨T23, X23, e23, st23⟩ := getS2 X22 hx hZ hown (host := "") (Or.inl (hw _ m28)) Via.refl e22 (hS.2.2.2.2.2.2.2.2.2.2.2.2.2.2.2.2.2.2.2.2.2.2.2.2.2.2.2.2.2.2.2.2.2.2.2.2.1.ext O22.2) (g := (mkF m 89 #[.val (.int (9 : Int32)), .unset] [(.int (11 : Int32)), (.ref b1), (.ref b1)])) rfl (hb hby d1_89)
  obtain ⟨T24, h24, L'24, X24, e24, W24, V24, O24, K24, N24, st24⟩ := own_stR X23 hx hZ e23 V22 O22 K22 N22 (Nat.le_trans (own_old_le O0) g1) (Or.inr (Nat.le_trans (Keep.refl h0 []).1 g1)) (j := (11 : Int32)) 11 (by decide) (Nat.le_of_ble_eq_true rfl) (vs' := [(.ref w5), (.ref w14), (.ref w11), (.ref w0), .null, (.ref w8), (.ref w15), (.ref w10), (.ref w13), (.ref w9), (.ref w7), (.ref w12), .null, .null, .null, .null, .null]) rfl rfl rfl (Or.inr ⟨_, _, rfl, O'1, (Ins.self (hS.2.2.2.2.2.2.2.2.2.2.2.2.2.2.2.2.2.2.2.2.2.2.2.2.2.2.2.2.2.2.2.2.2.2.2.2.2.1.ext O22.2))⟩) (g := (mkF m 92 #[.val (.int (9 : Int32)), .unset] [(.ref w12), (.int (11 : Int32)), (.ref b1), (.ref b1)])) rfl rfl (hb hby d1_92)
  obtain ⟨T25, X25, e25, st25⟩ := getS2 X24 hx hZ hown (host := "") (Or.inl (hw _ m30)) Via.refl e24 (hS.2.2.2.2.2.2.2.2.2.2.2.2.2.2.2.2.2.2.1.ext O24.2) (g := (mkF m 96 #[.val (.int (9 : Int32)), .unset] [(.int (12 : Int32)), (.ref b1), (.ref b1)])) rfl (hb hby d1_96)
  obtain ⟨T26, h26, L'26, X26, e26, W26, V26, O26, K26, N26, st26⟩ := own_stR X25 hx hZ e25 V24 O24 K24 N24 (Nat.le_trans (own_old_le O0) g1) (Or.inr (Nat.le_trans (Keep.refl h0 []).1 g1)) (j := (12 : Int32)) 12 (by decide) (Nat.le_of_ble_eq_true rfl) (vs' := [(.ref w5), (.ref w14), (.ref w11), (.ref w0), .null, (.ref w8), (.ref w15), (.ref w10), (.ref w13), (.ref w9), (.ref w7), (.ref w12), (.ref w6), .null, .null, .null, .null]) rfl rfl rfl (Or.inr ⟨_, _, rfl, O'1, (Ins.self (hS.2.2.2.2.2.2.2.2.2.2.2.2.2.2.2.2.2.2.2.1.ext O24.2))⟩) (g := (mkF m 99 #[.val (.int (9 : Int32)), .unset] [(.ref w6), (.int (12 : Int32)), (.ref b1), (.ref b1)])) rfl rfl (hb hby d1_99)
  obtain ⟨T27, X27, e27, st27⟩ := getS2 X26 hx hZ hown (host := "") (Or.inl (hw _ m32)) Via.refl e26 (hS.2.2.2.2.2.2.2.2.2.2.2.2.1.ext O26.2) (g := (mkF m 103 #[.val (.int (9 : Int32)), .unset] [(.int (13 : Int32)), (.ref b1), (.ref b1)])) rfl (hb hby d1_103)
  obtain ⟨T28, h28, L'28, X28, e28, W28, V28, O28, K28, N28, st28⟩ := own_stR X27 hx hZ e27 V26 O26 K26 N26 (Nat.le_trans (own_old_le O0) g1) (Or.inr (Nat.le_trans (Keep.refl h0 []).1 g1)) (j := (13 : Int32)) 13 (by decide) (Nat.le_of_ble_eq_true rfl) (vs' := [(.ref w5), (.ref w14), (.ref w11), (.ref w0), .null, (.ref w8), (.ref w15), (.ref w10), (.ref w13), (.ref w9), (.ref w7), (.ref w12), (.ref w6), (.ref w4), .null, .null, .null]) rfl rfl rfl (Or.inr ⟨_, _, rfl, O'1, (Ins.self (hS.2.2.2.2.2.2.2.2.2.2.2.2.2.1.ext O26.2))⟩) (g := (mkF m 106 #[.val (.int (9 : Int32)), .unset] [(.ref w4), (.int (13 : Int32)), (.ref b1), (.ref b1)])) rfl rfl (hb hby d1_106)
  obtain ⟨T29, X29, e29, st29⟩ := getS2 X28 hx hZ hown (host := "") (Or.inl (hw _ m34)) Via.refl e28 (hS.2.2.2.1.ext O28.2) (g := (mkF m 110 #[.val (.int (9 : Int32)), .unset] [(.int (14 : Int32)), (.ref b1), (.ref b1)])) rfl (hb hby d1_110)
  obtain ⟨T30, h30, L'30, X30, e30, W30, V30, O30, K30, N30, st30⟩ := own_stR X29 hx hZ e29 V28 O28 K28 N28 (Nat.le_trans (own_old_le O0) g1) (Or.inr (Nat.le_trans (Keep.refl h0 []).1 g1)) (j := (14 : Int32)) 14 (by decide) (Nat.le_of_ble_eq_true rfl) (vs' := [(.ref w5), (.ref w14), (.ref w11), (.ref w0), .null, (.ref w8), (.ref w15), (.ref w10), (.ref w13), (.ref w9), (.ref w7), (.ref w12), (.ref w6), (.ref w4), (.ref w1), .null, .null]) rfl rfl rfl (Or.inr ⟨_, _, rfl, O'1, (Ins.self (hS.2.2.2.2.1.ext O28.2))⟩) (g := (mkF m 113 #[.val (.int (9 : Int32)), .unset] [(.ref w1), (.int (14 : Int32)), (.ref b1), (.ref b1)])) rfl rfl (hb hby d1_113)
  obtain ⟨T31, X31, e31, st31⟩ := getS2 X30 hx hZ hown (host := "") (Or.inl (hw _ m36)) Via.refl e30 (hS.2.2.2.2.2.2.1.ext O30.2) (g := (mkF m 117 #[.val (.int (9 : Int32)), .unset] [(.int (15 : Int32)), (.ref b1), (.ref b1)])) rfl (hb hby d1_117)
  obtain ⟨T32, h32, L'32, X32, e32, W32, V32, O32, K32, N32, st32⟩ := own_stR X31 hx hZ e31 V30 O30 K30 N30 (Nat.le_trans (own_old_le O0) g1) (Or.inr (Nat.le_trans (Keep.refl h0 []).1 g1)) (j := (15 : Int32)) 15 (by decide) (Nat.le_of_ble_eq_true rfl) (vs' := [(.ref w5), (.ref w14), (.ref w11), (.ref w0), .null, (.ref w8), (.ref w15), (.ref w10), (.ref w13), (.ref w9), (.ref w7), (.ref w12), (.ref w6), (.ref w4), (.ref w1), (.ref w2), .null]) rfl rfl rfl (Or.inr ⟨_, _, rfl, O'1, (Ins.self (hS.2.2.2.2.2.2.2.1.ext O30.2))⟩) (g := (mkF m 120 #[.val (.int (9 : Int32)), .unset] [(.ref w2), (.int (15 : Int32)), (.ref b1), (.ref b1)])) rfl rfl (hb hby d1_120)
  obtain ⟨T33, X33, e33, st33⟩ := getS2 X32 hx hZ hown (host := "") (Or.inl (hw _ m38)) Via.refl e32 (hS.2.2.2.2.2.2.2.2.2.1.ext O32.2) (g := (mkF m 124 #[.val (.int (9 : Int32)), .unset] [(.int (16 : Int32)), (.ref b1), (.ref b1)])) rfl (hb hby d1_124)
  obtain ⟨T34, h34, L'34, X34, e34, W34, V34, O34, K34, N34, st34⟩ := own_stR X33 hx hZ e33 V32 O32 K32 N32 (Nat.le_trans (own_old_le O0) g1) (Or.inr (Nat.le_trans (Keep.refl h0 []).1 g1)) (j := (16 : Int32)) 16 (by decide) (Nat.le_of_ble_eq_true rfl) (vs' := [(.ref w5), (.ref w14), (.ref w11), (.ref w0), .null, (.ref w8), (.ref w15), (.ref w10), (.ref w13), (.ref w9), (.ref w7), (.ref w12), (.ref w6), (.ref w4), (.ref w1), (.ref w2), (.ref w3)]) rfl rfl rfl (Or.inr ⟨_, _, rfl, O'1, (Ins.self (hS.2.2.2.2.2.2.2.2.2.2.1.ext O32.2))⟩) (g := (mkF m 127 #[.val (.int (9 : Int32)), .unset] [(.ref w3), (.int (16 : Int32)), (.ref b1), (.ref b1)])) rfl rfl (hb hby d1_127)
  obtain ⟨fs, hr, hrun, hended, hW, hsame⟩ := X34.leave (v := some (.ref w9)) (fun h => by rw [Bd.returns] at h; cases h)
  refine ⟨_, _, pre0 _ ?_, hrun, hended, _, _, rfl, ?_, ⟨_, rfl⟩, hW, hsame.mono (by decide) (by decide)⟩
  · show Steps p.tables e below (s₁.setTop (mkF m 0 #[.val (.int (9 : Int32)), .unset] [])) _
    refine XS.iloadN X0.here hx rfl (hb hby d1_0) rfl ?_
    refine XS.ifNo X0.here hx rfl (hb hby d1_1) rfl ((if0 _ _).trans (flt (by decide : ¬ ((9 : Int32) < (0 : Int32)))).1) ?_
    refine XS.iloadN X0.here hx rfl (hb hby d1_4) rfl ?_
    refine XS.bipush X0.here hx rfl (hb hby d1_5) ?_
    show Steps p.tables e below (s₁.setTop (mkF m 7 #[.val (.int (9 : Int32)), .unset] [(.int (16 : Int32)), (.int (9 : Int32))])) _
    refine XS.icmpYes X0.here hx rfl (pc0 := 7) (pc' := 12) rfl (hb hby d1_7) rfl (flt (by decide : ¬ ((16 : Int32) < (9 : Int32)))).2.2.2 (by decide) (by decide) ?_
    refine XS.bipush X0.here hx rfl (hb hby d1_12) ?_
    refine st1 _ ?_
    refine XS.dup X1.here hx rfl (hb hby d1_17) rfl rfl ?_
    show Steps p.tables e below (T1.setTop (mkF m 18 #[.val (.int (9 : Int32)), .unset] [(.ref b1), (.ref b1)])) _
    refine XS.iconst X1.here hx rfl (hb hby d1_18) ?_
    refine st2 _ ?_
    refine st3 _ ?_
    refine XS.dup X3.here hx rfl (hb hby d1_23) rfl rfl ?_
    show Steps p.tables e below (T3.setTop (mkF m 24 #[.val (.int (9 : Int32)), .unset] [(.ref b1), (.ref b1)])) _
    refine XS.iconst X3.here hx rfl (hb hby d1_24) ?_
    refine st4 _ ?_
    refine st5 _ ?_
    refine XS.dup X5.here hx rfl (hb hby d1_29) rfl rfl ?_
    show Steps p.tables e below (T5.setTop (mkF m 30 #[.val (.int (9 : Int32)), .unset] [(.ref b1), (.ref b1)])) _
    refine XS.iconst X5.here hx rfl (hb hby d1_30) ?_
    refine st6 _ ?_
    refine st7 _ ?_
    refine XS.dup X7.here hx rfl (hb hby d1_35) rfl rfl ?_
    show Steps p.tables e below (T7.setTop (mkF m 36 #[.val (.int (9 : Int32)), .unset] [(.ref b1), (.ref b1)])) _
    refine XS.iconst X7.here hx rfl (hb hby d1_36) ?_
    refine st8 _ ?_
    refine st9 _ ?_
    refine XS.dup X9.here hx rfl (hb hby d1_41) rfl rfl ?_
    show Steps p.tables e below (T9.setTop (mkF m 42 #[.val (.int (9 : Int32)), .unset] [(.ref b1), (.ref b1)])) _
    refine XS.iconst X9.here hx rfl (hb hby d1_42) ?_
    refine XS.aconstNull X9.here hx rfl (hb hby d1_43) ?_
    refine st10 _ ?_
    refine XS.dup X10.here hx rfl (hb hby d1_45) rfl rfl ?_
    show Steps p.tables e below (T10.setTop (mkF m 46 #[.val (.int (9 : Int32)), .unset] [(.ref b1), (.ref b1)])) _
    refine XS.iconst X10.here hx rfl (hb hby d1_46) ?_
    refine st11 _ ?_
    refine st12 _ ?_
    refine XS.dup X12.here hx rfl (hb hby d1_51) rfl rfl ?_
    show Steps p.tables e below (T12.setTop (mkF m 52 #[.val (.int (9 : Int32)), .unset] [(.ref b1), (.ref b1)])) _
    refine XS.bipush X12.here hx rfl (hb hby d1_52) ?_
    refine st13 _ ?_
    refine st14 _ ?_
    refine XS.dup X14.here hx rfl (hb hby d1_58) rfl rfl ?_
    show Steps p.tables e below (T14.setTop (mkF m 59 #[.val (.int (9 : Int32)), .unset] [(.ref b1), (.ref b1)])) _
    refine XS.bipush X14.here hx rfl (hb hby d1_59) ?_
    refine st15 _ ?_
    refine st16 _ ?_
    refine XS.dup X16.here hx rfl (hb hby d1_65) rfl rfl ?_
    show Steps p.tables e below (T16.setTop (mkF m 66 #[.val (.int (9 : Int32)), .unset] [(.ref b1), (.ref b1)])) _
    refine XS.bipush X16.here hx rfl (hb hby d1_66) ?_
    refine st17 _ ?_
    refine st18 _ ?_
    refine XS.dup X18.here hx rfl (hb hby d1_72) rfl rfl ?_
    show Steps p.tables e below (T18.setTop (mkF m 73 #[.val (.int (9 : Int32)), .unset] [(.ref b1), (.ref b1)])) _
    refine XS.bipush X18.here hx rfl (hb hby d1_73) ?_
    refine st19 _ ?_
    refine st20 _ ?_
    refine XS.dup X20.here hx rfl (hb hby d1_79) rfl rfl ?_
    show Steps p.tables e below (T20.setTop (mkF m 80 #[.val (.int (9 : Int32)), .unset] [(.ref b1), (.ref b1)])) _
    refine XS.bipush X20.here hx rfl (hb hby d1_80) ?_
    refine st21 _ ?_
    refine st22 _ ?_
    refine XS.dup X22.here hx rfl (hb hby d1_86) rfl rfl ?_
    show Steps p.tables e below (T22.setTop (mkF m 87 #[.val (.int (9 : Int32)), .unset] [(.ref b1), (.ref b1)])) _
    refine XS.bipush X22.here hx rfl (hb hby d1_87) ?_
    refine st23 _ ?_
    refine st24 _ ?_
    refine XS.dup X24.here hx rfl (hb hby d1_93) rfl rfl ?_
    show Steps p.tables e below (T24.setTop (mkF m 94 #[.val (.int (9 : Int32)), .unset] [(.ref b1), (.ref b1)])) _
    refine XS.bipush X24.here hx rfl (hb hby d1_94) ?_
    refine st25 _ ?_
    refine st26 _ ?_
    refine XS.dup X26.here hx rfl (hb hby d1_100) rfl rfl ?_
    show Steps p.tables e below (T26.setTop (mkF m 101 #[.val (.int (9 : Int32)), .unset] [(.ref b1), (.ref b1)])) _
    refine XS.bipush X26.here hx rfl (hb hby d1_101) ?_
    refine st27 _ ?_
    refine st28 _ ?_
    refine XS.dup X28.here hx rfl (hb hby d1_107) rfl rfl ?_
    show Steps p.tables e below (T28.setTop (mkF m 108 #[.val (.int (9 : Int32)), .unset] [(.ref b1), (.ref b1)])) _
    refine XS.bipush X28.here hx rfl (hb hby d1_108) ?_
    refine st29 _ ?_
    refine st30 _ ?_
    refine XS.dup X30.here hx rfl (hb hby d1_114) rfl rfl ?_
    show Steps p.tables e below (T30.setTop (mkF m 115 #[.val (.int (9 : Int32)), .unset] [(.ref b1), (.ref b1)])) _
    refine XS.bipush X30.here hx rfl (hb hby d1_115) ?_
    refine st31 _ ?_
    refine st32 _ ?_
    refine XS.dup X32.here hx rfl (hb hby d1_121) rfl rfl ?_
    show Steps p.tables e below (T32.setTop (mkF m 122 #[.val (.int (9 : Int32)), .unset] [(.ref b1), (.ref b1)])) _
    refine XS.bipush X32.here hx rfl (hb hby d1_122) ?_
    refine st33 _ ?_
    refine st34 _ ?_
    refine XS.astoreN X34.here hx rfl (hb hby d1_128) rfl rfl (l' := #[.val (.int (9 : Int32)), .val (.ref b1)]) rfl ?_
    show Steps p.tables e below (T34.setTop (mkF m 129 #[.val (.int (9 : Int32)), .val (.ref b1)] [])) _
    refine XS.aloadN X34.here hx rfl (hb hby d1_129) rfl rfl ?_
    refine XS.iloadN X34.here hx rfl (hb hby d1_130) rfl ?_
    refine own_aaload X34 hx hZ e34 V34 (j := (9 : Int32)) (by decide) (v := (.ref w9)) rfl rfl (g := (mkF m 131 #[.val (.int (9 : Int32)), .val (.ref b1)] [(.int (9 : Int32)), (.ref b1)])) rfl rfl (hb hby d1_131) ?_
    exact retOut X34 hx Bd.returns rfl (Or.inr (Or.inr (Or.inr (Or.inr ⟨rfl, rfl, rfl⟩)))) (hb hby d1_132) hr
  · show Qrm29 Z w0 w1 w2 w3 w4 w5 w6 w7 w8 w9 w10 w11 w12 w13 w14 w15 w16 kw16 h0 n0 _ T34.heap _
    rw [e34]
    exact ⟨rfl, N34, K34⟩
def Qrm30 (Z : State) (w0 : Addr) (w1 : Addr) (w2 : Addr) (w3 : Addr) (w4 : Addr) (w5 : Addr) (w6 : Addr) (w7 : Addr) (w8 : Addr) (w9 : Addr) (w10 : Addr) (w11 : Addr) (w12 : Addr) (w13 : Addr) (w14 : Addr) (w15 : Addr) (w16 : Addr) (kw16 : ClassId) (h0 : Heap) (n0 : Nat) (v : Option Value) (h : Heap) (L : List Loc) : Prop := v = some (.ref w9) ∧ Fr n0 L ∧ h = h0
set_option maxRecDepth 65536 in
set_option maxHeartbeats 40000000 in
theorem rm30 (l : Launch) (Z : State) (a0 : Array Value) (hw : ∀ d ∈ tables_1, d.before a0 Z = true) (w0 : Addr) (w1 : Addr) (w2 : Addr) (w3 : Addr) (w4 : Addr) (w5 : Addr) (w6 : Addr) (w7 : Addr) (w8 : Addr) (w9 : Addr) (w10 : Addr) (w11 : Addr) (w12 : Addr) (w13 : Addr) (w14 : Addr) (w15 : Addr) (w16 : Addr) (kw16 : ClassId) (hS : SF Z w0 w1 w2 w3 w4 w5 w6 w7 w8 w9 w10 w11 w12 w13 w14 w15 w16 kw16) (ws : List Jvm.Cond) (h0 : Heap) (n0 : Nat) (O0 : Old Z n0 h0) :
    MetFree l (⟨z0, "of", z2⟩ : MethodName) (head1 (Jvm.Cond.code (⟨z0, "of", z2⟩ : MethodName) prog_90_method_5_code 1 (some (.object z0)) :: ws) ({ frames := 0, cells := 0, slots := 0, locals := 0 } : Room)) (fun a U => a = #[(.int (9 : Int32))] ∧ Z.Warmed39 U.vm ∧ U.heap = h0) (fun _ _ _ _ _ => True) (fun _ U o U' => ∃ v L, o = .returned v ∧ Qrm30 Z w0 w1 w2 w3 w4 w5 w6 w7 w8 w9 w10 w11 w12 w13 w14 w15 w16 kw16 h0 n0 v U'.heap L ∧ FrameEnd U o U' L ({ frames := 0, cells := 0, slots := 0, locals := 0 } : Room).cells ({ frames := 0, cells := 0, slots := 0, locals := 0 } : Room).slots) := by
  refine MetFree.of_bodySF (plainFor_of_name pn18) hisR ?_
  intro p e s m args below meth c s₁ Bd hml0 hP hK
  obtain ⟨rfl, hZ, hh⟩ := hP
  have hx := Bd.exec
  have hby := Bd.bytes
  have hml : c.maxLocals = 1 := hml0
  have hown : s.vm.findClass z0 = some m.cls := findClass_of_methodNamed Bd.named
  have hnm := (name_of_methodNamed Bd.named Bd.method).1
  have X0 : Stand p l e ({ frames := 0, cells := 0, slots := 0, locals := 0 } : Room) s m #[(.int (9 : Int32))] below meth c s₁ [] 0 0 := Stand.of_body Bd
  have e0 : s₁.heap = h0 := by rw [← hh, Bd.state]; rfl
  have N0 := Fr.nil n0
  have pre0 : ∀ t, Steps p.tables e below (s₁.setTop (mkF m 0 #[.val (.int (9 : Int32))] [])) t → Steps p.tables e below (s₁.setTop (entryFrame m #[(.int (9 : Int32))] 1)) t := fun t k => castTop (ef17 m (9 : Int32)) k
  obtain ⟨T1, X1, e1, st1⟩ := getS2 X0 hx hZ hown (host := "") (Or.inl (hw _ m43)) Via.refl e0 (hS.2.2.2.2.2.2.2.2.2.2.2.2.2.2.2.2.2.2.2.2.2.2.2.2.2.2.2.2.2.2.2.2.2.2.2.2.2.2.2.2.2.2.2.2.2.2.2.2.1.ext O0.2) (g := (mkF m 5 #[.val (.int (9 : Int32))] [(.int (9 : Int32))])) rfl (hb hby d2_5)
  obtain ⟨T2, X2, e2, st2⟩ := getS2 X1 hx hZ hown (host := "") (Or.inl (hw _ m43)) Via.refl e1 (hS.2.2.2.2.2.2.2.2.2.2.2.2.2.2.2.2.2.2.2.2.2.2.2.2.2.2.2.2.2.2.2.2.2.2.2.2.2.2.2.2.2.2.2.2.2.2.2.2.1.ext O0.2) (g := (mkF m 12 #[.val (.int (9 : Int32))] [])) rfl (hb hby d2_12)
  obtain ⟨fs, hr, hrun, hended, hW, hsame⟩ := X2.leave (v := some (.ref w9)) (fun h => by rw [Bd.returns] at h; cases h)
  refine ⟨_, _, pre0 _ ?_, hrun, hended, _, _, rfl, ?_, ⟨_, rfl⟩, hW, hsame.mono (by decide) (by decide)⟩
  · show Steps p.tables e below (s₁.setTop (mkF m 0 #[.val (.int (9 : Int32))] [])) _
    refine XS.iloadN X0.here hx rfl (hb hby d2_0) rfl ?_
    refine XS.ifNo X0.here hx rfl (hb hby d2_1) rfl ((if0 _ _).trans (flt (by decide : ¬ ((9 : Int32) < (0 : Int32)))).1) ?_
    refine XS.iloadN X0.here hx rfl (hb hby d2_4) rfl ?_
    refine st1 _ ?_
    show Steps p.tables e below (T1.setTop (mkF m 8 #[.val (.int (9 : Int32))] [(.ref w16), (.int (9 : Int32))])) _
    refine own_alen X1 hx hZ e1 (hS.2.2.2.2.2.2.2.2.2.2.2.2.2.2.2.2.2.2.2.2.2.2.2.2.2.2.2.2.2.2.2.2.2.2.2.2.2.2.2.2.2.2.2.2.2.2.2.2.2.ext O0.2) (g := (mkF m 8 #[.val (.int (9 : Int32))] [(.ref w16), (.int (9 : Int32))])) rfl rfl (hb hby d2_8) ?_
    refine XS.icmpNo X1.here hx rfl (hb hby d2_9) rfl (tlt (by decide : (9 : Int32) < (17 : Int32))).2.1 ?_
    refine st2 _ ?_
    refine XS.iloadN X2.here hx rfl (hb hby d2_15) rfl ?_
    show Steps p.tables e below (T2.setTop (mkF m 16 #[.val (.int (9 : Int32))] [(.int (9 : Int32)), (.ref w16)])) _
    refine own_aaload X2 hx hZ e2 (hS.2.2.2.2.2.2.2.2.2.2.2.2.2.2.2.2.2.2.2.2.2.2.2.2.2.2.2.2.2.2.2.2.2.2.2.2.2.2.2.2.2.2.2.2.2.2.2.2.2.ext O0.2) (j := (9 : Int32)) (by decide) (v := (.ref w9)) rfl rfl (g := (mkF m 16 #[.val (.int (9 : Int32))] [(.int (9 : Int32)), (.ref w16)])) rfl rfl (hb hby d2_16) ?_
    refine XS.goto X2.here hx rfl (pc0 := 17) (pc' := 21) rfl (hb hby d2_17) (by decide) (by decide) ?_
    exact retOut X2 hx Bd.returns rfl (Or.inr (Or.inr (Or.inr (Or.inr ⟨rfl, rfl, rfl⟩)))) (hb hby d2_21) hr
  · show Qrm30 Z w0 w1 w2 w3 w4 w5 w6 w7 w8 w9 w10 w11 w12 w13 w14 w15 w16 kw16 h0 n0 _ T2.heap _
    rw [e2]
    exact ⟨rfl, N0, rfl⟩
def Qrm31 (Z : State) (w0 : Addr) (w1 : Addr) (w2 : Addr) (w3 : Addr) (w4 : Addr) (w5 : Addr) (w6 : Addr) (w7 : Addr) (w8 : Addr) (w9 : Addr) (w10 : Addr) (w11 : Addr) (w12 : Addr) (w13 : Addr) (w14 : Addr) (w15 : Addr) (w16 : Addr) (kw16 : ClassId) (h0 : Heap) (n0 : Nat) (v : Option Value) (h : Heap) (L : List Loc) : Prop := v = some (.int (9 : Int32)) ∧ Fr n0 L ∧ h = h0
set_option maxRecDepth 65536 in
set_option maxHeartbeats 40000000 in
theorem rm31 (l : Launch) (Z : State) (a0 : Array Value) (hw : ∀ d ∈ tables_1, d.before a0 Z = true) (w0 : Addr) (w1 : Addr) (w2 : Addr) (w3 : Addr) (w4 : Addr) (w5 : Addr) (w6 : Addr) (w7 : Addr) (w8 : Addr) (w9 : Addr) (w10 : Addr) (w11 : Addr) (w12 : Addr) (w13 : Addr) (w14 : Addr) (w15 : Addr) (w16 : Addr) (kw16 : ClassId) (hS : SF Z w0 w1 w2 w3 w4 w5 w6 w7 w8 w9 w10 w11 w12 w13 w14 w15 w16 kw16) (ws : List Jvm.Cond) (h0 : Heap) (n0 : Nat) (O0 : Old Z n0 h0) :
    MetFree l (⟨z0, "code", "()I"⟩ : MethodName) (head1 (Jvm.Cond.code (⟨z0, "code", "()I"⟩ : MethodName) prog_90_method_4_code 1 (some .int) :: ws) ({ frames := 0, cells := 0, slots := 0, locals := 0 } : Room)) (fun a U => a = #[(.ref w9)] ∧ Z.Warmed39 U.vm ∧ U.heap = h0) (fun _ _ _ _ _ => True) (fun _ U o U' => ∃ v L, o = .returned v ∧ Qrm31 Z w0 w1 w2 w3 w4 w5 w6 w7 w8 w9 w10 w11 w12 w13 w14 w15 w16 kw16 h0 n0 v U'.heap L ∧ FrameEnd U o U' L ({ frames := 0, cells := 0, slots := 0, locals := 0 } : Room).cells ({ frames := 0, cells := 0, slots := 0, locals := 0 } : Room).slots) := by
  refine MetFree.of_bodySF (plainFor_of_name pn18) hisR ?_
  intro p e s m args below meth c s₁ Bd hml0 hP hK
  obtain ⟨rfl, hZ, hh⟩ := hP
  have hx := Bd.exec
  have hby := Bd.bytes
  have hml : c.maxLocals = 1 := hml0
  have hown : s.vm.findClass z0 = some m.cls := findClass_of_methodNamed Bd.named
  have hnm := (name_of_methodNamed Bd.named Bd.method).1
  have X0 : Stand p l e ({ frames := 0, cells := 0, slots := 0, locals := 0 } : Room) s m #[(.ref w9)] below meth c s₁ [] 0 0 := Stand.of_body Bd
  have e0 : s₁.heap = h0 := by rw [← hh, Bd.state]; rfl
  have N0 := Fr.nil n0
  have pre0 : ∀ t, Steps p.tables e below (s₁.setTop (mkF m 0 #[.val (.ref w9)] [])) t → Steps p.tables e below (s₁.setTop (entryFrame m #[(.ref w9)] 1)) t := fun t k => castTop (ef135 m w9) k
  obtain ⟨T1, X1, e1, st1⟩ := getF X0 hx hZ hown (host := "") (Or.inl (hw _ m50)) Via.refl e0 (hS.2.2.2.2.2.2.2.2.2.2.2.2.2.2.2.2.2.2.2.2.2.2.2.2.2.2.2.2.2.1.ext O0.2) (g := (mkF m 1 #[.val (.ref w9)] [(.ref w9)])) rfl rfl (hb hby d3_1)
  obtain ⟨fs, hr, hrun, hended, hW, hsame⟩ := X1.leave (v := some (.int (9 : Int32))) (fun h => by rw [Bd.returns] at h; cases h)
  refine ⟨_, _, pre0 _ ?_, hrun, hended, _, _, rfl, ?_, ⟨_, rfl⟩, hW, hsame.mono (by decide) (by decide)⟩
  · show Steps p.tables e below (s₁.setTop (mkF m 0 #[.val (.ref w9)] [])) _
    refine XS.aloadN X0.here hx rfl (hb hby d3_0) rfl rfl ?_
    refine st1 _ ?_
    exact retOut X1 hx Bd.returns rfl (Or.inl ⟨rfl, Or.inl rfl, _, rfl⟩) (hb hby d3_4) hr
  · show Qrm31 Z w0 w1 w2 w3 w4 w5 w6 w7 w8 w9 w10 w11 w12 w13 w14 w15 w16 kw16 h0 n0 _ T1.heap _
    rw [e1]
    exact ⟨rfl, N0, rfl⟩
def Qrm32 (Z : State) (w0 : Addr) (w1 : Addr) (w2 : Addr) (w3 : Addr) (w4 : Addr) (w5 : Addr) (w6 : Addr) (w7 : Addr) (w8 : Addr) (w9 : Addr) (w10 : Addr) (w11 : Addr) (w12 : Addr) (w13 : Addr) (w14 : Addr) (w15 : Addr) (w16 : Addr) (kw16 : ClassId) (h0 : Heap) (n0 : Nat) (v : Option Value) (h : Heap) (L : List Loc) : Prop := v = some (.ref w7) ∧ Fr n0 L ∧ Keep h0 h []
set_option maxRecDepth 65536 in
set_option maxHeartbeats 40000000 in
theorem rm32 (l : Launch) (Z : State) (a0 : Array Value) (hw : ∀ d ∈ tables_1, d.before a0 Z = true) (w0 : Addr) (w1 : Addr) (w2 : Addr) (w3 : Addr) (w4 : Addr) (w5 : Addr) (w6 : Addr) (w7 : Addr) (w8 : Addr) (w9 : Addr) (w10 : Addr) (w11 : Addr) (w12 : Addr) (w13 : Addr) (w14 : Addr) (w15 : Addr) (w16 : Addr) (kw16 : ClassId) (hS : SF Z w0 w1 w2 w3 w4 w5 w6 w7 w8 w9 w10 w11 w12 w13 w14 w15 w16 kw16) (ws : List Jvm.Cond) (h0 : Heap) (n0 : Nat) (O0 : Old Z n0 h0) :
    MetFree l (⟨z1, "expected", z2⟩ : MethodName) (head1 (Jvm.Cond.code (⟨z1, "expected", z2⟩ : MethodName) method_3_code 2 (some (.object z0)) :: ws) ({ frames := 0, cells := 1, slots := 17, locals := 0 } : Room)) (fun a U => a = #[(.int (10 : Int32))] ∧ Z.Warmed39 U.vm ∧ U.heap = h0) (fun _ _ _ _ _ => True) (fun _ U o U' => ∃ v L, o = .returned v ∧ Qrm32 Z w0 w1 w2 w3 w4 w5 w6 w7 w8 w9 w10 w11 w12 w13 w14 w15 w16 kw16 h0 n0 v U'.heap L ∧ FrameEnd U o U' L ({ frames := 0, cells := 1, slots := 17, locals := 0 } : Room).cells ({ frames := 0, cells := 1, slots := 17, locals := 0 } : Room).slots) := by
  refine MetFree.of_bodySF (plainFor_of_name pn7) hisR ?_
  intro p e s m args below meth c s₁ Bd hml0 hP hK
  obtain ⟨rfl, hZ, hh⟩ := hP
  have hx := Bd.exec
  have hby := Bd.bytes
  have hml : c.maxLocals = 2 := hml0
  have hown : s.vm.findClass z1 = some m.cls := findClass_of_methodNamed Bd.named
  have hnm := (name_of_methodNamed Bd.named Bd.method).1
  have X0 : Stand p l e ({ frames := 0, cells := 1, slots := 17, locals := 0 } : Room) s m #[(.int (10 : Int32))] below meth c s₁ [] 0 0 := Stand.of_body Bd
  have e0 : s₁.heap = h0 := by rw [← hh, Bd.state]; rfl
  have N0 := Fr.nil n0
  have pre0 : ∀ t, Steps p.tables e below (s₁.setTop (mkF m 0 #[.val (.int (10 : Int32)), .unset] [])) t → Steps p.tables e below (s₁.setTop (entryFrame m #[(.int (10 : Int32))] 2)) t := fun t k => castTop (ef6 m (10 : Int32)) k
  obtain ⟨T1, h1, k1, b1, X1, e1, E1, V1, O'1, g1, O1, K1, st1⟩ := own_newR X0 hx hZ (vs := [.null, .null, .null, .null, .null, .null, .null, .null, .null, .null, .null, .null, .null, .null, .null, .null, .null]) (cap := 17) rfl hown (hw _ m4) (hw _ m5) e0 O0 (Keep.refl h0 []) (g := (mkF m 14 #[.val (.int (10 : Int32)), .unset] [(.int (17 : Int32))])) rfl (hb hby d1_14) rfl (by decide) (by decide) (by decide) (by decide) (by decide)
  obtain ⟨T2, X2, e2, st2⟩ := getS2 X1 hx hZ hown (host := "") (Or.inl (hw _ m6)) Via.refl e1 (hS.2.2.2.2.2.2.2.2.2.2.2.2.2.2.2.1.ext O1.2) (g := (mkF m 19 #[.val (.int (10 : Int32)), .unset] [(.int (0 : Int32)), (.ref b1), (.ref b1)])) rfl (hb hby d1_19)
  obtain ⟨T3, h3, L'3, X3, e3, W3, V3, O3, K3, N3, st3⟩ := own_stR X2 hx hZ e2 V1 O1 K1 N0 (Nat.le_trans (own_old_le O0) g1) (Or.inr (Nat.le_trans (Keep.refl h0 []).1 g1)) (j := (0 : Int32)) 0 (by decide) (Nat.le_of_ble_eq_true rfl) (vs' := [(.ref w5), .null, .null, .null, .null, .null, .null, .null, .null, .null, .null, .null, .null, .null, .null, .null, .null]) rfl rfl rfl (Or.inr ⟨_, _, rfl, O'1, (Ins.self (hS.2.2.2.2.2.2.2.2.2.2.2.2.2.2.2.2.1.ext O1.2))⟩) (g := (mkF m 22 #[.val (.int (10 : Int32)), .unset] [(.ref w5), (.int (0 : Int32)), (.ref b1), (.ref b1)])) rfl rfl (hb hby d1_22)
  obtain ⟨T4, X4, e4, st4⟩ := getS2 X3 hx hZ hown (host := "") (Or.inl (hw _ m10)) Via.refl e3 (hS.2.2.2.2.2.2.2.2.2.2.2.2.2.2.2.2.2.2.2.2.2.2.2.2.2.2.2.2.2.2.2.2.2.2.2.2.2.2.2.2.2.2.1.ext O3.2) (g := (mkF m 25 #[.val (.int (10 : Int32)), .unset] [(.int (1 : Int32)), (.ref b1), (.ref b1)])) rfl (hb hby d1_25)
  obtain ⟨T5, h5, L'5, X5, e5, W5, V5, O5, K5, N5, st5⟩ := own_stR X4 hx hZ e4 V3 O3 K3 N3 (Nat.le_trans (own_old_le O0) g1) (Or.inr (Nat.le_trans (Keep.refl h0 []).1 g1)) (j := (1 : Int32)) 1 (by decide) (Nat.le_of_ble_eq_true rfl) (vs' := [(.ref w5), (.ref w14), .null, .null, .null, .null, .null, .null, .null, .null, .null, .null, .null, .null, .null, .null, .null]) rfl rfl rfl (Or.inr ⟨_, _, rfl, O'1, (Ins.self (hS.2.2.2.2.2.2.2.2.2.2.2.2.2.2.2.2.2.2.2.2.2.2.2.2.2.2.2.2.2.2.2.2.2.2.2.2.2.2.2.2.2.2.2.1.ext O3.2))⟩) (g := (mkF m 28 #[.val (.int (10 : Int32)), .unset] [(.ref w14), (.int (1 : Int32)), (.ref b1), (.ref b1)])) rfl rfl (hb hby d1_28)
  obtain ⟨T6, X6, e6, st6⟩ := getS2 X5 hx hZ hown (host := "") (Or.inl (hw _ m12)) Via.refl e5 (hS.2.2.2.2.2.2.2.2.2.2.2.2.2.2.2.2.2.2.2.2.2.2.2.2.2.2.2.2.2.2.2.2.2.1.ext O5.2) (g := (mkF m 31 #[.val (.int (10 : Int32)), .unset] [(.int (2 : Int32)), (.ref b1), (.ref b1)])) rfl (hb hby d1_31)
  obtain ⟨T7, h7, L'7, X7, e7, W7, V7, O7, K7, N7, st7⟩ := own_stR X6 hx hZ e6 V5 O5 K5 N5 (Nat.le_trans (own_old_le O0) g1) (Or.inr (Nat.le_trans (Keep.refl h0 []).1 g1)) (j := (2 : Int32)) 2 (by decide) (Nat.le_of_ble_eq_true rfl) (vs' := [(.ref w5), (.ref w14), (.ref w11), .null, .null, .null, .null, .null, .null, .null, .null, .null, .null, .null, .null, .null, .null]) rfl rfl rfl (Or.inr ⟨_, _, rfl, O'1, (Ins.self (hS.2.2.2.2.2.2.2.2.2.2.2.2.2.2.2.2.2.2.2.2.2.2.2.2.2.2.2.2.2.2.2.2.2.2.1.ext O5.2))⟩) (g := (mkF m 34 #[.val (.int (10 : Int32)), .unset] [(.ref w11), (.int (2 : Int32)), (.ref b1), (.ref b1)])) rfl rfl (hb hby d1_34)
  obtain ⟨T8, X8, e8, st8⟩ := getS2 X7 hx hZ hown (host := "") (Or.inl (hw _ m14)) Via.refl e7 (hS.1.ext O7.2) (g := (mkF m 37 #[.val (.int (10 : Int32)), .unset] [(.int (3 : Int32)), (.ref b1), (.ref b1)])) rfl (hb hby d1_37)
  obtain ⟨T9, h9, L'9, X9, e9, W9, V9, O9, K9, N9, st9⟩ := own_stR X8 hx hZ e8 V7 O7 K7 N7 (Nat.le_trans (own_old_le O0) g1) (Or.inr (Nat.le_trans (Keep.refl h0 []).1 g1)) (j := (3 : Int32)) 3 (by decide) (Nat.le_of_ble_eq_true rfl) (vs' := [(.ref w5), (.ref w14), (.ref w11), (.ref w0), .null, .null, .null, .null, .null, .null, .null, .null, .null, .null, .null, .null, .null]) rfl rfl rfl (Or.inr ⟨_, _, rfl, O'1, (Ins.self (hS.2.1.ext O7.2))⟩) (g := (mkF m 40 #[.val (.int (10 : Int32)), .unset] [(.ref w0), (.int (3 : Int32)), (.ref b1), (.ref b1)])) rfl rfl (hb hby d1_40)
  obtain ⟨T10, h10, L'10, X10, e10, W10, V10, O10, K10, N10, st10⟩ := own_stR X9 hx hZ e9 V9 O9 K9 N9 (Nat.le_trans (own_old_le O0) g1) (Or.inr (Nat.le_trans (Keep.refl h0 []).1 g1)) (j := (4 : Int32)) 4 (by decide) (Nat.le_of_ble_eq_true rfl) (vs' := [(.ref w5), (.ref w14), (.ref w11), (.ref w0), .null, .null, .null, .null, .null, .null, .null, .null, .null, .null, .null, .null, .null]) rfl rfl rfl (Or.inl rfl) (g := (mkF m 44 #[.val (.int (10 : Int32)), .unset] [.null, (.int (4 : Int32)), (.ref b1), (.ref b1)])) rfl rfl (hb hby d1_44)
  obtain ⟨T11, X11, e11, st11⟩ := getS2 X10 hx hZ hown (host := "") (Or.inl (hw _ m16)) Via.refl e10 (hS.2.2.2.2.2.2.2.2.2.2.2.2.2.2.2.2.2.2.2.2.2.2.2.2.1.ext O10.2) (g := (mkF m 47 #[.val (.int (10 : Int32)), .unset] [(.int (5 : Int32)), (.ref b1), (.ref b1)])) rfl (hb hby d1_47)
  obtain ⟨T12, h12, L'12, X12, e12, W12, V12, O12, K12, N12, st12⟩ := own_stR X11 hx hZ e11 V10 O10 K10 N10 (Nat.le_trans (own_old_le O0) g1) (Or.inr (Nat.le_trans (Keep.refl h0 []).1 g1)) (j := (5 : Int32)) 5 (by decide) (Nat.le_of_ble_eq_true rfl) (vs' := [(.ref w5), (.ref w14), (.ref w11), (.ref w0), .null, (.ref w8), .null, .null, .null, .null, .null, .null, .null, .null, .null, .null, .null]) rfl rfl rfl (Or.inr ⟨_, _, rfl, O'1, (Ins.self (hS.2.2.2.2.2.2.2.2.2.2.2.2.2.2.2.2.2.2.2.2.2.2.2.2.2.1.ext O10.2))⟩) (g := (mkF m 50 #[.val (.int (10 : Int32)), .unset] [(.ref w8), (.int (5 : Int32)), (.ref b1), (.ref b1)])) rfl rfl (hb hby d1_50)
  obtain ⟨T13, X13, e13, st13⟩ := getS2 X12 hx hZ hown (host := "") (Or.inl (hw _ m18)) Via.refl e12 (hS.2.2.2.2.2.2.2.2.2.2.2.2.2.2.2.2.2.2.2.2.2.2.2.2.2.2.2.2.2.2.2.2.2.2.2.2.2.2.2.2.2.2.2.2.2.1.ext O12.2) (g := (mkF m 54 #[.val (.int (10 : Int32)), .unset] [(.int (6 : Int32)), (.ref b1), (.ref b1)])) rfl (hb hby d1_54)
  obtain ⟨T14, h14, L'14, X14, e14, W14, V14, O14, K14, N14, st14⟩ := own_stR X13 hx hZ e13 V12 O12 K12 N12 (Nat.le_trans (own_old_le O0) g1) (Or.inr (Nat.le_trans (Keep.refl h0 []).1 g1)) (j := (6 : Int32)) 6 (by decide) (Nat.le_of_ble_eq_true rfl) (vs' := [(.ref w5), (.ref w14), (.ref w11), (.ref w0), .null, (.ref w8), (.ref w15), .null, .null, .null, .null, .null, .null, .null, .null, .null, .null]) rfl rfl rfl (Or.inr ⟨_, _, rfl, O'1, (Ins.self (hS.2.2.2.2.2.2.2.2.2.2.2.2.2.2.2.2.2.2.2.2.2.2.2.2.2.2.2.2.2.2.2.2.2.2.2.2.2.2.2.2.2.2.2.2.2.2.1.ext O12.2))⟩) (g := (mkF m 57 #[.val (.int (10 : Int32)), .unset] [(.ref w15), (.int (6 : Int32)), (.ref b1), (.ref b1)])) rfl rfl (hb hby d1_57)
  obtain ⟨T15, X15, e15, st15⟩ := getS2 X14 hx hZ hown (host := "") (Or.inl (hw _ m20)) Via.refl e14 (hS.2.2.2.2.2.2.2.2.2.2.2.2.2.2.2.2.2.2.2.2.2.2.2.2.2.2.2.2.2.2.1.ext O14.2) (g := (mkF m 61 #[.val (.int (10 : Int32)), .unset] [(.int (7 : Int32)), (.ref b1), (.ref b1)])) rfl (hb hby d1_61)
  obtain ⟨T16, h16, L'16, X16, e16, W16, V16, O16, K16, N16, st16⟩ := own_stR X15 hx hZ e15 V14 O14 K14 N14 (Nat.le_trans (own_old_le O0) g1) (Or.inr (Nat.le_trans (Keep.refl h0 []).1 g1)) (j := (7 : Int32)) 7 (by decide) (Nat.le_of_ble_eq_true rfl) (vs' := [(.ref w5), (.ref w14), (.ref w11), (.ref w0), .null, (.ref w8), (.ref w15), (.ref w10), .null, .null, .null, .null, .null, .null, .null, .null, .null]) rfl rfl rfl (Or.inr ⟨_, _, rfl, O'1, (Ins.self (hS.2.2.2.2.2.2.2.2.2.2.2.2.2.2.2.2.2.2.2.2.2.2.2.2.2.2.2.2.2.2.2.1.ext O14.2))⟩) (g := (mkF m 64 #[.val (.int (10 : Int32)), .unset] [(.ref w10), (.int (7 : Int32)), (.ref b1), (.ref b1)])) rfl rfl (hb hby d1_64)
  obtain ⟨T17, X17, e17, st17⟩ := getS2 X16 hx hZ hown (host := "") (Or.inl (hw _ m22)) Via.refl e16 (hS.2.2.2.2.2.2.2.2.2.2.2.2.2.2.2.2.2.2.2.2.2.2.2.2.2.2.2.2.2.2.2.2.2.2.2.2.2.2.2.1.ext O16.2) (g := (mkF m 68 #[.val (.int (10 : Int32)), .unset] [(.int (8 : Int32)), (.ref b1), (.ref b1)])) rfl (hb hby d1_68)
  obtain ⟨T18, h18, L'18, X18, e18, W18, V18, O18, K18, N18, st18⟩ := own_stR X17 hx hZ e17 V16 O16 K16 N16 (Nat.le_trans (own_old_le O0) g1) (Or.inr (Nat.le_trans (Keep.refl h0 []).1 g1)) (j := (8 : Int32)) 8 (by decide) (Nat.le_of_ble_eq_true rfl) (vs' := [(.ref w5), (.ref w14), (.ref w11), (.ref w0), .null, (.ref w8), (.ref w15), (.ref w10), (.ref w13), .null, .null, .null, .null, .null, .null, .null, .null]) rfl rfl rfl (Or.inr ⟨_, _, rfl, O'1, (Ins.self (hS.2.2.2.2.2.2.2.2.2.2.2.2.2.2.2.2.2.2.2.2.2.2.2.2.2.2.2.2.2.2.2.2.2.2.2.2.2.2.2.2.1.ext O16.2))⟩) (g := (mkF m 71 #[.val (.int (10 : Int32)), .unset] [(.ref w13), (.int (8 : Int32)), (.ref b1), (.ref b1)])) rfl rfl (hb hby d1_71)
  obtain ⟨T19, X19, e19, st19⟩ := getS2 X18 hx hZ hown (host := "") (Or.inl (hw _ m24)) Via.refl e18 (hS.2.2.2.2.2.2.2.2.2.2.2.2.2.2.2.2.2.2.2.2.2.2.2.2.2.2.2.1.ext O18.2) (g := (mkF m 75 #[.val (.int (10 : Int32)), .unset] [(.int (9 : Int32)), (.ref b1), (.ref b1)])) rfl (hb hby d1_75)
  obtain ⟨T20, h20, L'20, X20, e20, W20, V20, O20, K20, N20, st20⟩ := own_stR X19 hx hZ e19 V18 O18 K18 N18 (Nat.le_trans (own_old_le O0) g1) (Or.inr (Nat.le_trans (Keep.refl h0 []).1 g1)) (j := (9 : Int32)) 9 (by decide) (Nat.le_of_ble_eq_true rfl) (vs' := [(.ref w5), (.ref w14), (.ref w11), (.ref w0), .null, (.ref w8), (.ref w15), (.ref w10), (.ref w13), (.ref w9), .null, .null, .null, .null, .null, .null, .null]) rfl rfl rfl (Or.inr ⟨_, _, rfl, O'1, (Ins.self (hS.2.2.2.2.2.2.2.2.2.2.2.2.2.2.2.2.2.2.2.2.2.2.2.2.2.2.2.2.1.ext O18.2))⟩) (g := (mkF m 78 #[.val (.int (10 : Int32)), .unset] [(.ref w9), (.int (9 : Int32)), (.ref b1), (.ref b1)])) rfl rfl (hb hby d1_78)
  obtain ⟨T21, X21, e21, st21⟩ := getS2 X20 hx hZ hown (host := "") (Or.inl (hw _ m26)) Via.refl e20 (hS.2.2.2.2.2.2.2.2.2.2.2.2.2.2.2.2.2.2.2.2.2.1.ext O20.2) (g := (mkF m 82 #[.val (.int (10 : Int32)), .unset] [(.int (10 : Int32)), (.ref b1), (.ref b1)])) rfl (hb hby d1_82)
  obtain ⟨T22, h22, L'22, X22, e22, W22, V22, O22, K22, N22, st22⟩ := own_stR X21 hx hZ e21 V20 O20 K20 N20 (Nat.le_trans (own_old_le O0) g1) (Or.inr (Nat.le_trans (Keep.refl h0 []).1 g1)) (j := (10 : Int32)) 10 (by decide) (Nat.le_of_ble_eq_true rfl) (vs' := [(.ref w5), (.ref w14), (.ref w11), (.ref w0), .null, (.ref w8), (.ref w15), (.ref w10), (.ref w13), (.ref w9), (.ref w7), .null, .null, .null, .null, .null, .null]) rfl rfl rfl (Or.inr ⟨_, _, rfl, O'1, (Ins.self (hS.2.2.2.2.2.2.2.2.2.2.2.2.2.2.2.2.2.2.2.2.2.2.1.ext O20.2))⟩) (g := (mkF m 85 #[.val (.int (10 : Int32)), .unset] [(.ref w7), (.int (10 : Int32)), (.ref b1), (.ref b1)])) rfl rfl (hb hby d1_85)
  obtain ⟨T23, X23, e23, st23⟩ := getS2 X22 hx hZ hown (host := "") (Or.inl (hw _ m28)) Via.refl e22 (hS.2.2.2.2.2.2.2.2.2.2.2.2.2.2.2.2.2.2.2.2.2.2.2.2.2.2.2.2.2.2.2.2.2.2.2.2.1.ext O22.2) (g := (mkF m 89 #[.val (.int (10 : Int32)), .unset] [(.int (11 : Int32)), (.ref b1), (.ref b1)])) rfl (hb hby d1_89)
  obtain ⟨T24, h24, L'24, X24, e24, W24, V24, O24, K24, N24, st24⟩ := own_stR X23 hx hZ e23 V22 O22 K22 N22 (Nat.le_trans (own_old_le O0) g1) (Or.inr (Nat.le_trans (Keep.refl h0 []).1 g1)) (j := (11 : Int32)) 11 (by decide) (Nat.le_of_ble_eq_true rfl) (vs' := [(.ref w5), (.ref w14), (.ref w11), (.ref w0), .null, (.ref w8), (.ref w15), (.ref w10), (.ref w13), (.ref w9), (.ref w7), (.ref w12), .null, .null, .null, .null, .null]) rfl rfl rfl (Or.inr ⟨_, _, rfl, O'1, (Ins.self (hS.2.2.2.2.2.2.2.2.2.2.2.2.2.2.2.2.2.2.2.2.2.2.2.2.2.2.2.2.2.2.2.2.2.2.2.2.2.1.ext O22.2))⟩) (g := (mkF m 92 #[.val (.int (10 : Int32)), .unset] [(.ref w12), (.int (11 : Int32)), (.ref b1), (.ref b1)])) rfl rfl (hb hby d1_92)
  obtain ⟨T25, X25, e25, st25⟩ := getS2 X24 hx hZ hown (host := "") (Or.inl (hw _ m30)) Via.refl e24 (hS.2.2.2.2.2.2.2.2.2.2.2.2.2.2.2.2.2.2.1.ext O24.2) (g := (mkF m 96 #[.val (.int (10 : Int32)), .unset] [(.int (12 : Int32)), (.ref b1), (.ref b1)])) rfl (hb hby d1_96)
  obtain ⟨T26, h26, L'26, X26, e26, W26, V26, O26, K26, N26, st26⟩ := own_stR X25 hx hZ e25 V24 O24 K24 N24 (Nat.le_trans (own_old_le O0) g1) (Or.inr (Nat.le_trans (Keep.refl h0 []).1 g1)) (j := (12 : Int32)) 12 (by decide) (Nat.le_of_ble_eq_true rfl) (vs' := [(.ref w5), (.ref w14), (.ref w11), (.ref w0), .null, (.ref w8), (.ref w15), (.ref w10), (.ref w13), (.ref w9), (.ref w7), (.ref w12), (.ref w6), .null, .null, .null, .null]) rfl rfl rfl (Or.inr ⟨_, _, rfl, O'1, (Ins.self (hS.2.2.2.2.2.2.2.2.2.2.2.2.2.2.2.2.2.2.2.1.ext O24.2))⟩) (g := (mkF m 99 #[.val (.int (10 : Int32)), .unset] [(.ref w6), (.int (12 : Int32)), (.ref b1), (.ref b1)])) rfl rfl (hb hby d1_99)
  obtain ⟨T27, X27, e27, st27⟩ := getS2 X26 hx hZ hown (host := "") (Or.inl (hw _ m32)) Via.refl e26 (hS.2.2.2.2.2.2.2.2.2.2.2.2.1.ext O26.2) (g := (mkF m 103 #[.val (.int (10 : Int32)), .unset] [(.int (13 : Int32)), (.ref b1), (.ref b1)])) rfl (hb hby d1_103)
  obtain ⟨T28, h28, L'28, X28, e28, W28, V28, O28, K28, N28, st28⟩ := own_stR X27 hx hZ e27 V26 O26 K26 N26 (Nat.le_trans (own_old_le O0) g1) (Or.inr (Nat.le_trans (Keep.refl h0 []).1 g1)) (j := (13 : Int32)) 13 (by decide) (Nat.le_of_ble_eq_true rfl) (vs' := [(.ref w5), (.ref w14), (.ref w11), (.ref w0), .null, (.ref w8), (.ref w15), (.ref w10), (.ref w13), (.ref w9), (.ref w7), (.ref w12), (.ref w6), (.ref w4), .null, .null, .null]) rfl rfl rfl (Or.inr ⟨_, _, rfl, O'1, (Ins.self (hS.2.2.2.2.2.2.2.2.2.2.2.2.2.1.ext O26.2))⟩) (g := (mkF m 106 #[.val (.int (10 : Int32)), .unset] [(.ref w4), (.int (13 : Int32)), (.ref b1), (.ref b1)])) rfl rfl (hb hby d1_106)
  obtain ⟨T29, X29, e29, st29⟩ := getS2 X28 hx hZ hown (host := "") (Or.inl (hw _ m34)) Via.refl e28 (hS.2.2.2.1.ext O28.2) (g := (mkF m 110 #[.val (.int (10 : Int32)), .unset] [(.int (14 : Int32)), (.ref b1), (.ref b1)])) rfl (hb hby d1_110)
  obtain ⟨T30, h30, L'30, X30, e30, W30, V30, O30, K30, N30, st30⟩ := own_stR X29 hx hZ e29 V28 O28 K28 N28 (Nat.le_trans (own_old_le O0) g1) (Or.inr (Nat.le_trans (Keep.refl h0 []).1 g1)) (j := (14 : Int32)) 14 (by decide) (Nat.le_of_ble_eq_true rfl) (vs' := [(.ref w5), (.ref w14), (.ref w11), (.ref w0), .null, (.ref w8), (.ref w15), (.ref w10), (.ref w13), (.ref w9), (.ref w7), (.ref w12), (.ref w6), (.ref w4), (.ref w1), .null, .null]) rfl rfl rfl (Or.inr ⟨_, _, rfl, O'1, (Ins.self (hS.2.2.2.2.1.ext O28.2))⟩) (g := (mkF m 113 #[.val (.int (10 : Int32)), .unset] [(.ref w1), (.int (14 : Int32)), (.ref b1), (.ref b1)])) rfl rfl (hb hby d1_113)
  obtain ⟨T31, X31, e31, st31⟩ := getS2 X30 hx hZ hown (host := "") (Or.inl (hw _ m36)) Via.refl e30 (hS.2.2.2.2.2.2.1.ext O30.2) (g := (mkF m 117 #[.val (.int (10 : Int32)), .unset] [(.int (15 : Int32)), (.ref b1), (.ref b1)])) rfl (hb hby d1_117)
  obtain ⟨T32, h32, L'32, X32, e32, W32, V32, O32, K32, N32, st32⟩ := own_stR X31 hx hZ e31 V30 O30 K30 N30 (Nat.le_trans (own_old_le O0) g1) (Or.inr (Nat.le_trans (Keep.refl h0 []).1 g1)) (j := (15 : Int32)) 15 (by decide) (Nat.le_of_ble_eq_true rfl) (vs' := [(.ref w5), (.ref w14), (.ref w11), (.ref w0), .null, (.ref w8), (.ref w15), (.ref w10), (.ref w13), (.ref w9), (.ref w7), (.ref w12), (.ref w6), (.ref w4), (.ref w1), (.ref w2), .null]) rfl rfl rfl (Or.inr ⟨_, _, rfl, O'1, (Ins.self (hS.2.2.2.2.2.2.2.1.ext O30.2))⟩) (g := (mkF m 120 #[.val (.int (10 : Int32)), .unset] [(.ref w2), (.int (15 : Int32)), (.ref b1), (.ref b1)])) rfl rfl (hb hby d1_120)
  obtain ⟨T33, X33, e33, st33⟩ := getS2 X32 hx hZ hown (host := "") (Or.inl (hw _ m38)) Via.refl e32 (hS.2.2.2.2.2.2.2.2.2.1.ext O32.2) (g := (mkF m 124 #[.val (.int (10 : Int32)), .unset] [(.int (16 : Int32)), (.ref b1), (.ref b1)])) rfl (hb hby d1_124)
  obtain ⟨T34, h34, L'34, X34, e34, W34, V34, O34, K34, N34, st34⟩ := own_stR X33 hx hZ e33 V32 O32 K32 N32 (Nat.le_trans (own_old_le O0) g1) (Or.inr (Nat.le_trans (Keep.refl h0 []).1 g1)) (j := (16 : Int32)) 16 (by decide) (Nat.le_of_ble_eq_true rfl) (vs' := [(.ref w5), (.ref w14), (.ref w11), (.ref w0), .null, (.ref w8), (.ref w15), (.ref w10), (.ref w13), (.ref w9), (.ref w7), (.ref w12), (.ref w6), (.ref w4), (.ref w1), (.ref w2), (.ref w3)]) rfl rfl rfl (Or.inr ⟨_, _, rfl, O'1, (Ins.self (hS.2.2.2.2.2.2.2.2.2.2.1.ext O32.2))⟩) (g := (mkF m 127 #[.val (.int (10 : Int32)), .unset] [(.ref w3), (.int (16 : Int32)), (.ref b1), (.ref b1)])) rfl rfl (hb hby d1_127)
  obtain ⟨fs, hr, hrun, hended, hW, hsame⟩ := X34.leave (v := some (.ref w7)) (fun h => by rw [Bd.returns] at h; cases h)
  refine ⟨_, _, pre0 _ ?_, hrun, hended, _, _, rfl, ?_, ⟨_, rfl⟩, hW, hsame.mono (by decide) (by decide)⟩
  · show Steps p.tables e below (s₁.setTop (mkF m 0 #[.val (.int (10 : Int32)), .unset] [])) _
    refine XS.iloadN X0.here hx rfl (hb hby d1_0) rfl ?_
    refine XS.ifNo X0.here hx rfl (hb hby d1_1) rfl ((if0 _ _).trans (flt (by decide : ¬ ((10 : Int32) < (0 : Int32)))).1) ?_
    refine XS.iloadN X0.here hx rfl (hb hby d1_4) rfl ?_
    refine XS.bipush X0.here hx rfl (hb hby d1_5) ?_
    show Steps p.tables e below (s₁.setTop (mkF m 7 #[.val (.int (10 : Int32)), .unset] [(.int (16 : Int32)), (.int (10 : Int32))])) _
    refine XS.icmpYes X0.here hx rfl (pc0 := 7) (pc' := 12) rfl (hb hby d1_7) rfl (flt (by decide : ¬ ((16 : Int32) < (10 : Int32)))).2.2.2 (by decide) (by decide) ?_
    refine XS.bipush X0.here hx rfl (hb hby d1_12) ?_
    refine st1 _ ?_
    refine XS.dup X1.here hx rfl (hb hby d1_17) rfl rfl ?_
    show Steps p.tables e below (T1.setTop (mkF m 18 #[.val (.int (10 : Int32)), .unset] [(.ref b1), (.ref b1)])) _
    refine XS.iconst X1.here hx rfl (hb hby d1_18) ?_
    refine st2 _ ?_
    refine st3 _ ?_
    refine XS.dup X3.here hx rfl (hb hby d1_23) rfl rfl ?_
    show Steps p.tables e below (T3.setTop (mkF m 24 #[.val (.int (10 : Int32)), .unset] [(.ref b1), (.ref b1)])) _
    refine XS.iconst X3.here hx rfl (hb hby d1_24) ?_
    refine st4 _ ?_
    refine st5 _ ?_
    refine XS.dup X5.here hx rfl (hb hby d1_29) rfl rfl ?_
    show Steps p.tables e below (T5.setTop (mkF m 30 #[.val (.int (10 : Int32)), .unset] [(.ref b1), (.ref b1)])) _
    refine XS.iconst X5.here hx rfl (hb hby d1_30) ?_
    refine st6 _ ?_
    refine st7 _ ?_
    refine XS.dup X7.here hx rfl (hb hby d1_35) rfl rfl ?_
    show Steps p.tables e below (T7.setTop (mkF m 36 #[.val (.int (10 : Int32)), .unset] [(.ref b1), (.ref b1)])) _
    refine XS.iconst X7.here hx rfl (hb hby d1_36) ?_
    refine st8 _ ?_
    refine st9 _ ?_
    refine XS.dup X9.here hx rfl (hb hby d1_41) rfl rfl ?_
    show Steps p.tables e below (T9.setTop (mkF m 42 #[.val (.int (10 : Int32)), .unset] [(.ref b1), (.ref b1)])) _
    refine XS.iconst X9.here hx rfl (hb hby d1_42) ?_
    refine XS.aconstNull X9.here hx rfl (hb hby d1_43) ?_
    refine st10 _ ?_
    refine XS.dup X10.here hx rfl (hb hby d1_45) rfl rfl ?_
    show Steps p.tables e below (T10.setTop (mkF m 46 #[.val (.int (10 : Int32)), .unset] [(.ref b1), (.ref b1)])) _
    refine XS.iconst X10.here hx rfl (hb hby d1_46) ?_
    refine st11 _ ?_
    refine st12 _ ?_
    refine XS.dup X12.here hx rfl (hb hby d1_51) rfl rfl ?_
    show Steps p.tables e below (T12.setTop (mkF m 52 #[.val (.int (10 : Int32)), .unset] [(.ref b1), (.ref b1)])) _
    refine XS.bipush X12.here hx rfl (hb hby d1_52) ?_
    refine st13 _ ?_
    refine st14 _ ?_
    refine XS.dup X14.here hx rfl (hb hby d1_58) rfl rfl ?_
    show Steps p.tables e below (T14.setTop (mkF m 59 #[.val (.int (10 : Int32)), .unset] [(.ref b1), (.ref b1)])) _
    refine XS.bipush X14.here hx rfl (hb hby d1_59) ?_
    refine st15 _ ?_
    refine st16 _ ?_
    refine XS.dup X16.here hx rfl (hb hby d1_65) rfl rfl ?_
    show Steps p.tables e below (T16.setTop (mkF m 66 #[.val (.int (10 : Int32)), .unset] [(.ref b1), (.ref b1)])) _
    refine XS.bipush X16.here hx rfl (hb hby d1_66) ?_
    refine st17 _ ?_
    refine st18 _ ?_
    refine XS.dup X18.here hx rfl (hb hby d1_72) rfl rfl ?_
    show Steps p.tables e below (T18.setTop (mkF m 73 #[.val (.int (10 : Int32)), .unset] [(.ref b1), (.ref b1)])) _
    refine XS.bipush X18.here hx rfl (hb hby d1_73) ?_
    refine st19 _ ?_
    refine st20 _ ?_
    refine XS.dup X20.here hx rfl (hb hby d1_79) rfl rfl ?_
    show Steps p.tables e below (T20.setTop (mkF m 80 #[.val (.int (10 : Int32)), .unset] [(.ref b1), (.ref b1)])) _
    refine XS.bipush X20.here hx rfl (hb hby d1_80) ?_
    refine st21 _ ?_
    refine st22 _ ?_
    refine XS.dup X22.here hx rfl (hb hby d1_86) rfl rfl ?_
    show Steps p.tables e below (T22.setTop (mkF m 87 #[.val (.int (10 : Int32)), .unset] [(.ref b1), (.ref b1)])) _
    refine XS.bipush X22.here hx rfl (hb hby d1_87) ?_
    refine st23 _ ?_
    refine st24 _ ?_
    refine XS.dup X24.here hx rfl (hb hby d1_93) rfl rfl ?_
    show Steps p.tables e below (T24.setTop (mkF m 94 #[.val (.int (10 : Int32)), .unset] [(.ref b1), (.ref b1)])) _
    refine XS.bipush X24.here hx rfl (hb hby d1_94) ?_
    refine st25 _ ?_
    refine st26 _ ?_
    refine XS.dup X26.here hx rfl (hb hby d1_100) rfl rfl ?_
    show Steps p.tables e below (T26.setTop (mkF m 101 #[.val (.int (10 : Int32)), .unset] [(.ref b1), (.ref b1)])) _
    refine XS.bipush X26.here hx rfl (hb hby d1_101) ?_
    refine st27 _ ?_
    refine st28 _ ?_
    refine XS.dup X28.here hx rfl (hb hby d1_107) rfl rfl ?_
    show Steps p.tables e below (T28.setTop (mkF m 108 #[.val (.int (10 : Int32)), .unset] [(.ref b1), (.ref b1)])) _
    refine XS.bipush X28.here hx rfl (hb hby d1_108) ?_
    refine st29 _ ?_
    refine st30 _ ?_
    refine XS.dup X30.here hx rfl (hb hby d1_114) rfl rfl ?_
    show Steps p.tables e below (T30.setTop (mkF m 115 #[.val (.int (10 : Int32)), .unset] [(.ref b1), (.ref b1)])) _
    refine XS.bipush X30.here hx rfl (hb hby d1_115) ?_
    refine st31 _ ?_
    refine st32 _ ?_
    refine XS.dup X32.here hx rfl (hb hby d1_121) rfl rfl ?_
    show Steps p.tables e below (T32.setTop (mkF m 122 #[.val (.int (10 : Int32)), .unset] [(.ref b1), (.ref b1)])) _
    refine XS.bipush X32.here hx rfl (hb hby d1_122) ?_
    refine st33 _ ?_
    refine st34 _ ?_
    refine XS.astoreN X34.here hx rfl (hb hby d1_128) rfl rfl (l' := #[.val (.int (10 : Int32)), .val (.ref b1)]) rfl ?_
    show Steps p.tables e below (T34.setTop (mkF m 129 #[.val (.int (10 : Int32)), .val (.ref b1)] [])) _
    refine XS.aloadN X34.here hx rfl (hb hby d1_129) rfl rfl ?_
    refine XS.iloadN X34.here hx rfl (hb hby d1_130) rfl ?_
    refine own_aaload X34 hx hZ e34 V34 (j := (10 : Int32)) (by decide) (v := (.ref w7)) rfl rfl (g := (mkF m 131 #[.val (.int (10 : Int32)), .val (.ref b1)] [(.int (10 : Int32)), (.ref b1)])) rfl rfl (hb hby d1_131) ?_
    exact retOut X34 hx Bd.returns rfl (Or.inr (Or.inr (Or.inr (Or.inr ⟨rfl, rfl, rfl⟩)))) (hb hby d1_132) hr
  · show Qrm32 Z w0 w1 w2 w3 w4 w5 w6 w7 w8 w9 w10 w11 w12 w13 w14 w15 w16 kw16 h0 n0 _ T34.heap _
    rw [e34]
    exact ⟨rfl, N34, K34⟩
def Qrm33 (Z : State) (w0 : Addr) (w1 : Addr) (w2 : Addr) (w3 : Addr) (w4 : Addr) (w5 : Addr) (w6 : Addr) (w7 : Addr) (w8 : Addr) (w9 : Addr) (w10 : Addr) (w11 : Addr) (w12 : Addr) (w13 : Addr) (w14 : Addr) (w15 : Addr) (w16 : Addr) (kw16 : ClassId) (h0 : Heap) (n0 : Nat) (v : Option Value) (h : Heap) (L : List Loc) : Prop := v = some (.ref w7) ∧ Fr n0 L ∧ h = h0
set_option maxRecDepth 65536 in
set_option maxHeartbeats 40000000 in
theorem rm33 (l : Launch) (Z : State) (a0 : Array Value) (hw : ∀ d ∈ tables_1, d.before a0 Z = true) (w0 : Addr) (w1 : Addr) (w2 : Addr) (w3 : Addr) (w4 : Addr) (w5 : Addr) (w6 : Addr) (w7 : Addr) (w8 : Addr) (w9 : Addr) (w10 : Addr) (w11 : Addr) (w12 : Addr) (w13 : Addr) (w14 : Addr) (w15 : Addr) (w16 : Addr) (kw16 : ClassId) (hS : SF Z w0 w1 w2 w3 w4 w5 w6 w7 w8 w9 w10 w11 w12 w13 w14 w15 w16 kw16) (ws : List Jvm.Cond) (h0 : Heap) (n0 : Nat) (O0 : Old Z n0 h0) :
    MetFree l (⟨z0, "of", z2⟩ : MethodName) (head1 (Jvm.Cond.code (⟨z0, "of", z2⟩ : MethodName) prog_90_method_5_code 1 (some (.object z0)) :: ws) ({ frames := 0, cells := 0, slots := 0, locals := 0 } : Room)) (fun a U => a = #[(.int (10 : Int32))] ∧ Z.Warmed39 U.vm ∧ U.heap = h0) (fun _ _ _ _ _ => True) (fun _ U o U' => ∃ v L, o = .returned v ∧ Qrm33 Z w0 w1 w2 w3 w4 w5 w6 w7 w8 w9 w10 w11 w12 w13 w14 w15 w16 kw16 h0 n0 v U'.heap L ∧ FrameEnd U o U' L ({ frames := 0, cells := 0, slots := 0, locals := 0 } : Room).cells ({ frames := 0, cells := 0, slots := 0, locals := 0 } : Room).slots) := by
  refine MetFree.of_bodySF (plainFor_of_name pn18) hisR ?_
  intro p e s m args below meth c s₁ Bd hml0 hP hK
  obtain ⟨rfl, hZ, hh⟩ := hP
  have hx := Bd.exec
  have hby := Bd.bytes
  have hml : c.maxLocals = 1 := hml0
  have hown : s.vm.findClass z0 = some m.cls := findClass_of_methodNamed Bd.named
  have hnm := (name_of_methodNamed Bd.named Bd.method).1
  have X0 : Stand p l e ({ frames := 0, cells := 0, slots := 0, locals := 0 } : Room) s m #[(.int (10 : Int32))] below meth c s₁ [] 0 0 := Stand.of_body Bd
  have e0 : s₁.heap = h0 := by rw [← hh, Bd.state]; rfl
  have N0 := Fr.nil n0
  have pre0 : ∀ t, Steps p.tables e below (s₁.setTop (mkF m 0 #[.val (.int (10 : Int32))] [])) t → Steps p.tables e below (s₁.setTop (entryFrame m #[(.int (10 : Int32))] 1)) t := fun t k => castTop (ef17 m (10 : Int32)) k
  obtain ⟨T1, X1, e1, st1⟩ := getS2 X0 hx hZ hown (host := "") (Or.inl (hw _ m43)) Via.refl e0 (hS.2.2.2.2.2.2.2.2.2.2.2.2.2.2.2.2.2.2.2.2.2.2.2.2.2.2.2.2.2.2.2.2.2.2.2.2.2.2.2.2.2.2.2.2.2.2.2.2.1.ext O0.2) (g := (mkF m 5 #[.val (.int (10 : Int32))] [(.int (10 : Int32))])) rfl (hb hby d2_5)
  obtain ⟨T2, X2, e2, st2⟩ := getS2 X1 hx hZ hown (host := "") (Or.inl (hw _ m43)) Via.refl e1 (hS.2.2.2.2.2.2.2.2.2.2.2.2.2.2.2.2.2.2.2.2.2.2.2.2.2.2.2.2.2.2.2.2.2.2.2.2.2.2.2.2.2.2.2.2.2.2.2.2.1.ext O0.2) (g := (mkF m 12 #[.val (.int (10 : Int32))] [])) rfl (hb hby d2_12)
  obtain ⟨fs, hr, hrun, hended, hW, hsame⟩ := X2.leave (v := some (.ref w7)) (fun h => by rw [Bd.returns] at h; cases h)
  refine ⟨_, _, pre0 _ ?_, hrun, hended, _, _, rfl, ?_, ⟨_, rfl⟩, hW, hsame.mono (by decide) (by decide)⟩
  · show Steps p.tables e below (s₁.setTop (mkF m 0 #[.val (.int (10 : Int32))] [])) _
    refine XS.iloadN X0.here hx rfl (hb hby d2_0) rfl ?_
    refine XS.ifNo X0.here hx rfl (hb hby d2_1) rfl ((if0 _ _).trans (flt (by decide : ¬ ((10 : Int32) < (0 : Int32)))).1) ?_
    refine XS.iloadN X0.here hx rfl (hb hby d2_4) rfl ?_
    refine st1 _ ?_
    show Steps p.tables e below (T1.setTop (mkF m 8 #[.val (.int (10 : Int32))] [(.ref w16), (.int (10 : Int32))])) _
    refine own_alen X1 hx hZ e1 (hS.2.2.2.2.2.2.2.2.2.2.2.2.2.2.2.2.2.2.2.2.2.2.2.2.2.2.2.2.2.2.2.2.2.2.2.2.2.2.2.2.2.2.2.2.2.2.2.2.2.ext O0.2) (g := (mkF m 8 #[.val (.int (10 : Int32))] [(.ref w16), (.int (10 : Int32))])) rfl rfl (hb hby d2_8) ?_
    refine XS.icmpNo X1.here hx rfl (hb hby d2_9) rfl (tlt (by decide : (10 : Int32) < (17 : Int32))).2.1 ?_
    refine st2 _ ?_
    refine XS.iloadN X2.here hx rfl (hb hby d2_15) rfl ?_
    show Steps p.tables e below (T2.setTop (mkF m 16 #[.val (.int (10 : Int32))] [(.int (10 : Int32)), (.ref w16)])) _
    refine own_aaload X2 hx hZ e2 (hS.2.2.2.2.2.2.2.2.2.2.2.2.2.2.2.2.2.2.2.2.2.2.2.2.2.2.2.2.2.2.2.2.2.2.2.2.2.2.2.2.2.2.2.2.2.2.2.2.2.ext O0.2) (j := (10 : Int32)) (by decide) (v := (.ref w7)) rfl rfl (g := (mkF m 16 #[.val (.int (10 : Int32))] [(.int (10 : Int32)), (.ref w16)])) rfl rfl (hb hby d2_16) ?_
    refine XS.goto X2.here hx rfl (pc0 := 17) (pc' := 21) rfl (hb hby d2_17) (by decide) (by decide) ?_
    exact retOut X2 hx Bd.returns rfl (Or.inr (Or.inr (Or.inr (Or.inr ⟨rfl, rfl, rfl⟩)))) (hb hby d2_21) hr
  · show Qrm33 Z w0 w1 w2 w3 w4 w5 w6 w7 w8 w9 w10 w11 w12 w13 w14 w15 w16 kw16 h0 n0 _ T2.heap _
    rw [e2]
    exact ⟨rfl, N0, rfl⟩
def Qrm34 (Z : State) (w0 : Addr) (w1 : Addr) (w2 : Addr) (w3 : Addr) (w4 : Addr) (w5 : Addr) (w6 : Addr) (w7 : Addr) (w8 : Addr) (w9 : Addr) (w10 : Addr) (w11 : Addr) (w12 : Addr) (w13 : Addr) (w14 : Addr) (w15 : Addr) (w16 : Addr) (kw16 : ClassId) (h0 : Heap) (n0 : Nat) (v : Option Value) (h : Heap) (L : List Loc) : Prop := v = some (.int (10 : Int32)) ∧ Fr n0 L ∧ h = h0
set_option maxRecDepth 65536 in
set_option maxHeartbeats 40000000 in
theorem rm34 (l : Launch) (Z : State) (a0 : Array Value) (hw : ∀ d ∈ tables_1, d.before a0 Z = true) (w0 : Addr) (w1 : Addr) (w2 : Addr) (w3 : Addr) (w4 : Addr) (w5 : Addr) (w6 : Addr) (w7 : Addr) (w8 : Addr) (w9 : Addr) (w10 : Addr) (w11 : Addr) (w12 : Addr) (w13 : Addr) (w14 : Addr) (w15 : Addr) (w16 : Addr) (kw16 : ClassId) (hS : SF Z w0 w1 w2 w3 w4 w5 w6 w7 w8 w9 w10 w11 w12 w13 w14 w15 w16 kw16) (ws : List Jvm.Cond) (h0 : Heap) (n0 : Nat) (O0 : Old Z n0 h0) :
    MetFree l (⟨z0, "code", "()I"⟩ : MethodName) (head1 (Jvm.Cond.code (⟨z0, "code", "()I"⟩ : MethodName) prog_90_method_4_code 1 (some .int) :: ws) ({ frames := 0, cells := 0, slots := 0, locals := 0 } : Room)) (fun a U => a = #[(.ref w7)] ∧ Z.Warmed39 U.vm ∧ U.heap = h0) (fun _ _ _ _ _ => True) (fun _ U o U' => ∃ v L, o = .returned v ∧ Qrm34 Z w0 w1 w2 w3 w4 w5 w6 w7 w8 w9 w10 w11 w12 w13 w14 w15 w16 kw16 h0 n0 v U'.heap L ∧ FrameEnd U o U' L ({ frames := 0, cells := 0, slots := 0, locals := 0 } : Room).cells ({ frames := 0, cells := 0, slots := 0, locals := 0 } : Room).slots) := by
  refine MetFree.of_bodySF (plainFor_of_name pn18) hisR ?_
  intro p e s m args below meth c s₁ Bd hml0 hP hK
  obtain ⟨rfl, hZ, hh⟩ := hP
  have hx := Bd.exec
  have hby := Bd.bytes
  have hml : c.maxLocals = 1 := hml0
  have hown : s.vm.findClass z0 = some m.cls := findClass_of_methodNamed Bd.named
  have hnm := (name_of_methodNamed Bd.named Bd.method).1
  have X0 : Stand p l e ({ frames := 0, cells := 0, slots := 0, locals := 0 } : Room) s m #[(.ref w7)] below meth c s₁ [] 0 0 := Stand.of_body Bd
  have e0 : s₁.heap = h0 := by rw [← hh, Bd.state]; rfl
  have N0 := Fr.nil n0
  have pre0 : ∀ t, Steps p.tables e below (s₁.setTop (mkF m 0 #[.val (.ref w7)] [])) t → Steps p.tables e below (s₁.setTop (entryFrame m #[(.ref w7)] 1)) t := fun t k => castTop (ef135 m w7) k
  obtain ⟨T1, X1, e1, st1⟩ := getF X0 hx hZ hown (host := "") (Or.inl (hw _ m50)) Via.refl e0 (hS.2.2.2.2.2.2.2.2.2.2.2.2.2.2.2.2.2.2.2.2.2.2.2.1.ext O0.2) (g := (mkF m 1 #[.val (.ref w7)] [(.ref w7)])) rfl rfl (hb hby d3_1)
  obtain ⟨fs, hr, hrun, hended, hW, hsame⟩ := X1.leave (v := some (.int (10 : Int32))) (fun h => by rw [Bd.returns] at h; cases h)
  refine ⟨_, _, pre0 _ ?_, hrun, hended, _, _, rfl, ?_, ⟨_, rfl⟩, hW, hsame.mono (by decide) (by decide)⟩
  · show Steps p.tables e below (s₁.setTop (mkF m 0 #[.val (.ref w7)] [])) _
    refine XS.aloadN X0.here hx rfl (hb hby d3_0) rfl rfl ?_
    refine st1 _ ?_
    exact retOut X1 hx Bd.returns rfl (Or.inl ⟨rfl, Or.inl rfl, _, rfl⟩) (hb hby d3_4) hr
  · show Qrm34 Z w0 w1 w2 w3 w4 w5 w6 w7 w8 w9 w10 w11 w12 w13 w14 w15 w16 kw16 h0 n0 _ T1.heap _
    rw [e1]
    exact ⟨rfl, N0, rfl⟩
def Qrm35 (Z : State) (w0 : Addr) (w1 : Addr) (w2 : Addr) (w3 : Addr) (w4 : Addr) (w5 : Addr) (w6 : Addr) (w7 : Addr) (w8 : Addr) (w9 : Addr) (w10 : Addr) (w11 : Addr) (w12 : Addr) (w13 : Addr) (w14 : Addr) (w15 : Addr) (w16 : Addr) (kw16 : ClassId) (h0 : Heap) (n0 : Nat) (v : Option Value) (h : Heap) (L : List Loc) : Prop := v = some (.ref w12) ∧ Fr n0 L ∧ Keep h0 h []
set_option maxRecDepth 65536 in
set_option maxHeartbeats 40000000 in
theorem rm35 (l : Launch) (Z : State) (a0 : Array Value) (hw : ∀ d ∈ tables_1, d.before a0 Z = true) (w0 : Addr) (w1 : Addr) (w2 : Addr) (w3 : Addr) (w4 : Addr) (w5 : Addr) (w6 : Addr) (w7 : Addr) (w8 : Addr) (w9 : Addr) (w10 : Addr) (w11 : Addr) (w12 : Addr) (w13 : Addr) (w14 : Addr) (w15 : Addr) (w16 : Addr) (kw16 : ClassId) (hS : SF Z w0 w1 w2 w3 w4 w5 w6 w7 w8 w9 w10 w11 w12 w13 w14 w15 w16 kw16) (ws : List Jvm.Cond) (h0 : Heap) (n0 : Nat) (O0 : Old Z n0 h0) :
    MetFree l (⟨z1, "expected", z2⟩ : MethodName) (head1 (Jvm.Cond.code (⟨z1, "expected", z2⟩ : MethodName) method_3_code 2 (some (.object z0)) :: ws) ({ frames := 0, cells := 1, slots := 17, locals := 0 } : Room)) (fun a U => a = #[(.int (11 : Int32))] ∧ Z.Warmed39 U.vm ∧ U.heap = h0) (fun _ _ _ _ _ => True) (fun _ U o U' => ∃ v L, o = .returned v ∧ Qrm35 Z w0 w1 w2 w3 w4 w5 w6 w7 w8 w9 w10 w11 w12 w13 w14 w15 w16 kw16 h0 n0 v U'.heap L ∧ FrameEnd U o U' L ({ frames := 0, cells := 1, slots := 17, locals := 0 } : Room).cells ({ frames := 0, cells := 1, slots := 17, locals := 0 } : Room).slots) := by
  refine MetFree.of_bodySF (plainFor_of_name pn7) hisR ?_
  intro p e s m args below meth c s₁ Bd hml0 hP hK
  obtain ⟨rfl, hZ, hh⟩ := hP
  have hx := Bd.exec
  have hby := Bd.bytes
  have hml : c.maxLocals = 2 := hml0
  have hown : s.vm.findClass z1 = some m.cls := findClass_of_methodNamed Bd.named
  have hnm := (name_of_methodNamed Bd.named Bd.method).1
  have X0 : Stand p l e ({ frames := 0, cells := 1, slots := 17, locals := 0 } : Room) s m #[(.int (11 : Int32))] below meth c s₁ [] 0 0 := Stand.of_body Bd
  have e0 : s₁.heap = h0 := by rw [← hh, Bd.state]; rfl
  have N0 := Fr.nil n0
  have pre0 : ∀ t, Steps p.tables e below (s₁.setTop (mkF m 0 #[.val (.int (11 : Int32)), .unset] [])) t → Steps p.tables e below (s₁.setTop (entryFrame m #[(.int (11 : Int32))] 2)) t := fun t k => castTop (ef6 m (11 : Int32)) k
  obtain ⟨T1, h1, k1, b1, X1, e1, E1, V1, O'1, g1, O1, K1, st1⟩ := own_newR X0 hx hZ (vs := [.null, .null, .null, .null, .null, .null, .null, .null, .null, .null, .null, .null, .null, .null, .null, .null, .null]) (cap := 17) rfl hown (hw _ m4) (hw _ m5) e0 O0 (Keep.refl h0 []) (g := (mkF m 14 #[.val (.int (11 : Int32)), .unset] [(.int (17 : Int32))])) rfl (hb hby d1_14) rfl (by decide) (by decide) (by decide) (by decide) (by decide)
  obtain ⟨T2, X2, e2, st2⟩ := getS2 X1 hx hZ hown (host := "") (Or.inl (hw _ m6)) Via.refl e1 (hS.2.2.2.2.2.2.2.2.2.2.2.2.2.2.2.1.ext O1.2) (g := (mkF m 19 #[.val (.int (11 : Int32)), .unset] [(.int (0 : Int32)), (.ref b1), (.ref b1)])) rfl (hb hby d1_19)
  obtain ⟨T3, h3, L'3, X3, e3, W3, V3, O3, K3, N3, st3⟩ := own_stR X2 hx hZ e2 V1 O1 K1 N0 (Nat.le_trans (own_old_le O0) g1) (Or.inr (Nat.le_trans (Keep.refl h0 []).1 g1)) (j := (0 : Int32)) 0 (by decide) (Nat.le_of_ble_eq_true rfl) (vs' := [(.ref w5), .null, .null, .null, .null, .null, .null, .null, .null, .null, .null, .null, .null, .null, .null, .null, .null]) rfl rfl rfl (Or.inr ⟨_, _, rfl, O'1, (Ins.self (hS.2.2.2.2.2.2.2.2.2.2.2.2.2.2.2.2.1.ext O1.2))⟩) (g := (mkF m 22 #[.val (.int (11 : Int32)), .unset] [(.ref w5), (.int (0 : Int32)), (.ref b1), (.ref b1)])) rfl rfl (hb hby d1_22)
  obtain ⟨T4, X4, e4, st4⟩ := getS2 X3 hx hZ hown (host := "") (Or.inl (hw _ m10)) Via.refl e3 (hS.2.2.2.2.2.2.2.2.2.2.2.2.2.2.2.2.2.2.2.2.2.2.2.2.2.2.2.2.2.2.2.2.2.2.2.2.2.2.2.2.2.2.1.ext O3.2) (g := (mkF m 25 #[.val (.int (11 : Int32)), .unset] [(.int (1 : Int32)), (.ref b1), (.ref b1)])) rfl (hb hby d1_25)
  obtain ⟨T5, h5, L'5, X5, e5, W5, V5, O5, K5, N5, st5⟩ := own_stR X4 hx hZ e4 V3 O3 K3 N3 (Nat.le_trans (own_old_le O0) g1) (Or.inr (Nat.le_trans (Keep.refl h0 []).1 g1)) (j := (1 : Int32)) 1 (by decide) (Nat.le_of_ble_eq_true rfl) (vs' := [(.ref w5), (.ref w14), .null, .null, .null, .null, .null, .null, .null, .null, .null, .null, .null, .null, .null, .null, .null]) rfl rfl rfl (Or.inr ⟨_, _, rfl, O'1, (Ins.self (hS.2.2.2.2.2.2.2.2.2.2.2.2.2.2.2.2.2.2.2.2.2.2.2.2.2.2.2.2.2.2.2.2.2.2.2.2.2.2.2.2.2.2.2.1.ext O3.2))⟩) (g := (mkF m 28 #[.val (.int (11 : Int32)), .unset] [(.ref w14), (.int (1 : Int32)), (.ref b1), (.ref b1)])) rfl rfl (hb hby d1_28)
  obtain ⟨T6, X6, e6, st6⟩ := getS2 X5 hx hZ hown (host := "") (Or.inl (hw _ m12)) Via.refl e5 (hS.2.2.2.2.2.2.2.2.2.2.2.2.2.2.2.2.2.2.2.2.2.2.2.2.2.2.2.2.2.2.2.2.2.1.ext O5.2) (g := (mkF m 31 #[.val (.int (11 : Int32)), .unset] [(.int (2 : Int32)), (.ref b1), (.ref b1)])) rfl (hb hby d1_31)
  obtain ⟨T7, h7, L'7, X7, e7, W7, V7, O7, K7, N7, st7⟩ := own_stR X6 hx hZ e6 V5 O5 K5 N5 (Nat.le_trans (own_old_le O0) g1) (Or.inr (Nat.le_trans (Keep.refl h0 []).1 g1)) (j := (2 : Int32)) 2 (by decide) (Nat.le_of_ble_eq_true rfl) (vs' := [(.ref w5), (.ref w14), (.ref w11), .null, .null, .null, .null, .null, .null, .null, .null, .null, .null, .null, .null, .null, .null]) rfl rfl rfl (Or.inr ⟨_, _, rfl, O'1, (Ins.self (hS.2.2.2.2.2.2.2.2.2.2.2.2.2.2.2.2.2.2.2.2.2.2.2.2.2.2.2.2.2.2.2.2.2.2.1.ext O5.2))⟩) (g := (mkF m 34 #[.val (.int (11 : Int32)), .unset] [(.ref w11), (.int (2 : Int32)), (.ref b1), (.ref b1)])) rfl rfl (hb hby d1_34)
  obtain ⟨T8, X8, e8, st8⟩ := getS2 X7 hx hZ hown (host := "") (Or.inl (hw _ m14)) Via.refl e7 (hS.1.ext O7.2) (g := (mkF m 37 #[.val (.int (11 : Int32)), .unset] [(.int (3 : Int32)), (.ref b1), (.ref b1)])) rfl (hb hby d1_37)
  obtain ⟨T9, h9, L'9, X9, e9, W9, V9, O9, K9, N9, st9⟩ := own_stR X8 hx hZ e8 V7 O7 K7 N7 (Nat.le_trans (own_old_le O0) g1) (Or.inr (Nat.le_trans (Keep.refl h0 []).1 g1)) (j := (3 : Int32)) 3 (by decide) (Nat.le_of_ble_eq_true rfl) (vs' := [(.ref w5), (.ref w14), (.ref w11), (.ref w0), .null, .null, .null, .null, .null, .null, .null, .null, .null, .null, .null, .null, .null]) rfl rfl rfl (Or.inr ⟨_, _, rfl, O'1, (Ins.self (hS.2.1.ext O7.2))⟩) (g := (mkF m 40 #[.val (.int (11 : Int32)), .unset] [(.ref w0), (.int (3 : Int32)), (.ref b1), (.ref b1)])) rfl rfl (hb hby d1_40)
  obtain ⟨T10, h10, L'10, X10, e10, W10, V10, O10, K10, N10, st10⟩ := own_stR X9 hx hZ e9 V9 O9 K9 N9 (Nat.le_trans (own_old_le O0) g1) (Or.inr (Nat.le_trans (Keep.refl h0 []).1 g1)) (j := (4 : Int32)) 4 (by decide) (Nat.le_of_ble_eq_true rfl) (vs' := [(.ref w5), (.ref w14), (.ref w11), (.ref w0), .null, .null, .null, .null, .null, .null, .null, .null, .null, .null, .null, .null, .null]) rfl rfl rfl (Or.inl rfl) (g := (mkF m 44 #[.val (.int (11 : Int32)), .unset] [.null, (.int (4 : Int32)), (.ref b1), (.ref b1)])) rfl rfl (hb hby d1_44)
  obtain ⟨T11, X11, e11, st11⟩ := getS2 X10 hx hZ hown (host := "") (Or.inl (hw _ m16)) Via.refl e10 (hS.2.2.2.2.2.2.2.2.2.2.2.2.2.2.2.2.2.2.2.2.2.2.2.2.1.ext O10.2) (g := (mkF m 47 #[.val (.int (11 : Int32)), .unset] [(.int (5 : Int32)), (.ref b1), (.ref b1)])) rfl (hb hby d1_47)
  obtain ⟨T12, h12, L'12, X12, e12, W12, V12, O12, K12, N12, st12⟩ := own_stR X11 hx hZ e11 V10 O10 K10 N10 (Nat.le_trans (own_old_le O0) g1) (Or.inr (Nat.le_trans (Keep.refl h0 []).1 g1)) (j := (5 : Int32)) 5 (by decide) (Nat.le_of_ble_eq_true rfl) (vs' := [(.ref w5), (.ref w14), (.ref w11), (.ref w0), .null, (.ref w8), .null, .null, .null, .null, .null, .null, .null, .null, .null, .null, .null]) rfl rfl rfl (Or.inr ⟨_, _, rfl, O'1, (Ins.self (hS.2.2.2.2.2.2.2.2.2.2.2.2.2.2.2.2.2.2.2.2.2.2.2.2.2.1.ext O10.2))⟩) (g := (mkF m 50 #[.val (.int (11 : Int32)), .unset] [(.ref w8), (.int (5 : Int32)), (.ref b1), (.ref b1)])) rfl rfl (hb hby d1_50)
  obtain ⟨T13, X13, e13, st13⟩ := getS2 X12 hx hZ hown (host := "") (Or.inl (hw _ m18)) Via.refl e12 (hS.2.2.2.2.2.2.2.2.2.2.2.2.2.2.2.2.2.2.2.2.2.2.2.2.2.2.2.2.2.2.2.2.2.2.2.2.2.2.2.2.2.2.2.2.2.1.ext O12.2) (g := (mkF m 54 #[.val (.int (11 : Int32)), .unset] [(.int (6 : Int32)), (.ref b1), (.ref b1)])) rfl (hb hby d1_54)
  obtain ⟨T14, h14, L'14, X14, e14, W14, V14, O14, K14, N14, st14⟩ := own_stR X13 hx hZ e13 V12 O12 K12 N12 (Nat.le_trans (own_old_le O0) g1) (Or.inr (Nat.le_trans (Keep.refl h0 []).1 g1)) (j := (6 : Int32)) 6 (by decide) (Nat.le_of_ble_eq_true rfl) (vs' := [(.ref w5), (.ref w14), (.ref w11), (.ref w0), .null, (.ref w8), (.ref w15), .null, .null, .null, .null, .null, .null, .null, .null, .null, .null]) rfl rfl rfl (Or.inr ⟨_, _, rfl, O'1, (Ins.self (hS.2.2.2.2.2.2.2.2.2.2.2.2.2.2.2.2.2.2.2.2.2.2.2.2.2.2.2.2.2.2.2.2.2.2.2.2.2.2.2.2.2.2.2.2.2.2.1.ext O12.2))⟩) (g := (mkF m 57 #[.val (.int (11 : Int32)), .unset] [(.ref w15), (.int (6 : Int32)), (.ref b1), (.ref b1)])) rfl rfl (hb hby d1_57)
  obtain ⟨T15, X15, e15, st15⟩ := getS2 X14 hx hZ hown (host := "") (Or.inl (hw _ m20)) Via.refl e14 (hS.2.2.2.2.2.2.2.2.2.2.2.2.2.2.2.2.2.2.2.2.2.2.2.2.2.2.2.2.2.2.1.ext O14.2) (g := (mkF m 61 #[.val (.int (11 : Int32)), .unset] [(.int (7 : Int32)), (.ref b1), (.ref b1)])) rfl (hb hby d1_61)
  obtain ⟨T16, h16, L'16, X16, e16, W16, V16, O16, K16, N16, st16⟩ := own_stR X15 hx hZ e15 V14 O14 K14 N14 (Nat.le_trans (own_old_le O0) g1) (Or.inr (Nat.le_trans (Keep.refl h0 []).1 g1)) (j := (7 : Int32)) 7 (by decide) (Nat.le_of_ble_eq_true rfl) (vs' := [(.ref w5), (.ref w14), (.ref w11), (.ref w0), .null, (.ref w8), (.ref w15), (.ref w10), .null, .null, .null, .null, .null, .null, .null, .null, .null]) rfl rfl rfl (Or.inr ⟨_, _, rfl, O'1, (Ins.self (hS.2.2.2.2.2.2.2.2.2.2.2.2.2.2.2.2.2.2.2.2.2.2.2.2.2.2.2.2.2.2.2.1.ext O14.2))⟩) (g := (mkF m 64 #[.val (.int (11 : Int32)), .unset] [(.ref w10), (.int (7 : Int32)), (.ref b1), (.ref b1)])) rfl rfl (hb hby d1_64)
  obtain ⟨T17, X17, e17, st17⟩ := getS2 X16 hx hZ hown (host := "") (Or.inl (hw _ m22)) Via.refl e16 (hS.2.2.2.2.2.2.2.2.2.2.2.2.2.2.2.2.2.2.2.2.2.2.2.2.2.2.2.2.2.2.2.2.2.2.2.2.2.2.2.1.ext O16.2) (g := (mkF m 68 #[.val (.int (11 : Int32)), .unset] [(.int (8 : Int32)), (.ref b1), (.ref b1)])) rfl (hb hby d1_68)
  obtain ⟨T18, h18, L'18, X18, e18, W18, V18, O18, K18, N18, st18⟩ := own_stR X17 hx hZ e17 V16 O16 K16 N16 (Nat.le_trans (own_old_le O0) g1) (Or.inr (Nat.le_trans (Keep.refl h0 []).1 g1)) (j := (8 : Int32)) 8 (by decide) (Nat.le_of_ble_eq_true rfl) (vs' := [(.ref w5), (.ref w14), (.ref w11), (.ref w0), .null, (.ref w8), (.ref w15), (.ref w10), (.ref w13), .null, .null, .null, .null, .null, .null, .null, .null]) rfl rfl rfl (Or.inr ⟨_, _, rfl, O'1, (Ins.self (hS.2.2.2.2.2.2.2.2.2.2.2.2.2.2.2.2.2.2.2.2.2.2.2.2.2.2.2.2.2.2.2.2.2.2.2.2.2.2.2.2.1.ext O16.2))⟩) (g := (mkF m 71 #[.val (.int (11 : Int32)), .unset] [(.ref w13), (.int (8 : Int32)), (.ref b1), (.ref b1)])) rfl rfl (hb hby d1_71)
  obtain ⟨T19, X19, e19, st19⟩ := getS2 X18 hx hZ hown (host := "") (Or.inl (hw _ m24)) Via.refl e18 (hS.2.2.2.2.2.2.2.2.2.2.2.2.2.2.2.2.2.2.2.2.2.2.2.2.2.2.2.1.ext O18.2) (g := (mkF m 75 #[.val (.int (11 : Int32)), .unset] [(.int (9 : Int32)), (.ref b1), (.ref b1)])) rfl (hb hby d1_75)
  obtain ⟨T20, h20, L'20, X20, e20, W20, V20, O20, K20, N20, st20⟩ := own_stR X19 hx hZ e19 V18 O18 K18 N18 (Nat.le_trans (own_old_le O0) g1) (Or.inr (Nat.le_trans (Keep.refl h0 []).1 g1)) (j := (9 : Int32)) 9 (by decide) (Nat.le_of_ble_eq_true rfl) (vs' := [(.ref w5), (.ref w14), (.ref w11), (.ref w0), .null, (.ref w8), (.ref w15), (.ref w10), (.ref w13), (.ref w9), .null, .null, .null, .null, .null, .null, .null]) rfl rfl rfl (Or.inr ⟨_, _, rfl, O'1, (Ins.self (hS.2.2.2.2.2.2.2.2.2.2.2.2.2.2.2.2.2.2.2.2.2.2.2.2.2.2.2.2.1.ext O18.2))⟩) (g := (mkF m 78 #[.val (.int (11 : Int32)), .unset] [(.ref w9), (.int (9 : Int32)), (.ref b1), (.ref b1)])) rfl rfl (hb hby d1_78)
  obtain ⟨T21, X21, e21, st21⟩ := getS2 X20 hx hZ hown (host := "") (Or.inl (hw _ m26)) Via.refl e20 (hS.2.2.2.2.2.2.2.2.2.2.2.2.2.2.2.2.2.2.2.2.2.1.ext O20.2) (g := (mkF m 82 #[.val (.int (11 : Int32)), .unset] [(.int (10 : Int32)), (.ref b1), (.ref b1)])) rfl (hb hby d1_82)
  obtain ⟨T22, h22, L'22, X22, e22, W22, V22, O22, K22, N22, st22⟩ := own_stR X21 hx hZ e21 V20 O20 K20 N20 (Nat.le_trans (own_old_le O0) g1) (Or.inr (Nat.le_trans (Keep.refl h0 []).1 g1)) (j := (10 : Int32)) 10 (by decide) (Nat.le_of_ble_eq_true rfl) (vs' := [(.ref w5), (.ref w14), (.ref w11), (.ref w0), .null, (.ref w8), (.ref w15), (.ref w10), (.ref w13), (.ref w9), (.ref w7), .null, .null, .null, .null, .null, .null]) rfl rfl rfl (Or.inr ⟨_, _, rfl, O'1, (Ins.self (hS.2.2.2.2.2.2.2.2.2.2.2.2.2.2.2.2.2.2.2.2.2.2.1.ext O20.2))⟩) (g := (mkF m 85 #[.val (.int (11 : Int32)), .unset] [(.ref w7), (.int (10 : Int32)), (.ref b1), (.ref b1)])) rfl rfl (hb hby d1_85)
  obtain ⟨T23, X23, e23, st23⟩ := getS2 X22 hx hZ hown (host := "") (Or.inl (hw _ m28)) Via.refl e22 (hS.2.2.2.2.2.2.2.2.2.2.2.2.2.2.2.2.2.2.2.2.2.2.2.2.2.2.2.2.2.2.2.2.2.2.2.2.1.ext O22.2) (g := (mkF m 89 #[.val (.int (11 : Int32)), .unset] [(.int (11 : Int32)), (.ref b1), (.ref b1)])) rfl (hb hby d1_89)
  obtain ⟨T24, h24, L'24, X24, e24, W24, V24, O24, K24, N24, st24⟩ := own_stR X23 hx hZ e23 V22 O22 K22 N22 (Nat.le_trans (own_old_le O0) g1) (Or.inr (Nat.le_trans (Keep.refl h0 []).1 g1)) (j := (11 : Int32)) 11 (by decide) (Nat.le_of_ble_eq_true rfl) (vs' := [(.ref w5), (.ref w14), (.ref w11), (.ref w0), .null, (.ref w8), (.ref w15), (.ref w10), (.ref w13), (.ref w9), (.ref w7), (.ref w12), .null, .null, .null, .null, .null]) rfl rfl rfl (Or.inr ⟨_, _, rfl, O'1, (Ins.self (hS.2.2.2.2.2.2.2.2.2.2.2.2.2.2.2.2.2.2.2.2.2.2.2.2.2.2.2.2.2.2.2.2.2.2.2.2.2.1.ext O22.2))⟩) (g := (mkF m 92 #[.val (.int (11 : Int32)), .unset] [(.ref w12), (.int (11 : Int32)), (.ref b1), (.ref b1)])) rfl rfl (hb hby d1_92)
  obtain ⟨T25, X25, e25, st25⟩ := getS2 X24 hx hZ hown (host := "") (Or.inl (hw _ m30)) Via.refl e24 (hS.2.2.2.2.2.2.2.2.2.2.2.2.2.2.2.2.2.2.1.ext O24.2) (g := (mkF m 96 #[.val (.int (11 : Int32)), .unset] [(.int (12 : Int32)), (.ref b1), (.ref b1)])) rfl (hb hby d1_96)
  obtain ⟨T26, h26, L'26, X26, e26, W26, V26, O26, K26, N26, st26⟩ := own_stR X25 hx hZ e25 V24 O24 K24 N24 (Nat.le_trans (own_old_le O0) g1) (Or.inr (Nat.le_trans (Keep.refl h0 []).1 g1)) (j := (12 : Int32)) 12 (by decide) (Nat.le_of_ble_eq_true rfl) (vs' := [(.ref w5), (.ref w14), (.ref w11), (.ref w0), .null, (.ref w8), (.ref w15), (.ref w10), (.ref w13), (.ref w9), (.ref w7), (.ref w12), (.ref w6), .null, .null, .null, .null]) rfl rfl rfl (Or.inr ⟨_, _, rfl, O'1, (Ins.self (hS.2.2.2.2.2.2.2.2.2.2.2.2.2.2.2.2.2.2.2.1.ext O24.2))⟩) (g := (mkF m 99 #[.val (.int (11 : Int32)), .unset] [(.ref w6), (.int (12 : Int32)), (.ref b1), (.ref b1)])) rfl rfl (hb hby d1_99)
  obtain ⟨T27, X27, e27, st27⟩ := getS2 X26 hx hZ hown (host := "") (Or.inl (hw _ m32)) Via.refl e26 (hS.2.2.2.2.2.2.2.2.2.2.2.2.1.ext O26.2) (g := (mkF m 103 #[.val (.int (11 : Int32)), .unset] [(.int (13 : Int32)), (.ref b1), (.ref b1)])) rfl (hb hby d1_103)
  obtain ⟨T28, h28, L'28, X28, e28, W28, V28, O28, K28, N28, st28⟩ := own_stR X27 hx hZ e27 V26 O26 K26 N26 (Nat.le_trans (own_old_le O0) g1) (Or.inr (Nat.le_trans (Keep.refl h0 []).1 g1)) (j := (13 : Int32)) 13 (by decide) (Nat.le_of_ble_eq_true rfl) (vs' := [(.ref w5), (.ref w14), (.ref w11), (.ref w0), .null, (.ref w8), (.ref w15), (.ref w10), (.ref w13), (.ref w9), (.ref w7), (.ref w12), (.ref w6), (.ref w4), .null, .null, .null]) rfl rfl rfl (Or.inr ⟨_, _, rfl, O'1, (Ins.self (hS.2.2.2.2.2.2.2.2.2.2.2.2.2.1.ext O26.2))⟩) (g := (mkF m 106 #[.val (.int (11 : Int32)), .unset] [(.ref w4), (.int (13 : Int32)), (.ref b1), (.ref b1)])) rfl rfl (hb hby d1_106)
  obtain ⟨T29, X29, e29, st29⟩ := getS2 X28 hx hZ hown (host := "") (Or.inl (hw _ m34)) Via.refl e28 (hS.2.2.2.1.ext O28.2) (g := (mkF m 110 #[.val (.int (11 : Int32)), .unset] [(.int (14 : Int32)), (.ref b1), (.ref b1)])) rfl (hb hby d1_110)
  obtain ⟨T30, h30, L'30, X30, e30, W30, V30, O30, K30, N30, st30⟩ := own_stR X29 hx hZ e29 V28 O28 K28 N28 (Nat.le_trans (own_old_le O0) g1) (Or.inr (Nat.le_trans (Keep.refl h0 []).1 g1)) (j := (14 : Int32)) 14 (by decide) (Nat.le_of_ble_eq_true rfl) (vs' := [(.ref w5), (.ref w14), (.ref w11), (.ref w0), .null, (.ref w8), (.ref w15), (.ref w10), (.ref w13), (.ref w9), (.ref w7), (.ref w12), (.ref w6), (.ref w4), (.ref w1), .null, .null]) rfl rfl rfl (Or.inr ⟨_, _, rfl, O'1, (Ins.self (hS.2.2.2.2.1.ext O28.2))⟩) (g := (mkF m 113 #[.val (.int (11 : Int32)), .unset] [(.ref w1), (.int (14 : Int32)), (.ref b1), (.ref b1)])) rfl rfl (hb hby d1_113)
  obtain ⟨T31, X31, e31, st31⟩ := getS2 X30 hx hZ hown (host := "") (Or.inl (hw _ m36)) Via.refl e30 (hS.2.2.2.2.2.2.1.ext O30.2) (g := (mkF m 117 #[.val (.int (11 : Int32)), .unset] [(.int (15 : Int32)), (.ref b1), (.ref b1)])) rfl (hb hby d1_117)
  obtain ⟨T32, h32, L'32, X32, e32, W32, V32, O32, K32, N32, st32⟩ := own_stR X31 hx hZ e31 V30 O30 K30 N30 (Nat.le_trans (own_old_le O0) g1) (Or.inr (Nat.le_trans (Keep.refl h0 []).1 g1)) (j := (15 : Int32)) 15 (by decide) (Nat.le_of_ble_eq_true rfl) (vs' := [(.ref w5), (.ref w14), (.ref w11), (.ref w0), .null, (.ref w8), (.ref w15), (.ref w10), (.ref w13), (.ref w9), (.ref w7), (.ref w12), (.ref w6), (.ref w4), (.ref w1), (.ref w2), .null]) rfl rfl rfl (Or.inr ⟨_, _, rfl, O'1, (Ins.self (hS.2.2.2.2.2.2.2.1.ext O30.2))⟩) (g := (mkF m 120 #[.val (.int (11 : Int32)), .unset] [(.ref w2), (.int (15 : Int32)), (.ref b1), (.ref b1)])) rfl rfl (hb hby d1_120)
  obtain ⟨T33, X33, e33, st33⟩ := getS2 X32 hx hZ hown (host := "") (Or.inl (hw _ m38)) Via.refl e32 (hS.2.2.2.2.2.2.2.2.2.1.ext O32.2) (g := (mkF m 124 #[.val (.int (11 : Int32)), .unset] [(.int (16 : Int32)), (.ref b1), (.ref b1)])) rfl (hb hby d1_124)
  obtain ⟨T34, h34, L'34, X34, e34, W34, V34, O34, K34, N34, st34⟩ := own_stR X33 hx hZ e33 V32 O32 K32 N32 (Nat.le_trans (own_old_le O0) g1) (Or.inr (Nat.le_trans (Keep.refl h0 []).1 g1)) (j := (16 : Int32)) 16 (by decide) (Nat.le_of_ble_eq_true rfl) (vs' := [(.ref w5), (.ref w14), (.ref w11), (.ref w0), .null, (.ref w8), (.ref w15), (.ref w10), (.ref w13), (.ref w9), (.ref w7), (.ref w12), (.ref w6), (.ref w4), (.ref w1), (.ref w2), (.ref w3)]) rfl rfl rfl (Or.inr ⟨_, _, rfl, O'1, (Ins.self (hS.2.2.2.2.2.2.2.2.2.2.1.ext O32.2))⟩) (g := (mkF m 127 #[.val (.int (11 : Int32)), .unset] [(.ref w3), (.int (16 : Int32)), (.ref b1), (.ref b1)])) rfl rfl (hb hby d1_127)
  obtain ⟨fs, hr, hrun, hended, hW, hsame⟩ := X34.leave (v := some (.ref w12)) (fun h => by rw [Bd.returns] at h; cases h)
  refine ⟨_, _, pre0 _ ?_, hrun, hended, _, _, rfl, ?_, ⟨_, rfl⟩, hW, hsame.mono (by decide) (by decide)⟩
  · show Steps p.tables e below (s₁.setTop (mkF m 0 #[.val (.int (11 : Int32)), .unset] [])) _
    refine XS.iloadN X0.here hx rfl (hb hby d1_0) rfl ?_
    refine XS.ifNo X0.here hx rfl (hb hby d1_1) rfl ((if0 _ _).trans (flt (by decide : ¬ ((11 : Int32) < (0 : Int32)))).1) ?_
    refine XS.iloadN X0.here hx rfl (hb hby d1_4) rfl ?_
    refine XS.bipush X0.here hx rfl (hb hby d1_5) ?_
    show Steps p.tables e below (s₁.setTop (mkF m 7 #[.val (.int (11 : Int32)), .unset] [(.int (16 : Int32)), (.int (11 : Int32))])) _
    refine XS.icmpYes X0.here hx rfl (pc0 := 7) (pc' := 12) rfl (hb hby d1_7) rfl (flt (by decide : ¬ ((16 : Int32) < (11 : Int32)))).2.2.2 (by decide) (by decide) ?_
    refine XS.bipush X0.here hx rfl (hb hby d1_12) ?_
    refine st1 _ ?_
    refine XS.dup X1.here hx rfl (hb hby d1_17) rfl rfl ?_
    show Steps p.tables e below (T1.setTop (mkF m 18 #[.val (.int (11 : Int32)), .unset] [(.ref b1), (.ref b1)])) _
    refine XS.iconst X1.here hx rfl (hb hby d1_18) ?_
    refine st2 _ ?_
    refine st3 _ ?_
    refine XS.dup X3.here hx rfl (hb hby d1_23) rfl rfl ?_
    show Steps p.tables e below (T3.setTop (mkF m 24 #[.val (.int (11 : Int32)), .unset] [(.ref b1), (.ref b1)])) _
    refine XS.iconst X3.here hx rfl (hb hby d1_24) ?_
    refine st4 _ ?_
    refine st5 _ ?_
    refine XS.dup X5.here hx rfl (hb hby d1_29) rfl rfl ?_
    show Steps p.tables e below (T5.setTop (mkF m 30 #[.val (.int (11 : Int32)), .unset] [(.ref b1), (.ref b1)])) _
    refine XS.iconst X5.here hx rfl (hb hby d1_30) ?_
    refine st6 _ ?_
    refine st7 _ ?_
    refine XS.dup X7.here hx rfl (hb hby d1_35) rfl rfl ?_
    show Steps p.tables e below (T7.setTop (mkF m 36 #[.val (.int (11 : Int32)), .unset] [(.ref b1), (.ref b1)])) _
    refine XS.iconst X7.here hx rfl (hb hby d1_36) ?_
    refine st8 _ ?_
    refine st9 _ ?_
    refine XS.dup X9.here hx rfl (hb hby d1_41) rfl rfl ?_
    show Steps p.tables e below (T9.setTop (mkF m 42 #[.val (.int (11 : Int32)), .unset] [(.ref b1), (.ref b1)])) _
    refine XS.iconst X9.here hx rfl (hb hby d1_42) ?_
    refine XS.aconstNull X9.here hx rfl (hb hby d1_43) ?_
    refine st10 _ ?_
    refine XS.dup X10.here hx rfl (hb hby d1_45) rfl rfl ?_
    show Steps p.tables e below (T10.setTop (mkF m 46 #[.val (.int (11 : Int32)), .unset] [(.ref b1), (.ref b1)])) _
    refine XS.iconst X10.here hx rfl (hb hby d1_46) ?_
    refine st11 _ ?_
    refine st12 _ ?_
    refine XS.dup X12.here hx rfl (hb hby d1_51) rfl rfl ?_
    show Steps p.tables e below (T12.setTop (mkF m 52 #[.val (.int (11 : Int32)), .unset] [(.ref b1), (.ref b1)])) _
    refine XS.bipush X12.here hx rfl (hb hby d1_52) ?_
    refine st13 _ ?_
    refine st14 _ ?_
    refine XS.dup X14.here hx rfl (hb hby d1_58) rfl rfl ?_
    show Steps p.tables e below (T14.setTop (mkF m 59 #[.val (.int (11 : Int32)), .unset] [(.ref b1), (.ref b1)])) _
    refine XS.bipush X14.here hx rfl (hb hby d1_59) ?_
    refine st15 _ ?_
    refine st16 _ ?_
    refine XS.dup X16.here hx rfl (hb hby d1_65) rfl rfl ?_
    show Steps p.tables e below (T16.setTop (mkF m 66 #[.val (.int (11 : Int32)), .unset] [(.ref b1), (.ref b1)])) _
    refine XS.bipush X16.here hx rfl (hb hby d1_66) ?_
    refine st17 _ ?_
    refine st18 _ ?_
    refine XS.dup X18.here hx rfl (hb hby d1_72) rfl rfl ?_
    show Steps p.tables e below (T18.setTop (mkF m 73 #[.val (.int (11 : Int32)), .unset] [(.ref b1), (.ref b1)])) _
    refine XS.bipush X18.here hx rfl (hb hby d1_73) ?_
    refine st19 _ ?_
    refine st20 _ ?_
    refine XS.dup X20.here hx rfl (hb hby d1_79) rfl rfl ?_
    show Steps p.tables e below (T20.setTop (mkF m 80 #[.val (.int (11 : Int32)), .unset] [(.ref b1), (.ref b1)])) _
    refine XS.bipush X20.here hx rfl (hb hby d1_80) ?_
    refine st21 _ ?_
    refine st22 _ ?_
    refine XS.dup X22.here hx rfl (hb hby d1_86) rfl rfl ?_
    show Steps p.tables e below (T22.setTop (mkF m 87 #[.val (.int (11 : Int32)), .unset] [(.ref b1), (.ref b1)])) _
    refine XS.bipush X22.here hx rfl (hb hby d1_87) ?_
    refine st23 _ ?_
    refine st24 _ ?_
    refine XS.dup X24.here hx rfl (hb hby d1_93) rfl rfl ?_
    show Steps p.tables e below (T24.setTop (mkF m 94 #[.val (.int (11 : Int32)), .unset] [(.ref b1), (.ref b1)])) _
    refine XS.bipush X24.here hx rfl (hb hby d1_94) ?_
    refine st25 _ ?_
    refine st26 _ ?_
    refine XS.dup X26.here hx rfl (hb hby d1_100) rfl rfl ?_
    show Steps p.tables e below (T26.setTop (mkF m 101 #[.val (.int (11 : Int32)), .unset] [(.ref b1), (.ref b1)])) _
    refine XS.bipush X26.here hx rfl (hb hby d1_101) ?_
    refine st27 _ ?_
    refine st28 _ ?_
    refine XS.dup X28.here hx rfl (hb hby d1_107) rfl rfl ?_
    show Steps p.tables e below (T28.setTop (mkF m 108 #[.val (.int (11 : Int32)), .unset] [(.ref b1), (.ref b1)])) _
    refine XS.bipush X28.here hx rfl (hb hby d1_108) ?_
    refine st29 _ ?_
    refine st30 _ ?_
    refine XS.dup X30.here hx rfl (hb hby d1_114) rfl rfl ?_
    show Steps p.tables e below (T30.setTop (mkF m 115 #[.val (.int (11 : Int32)), .unset] [(.ref b1), (.ref b1)])) _
    refine XS.bipush X30.here hx rfl (hb hby d1_115) ?_
    refine st31 _ ?_
    refine st32 _ ?_
    refine XS.dup X32.here hx rfl (hb hby d1_121) rfl rfl ?_
    show Steps p.tables e below (T32.setTop (mkF m 122 #[.val (.int (11 : Int32)), .unset] [(.ref b1), (.ref b1)])) _
    refine XS.bipush X32.here hx rfl (hb hby d1_122) ?_
    refine st33 _ ?_
    refine st34 _ ?_
    refine XS.astoreN X34.here hx rfl (hb hby d1_128) rfl rfl (l' := #[.val (.int (11 : Int32)), .val (.ref b1)]) rfl ?_
    show Steps p.tables e below (T34.setTop (mkF m 129 #[.val (.int (11 : Int32)), .val (.ref b1)] [])) _
    refine XS.aloadN X34.here hx rfl (hb hby d1_129) rfl rfl ?_
    refine XS.iloadN X34.here hx rfl (hb hby d1_130) rfl ?_
    refine own_aaload X34 hx hZ e34 V34 (j := (11 : Int32)) (by decide) (v := (.ref w12)) rfl rfl (g := (mkF m 131 #[.val (.int (11 : Int32)), .val (.ref b1)] [(.int (11 : Int32)), (.ref b1)])) rfl rfl (hb hby d1_131) ?_
    exact retOut X34 hx Bd.returns rfl (Or.inr (Or.inr (Or.inr (Or.inr ⟨rfl, rfl, rfl⟩)))) (hb hby d1_132) hr
  · show Qrm35 Z w0 w1 w2 w3 w4 w5 w6 w7 w8 w9 w10 w11 w12 w13 w14 w15 w16 kw16 h0 n0 _ T34.heap _
    rw [e34]
    exact ⟨rfl, N34, K34⟩
def Qrm36 (Z : State) (w0 : Addr) (w1 : Addr) (w2 : Addr) (w3 : Addr) (w4 : Addr) (w5 : Addr) (w6 : Addr) (w7 : Addr) (w8 : Addr) (w9 : Addr) (w10 : Addr) (w11 : Addr) (w12 : Addr) (w13 : Addr) (w14 : Addr) (w15 : Addr) (w16 : Addr) (kw16 : ClassId) (h0 : Heap) (n0 : Nat) (v : Option Value) (h : Heap) (L : List Loc) : Prop := v = some (.ref w12) ∧ Fr n0 L ∧ h = h0
set_option maxRecDepth 65536 in
set_option maxHeartbeats 40000000 in
theorem rm36 (l : Launch) (Z : State) (a0 : Array Value) (hw : ∀ d ∈ tables_1, d.before a0 Z = true) (w0 : Addr) (w1 : Addr) (w2 : Addr) (w3 : Addr) (w4 : Addr) (w5 : Addr) (w6 : Addr) (w7 : Addr) (w8 : Addr) (w9 : Addr) (w10 : Addr) (w11 : Addr) (w12 : Addr) (w13 : Addr) (w14 : Addr) (w15 : Addr) (w16 : Addr) (kw16 : ClassId) (hS : SF Z w0 w1 w2 w3 w4 w5 w6 w7 w8 w9 w10 w11 w12 w13 w14 w15 w16 kw16) (ws : List Jvm.Cond) (h0 : Heap) (n0 : Nat) (O0 : Old Z n0 h0) :
    MetFree l (⟨z0, "of", z2⟩ : MethodName) (head1 (Jvm.Cond.code (⟨z0, "of", z2⟩ : MethodName) prog_90_method_5_code 1 (some (.object z0)) :: ws) ({ frames := 0, cells := 0, slots := 0, locals := 0 } : Room)) (fun a U => a = #[(.int (11 : Int32))] ∧ Z.Warmed39 U.vm ∧ U.heap = h0) (fun _ _ _ _ _ => True) (fun _ U o U' => ∃ v L, o = .returned v ∧ Qrm36 Z w0 w1 w2 w3 w4 w5 w6 w7 w8 w9 w10 w11 w12 w13 w14 w15 w16 kw16 h0 n0 v U'.heap L ∧ FrameEnd U o U' L ({ frames := 0, cells := 0, slots := 0, locals := 0 } : Room).cells ({ frames := 0, cells := 0, slots := 0, locals := 0 } : Room).slots) := by
  refine MetFree.of_bodySF (plainFor_of_name pn18) hisR ?_
  intro p e s m args below meth c s₁ Bd hml0 hP hK
  obtain ⟨rfl, hZ, hh⟩ := hP
  have hx := Bd.exec
  have hby := Bd.bytes
  have hml : c.maxLocals = 1 := hml0
  have hown : s.vm.findClass z0 = some m.cls := findClass_of_methodNamed Bd.named
  have hnm := (name_of_methodNamed Bd.named Bd.method).1
  have X0 : Stand p l e ({ frames := 0, cells := 0, slots := 0, locals := 0 } : Room) s m #[(.int (11 : Int32))] below meth c s₁ [] 0 0 := Stand.of_body Bd
  have e0 : s₁.heap = h0 := by rw [← hh, Bd.state]; rfl
  have N0 := Fr.nil n0
  have pre0 : ∀ t, Steps p.tables e below (s₁.setTop (mkF m 0 #[.val (.int (11 : Int32))] [])) t → Steps p.tables e below (s₁.setTop (entryFrame m #[(.int (11 : Int32))] 1)) t := fun t k => castTop (ef17 m (11 : Int32)) k
  obtain ⟨T1, X1, e1, st1⟩ := getS2 X0 hx hZ hown (host := "") (Or.inl (hw _ m43)) Via.refl e0 (hS.2.2.2.2.2.2.2.2.2.2.2.2.2.2.2.2.2.2.2.2.2.2.2.2.2.2.2.2.2.2.2.2.2.2.2.2.2.2.2.2.2.2.2.2.2.2.2.2.1.ext O0.2) (g := (mkF m 5 #[.val (.int (11 : Int32))] [(.int (11 : Int32))])) rfl (hb hby d2_5)
  obtain ⟨T2, X2, e2, st2⟩ := getS2 X1 hx hZ hown (host := "") (Or.inl (hw _ m43)) Via.refl e1 (hS.2.2.2.2.2.2.2.2.2.2.2.2.2.2.2.2.2.2.2.2.2.2.2.2.2.2.2.2.2.2.2.2.2.2.2.2.2.2.2.2.2.2.2.2.2.2.2.2.1.ext O0.2) (g := (mkF m 12 #[.val (.int (11 : Int32))] [])) rfl (hb hby d2_12)
  obtain ⟨fs, hr, hrun, hended, hW, hsame⟩ := X2.leave (v := some (.ref w12)) (fun h => by rw [Bd.returns] at h; cases h)
  refine ⟨_, _, pre0 _ ?_, hrun, hended, _, _, rfl, ?_, ⟨_, rfl⟩, hW, hsame.mono (by decide) (by decide)⟩
  · show Steps p.tables e below (s₁.setTop (mkF m 0 #[.val (.int (11 : Int32))] [])) _
    refine XS.iloadN X0.here hx rfl (hb hby d2_0) rfl ?_
    refine XS.ifNo X0.here hx rfl (hb hby d2_1) rfl ((if0 _ _).trans (flt (by decide : ¬ ((11 : Int32) < (0 : Int32)))).1) ?_
    refine XS.iloadN X0.here hx rfl (hb hby d2_4) rfl ?_
    refine st1 _ ?_
    show Steps p.tables e below (T1.setTop (mkF m 8 #[.val (.int (11 : Int32))] [(.ref w16), (.int (11 : Int32))])) _
    refine own_alen X1 hx hZ e1 (hS.2.2.2.2.2.2.2.2.2.2.2.2.2.2.2.2.2.2.2.2.2.2.2.2.2.2.2.2.2.2.2.2.2.2.2.2.2.2.2.2.2.2.2.2.2.2.2.2.2.ext O0.2) (g := (mkF m 8 #[.val (.int (11 : Int32))] [(.ref w16), (.int (11 : Int32))])) rfl rfl (hb hby d2_8) ?_
    refine XS.icmpNo X1.here hx rfl (hb hby d2_9) rfl (tlt (by decide : (11 : Int32) < (17 : Int32))).2.1 ?_
    refine st2 _ ?_
    refine XS.iloadN X2.here hx rfl (hb hby d2_15) rfl ?_
    show Steps p.tables e below (T2.setTop (mkF m 16 #[.val (.int (11 : Int32))] [(.int (11 : Int32)), (.ref w16)])) _
    refine own_aaload X2 hx hZ e2 (hS.2.2.2.2.2.2.2.2.2.2.2.2.2.2.2.2.2.2.2.2.2.2.2.2.2.2.2.2.2.2.2.2.2.2.2.2.2.2.2.2.2.2.2.2.2.2.2.2.2.ext O0.2) (j := (11 : Int32)) (by decide) (v := (.ref w12)) rfl rfl (g := (mkF m 16 #[.val (.int (11 : Int32))] [(.int (11 : Int32)), (.ref w16)])) rfl rfl (hb hby d2_16) ?_
    refine XS.goto X2.here hx rfl (pc0 := 17) (pc' := 21) rfl (hb hby d2_17) (by decide) (by decide) ?_
    exact retOut X2 hx Bd.returns rfl (Or.inr (Or.inr (Or.inr (Or.inr ⟨rfl, rfl, rfl⟩)))) (hb hby d2_21) hr
  · show Qrm36 Z w0 w1 w2 w3 w4 w5 w6 w7 w8 w9 w10 w11 w12 w13 w14 w15 w16 kw16 h0 n0 _ T2.heap _
    rw [e2]
    exact ⟨rfl, N0, rfl⟩
def Qrm37 (Z : State) (w0 : Addr) (w1 : Addr) (w2 : Addr) (w3 : Addr) (w4 : Addr) (w5 : Addr) (w6 : Addr) (w7 : Addr) (w8 : Addr) (w9 : Addr) (w10 : Addr) (w11 : Addr) (w12 : Addr) (w13 : Addr) (w14 : Addr) (w15 : Addr) (w16 : Addr) (kw16 : ClassId) (h0 : Heap) (n0 : Nat) (v : Option Value) (h : Heap) (L : List Loc) : Prop := v = some (.int (11 : Int32)) ∧ Fr n0 L ∧ h = h0
set_option maxRecDepth 65536 in
set_option maxHeartbeats 40000000 in
theorem rm37 (l : Launch) (Z : State) (a0 : Array Value) (hw : ∀ d ∈ tables_1, d.before a0 Z = true) (w0 : Addr) (w1 : Addr) (w2 : Addr) (w3 : Addr) (w4 : Addr) (w5 : Addr) (w6 : Addr) (w7 : Addr) (w8 : Addr) (w9 : Addr) (w10 : Addr) (w11 : Addr) (w12 : Addr) (w13 : Addr) (w14 : Addr) (w15 : Addr) (w16 : Addr) (kw16 : ClassId) (hS : SF Z w0 w1 w2 w3 w4 w5 w6 w7 w8 w9 w10 w11 w12 w13 w14 w15 w16 kw16) (ws : List Jvm.Cond) (h0 : Heap) (n0 : Nat) (O0 : Old Z n0 h0) :
    MetFree l (⟨z0, "code", "()I"⟩ : MethodName) (head1 (Jvm.Cond.code (⟨z0, "code", "()I"⟩ : MethodName) prog_90_method_4_code 1 (some .int) :: ws) ({ frames := 0, cells := 0, slots := 0, locals := 0 } : Room)) (fun a U => a = #[(.ref w12)] ∧ Z.Warmed39 U.vm ∧ U.heap = h0) (fun _ _ _ _ _ => True) (fun _ U o U' => ∃ v L, o = .returned v ∧ Qrm37 Z w0 w1 w2 w3 w4 w5 w6 w7 w8 w9 w10 w11 w12 w13 w14 w15 w16 kw16 h0 n0 v U'.heap L ∧ FrameEnd U o U' L ({ frames := 0, cells := 0, slots := 0, locals := 0 } : Room).cells ({ frames := 0, cells := 0, slots := 0, locals := 0 } : Room).slots) := by
  refine MetFree.of_bodySF (plainFor_of_name pn18) hisR ?_
  intro p e s m args below meth c s₁ Bd hml0 hP hK
  obtain ⟨rfl, hZ, hh⟩ := hP
  have hx := Bd.exec
  have hby := Bd.bytes
  have hml : c.maxLocals = 1 := hml0
  have hown : s.vm.findClass z0 = some m.cls := findClass_of_methodNamed Bd.named
  have hnm := (name_of_methodNamed Bd.named Bd.method).1
  have X0 : Stand p l e ({ frames := 0, cells := 0, slots := 0, locals := 0 } : Room) s m #[(.ref w12)] below meth c s₁ [] 0 0 := Stand.of_body Bd
  have e0 : s₁.heap = h0 := by rw [← hh, Bd.state]; rfl
  have N0 := Fr.nil n0
  have pre0 : ∀ t, Steps p.tables e below (s₁.setTop (mkF m 0 #[.val (.ref w12)] [])) t → Steps p.tables e below (s₁.setTop (entryFrame m #[(.ref w12)] 1)) t := fun t k => castTop (ef135 m w12) k
  obtain ⟨T1, X1, e1, st1⟩ := getF X0 hx hZ hown (host := "") (Or.inl (hw _ m50)) Via.refl e0 (hS.2.2.2.2.2.2.2.2.2.2.2.2.2.2.2.2.2.2.2.2.2.2.2.2.2.2.2.2.2.2.2.2.2.2.2.2.2.2.1.ext O0.2) (g := (mkF m 1 #[.val (.ref w12)] [(.ref w12)])) rfl rfl (hb hby d3_1)
  obtain ⟨fs, hr, hrun, hended, hW, hsame⟩ := X1.leave (v := some (.int (11 : Int32))) (fun h => by rw [Bd.returns] at h; cases h)
  refine ⟨_, _, pre0 _ ?_, hrun, hended, _, _, rfl, ?_, ⟨_, rfl⟩, hW, hsame.mono (by decide) (by decide)⟩
  · show Steps p.tables e below (s₁.setTop (mkF m 0 #[.val (.ref w12)] [])) _
    refine XS.aloadN X0.here hx rfl (hb hby d3_0) rfl rfl ?_
    refine st1 _ ?_
    exact retOut X1 hx Bd.returns rfl (Or.inl ⟨rfl, Or.inl rfl, _, rfl⟩) (hb hby d3_4) hr
  · show Qrm37 Z w0 w1 w2 w3 w4 w5 w6 w7 w8 w9 w10 w11 w12 w13 w14 w15 w16 kw16 h0 n0 _ T1.heap _
    rw [e1]
    exact ⟨rfl, N0, rfl⟩
def Qrm38 (Z : State) (w0 : Addr) (w1 : Addr) (w2 : Addr) (w3 : Addr) (w4 : Addr) (w5 : Addr) (w6 : Addr) (w7 : Addr) (w8 : Addr) (w9 : Addr) (w10 : Addr) (w11 : Addr) (w12 : Addr) (w13 : Addr) (w14 : Addr) (w15 : Addr) (w16 : Addr) (kw16 : ClassId) (h0 : Heap) (n0 : Nat) (v : Option Value) (h : Heap) (L : List Loc) : Prop := v = some (.ref w6) ∧ Fr n0 L ∧ Keep h0 h []
set_option maxRecDepth 65536 in
set_option maxHeartbeats 40000000 in
theorem rm38 (l : Launch) (Z : State) (a0 : Array Value) (hw : ∀ d ∈ tables_1, d.before a0 Z = true) (w0 : Addr) (w1 : Addr) (w2 : Addr) (w3 : Addr) (w4 : Addr) (w5 : Addr) (w6 : Addr) (w7 : Addr) (w8 : Addr) (w9 : Addr) (w10 : Addr) (w11 : Addr) (w12 : Addr) (w13 : Addr) (w14 : Addr) (w15 : Addr) (w16 : Addr) (kw16 : ClassId) (hS : SF Z w0 w1 w2 w3 w4 w5 w6 w7 w8 w9 w10 w11 w12 w13 w14 w15 w16 kw16) (ws : List Jvm.Cond) (h0 : Heap) (n0 : Nat) (O0 : Old Z n0 h0) :
    MetFree l (⟨z1, "expected", z2⟩ : MethodName) (head1 (Jvm.Cond.code (⟨z1, "expected", z2⟩ : MethodName) method_3_code 2 (some (.object z0)) :: ws) ({ frames := 0, cells := 1, slots := 17, locals := 0 } : Room)) (fun a U => a = #[(.int (12 : Int32))] ∧ Z.Warmed39 U.vm ∧ U.heap = h0) (fun _ _ _ _ _ => True) (fun _ U o U' => ∃ v L, o = .returned v ∧ Qrm38 Z w0 w1 w2 w3 w4 w5 w6 w7 w8 w9 w10 w11 w12 w13 w14 w15 w16 kw16 h0 n0 v U'.heap L ∧ FrameEnd U o U' L ({ frames := 0, cells := 1, slots := 17, locals := 0 } : Room).cells ({ frames := 0, cells := 1, slots := 17, locals := 0 } : Room).slots) := by
  refine MetFree.of_bodySF (plainFor_of_name pn7) hisR ?_
  intro p e s m args below meth c s₁ Bd hml0 hP hK
  obtain ⟨rfl, hZ, hh⟩ := hP
  have hx := Bd.exec
  have hby := Bd.bytes
  have hml : c.maxLocals = 2 := hml0
  have hown : s.vm.findClass z1 = some m.cls := findClass_of_methodNamed Bd.named
  have hnm := (name_of_methodNamed Bd.named Bd.method).1
  have X0 : Stand p l e ({ frames := 0, cells := 1, slots := 17, locals := 0 } : Room) s m #[(.int (12 : Int32))] below meth c s₁ [] 0 0 := Stand.of_body Bd
  have e0 : s₁.heap = h0 := by rw [← hh, Bd.state]; rfl
  have N0 := Fr.nil n0
  have pre0 : ∀ t, Steps p.tables e below (s₁.setTop (mkF m 0 #[.val (.int (12 : Int32)), .unset] [])) t → Steps p.tables e below (s₁.setTop (entryFrame m #[(.int (12 : Int32))] 2)) t := fun t k => castTop (ef6 m (12 : Int32)) k
  obtain ⟨T1, h1, k1, b1, X1, e1, E1, V1, O'1, g1, O1, K1, st1⟩ := own_newR X0 hx hZ (vs := [.null, .null, .null, .null, .null, .null, .null, .null, .null, .null, .null, .null, .null, .null, .null, .null, .null]) (cap := 17) rfl hown (hw _ m4) (hw _ m5) e0 O0 (Keep.refl h0 []) (g := (mkF m 14 #[.val (.int (12 : Int32)), .unset] [(.int (17 : Int32))])) rfl (hb hby d1_14) rfl (by decide) (by decide) (by decide) (by decide) (by decide)
  obtain ⟨T2, X2, e2, st2⟩ := getS2 X1 hx hZ hown (host := "") (Or.inl (hw _ m6)) Via.refl e1 (hS.2.2.2.2.2.2.2.2.2.2.2.2.2.2.2.1.ext O1.2) (g := (mkF m 19 #[.val (.int (12 : Int32)), .unset] [(.int (0 : Int32)), (.ref b1), (.ref b1)])) rfl (hb hby d1_19)
  obtain ⟨T3, h3, L'3, X3, e3, W3, V3, O3, K3, N3, st3⟩ := own_stR X2 hx hZ e2 V1 O1 K1 N0 (Nat.le_trans (own_old_le O0) g1) (Or.inr (Nat.le_trans (Keep.refl h0 []).1 g1)) (j := (0 : Int32)) 0 (by decide) (Nat.le_of_ble_eq_true rfl) (vs' := [(.ref w5), .null, .null, .null, .null, .null, .null, .null, .null, .null, .null, .null, .null, .null, .null, .null, .null]) rfl rfl rfl (Or.inr ⟨_, _, rfl, O'1, (Ins.self (hS.2.2.2.2.2.2.2.2.2.2.2.2.2.2.2.2.1.ext O1.2))⟩) (g := (mkF m 22 #[.val (.int (12 : Int32)), .unset] [(.ref w5), (.int (0 : Int32)), (.ref b1), (.ref b1)])) rfl rfl (hb hby d1_22)
  obtain ⟨T4, X4, e4, st4⟩ := getS2 X3 hx hZ hown (host := "") (Or.inl (hw _ m10)) Via.refl e3 (hS.2.2.2.2.2.2.2.2.2.2.2.2.2.2.2.2.2.2.2.2.2.2.2.2.2.2.2.2.2.2.2.2.2.2.2.2.2.2.2.2.2.2.1.ext O3.2) (g := (mkF m 25 #[.val (.int (12 : Int32)), .unset] [(.int (1 : Int32)), (.ref b1), (.ref b1)])) rfl (hb hby d1_25)
  obtain ⟨T5, h5, L'5, X5, e5, W5, V5, O5, K5, N5, st5⟩ := own_stR X4 hx hZ e4 V3 O3 K3 N3 (Nat.le_trans (own_old_le O0) g1) (Or.inr (Nat.le_trans (Keep.refl h0 []).1 g1)) (j := (1 : Int32)) 1 (by decide) (Nat.le_of_ble_eq_true rfl) (vs' := [(.ref w5), (.ref w14), .null, .null, .null, .null, .null, .null, .null, .null, .null, .null, .null, .null, .null, .null, .null]) rfl rfl rfl (Or.inr ⟨_, _, rfl, O'1, (Ins.self (hS.2.2.2.2.2.2.2.2.2.2.2.2.2.2.2.2.2.2.2.2.2.2.2.2.2.2.2.2.2.2.2.2.2.2.2.2.2.2.2.2.2.2.2.1.ext O3.2))⟩) (g := (mkF m 28 #[.val (.int (12 : Int32)), .unset] [(.ref w14), (.int (1 : Int32)), (.ref b1), (.ref b1)])) rfl rfl (hb hby d1_28)
  obtain ⟨T6, X6, e6, st6⟩ := getS2 X5 hx hZ hown (host := "") (Or.inl (hw _ m12)) Via.refl e5 (hS.2.2.2.2.2.2.2.2.2.2.2.2.2.2.2.2.2.2.2.2.2.2.2.2.2.2.2.2.2.2.2.2.2.1.ext O5.2) (g := (mkF m 31 #[.val (.int (12 : Int32)), .unset] [(.int (2 : Int32)), (.ref b1), (.ref b1)])) rfl (hb hby d1_31)
  obtain ⟨T7, h7, L'7, X7, e7, W7, V7, O7, K7, N7, st7⟩ := own_stR X6 hx hZ e6 V5 O5 K5 N5 (Nat.le_trans (own_old_le O0) g1) (Or.inr (Nat.le_trans (Keep.refl h0 []).1 g1)) (j := (2 : Int32)) 2 (by decide) (Nat.le_of_ble_eq_true rfl) (vs' := [(.ref w5), (.ref w14), (.ref w11), .null, .null, .null, .null, .null, .null, .null, .null, .null, .null, .null, .null, .null, .null]) rfl rfl rfl (Or.inr ⟨_, _, rfl, O'1, (Ins.self (hS.2.2.2.2.2.2.2.2.2.2.2.2.2.2.2.2.2.2.2.2.2.2.2.2.2.2.2.2.2.2.2.2.2.2.1.ext O5.2))⟩) (g := (mkF m 34 #[.val (.int (12 : Int32)), .unset] [(.ref w11), (.int (2 : Int32)), (.ref b1), (.ref b1)])) rfl rfl (hb hby d1_34)
  obtain ⟨T8, X8, e8, st8⟩ := getS2 X7 hx hZ hown (host := "") (Or.inl (hw _ m14)) Via.refl e7 (hS.1.ext O7.2) (g := (mkF m 37 #[.val (.int (12 : Int32)), .unset] [(.int (3 : Int32)), (.ref b1), (.ref b1)])) rfl (hb hby d1_37)
  obtain ⟨T9, h9, L'9, X9, e9, W9, V9, O9, K9, N9, st9⟩ := own_stR X8 hx hZ e8 V7 O7 K7 N7 (Nat.le_trans (own_old_le O0) g1) (Or.inr (Nat.le_trans (Keep.refl h0 []).1 g1)) (j := (3 : Int32)) 3 (by decide) (Nat.le_of_ble_eq_true rfl) (vs' := [(.ref w5), (.ref w14), (.ref w11), (.ref w0), .null, .null, .null, .null, .null, .null, .null, .null, .null, .null, .null, .null, .null]) rfl rfl rfl (Or.inr ⟨_, _, rfl, O'1, (Ins.self (hS.2.1.ext O7.2))⟩) (g := (mkF m 40 #[.val (.int (12 : Int32)), .unset] [(.ref w0), (.int (3 : Int32)), (.ref b1), (.ref b1)])) rfl rfl (hb hby d1_40)
  obtain ⟨T10, h10, L'10, X10, e10, W10, V10, O10, K10, N10, st10⟩ := own_stR X9 hx hZ e9 V9 O9 K9 N9 (Nat.le_trans (own_old_le O0) g1) (Or.inr (Nat.le_trans (Keep.refl h0 []).1 g1)) (j := (4 : Int32)) 4 (by decide) (Nat.le_of_ble_eq_true rfl) (vs' := [(.ref w5), (.ref w14), (.ref w11), (.ref w0), .null, .null, .null, .null, .null, .null, .null, .null, .null, .null, .null, .null, .null]) rfl rfl rfl (Or.inl rfl) (g := (mkF m 44 #[.val (.int (12 : Int32)), .unset] [.null, (.int (4 : Int32)), (.ref b1), (.ref b1)])) rfl rfl (hb hby d1_44)
  obtain ⟨T11, X11, e11, st11⟩ := getS2 X10 hx hZ hown (host := "") (Or.inl (hw _ m16)) Via.refl e10 (hS.2.2.2.2.2.2.2.2.2.2.2.2.2.2.2.2.2.2.2.2.2.2.2.2.1.ext O10.2) (g := (mkF m 47 #[.val (.int (12 : Int32)), .unset] [(.int (5 : Int32)), (.ref b1), (.ref b1)])) rfl (hb hby d1_47)
  obtain ⟨T12, h12, L'12, X12, e12, W12, V12, O12, K12, N12, st12⟩ := own_stR X11 hx hZ e11 V10 O10 K10 N10 (Nat.le_trans (own_old_le O0) g1) (Or.inr (Nat.le_trans (Keep.refl h0 []).1 g1)) (j := (5 : Int32)) 5 (by decide) (Nat.le_of_ble_eq_true rfl) (vs' := [(.ref w5), (.ref w14), (.ref w11), (.ref w0), .null, (.ref w8), .null, .null, .null, .null, .null, .null, .null, .null, .null, .null, .null]) rfl rfl rfl (Or.inr ⟨_, _, rfl, O'1, (Ins.self (hS.2.2.2.2.2.2.2.2.2.2.2.2.2.2.2.2.2.2.2.2.2.2.2.2.2.1.ext O10.2))⟩) (g := (mkF m 50 #[.val (.int (12 : Int32)), .unset] [(.ref w8), (.int (5 : Int32)), (.ref b1), (.ref b1)])) rfl rfl (hb hby d1_50)
  obtain ⟨T13, X13, e13, st13⟩ := getS2 X12 hx hZ hown (host := "") (Or.inl (hw _ m18)) Via.refl e12 (hS.2.2.2.2.2.2.2.2.2.2.2.2.2.2.2.2.2.2.2.2.2.2.2.2.2.2.2.2.2.2.2.2.2.2.2.2.2.2.2.2.2.2.2.2.2.1.ext O12.2) (g := (mkF m 54 #[.val (.int (12 : Int32)), .unset] [(.int (6 : Int32)), (.ref b1), (.ref b1)])) rfl (hb hby d1_54)
  obtain ⟨T14, h14, L'14, X14, e14, W14, V14, O14, K14, N14, st14⟩ := own_stR X13 hx hZ e13 V12 O12 K12 N12 (Nat.le_trans (own_old_le O0) g1) (Or.inr (Nat.le_trans (Keep.refl h0 []).1 g1)) (j := (6 : Int32)) 6 (by decide) (Nat.le_of_ble_eq_true rfl) (vs' := [(.ref w5), (.ref w14), (.ref w11), (.ref w0), .null, (.ref w8), (.ref w15), .null, .null, .null, .null, .null, .null, .null, .null, .null, .null]) rfl rfl rfl (Or.inr ⟨_, _, rfl, O'1, (Ins.self (hS.2.2.2.2.2.2.2.2.2.2.2.2.2.2.2.2.2.2.2.2.2.2.2.2.2.2.2.2.2.2.2.2.2.2.2.2.2.2.2.2.2.2.2.2.2.2.1.ext O12.2))⟩) (g := (mkF m 57 #[.val (.int (12 : Int32)), .unset] [(.ref w15), (.int (6 : Int32)), (.ref b1), (.ref b1)])) rfl rfl (hb hby d1_57)
  obtain ⟨T15, X15, e15, st15⟩ := getS2 X14 hx hZ hown (host := "") (Or.inl (hw _ m20)) Via.refl e14 (hS.2.2.2.2.2.2.2.2.2.2.2.2.2.2.2.2.2.2.2.2.2.2.2.2.2.2.2.2.2.2.1.ext O14.2) (g := (mkF m 61 #[.val (.int (12 : Int32)), .unset] [(.int (7 : Int32)), (.ref b1), (.ref b1)])) rfl (hb hby d1_61)
  obtain ⟨T16, h16, L'16, X16, e16, W16, V16, O16, K16, N16, st16⟩ := own_stR X15 hx hZ e15 V14 O14 K14 N14 (Nat.le_trans (own_old_le O0) g1) (Or.inr (Nat.le_trans (Keep.refl h0 []).1 g1)) (j := (7 : Int32)) 7 (by decide) (Nat.le_of_ble_eq_true rfl) (vs' := [(.ref w5), (.ref w14), (.ref w11), (.ref w0), .null, (.ref w8), (.ref w15), (.ref w10), .null, .null, .null, .null, .null, .null, .null, .null, .null]) rfl rfl rfl (Or.inr ⟨_, _, rfl, O'1, (Ins.self (hS.2.2.2.2.2.2.2.2.2.2.2.2.2.2.2.2.2.2.2.2.2.2.2.2.2.2.2.2.2.2.2.1.ext O14.2))⟩) (g := (mkF m 64 #[.val (.int (12 : Int32)), .unset] [(.ref w10), (.int (7 : Int32)), (.ref b1), (.ref b1)])) rfl rfl (hb hby d1_64)
  obtain ⟨T17, X17, e17, st17⟩ := getS2 X16 hx hZ hown (host := "") (Or.inl (hw _ m22)) Via.refl e16 (hS.2.2.2.2.2.2.2.2.2.2.2.2.2.2.2.2.2.2.2.2.2.2.2.2.2.2.2.2.2.2.2.2.2.2.2.2.2.2.2.1.ext O16.2) (g := (mkF m 68 #[.val (.int (12 : Int32)), .unset] [(.int (8 : Int32)), (.ref b1), (.ref b1)])) rfl (hb hby d1_68)
  obtain ⟨T18, h18, L'18, X18, e18, W18, V18, O18, K18, N18, st18⟩ := own_stR X17 hx hZ e17 V16 O16 K16 N16 (Nat.le_trans (own_old_le O0) g1) (Or.inr (Nat.le_trans (Keep.refl h0 []).1 g1)) (j := (8 : Int32)) 8 (by decide) (Nat.le_of_ble_eq_true rfl) (vs' := [(.ref w5), (.ref w14), (.ref w11), (.ref w0), .null, (.ref w8), (.ref w15), (.ref w10), (.ref w13), .null, .null, .null, .null, .null, .null, .null, .null]) rfl rfl rfl (Or.inr ⟨_, _, rfl, O'1, (Ins.self (hS.2.2.2.2.2.2.2.2.2.2.2.2.2.2.2.2.2.2.2.2.2.2.2.2.2.2.2.2.2.2.2.2.2.2.2.2.2.2.2.2.1.ext O16.2))⟩) (g := (mkF m 71 #[.val (.int (12 : Int32)), .unset] [(.ref w13), (.int (8 : Int32)), (.ref b1), (.ref b1)])) rfl rfl (hb hby d1_71)
  obtain ⟨T19, X19, e19, st19⟩ := getS2 X18 hx hZ hown (host := "") (Or.inl (hw _ m24)) Via.refl e18 (hS.2.2.2.2.2.2.2.2.2.2.2.2.2.2.2.2.2.2.2.2.2.2.2.2.2.2.2.1.ext O18.2) (g := (mkF m 75 #[.val (.int (12 : Int32)), .unset] [(.int (9 : Int32)), (.ref b1), (.ref b1)])) rfl (hb hby d1_75)
  obtain ⟨T20, h20, L'20, X20, e20, W20, V20, O20, K20, N20, st20⟩ := own_stR X19 hx hZ e19 V18 O18 K18 N18 (Nat.le_trans (own_old_le O0) g1) (Or.inr (Nat.le_trans (Keep.refl h0 []).1 g1)) (j := (9 : Int32)) 9 (by decide) (Nat.le_of_ble_eq_true rfl) (vs' := [(.ref w5), (.ref w14), (.ref w11), (.ref w0), .null, (.ref w8), (.ref w15), (.ref w10), (.ref w13), (.ref w9), .null, .null, .null, .null, .null, .null, .null]) rfl rfl rfl (Or.inr ⟨_, _, rfl, O'1, (Ins.self (hS.2.2.2.2.2.2.2.2.2.2.2.2.2.2.2.2.2.2.2.2.2.2.2.2.2.2.2.2.1.ext O18.2))⟩) (g := (mkF m 78 #[.val (.int (12 : Int32)), .unset] [(.ref w9), (.int (9 : Int32)), (.ref b1), (.ref b1)])) rfl rfl (hb hby d1_78)
  obtain ⟨T21, X21, e21, st21⟩ := getS2 X20 hx hZ hown (host := "") (Or.inl (hw _ m26)) Via.refl e20 (hS.2.2.2.2.2.2.2.2.2.2.2.2.2.2.2.2.2.2.2.2.2.1.ext O20.2) (g := (mkF m 82 #[.val (.int (12 : Int32)), .unset] [(.int (10 : Int32)), (.ref b1), (.ref b1)])) rfl (hb hby d1_82)
  obtain ⟨T22, h22, L'22, X22, e22, W22, V22, O22, K22, N22, st22⟩ := own_stR X21 hx hZ e21 V20 O20 K20 N20 (Nat.le_trans (own_old_le O0) g1) (Or.inr (Nat.le_trans (Keep.refl h0 []).1 g1)) (j := (10 : Int32)) 10 (by decide) (Nat.le_of_ble_eq_true rfl) (vs' := [(.ref w5), (.ref w14), (.ref w11), (.ref w0), .null, (.ref w8), (.ref w15), (.ref w10), (.ref w13), (.ref w9), (.ref w7), .null, .null, .null, .null, .null, .null]) rfl rfl rfl (Or.inr ⟨_, _, rfl, O'1, (Ins.self (hS.2.2.2.2.2.2.2.2.2.2.2.2.2.2.2.2.2.2.2.2.2.2.1.ext O20.2))⟩) (g := (mkF m 85 #[.val (.int (12 : Int32)), .unset] [(.ref w7), (.int (10 : Int32)), (.ref b1), (.ref b1)])) rfl rfl (hb hby d1_85)
  obtain ⟨T23, X23, e23, st23⟩ := getS2 X22 hx hZ hown (host := "") (Or.inl (hw _ m28)) Via.refl e22 (hS.2.2.2.2.2.2.2.2.2.2.2.2.2.2.2.2.2.2.2.2.2.2.2.2.2.2.2.2.2.2.2.2.2.2.2.2.1.ext O22.2) (g := (mkF m 89 #[.val (.int (12 : Int32)), .unset] [(.int (11 : Int32)), (.ref b1), (.ref b1)])) rfl (hb hby d1_89)
  obtain ⟨T24, h24, L'24, X24, e24, W24, V24, O24, K24, N24, st24⟩ := own_stR X23 hx hZ e23 V22 O22 K22 N22 (Nat.le_trans (own_old_le O0) g1) (Or.inr (Nat.le_trans (Keep.refl h0 []).1 g1)) (j := (11 : Int32)) 11 (by decide) (Nat.le_of_ble_eq_true rfl) (vs' := [(.ref w5), (.ref w14), (.ref w11), (.ref w0), .null, (.ref w8), (.ref w15), (.ref w10), (.ref w13), (.ref w9), (.ref w7), (.ref w12), .null, .null, .null, .null, .null]) rfl rfl rfl (Or.inr ⟨_, _, rfl, O'1, (Ins.self (hS.2.2.2.2.2.2.2.2.2.2.2.2.2.2.2.2.2.2.2.2.2.2.2.2.2.2.2.2.2.2.2.2.2.2.2.2.2.1.ext O22.2))⟩) (g := (mkF m 92 #[.val (.int (12 : Int32)), .unset] [(.ref w12), (.int (11 : Int32)), (.ref b1), (.ref b1)])) rfl rfl (hb hby d1_92)
  obtain ⟨T25, X25, e25, st25⟩ := getS2 X24 hx hZ hown (host := "") (Or.inl (hw _ m30)) Via.refl e24 (hS.2.2.2.2.2.2.2.2.2.2.2.2.2.2.2.2.2.2.1.ext O24.2) (g := (mkF m 96 #[.val (.int (12 : Int32)), .unset] [(.int (12 : Int32)), (.ref b1), (.ref b1)])) rfl (hb hby d1_96)
  obtain ⟨T26, h26, L'26, X26, e26, W26, V26, O26, K26, N26, st26⟩ := own_stR X25 hx hZ e25 V24 O24 K24 N24 (Nat.le_trans (own_old_le O0) g1) (Or.inr (Nat.le_trans (Keep.refl h0 []).1 g1)) (j := (12 : Int32)) 12 (by decide) (Nat.le_of_ble_eq_true rfl) (vs' := [(.ref w5), (.ref w14), (.ref w11), (.ref w0), .null, (.ref w8), (.ref w15), (.ref w10), (.ref w13), (.ref w9), (.ref w7), (.ref w12), (.ref w6), .null, .null, .null, .null]) rfl rfl rfl (Or.inr ⟨_, _, rfl, O'1, (Ins.self (hS.2.2.2.2.2.2.2.2.2.2.2.2.2.2.2.2.2.2.2.1.ext O24.2))⟩) (g := (mkF m 99 #[.val (.int (12 : Int32)), .unset] [(.ref w6), (.int (12 : Int32)), (.ref b1), (.ref b1)])) rfl rfl (hb hby d1_99)
  obtain ⟨T27, X27, e27, st27⟩ := getS2 X26 hx hZ hown (host := "") (Or.inl (hw _ m32)) Via.refl e26 (hS.2.2.2.2.2.2.2.2.2.2.2.2.1.ext O26.2) (g := (mkF m 103 #[.val (.int (12 : Int32)), .unset] [(.int (13 : Int32)), (.ref b1), (.ref b1)])) rfl (hb hby d1_103)
  obtain ⟨T28, h28, L'28, X28, e28, W28, V28, O28, K28, N28, st28⟩ := own_stR X27 hx hZ e27 V26 O26 K26 N26 (Nat.le_trans (own_old_le O0) g1) (Or.inr (Nat.le_trans (Keep.refl h0 []).1 g1)) (j := (13 : Int32)) 13 (by decide) (Nat.le_of_ble_eq_true rfl) (vs' := [(.ref w5), (.ref w14), (.ref w11), (.ref w0), .null, (.ref w8), (.ref w15), (.ref w10), (.ref w13), (.ref w9), (.ref w7), (.ref w12), (.ref w6), (.ref w4), .null, .null, .null]) rfl rfl rfl (Or.inr ⟨_, _, rfl, O'1, (Ins.self (hS.2.2.2.2.2.2.2.2.2.2.2.2.2.1.ext O26.2))⟩) (g := (mkF m 106 #[.val (.int (12 : Int32)), .unset] [(.ref w4), (.int (13 : Int32)), (.ref b1), (.ref b1)])) rfl rfl (hb hby d1_106)
  obtain ⟨T29, X29, e29, st29⟩ := getS2 X28 hx hZ hown (host := "") (Or.inl (hw _ m34)) Via.refl e28 (hS.2.2.2.1.ext O28.2) (g := (mkF m 110 #[.val (.int (12 : Int32)), .unset] [(.int (14 : Int32)), (.ref b1), (.ref b1)])) rfl (hb hby d1_110)
  obtain ⟨T30, h30, L'30, X30, e30, W30, V30, O30, K30, N30, st30⟩ := own_stR X29 hx hZ e29 V28 O28 K28 N28 (Nat.le_trans (own_old_le O0) g1) (Or.inr (Nat.le_trans (Keep.refl h0 []).1 g1)) (j := (14 : Int32)) 14 (by decide) (Nat.le_of_ble_eq_true rfl) (vs' := [(.ref w5), (.ref w14), (.ref w11), (.ref w0), .null, (.ref w8), (.ref w15), (.ref w10), (.ref w13), (.ref w9), (.ref w7), (.ref w12), (.ref w6), (.ref w4), (.ref w1), .null, .null]) rfl rfl rfl (Or.inr ⟨_, _, rfl, O'1, (Ins.self (hS.2.2.2.2.1.ext O28.2))⟩) (g := (mkF m 113 #[.val (.int (12 : Int32)), .unset] [(.ref w1), (.int (14 : Int32)), (.ref b1), (.ref b1)])) rfl rfl (hb hby d1_113)
  obtain ⟨T31, X31, e31, st31⟩ := getS2 X30 hx hZ hown (host := "") (Or.inl (hw _ m36)) Via.refl e30 (hS.2.2.2.2.2.2.1.ext O30.2) (g := (mkF m 117 #[.val (.int (12 : Int32)), .unset] [(.int (15 : Int32)), (.ref b1), (.ref b1)])) rfl (hb hby d1_117)
  obtain ⟨T32, h32, L'32, X32, e32, W32, V32, O32, K32, N32, st32⟩ := own_stR X31 hx hZ e31 V30 O30 K30 N30 (Nat.le_trans (own_old_le O0) g1) (Or.inr (Nat.le_trans (Keep.refl h0 []).1 g1)) (j := (15 : Int32)) 15 (by decide) (Nat.le_of_ble_eq_true rfl) (vs' := [(.ref w5), (.ref w14), (.ref w11), (.ref w0), .null, (.ref w8), (.ref w15), (.ref w10), (.ref w13), (.ref w9), (.ref w7), (.ref w12), (.ref w6), (.ref w4), (.ref w1), (.ref w2), .null]) rfl rfl rfl (Or.inr ⟨_, _, rfl, O'1, (Ins.self (hS.2.2.2.2.2.2.2.1.ext O30.2))⟩) (g := (mkF m 120 #[.val (.int (12 : Int32)), .unset] [(.ref w2), (.int (15 : Int32)), (.ref b1), (.ref b1)])) rfl rfl (hb hby d1_120)
  obtain ⟨T33, X33, e33, st33⟩ := getS2 X32 hx hZ hown (host := "") (Or.inl (hw _ m38)) Via.refl e32 (hS.2.2.2.2.2.2.2.2.2.1.ext O32.2) (g := (mkF m 124 #[.val (.int (12 : Int32)), .unset] [(.int (16 : Int32)), (.ref b1), (.ref b1)])) rfl (hb hby d1_124)
  obtain ⟨T34, h34, L'34, X34, e34, W34, V34, O34, K34, N34, st34⟩ := own_stR X33 hx hZ e33 V32 O32 K32 N32 (Nat.le_trans (own_old_le O0) g1) (Or.inr (Nat.le_trans (Keep.refl h0 []).1 g1)) (j := (16 : Int32)) 16 (by decide) (Nat.le_of_ble_eq_true rfl) (vs' := [(.ref w5), (.ref w14), (.ref w11), (.ref w0), .null, (.ref w8), (.ref w15), (.ref w10), (.ref w13), (.ref w9), (.ref w7), (.ref w12), (.ref w6), (.ref w4), (.ref w1), (.ref w2), (.ref w3)]) rfl rfl rfl (Or.inr ⟨_, _, rfl, O'1, (Ins.self (hS.2.2.2.2.2.2.2.2.2.2.1.ext O32.2))⟩) (g := (mkF m 127 #[.val (.int (12 : Int32)), .unset] [(.ref w3), (.int (16 : Int32)), (.ref b1), (.ref b1)])) rfl rfl (hb hby d1_127)
  obtain ⟨fs, hr, hrun, hended, hW, hsame⟩ := X34.leave (v := some (.ref w6)) (fun h => by rw [Bd.returns] at h; cases h)
  refine ⟨_, _, pre0 _ ?_, hrun, hended, _, _, rfl, ?_, ⟨_, rfl⟩, hW, hsame.mono (by decide) (by decide)⟩
  · show Steps p.tables e below (s₁.setTop (mkF m 0 #[.val (.int (12 : Int32)), .unset] [])) _
    refine XS.iloadN X0.here hx rfl (hb hby d1_0) rfl ?_
    refine XS.ifNo X0.here hx rfl (hb hby d1_1) rfl ((if0 _ _).trans (flt (by decide : ¬ ((12 : Int32) < (0 : Int32)))).1) ?_
    refine XS.iloadN X0.here hx rfl (hb hby d1_4) rfl ?_
    refine XS.bipush X0.here hx rfl (hb hby d1_5) ?_
    show Steps p.tables e below (s₁.setTop (mkF m 7 #[.val (.int (12 : Int32)), .unset] [(.int (16 : Int32)), (.int (12 : Int32))])) _
    refine XS.icmpYes X0.here hx rfl (pc0 := 7) (pc' := 12) rfl (hb hby d1_7) rfl (flt (by decide : ¬ ((16 : Int32) < (12 : Int32)))).2.2.2 (by decide) (by decide) ?_
    refine XS.bipush X0.here hx rfl (hb hby d1_12) ?_
    refine st1 _ ?_
    refine XS.dup X1.here hx rfl (hb hby d1_17) rfl rfl ?_
    show Steps p.tables e below (T1.setTop (mkF m 18 #[.val (.int (12 : Int32)), .unset] [(.ref b1), (.ref b1)])) _
    refine XS.iconst X1.here hx rfl (hb hby d1_18) ?_
    refine st2 _ ?_
    refine st3 _ ?_
    refine XS.dup X3.here hx rfl (hb hby d1_23) rfl rfl ?_
    show Steps p.tables e below (T3.setTop (mkF m 24 #[.val (.int (12 : Int32)), .unset] [(.ref b1), (.ref b1)])) _
    refine XS.iconst X3.here hx rfl (hb hby d1_24) ?_
    refine st4 _ ?_
    refine st5 _ ?_
    refine XS.dup X5.here hx rfl (hb hby d1_29) rfl rfl ?_
    show Steps p.tables e below (T5.setTop (mkF m 30 #[.val (.int (12 : Int32)), .unset] [(.ref b1), (.ref b1)])) _
    refine XS.iconst X5.here hx rfl (hb hby d1_30) ?_
    refine st6 _ ?_
    refine st7 _ ?_
    refine XS.dup X7.here hx rfl (hb hby d1_35) rfl rfl ?_
    show Steps p.tables e below (T7.setTop (mkF m 36 #[.val (.int (12 : Int32)), .unset] [(.ref b1), (.ref b1)])) _
    refine XS.iconst X7.here hx rfl (hb hby d1_36) ?_
    refine st8 _ ?_
    refine st9 _ ?_
    refine XS.dup X9.here hx rfl (hb hby d1_41) rfl rfl ?_
    show Steps p.tables e below (T9.setTop (mkF m 42 #[.val (.int (12 : Int32)), .unset] [(.ref b1), (.ref b1)])) _
    refine XS.iconst X9.here hx rfl (hb hby d1_42) ?_
    refine XS.aconstNull X9.here hx rfl (hb hby d1_43) ?_
    refine st10 _ ?_
    refine XS.dup X10.here hx rfl (hb hby d1_45) rfl rfl ?_
    show Steps p.tables e below (T10.setTop (mkF m 46 #[.val (.int (12 : Int32)), .unset] [(.ref b1), (.ref b1)])) _
    refine XS.iconst X10.here hx rfl (hb hby d1_46) ?_
    refine st11 _ ?_
    refine st12 _ ?_
    refine XS.dup X12.here hx rfl (hb hby d1_51) rfl rfl ?_
    show Steps p.tables e below (T12.setTop (mkF m 52 #[.val (.int (12 : Int32)), .unset] [(.ref b1), (.ref b1)])) _
    refine XS.bipush X12.here hx rfl (hb hby d1_52) ?_
    refine st13 _ ?_
    refine st14 _ ?_
    refine XS.dup X14.here hx rfl (hb hby d1_58) rfl rfl ?_
    show Steps p.tables e below (T14.setTop (mkF m 59 #[.val (.int (12 : Int32)), .unset] [(.ref b1), (.ref b1)])) _
    refine XS.bipush X14.here hx rfl (hb hby d1_59) ?_
    refine st15 _ ?_
    refine st16 _ ?_
    refine XS.dup X16.here hx rfl (hb hby d1_65) rfl rfl ?_
    show Steps p.tables e below (T16.setTop (mkF m 66 #[.val (.int (12 : Int32)), .unset] [(.ref b1), (.ref b1)])) _
    refine XS.bipush X16.here hx rfl (hb hby d1_66) ?_
    refine st17 _ ?_
    refine st18 _ ?_
    refine XS.dup X18.here hx rfl (hb hby d1_72) rfl rfl ?_
    show Steps p.tables e below (T18.setTop (mkF m 73 #[.val (.int (12 : Int32)), .unset] [(.ref b1), (.ref b1)])) _
    refine XS.bipush X18.here hx rfl (hb hby d1_73) ?_
    refine st19 _ ?_
    refine st20 _ ?_
    refine XS.dup X20.here hx rfl (hb hby d1_79) rfl rfl ?_
    show Steps p.tables e below (T20.setTop (mkF m 80 #[.val (.int (12 : Int32)), .unset] [(.ref b1), (.ref b1)])) _
    refine XS.bipush X20.here hx rfl (hb hby d1_80) ?_
    refine st21 _ ?_
    refine st22 _ ?_
    refine XS.dup X22.here hx rfl (hb hby d1_86) rfl rfl ?_
    show Steps p.tables e below (T22.setTop (mkF m 87 #[.val (.int (12 : Int32)), .unset] [(.ref b1), (.ref b1)])) _
    refine XS.bipush X22.here hx rfl (hb hby d1_87) ?_
    refine st23 _ ?_
    refine st24 _ ?_
    refine XS.dup X24.here hx rfl (hb hby d1_93) rfl rfl ?_
    show Steps p.tables e below (T24.setTop (mkF m 94 #[.val (.int (12 : Int32)), .unset] [(.ref b1), (.ref b1)])) _
    refine XS.bipush X24.here hx rfl (hb hby d1_94) ?_
    refine st25 _ ?_
    refine st26 _ ?_
    refine XS.dup X26.here hx rfl (hb hby d1_100) rfl rfl ?_
    show Steps p.tables e below (T26.setTop (mkF m 101 #[.val (.int (12 : Int32)), .unset] [(.ref b1), (.ref b1)])) _
    refine XS.bipush X26.here hx rfl (hb hby d1_101) ?_
    refine st27 _ ?_
    refine st28 _ ?_
    refine XS.dup X28.here hx rfl (hb hby d1_107) rfl rfl ?_
    show Steps p.tables e below (T28.setTop (mkF m 108 #[.val (.int (12 : Int32)), .unset] [(.ref b1), (.ref b1)])) _
    refine XS.bipush X28.here hx rfl (hb hby d1_108) ?_
    refine st29 _ ?_
    refine st30 _ ?_
    refine XS.dup X30.here hx rfl (hb hby d1_114) rfl rfl ?_
    show Steps p.tables e below (T30.setTop (mkF m 115 #[.val (.int (12 : Int32)), .unset] [(.ref b1), (.ref b1)])) _
    refine XS.bipush X30.here hx rfl (hb hby d1_115) ?_
    refine st31 _ ?_
    refine st32 _ ?_
    refine XS.dup X32.here hx rfl (hb hby d1_121) rfl rfl ?_
    show Steps p.tables e below (T32.setTop (mkF m 122 #[.val (.int (12 : Int32)), .unset] [(.ref b1), (.ref b1)])) _
    refine XS.bipush X32.here hx rfl (hb hby d1_122) ?_
    refine st33 _ ?_
    refine st34 _ ?_
    refine XS.astoreN X34.here hx rfl (hb hby d1_128) rfl rfl (l' := #[.val (.int (12 : Int32)), .val (.ref b1)]) rfl ?_
    show Steps p.tables e below (T34.setTop (mkF m 129 #[.val (.int (12 : Int32)), .val (.ref b1)] [])) _
    refine XS.aloadN X34.here hx rfl (hb hby d1_129) rfl rfl ?_
    refine XS.iloadN X34.here hx rfl (hb hby d1_130) rfl ?_
    refine own_aaload X34 hx hZ e34 V34 (j := (12 : Int32)) (by decide) (v := (.ref w6)) rfl rfl (g := (mkF m 131 #[.val (.int (12 : Int32)), .val (.ref b1)] [(.int (12 : Int32)), (.ref b1)])) rfl rfl (hb hby d1_131) ?_
    exact retOut X34 hx Bd.returns rfl (Or.inr (Or.inr (Or.inr (Or.inr ⟨rfl, rfl, rfl⟩)))) (hb hby d1_132) hr
  · show Qrm38 Z w0 w1 w2 w3 w4 w5 w6 w7 w8 w9 w10 w11 w12 w13 w14 w15 w16 kw16 h0 n0 _ T34.heap _
    rw [e34]
    exact ⟨rfl, N34, K34⟩
def Qrm39 (Z : State) (w0 : Addr) (w1 : Addr) (w2 : Addr) (w3 : Addr) (w4 : Addr) (w5 : Addr) (w6 : Addr) (w7 : Addr) (w8 : Addr) (w9 : Addr) (w10 : Addr) (w11 : Addr) (w12 : Addr) (w13 : Addr) (w14 : Addr) (w15 : Addr) (w16 : Addr) (kw16 : ClassId) (h0 : Heap) (n0 : Nat) (v : Option Value) (h : Heap) (L : List Loc) : Prop := v = some (.ref w6) ∧ Fr n0 L ∧ h = h0
set_option maxRecDepth 65536 in
set_option maxHeartbeats 40000000 in
theorem rm39 (l : Launch) (Z : State) (a0 : Array Value) (hw : ∀ d ∈ tables_1, d.before a0 Z = true) (w0 : Addr) (w1 : Addr) (w2 : Addr) (w3 : Addr) (w4 : Addr) (w5 : Addr) (w6 : Addr) (w7 : Addr) (w8 : Addr) (w9 : Addr) (w10 : Addr) (w11 : Addr) (w12 : Addr) (w13 : Addr) (w14 : Addr) (w15 : Addr) (w16 : Addr) (kw16 : ClassId) (hS : SF Z w0 w1 w2 w3 w4 w5 w6 w7 w8 w9 w10 w11 w12 w13 w14 w15 w16 kw16) (ws : List Jvm.Cond) (h0 : Heap) (n0 : Nat) (O0 : Old Z n0 h0) :
    MetFree l (⟨z0, "of", z2⟩ : MethodName) (head1 (Jvm.Cond.code (⟨z0, "of", z2⟩ : MethodName) prog_90_method_5_code 1 (some (.object z0)) :: ws) ({ frames := 0, cells := 0, slots := 0, locals := 0 } : Room)) (fun a U => a = #[(.int (12 : Int32))] ∧ Z.Warmed39 U.vm ∧ U.heap = h0) (fun _ _ _ _ _ => True) (fun _ U o U' => ∃ v L, o = .returned v ∧ Qrm39 Z w0 w1 w2 w3 w4 w5 w6 w7 w8 w9 w10 w11 w12 w13 w14 w15 w16 kw16 h0 n0 v U'.heap L ∧ FrameEnd U o U' L ({ frames := 0, cells := 0, slots := 0, locals := 0 } : Room).cells ({ frames := 0, cells := 0, slots := 0, locals := 0 } : Room).slots) := by
  refine MetFree.of_bodySF (plainFor_of_name pn18) hisR ?_
  intro p e s m args below meth c s₁ Bd hml0 hP hK
  obtain ⟨rfl, hZ, hh⟩ := hP
  have hx := Bd.exec
  have hby := Bd.bytes
  have hml : c.maxLocals = 1 := hml0
  have hown : s.vm.findClass z0 = some m.cls := findClass_of_methodNamed Bd.named
  have hnm := (name_of_methodNamed Bd.named Bd.method).1
  have X0 : Stand p l e ({ frames := 0, cells := 0, slots := 0, locals := 0 } : Room) s m #[(.int (12 : Int32))] below meth c s₁ [] 0 0 := Stand.of_body Bd
  have e0 : s₁.heap = h0 := by rw [← hh, Bd.state]; rfl
  have N0 := Fr.nil n0
  have pre0 : ∀ t, Steps p.tables e below (s₁.setTop (mkF m 0 #[.val (.int (12 : Int32))] [])) t → Steps p.tables e below (s₁.setTop (entryFrame m #[(.int (12 : Int32))] 1)) t := fun t k => castTop (ef17 m (12 : Int32)) k
  obtain ⟨T1, X1, e1, st1⟩ := getS2 X0 hx hZ hown (host := "") (Or.inl (hw _ m43)) Via.refl e0 (hS.2.2.2.2.2.2.2.2.2.2.2.2.2.2.2.2.2.2.2.2.2.2.2.2.2.2.2.2.2.2.2.2.2.2.2.2.2.2.2.2.2.2.2.2.2.2.2.2.1.ext O0.2) (g := (mkF m 5 #[.val (.int (12 : Int32))] [(.int (12 : Int32))])) rfl (hb hby d2_5)
  obtain ⟨T2, X2, e2, st2⟩ := getS2 X1 hx hZ hown (host := "") (Or.inl (hw _ m43)) Via.refl e1 (hS.2.2.2.2.2.2.2.2.2.2.2.2.2.2.2.2.2.2.2.2.2.2.2.2.2.2.2.2.2.2.2.2.2.2.2.2.2.2.2.2.2.2.2.2.2.2.2.2.1.ext O0.2) (g := (mkF m 12 #[.val (.int (12 : Int32))] [])) rfl (hb hby d2_12)
  obtain ⟨fs, hr, hrun, hended, hW, hsame⟩ := X2.leave (v := some (.ref w6)) (fun h => by rw [Bd.returns] at h; cases h)
  refine ⟨_, _, pre0 _ ?_, hrun, hended, _, _, rfl, ?_, ⟨_, rfl⟩, hW, hsame.mono (by decide) (by decide)⟩
  · show Steps p.tables e below (s₁.setTop (mkF m 0 #[.val (.int (12 : Int32))] [])) _
    refine XS.iloadN X0.here hx rfl (hb hby d2_0) rfl ?_
    refine XS.ifNo X0.here hx rfl (hb hby d2_1) rfl ((if0 _ _).trans (flt (by decide : ¬ ((12 : Int32) < (0 : Int32)))).1) ?_
    refine XS.iloadN X0.here hx rfl (hb hby d2_4) rfl ?_
    refine st1 _ ?_
    show Steps p.tables e below (T1.setTop (mkF m 8 #[.val (.int (12 : Int32))] [(.ref w16), (.int (12 : Int32))])) _
    refine own_alen X1 hx hZ e1 (hS.2.2.2.2.2.2.2.2.2.2.2.2.2.2.2.2.2.2.2.2.2.2.2.2.2.2.2.2.2.2.2.2.2.2.2.2.2.2.2.2.2.2.2.2.2.2.2.2.2.ext O0.2) (g := (mkF m 8 #[.val (.int (12 : Int32))] [(.ref w16), (.int (12 : Int32))])) rfl rfl (hb hby d2_8) ?_
    refine XS.icmpNo X1.here hx rfl (hb hby d2_9) rfl (tlt (by decide : (12 : Int32) < (17 : Int32))).2.1 ?_
    refine st2 _ ?_
    refine XS.iloadN X2.here hx rfl (hb hby d2_15) rfl ?_
    show Steps p.tables e below (T2.setTop (mkF m 16 #[.val (.int (12 : Int32))] [(.int (12 : Int32)), (.ref w16)])) _
    refine own_aaload X2 hx hZ e2 (hS.2.2.2.2.2.2.2.2.2.2.2.2.2.2.2.2.2.2.2.2.2.2.2.2.2.2.2.2.2.2.2.2.2.2.2.2.2.2.2.2.2.2.2.2.2.2.2.2.2.ext O0.2) (j := (12 : Int32)) (by decide) (v := (.ref w6)) rfl rfl (g := (mkF m 16 #[.val (.int (12 : Int32))] [(.int (12 : Int32)), (.ref w16)])) rfl rfl (hb hby d2_16) ?_
    refine XS.goto X2.here hx rfl (pc0 := 17) (pc' := 21) rfl (hb hby d2_17) (by decide) (by decide) ?_
    exact retOut X2 hx Bd.returns rfl (Or.inr (Or.inr (Or.inr (Or.inr ⟨rfl, rfl, rfl⟩)))) (hb hby d2_21) hr
  · show Qrm39 Z w0 w1 w2 w3 w4 w5 w6 w7 w8 w9 w10 w11 w12 w13 w14 w15 w16 kw16 h0 n0 _ T2.heap _
    rw [e2]
    exact ⟨rfl, N0, rfl⟩
def Qrm40 (Z : State) (w0 : Addr) (w1 : Addr) (w2 : Addr) (w3 : Addr) (w4 : Addr) (w5 : Addr) (w6 : Addr) (w7 : Addr) (w8 : Addr) (w9 : Addr) (w10 : Addr) (w11 : Addr) (w12 : Addr) (w13 : Addr) (w14 : Addr) (w15 : Addr) (w16 : Addr) (kw16 : ClassId) (h0 : Heap) (n0 : Nat) (v : Option Value) (h : Heap) (L : List Loc) : Prop := v = some (.int (12 : Int32)) ∧ Fr n0 L ∧ h = h0
set_option maxRecDepth 65536 in
set_option maxHeartbeats 40000000 in
theorem rm40 (l : Launch) (Z : State) (a0 : Array Value) (hw : ∀ d ∈ tables_1, d.before a0 Z = true) (w0 : Addr) (w1 : Addr) (w2 : Addr) (w3 : Addr) (w4 : Addr) (w5 : Addr) (w6 : Addr) (w7 : Addr) (w8 : Addr) (w9 : Addr) (w10 : Addr) (w11 : Addr) (w12 : Addr) (w13 : Addr) (w14 : Addr) (w15 : Addr) (w16 : Addr) (kw16 : ClassId) (hS : SF Z w0 w1 w2 w3 w4 w5 w6 w7 w8 w9 w10 w11 w12 w13 w14 w15 w16 kw16) (ws : List Jvm.Cond) (h0 : Heap) (n0 : Nat) (O0 : Old Z n0 h0) :
    MetFree l (⟨z0, "code", "()I"⟩ : MethodName) (head1 (Jvm.Cond.code (⟨z0, "code", "()I"⟩ : MethodName) prog_90_method_4_code 1 (some .int) :: ws) ({ frames := 0, cells := 0, slots := 0, locals := 0 } : Room)) (fun a U => a = #[(.ref w6)] ∧ Z.Warmed39 U.vm ∧ U.heap = h0) (fun _ _ _ _ _ => True) (fun _ U o U' => ∃ v L, o = .returned v ∧ Qrm40 Z w0 w1 w2 w3 w4 w5 w6 w7 w8 w9 w10 w11 w12 w13 w14 w15 w16 kw16 h0 n0 v U'.heap L ∧ FrameEnd U o U' L ({ frames := 0, cells := 0, slots := 0, locals := 0 } : Room).cells ({ frames := 0, cells := 0, slots := 0, locals := 0 } : Room).slots) := by
  refine MetFree.of_bodySF (plainFor_of_name pn18) hisR ?_
  intro p e s m args below meth c s₁ Bd hml0 hP hK
  obtain ⟨rfl, hZ, hh⟩ := hP
  have hx := Bd.exec
  have hby := Bd.bytes
  have hml : c.maxLocals = 1 := hml0
  have hown : s.vm.findClass z0 = some m.cls := findClass_of_methodNamed Bd.named
  have hnm := (name_of_methodNamed Bd.named Bd.method).1
  have X0 : Stand p l e ({ frames := 0, cells := 0, slots := 0, locals := 0 } : Room) s m #[(.ref w6)] below meth c s₁ [] 0 0 := Stand.of_body Bd
  have e0 : s₁.heap = h0 := by rw [← hh, Bd.state]; rfl
  have N0 := Fr.nil n0
  have pre0 : ∀ t, Steps p.tables e below (s₁.setTop (mkF m 0 #[.val (.ref w6)] [])) t → Steps p.tables e below (s₁.setTop (entryFrame m #[(.ref w6)] 1)) t := fun t k => castTop (ef135 m w6) k
  obtain ⟨T1, X1, e1, st1⟩ := getF X0 hx hZ hown (host := "") (Or.inl (hw _ m50)) Via.refl e0 (hS.2.2.2.2.2.2.2.2.2.2.2.2.2.2.2.2.2.2.2.2.1.ext O0.2) (g := (mkF m 1 #[.val (.ref w6)] [(.ref w6)])) rfl rfl (hb hby d3_1)
  obtain ⟨fs, hr, hrun, hended, hW, hsame⟩ := X1.leave (v := some (.int (12 : Int32))) (fun h => by rw [Bd.returns] at h; cases h)
  refine ⟨_, _, pre0 _ ?_, hrun, hended, _, _, rfl, ?_, ⟨_, rfl⟩, hW, hsame.mono (by decide) (by decide)⟩
  · show Steps p.tables e below (s₁.setTop (mkF m 0 #[.val (.ref w6)] [])) _
    refine XS.aloadN X0.here hx rfl (hb hby d3_0) rfl rfl ?_
    refine st1 _ ?_
    exact retOut X1 hx Bd.returns rfl (Or.inl ⟨rfl, Or.inl rfl, _, rfl⟩) (hb hby d3_4) hr
  · show Qrm40 Z w0 w1 w2 w3 w4 w5 w6 w7 w8 w9 w10 w11 w12 w13 w14 w15 w16 kw16 h0 n0 _ T1.heap _
    rw [e1]
    exact ⟨rfl, N0, rfl⟩
def Qrm41 (Z : State) (w0 : Addr) (w1 : Addr) (w2 : Addr) (w3 : Addr) (w4 : Addr) (w5 : Addr) (w6 : Addr) (w7 : Addr) (w8 : Addr) (w9 : Addr) (w10 : Addr) (w11 : Addr) (w12 : Addr) (w13 : Addr) (w14 : Addr) (w15 : Addr) (w16 : Addr) (kw16 : ClassId) (h0 : Heap) (n0 : Nat) (v : Option Value) (h : Heap) (L : List Loc) : Prop := v = some (.ref w4) ∧ Fr n0 L ∧ Keep h0 h []
set_option maxRecDepth 65536 in
set_option maxHeartbeats 40000000 in
theorem rm41 (l : Launch) (Z : State) (a0 : Array Value) (hw : ∀ d ∈ tables_1, d.before a0 Z = true) (w0 : Addr) (w1 : Addr) (w2 : Addr) (w3 : Addr) (w4 : Addr) (w5 : Addr) (w6 : Addr) (w7 : Addr) (w8 : Addr) (w9 : Addr) (w10 : Addr) (w11 : Addr) (w12 : Addr) (w13 : Addr) (w14 : Addr) (w15 : Addr) (w16 : Addr) (kw16 : ClassId) (hS : SF Z w0 w1 w2 w3 w4 w5 w6 w7 w8 w9 w10 w11 w12 w13 w14 w15 w16 kw16) (ws : List Jvm.Cond) (h0 : Heap) (n0 : Nat) (O0 : Old Z n0 h0) :
    MetFree l (⟨z1, "expected", z2⟩ : MethodName) (head1 (Jvm.Cond.code (⟨z1, "expected", z2⟩ : MethodName) method_3_code 2 (some (.object z0)) :: ws) ({ frames := 0, cells := 1, slots := 17, locals := 0 } : Room)) (fun a U => a = #[(.int (13 : Int32))] ∧ Z.Warmed39 U.vm ∧ U.heap = h0) (fun _ _ _ _ _ => True) (fun _ U o U' => ∃ v L, o = .returned v ∧ Qrm41 Z w0 w1 w2 w3 w4 w5 w6 w7 w8 w9 w10 w11 w12 w13 w14 w15 w16 kw16 h0 n0 v U'.heap L ∧ FrameEnd U o U' L ({ frames := 0, cells := 1, slots := 17, locals := 0 } : Room).cells ({ frames := 0, cells := 1, slots := 17, locals := 0 } : Room).slots) := by
  refine MetFree.of_bodySF (plainFor_of_name pn7) hisR ?_
  intro p e s m args below meth c s₁ Bd hml0 hP hK
  obtain ⟨rfl, hZ, hh⟩ := hP
  have hx := Bd.exec
  have hby := Bd.bytes
  have hml : c.maxLocals = 2 := hml0
  have hown : s.vm.findClass z1 = some m.cls := findClass_of_methodNamed Bd.named
  have hnm := (name_of_methodNamed Bd.named Bd.method).1
  have X0 : Stand p l e ({ frames := 0, cells := 1, slots := 17, locals := 0 } : Room) s m #[(.int (13 : Int32))] below meth c s₁ [] 0 0 := Stand.of_body Bd
  have e0 : s₁.heap = h0 := by rw [← hh, Bd.state]; rfl
  have N0 := Fr.nil n0
  have pre0 : ∀ t, Steps p.tables e below (s₁.setTop (mkF m 0 #[.val (.int (13 : Int32)), .unset] [])) t → Steps p.tables e below (s₁.setTop (entryFrame m #[(.int (13 : Int32))] 2)) t := fun t k => castTop (ef6 m (13 : Int32)) k
  obtain ⟨T1, h1, k1, b1, X1, e1, E1, V1, O'1, g1, O1, K1, st1⟩ := own_newR X0 hx hZ (vs := [.null, .null, .null, .null, .null, .null, .null, .null, .null, .null, .null, .null, .null, .null, .null, .null, .null]) (cap := 17) rfl hown (hw _ m4) (hw _ m5) e0 O0 (Keep.refl h0 []) (g := (mkF m 14 #[.val (.int (13 : Int32)), .unset] [(.int (17 : Int32))])) rfl (hb hby d1_14) rfl (by decide) (by decide) (by decide) (by decide) (by decide)
  obtain ⟨T2, X2, e2, st2⟩ := getS2 X1 hx hZ hown (host := "") (Or.inl (hw _ m6)) Via.refl e1 (hS.2.2.2.2.2.2.2.2.2.2.2.2.2.2.2.1.ext O1.2) (g := (mkF m 19 #[.val (.int (13 : Int32)), .unset] [(.int (0 : Int32)), (.ref b1), (.ref b1)])) rfl (hb hby d1_19)
  obtain ⟨T3, h3, L'3, X3, e3, W3, V3, O3, K3, N3, st3⟩ := own_stR X2 hx hZ e2 V1 O1 K1 N0 (Nat.le_trans (own_old_le O0) g1) (Or.inr (Nat.le_trans (Keep.refl h0 []).1 g1)) (j := (0 : Int32)) 0 (by decide) (Nat.le_of_ble_eq_true rfl) (vs' := [(.ref w5), .null, .null, .null, .null, .null, .null, .null, .null, .null, .null, .null, .null, .null, .null, .null, .null]) rfl rfl rfl (Or.inr ⟨_, _, rfl, O'1, (Ins.self (hS.2.2.2.2.2.2.2.2.2.2.2.2.2.2.2.2.1.ext O1.2))⟩) (g := (mkF m 22 #[.val (.int (13 : Int32)), .unset] [(.ref w5), (.int (0 : Int32)), (.ref b1), (.ref b1)])) rfl rfl (hb hby d1_22)
  obtain ⟨T4, X4, e4, st4⟩ := getS2 X3 hx hZ hown (host := "") (Or.inl (hw _ m10)) Via.refl e3 (hS.2.2.2.2.2.2.2.2.2.2.2.2.2.2.2.2.2.2.2.2.2.2.2.2.2.2.2.2.2.2.2.2.2.2.2.2.2.2.2.2.2.2.1.ext O3.2) (g := (mkF m 25 #[.val (.int (13 : Int32)), .unset] [(.int (1 : Int32)), (.ref b1), (.ref b1)])) rfl (hb hby d1_25)
  obtain ⟨T5, h5, L'5, X5, e5, W5, V5, O5, K5, N5, st5⟩ := own_stR X4 hx hZ e4 V3 O3 K3 N3 (Nat.le_trans (own_old_le O0) g1) (Or.inr (Nat.le_trans (Keep.refl h0 []).1 g1)) (j := (1 : Int32)) 1 (by decide) (Nat.le_of_ble_eq_true rfl) (vs' := [(.ref w5), (.ref w14), .null, .null, .null, .null, .null, .null, .null, .null, .null, .null, .null, .null, .null, .null, .null]) rfl rfl rfl (Or.inr ⟨_, _, rfl, O'1, (Ins.self (hS.2.2.2.2.2.2.2.2.2.2.2.2.2.2.2.2.2.2.2.2.2.2.2.2.2.2.2.2.2.2.2.2.2.2.2.2.2.2.2.2.2.2.2.1.ext O3.2))⟩) (g := (mkF m 28 #[.val (.int (13 : Int32)), .unset] [(.ref w14), (.int (1 : Int32)), (.ref b1), (.ref b1)])) rfl rfl (hb hby d1_28)
  obtain ⟨T6, X6, e6, st6⟩ := getS2 X5 hx hZ hown (host := "") (Or.inl (hw _ m12)) Via.refl e5 (hS.2.2.2.2.2.2.2.2.2.2.2.2.2.2.2.2.2.2.2.2.2.2.2.2.2.2.2.2.2.2.2.2.2.1.ext O5.2) (g := (mkF m 31 #[.val (.int (13 : Int32)), .unset] [(.int (2 : Int32)), (.ref b1), (.ref b1)])) rfl (hb hby d1_31)
  obtain ⟨T7, h7, L'7, X7, e7, W7, V7, O7, K7, N7, st7⟩ := own_stR X6 hx hZ e6 V5 O5 K5 N5 (Nat.le_trans (own_old_le O0) g1) (Or.inr (Nat.le_trans (Keep.refl h0 []).1 g1)) (j := (2 : Int32)) 2 (by decide) (Nat.le_of_ble_eq_true rfl) (vs' := [(.ref w5), (.ref w14), (.ref w11), .null, .null, .null, .null, .null, .null, .null, .null, .null, .null, .null, .null, .null, .null]) rfl rfl rfl (Or.inr ⟨_, _, rfl, O'1, (Ins.self (hS.2.2.2.2.2.2.2.2.2.2.2.2.2.2.2.2.2.2.2.2.2.2.2.2.2.2.2.2.2.2.2.2.2.2.1.ext O5.2))⟩) (g := (mkF m 34 #[.val (.int (13 : Int32)), .unset] [(.ref w11), (.int (2 : Int32)), (.ref b1), (.ref b1)])) rfl rfl (hb hby d1_34)
  obtain ⟨T8, X8, e8, st8⟩ := getS2 X7 hx hZ hown (host := "") (Or.inl (hw _ m14)) Via.refl e7 (hS.1.ext O7.2) (g := (mkF m 37 #[.val (.int (13 : Int32)), .unset] [(.int (3 : Int32)), (.ref b1), (.ref b1)])) rfl (hb hby d1_37)
  obtain ⟨T9, h9, L'9, X9, e9, W9, V9, O9, K9, N9, st9⟩ := own_stR X8 hx hZ e8 V7 O7 K7 N7 (Nat.le_trans (own_old_le O0) g1) (Or.inr (Nat.le_trans (Keep.refl h0 []).1 g1)) (j := (3 : Int32)) 3 (by decide) (Nat.le_of_ble_eq_true rfl) (vs' := [(.ref w5), (.ref w14), (.ref w11), (.ref w0), .null, .null, .null, .null, .null, .null, .null, .null, .null, .null, .null, .null, .null]) rfl rfl rfl (Or.inr ⟨_, _, rfl, O'1, (Ins.self (hS.2.1.ext O7.2))⟩) (g := (mkF m 40 #[.val (.int (13 : Int32)), .unset] [(.ref w0), (.int (3 : Int32)), (.ref b1), (.ref b1)])) rfl rfl (hb hby d1_40)
  obtain ⟨T10, h10, L'10, X10, e10, W10, V10, O10, K10, N10, st10⟩ := own_stR X9 hx hZ e9 V9 O9 K9 N9 (Nat.le_trans (own_old_le O0) g1) (Or.inr (Nat.le_trans (Keep.refl h0 []).1 g1)) (j := (4 : Int32)) 4 (by decide) (Nat.le_of_ble_eq_true rfl) (vs' := [(.ref w5), (.ref w14), (.ref w11), (.ref w0), .null, .null, .null, .null, .null, .null, .null, .null, .null, .null, .null, .null, .null]) rfl rfl rfl (Or.inl rfl) (g := (mkF m 44 #[.val (.int (13 : Int32)), .unset] [.null, (.int (4 : Int32)), (.ref b1), (.ref b1)])) rfl rfl (hb hby d1_44)
  obtain ⟨T11, X11, e11, st11⟩ := getS2 X10 hx hZ hown (host := "") (Or.inl (hw _ m16)) Via.refl e10 (hS.2.2.2.2.2.2.2.2.2.2.2.2.2.2.2.2.2.2.2.2.2.2.2.2.1.ext O10.2) (g := (mkF m 47 #[.val (.int (13 : Int32)), .unset] [(.int (5 : Int32)), (.ref b1), (.ref b1)])) rfl (hb hby d1_47)
  obtain ⟨T12, h12, L'12, X12, e12, W12, V12, O12, K12, N12, st12⟩ := own_stR X11 hx hZ e11 V10 O10 K10 N10 (Nat.le_trans (own_old_le O0) g1) (Or.inr (Nat.le_trans (Keep.refl h0 []).1 g1)) (j := (5 : Int32)) 5 (by decide) (Nat.le_of_ble_eq_true rfl) (vs' := [(.ref w5), (.ref w14), (.ref w11), (.ref w0), .null, (.ref w8), .null, .null, .null, .null, .null, .null, .null, .null, .null, .null, .null]) rfl rfl rfl (Or.inr ⟨_, _, rfl, O'1, (Ins.self (hS.2.2.2.2.2.2.2.2.2.2.2.2.2.2.2.2.2.2.2.2.2.2.2.2.2.1.ext O10.2))⟩) (g := (mkF m 50 #[.val (.int (13 : Int32)), .unset] [(.ref w8), (.int (5 : Int32)), (.ref b1), (.ref b1)])) rfl rfl (hb hby d1_50)
  obtain ⟨T13, X13, e13, st13⟩ := getS2 X12 hx hZ hown (host := "") (Or.inl (hw _ m18)) Via.refl e12 (hS.2.2.2.2.2.2.2.2.2.2.2.2.2.2.2.2.2.2.2.2.2.2.2.2.2.2.2.2.2.2.2.2.2.2.2.2.2.2.2.2.2.2.2.2.2.1.ext O12.2) (g := (mkF m 54 #[.val (.int (13 : Int32)), .unset] [(.int (6 : Int32)), (.ref b1), (.ref b1)])) rfl (hb hby d1_54)
  obtain ⟨T14, h14, L'14, X14, e14, W14, V14, O14, K14, N14, st14⟩ := own_stR X13 hx hZ e13 V12 O12 K12 N12 (Nat.le_trans (own_old_le O0) g1) (Or.inr (Nat.le_trans (Keep.refl h0 []).1 g1)) (j := (6 : Int32)) 6 (by decide) (Nat.le_of_ble_eq_true rfl) (vs' := [(.ref w5), (.ref w14), (.ref w11), (.ref w0), .null, (.ref w8), (.ref w15), .null, .null, .null, .null, .null, .null, .null, .null, .null, .null]) rfl rfl rfl (Or.inr ⟨_, _, rfl, O'1, (Ins.self (hS.2.2.2.2.2.2.2.2.2.2.2.2.2.2.2.2.2.2.2.2.2.2.2.2.2.2.2.2.2.2.2.2.2.2.2.2.2.2.2.2.2.2.2.2.2.2.1.ext O12.2))⟩) (g := (mkF m 57 #[.val (.int (13 : Int32)), .unset] [(.ref w15), (.int (6 : Int32)), (.ref b1), (.ref b1)])) rfl rfl (hb hby d1_57)
  obtain ⟨T15, X15, e15, st15⟩ := getS2 X14 hx hZ hown (host := "") (Or.inl (hw _ m20)) Via.refl e14 (hS.2.2.2.2.2.2.2.2.2.2.2.2.2.2.2.2.2.2.2.2.2.2.2.2.2.2.2.2.2.2.1.ext O14.2) (g := (mkF m 61 #[.val (.int (13 : Int32)), .unset] [(.int (7 : Int32)), (.ref b1), (.ref b1)])) rfl (hb hby d1_61)
  obtain ⟨T16, h16, L'16, X16, e16, W16, V16, O16, K16, N16, st16⟩ := own_stR X15 hx hZ e15 V14 O14 K14 N14 (Nat.le_trans (own_old_le O0) g1) (Or.inr (Nat.le_trans (Keep.refl h0 []).1 g1)) (j := (7 : Int32)) 7 (by decide) (Nat.le_of_ble_eq_true rfl) (vs' := [(.ref w5), (.ref w14), (.ref w11), (.ref w0), .null, (.ref w8), (.ref w15), (.ref w10), .null, .null, .null, .null, .null, .null, .null, .null, .null]) rfl rfl rfl (Or.inr ⟨_, _, rfl, O'1, (Ins.self (hS.2.2.2.2.2.2.2.2.2.2.2.2.2.2.2.2.2.2.2.2.2.2.2.2.2.2.2.2.2.2.2.1.ext O14.2))⟩) (g := (mkF m 64 #[.val (.int (13 : Int32)), .unset] [(.ref w10), (.int (7 : Int32)), (.ref b1), (.ref b1)])) rfl rfl (hb hby d1_64)
  obtain ⟨T17, X17, e17, st17⟩ := getS2 X16 hx hZ hown (host := "") (Or.inl (hw _ m22)) Via.refl e16 (hS.2.2.2.2.2.2.2.2.2.2.2.2.2.2.2.2.2.2.2.2.2.2.2.2.2.2.2.2.2.2.2.2.2.2.2.2.2.2.2.1.ext O16.2) (g := (mkF m 68 #[.val (.int (13 : Int32)), .unset] [(.int (8 : Int32)), (.ref b1), (.ref b1)])) rfl (hb hby d1_68)
  obtain ⟨T18, h18, L'18, X18, e18, W18, V18, O18, K18, N18, st18⟩ := own_stR X17 hx hZ e17 V16 O16 K16 N16 (Nat.le_trans (own_old_le O0) g1) (Or.inr (Nat.le_trans (Keep.refl h0 []).1 g1)) (j := (8 : Int32)) 8 (by decide) (Nat.le_of_ble_eq_true rfl) (vs' := [(.ref w5), (.ref w14), (.ref w11), (.ref w0), .null, (.ref w8), (.ref w15), (.ref w10), (.ref w13), .null, .null, .null, .null, .null, .null, .null, .null]) rfl rfl rfl (Or.inr ⟨_, _, rfl, O'1, (Ins.self (hS.2.2.2.2.2.2.2.2.2.2.2.2.2.2.2.2.2.2.2.2.2.2.2.2.2.2.2.2.2.2.2.2.2.2.2.2.2.2.2.2.1.ext O16.2))⟩) (g := (mkF m 71 #[.val (.int (13 : Int32)), .unset] [(.ref w13), (.int (8 : Int32)), (.ref b1), (.ref b1)])) rfl rfl (hb hby d1_71)
  obtain ⟨T19, X19, e19, st19⟩ := getS2 X18 hx hZ hown (host := "") (Or.inl (hw _ m24)) Via.refl e18 (hS.2.2.2.2.2.2.2.2.2.2.2.2.2.2.2.2.2.2.2.2.2.2.2.2.2.2.2.1.ext O18.2) (g := (mkF m 75 #[.val (.int (13 : Int32)), .unset] [(.int (9 : Int32)), (.ref b1), (.ref b1)])) rfl (hb hby d1_75)
  obtain ⟨T20, h20, L'20, X20, e20, W20, V20, O20, K20, N20, st20⟩ := own_stR X19 hx hZ e19 V18 O18 K18 N18 (Nat.le_trans (own_old_le O0) g1) (Or.inr (Nat.le_trans (Keep.refl h0 []).1 g1)) (j := (9 : Int32)) 9 (by decide) (Nat.le_of_ble_eq_true rfl) (vs' := [(.ref w5), (.ref w14), (.ref w11), (.ref w0), .null, (.ref w8), (.ref w15), (.ref w10), (.ref w13), (.ref w9), .null, .null, .null, .null, .null, .null, .null]) rfl rfl rfl (Or.inr ⟨_, _, rfl, O'1, (Ins.self (hS.2.2.2.2.2.2.2.2.2.2.2.2.2.2.2.2.2.2.2.2.2.2.2.2.2.2.2.2.1.ext O18.2))⟩) (g := (mkF m 78 #[.val (.int (13 : Int32)), .unset] [(.ref w9), (.int (9 : Int32)), (.ref b1), (.ref b1)])) rfl rfl (hb hby d1_78)
  obtain ⟨T21, X21, e21, st21⟩ := getS2 X20 hx hZ hown (host := "") (Or.inl (hw _ m26)) Via.refl e20 (hS.2.2.2.2.2.2.2.2.2.2.2.2.2.2.2.2.2.2.2.2.2.1.ext O20.2) (g := (mkF m 82 #[.val (.int (13 : Int32)), .unset] [(.int (10 : Int32)), (.ref b1), (.ref b1)])) rfl (hb hby d1_82)
  obtain ⟨T22, h22, L'22, X22, e22, W22, V22, O22, K22, N22, st22⟩ := own_stR X21 hx hZ e21 V20 O20 K20 N20 (Nat.le_trans (own_old_le O0) g1) (Or.inr (Nat.le_trans (Keep.refl h0 []).1 g1)) (j := (10 : Int32)) 10 (by decide) (Nat.le_of_ble_eq_true rfl) (vs' := [(.ref w5), (.ref w14), (.ref w11), (.ref w0), .null, (.ref w8), (.ref w15), (.ref w10), (.ref w13), (.ref w9), (.ref w7), .null, .null, .null, .null, .null, .null]) rfl rfl rfl (Or.inr ⟨_, _, rfl, O'1, (Ins.self (hS.2.2.2.2.2.2.2.2.2.2.2.2.2.2.2.2.2.2.2.2.2.2.1.ext O20.2))⟩) (g := (mkF m 85 #[.val (.int (13 : Int32)), .unset] [(.ref w7), (.int (10 : Int32)), (.ref b1), (.ref b1)])) rfl rfl (hb hby d1_85)
  obtain ⟨T23, X23, e23, st23⟩ := getS2 X22 hx hZ hown (host := "") (Or.inl (hw _ m28)) Via.refl e22 (hS.2.2.2.2.2.2.2.2.2.2.2.2.2.2.2.2.2.2.2.2.2.2.2.2.2.2.2.2.2.2.2.2.2.2.2.2.1.ext O22.2) (g := (mkF m 89 #[.val (.int (13 : Int32)), .unset] [(.int (11 : Int32)), (.ref b1), (.ref b1)])) rfl (hb hby d1_89)
  obtain ⟨T24, h24, L'24, X24, e24, W24, V24, O24, K24, N24, st24⟩ := own_stR X23 hx hZ e23 V22 O22 K22 N22 (Nat.le_trans (own_old_le O0) g1) (Or.inr (Nat.le_trans (Keep.refl h0 []).1 g1)) (j := (11 : Int32)) 11 (by decide) (Nat.le_of_ble_eq_true rfl) (vs' := [(.ref w5), (.ref w14), (.ref w11), (.ref w0), .null, (.ref w8), (.ref w15), (.ref w10), (.ref w13), (.ref w9), (.ref w7), (.ref w12), .null, .null, .null, .null, .null]) rfl rfl rfl (Or.inr ⟨_, _, rfl, O'1, (Ins.self (hS.2.2.2.2.2.2.2.2.2.2.2.2.2.2.2.2.2.2.2.2.2.2.2.2.2.2.2.2.2.2.2.2.2.2.2.2.2.1.ext O22.2))⟩) (g := (mkF m 92 #[.val (.int (13 : Int32)), .unset] [(.ref w12), (.int (11 : Int32)), (.ref b1), (.ref b1)])) rfl rfl (hb hby d1_92)
  obtain ⟨T25, X25, e25, st25⟩ := getS2 X24 hx hZ hown (host := "") (Or.inl (hw _ m30)) Via.refl e24 (hS.2.2.2.2.2.2.2.2.2.2.2.2.2.2.2.2.2.2.1.ext O24.2) (g := (mkF m 96 #[.val (.int (13 : Int32)), .unset] [(.int (12 : Int32)), (.ref b1), (.ref b1)])) rfl (hb hby d1_96)
  obtain ⟨T26, h26, L'26, X26, e26, W26, V26, O26, K26, N26, st26⟩ := own_stR X25 hx hZ e25 V24 O24 K24 N24 (Nat.le_trans (own_old_le O0) g1) (Or.inr (Nat.le_trans (Keep.refl h0 []).1 g1)) (j := (12 : Int32)) 12 (by decide) (Nat.le_of_ble_eq_true rfl) (vs' := [(.ref w5), (.ref w14), (.ref w11), (.ref w0), .null, (.ref w8), (.ref w15), (.ref w10), (.ref w13), (.ref w9), (.ref w7), (.ref w12), (.ref w6), .null, .null, .null, .null]) rfl rfl rfl (Or.inr ⟨_, _, rfl, O'1, (Ins.self (hS.2.2.2.2.2.2.2.2.2.2.2.2.2.2.2.2.2.2.2.1.ext O24.2))⟩) (g := (mkF m 99 #[.val (.int (13 : Int32)), .unset] [(.ref w6), (.int (12 : Int32)), (.ref b1), (.ref b1)])) rfl rfl (hb hby d1_99)
  obtain ⟨T27, X27, e27, st27⟩ := getS2 X26 hx hZ hown (host := "") (Or.inl (hw _ m32)) Via.refl e26 (hS.2.2.2.2.2.2.2.2.2.2.2.2.1.ext O26.2) (g := (mkF m 103 #[.val (.int (13 : Int32)), .unset] [(.int (13 : Int32)), (.ref b1), (.ref b1)])) rfl (hb hby d1_103)
  obtain ⟨T28, h28, L'28, X28, e28, W28, V28, O28, K28, N28, st28⟩ := own_stR X27 hx hZ e27 V26 O26 K26 N26 (Nat.le_trans (own_old_le O0) g1) (Or.inr (Nat.le_trans (Keep.refl h0 []).1 g1)) (j := (13 : Int32)) 13 (by decide) (Nat.le_of_ble_eq_true rfl) (vs' := [(.ref w5), (.ref w14), (.ref w11), (.ref w0), .null, (.ref w8), (.ref w15), (.ref w10), (.ref w13), (.ref w9), (.ref w7), (.ref w12), (.ref w6), (.ref w4), .null, .null, .null]) rfl rfl rfl (Or.inr ⟨_, _, rfl, O'1, (Ins.self (hS.2.2.2.2.2.2.2.2.2.2.2.2.2.1.ext O26.2))⟩) (g := (mkF m 106 #[.val (.int (13 : Int32)), .unset] [(.ref w4), (.int (13 : Int32)), (.ref b1), (.ref b1)])) rfl rfl (hb hby d1_106)
  obtain ⟨T29, X29, e29, st29⟩ := getS2 X28 hx hZ hown (host := "") (Or.inl (hw _ m34)) Via.refl e28 (hS.2.2.2.1.ext O28.2) (g := (mkF m 110 #[.val (.int (13 : Int32)), .unset] [(.int (14 : Int32)), (.ref b1), (.ref b1)])) rfl (hb hby d1_110)
  obtain ⟨T30, h30, L'30, X30, e30, W30, V30, O30, K30, N30, st30⟩ := own_stR X29 hx hZ e29 V28 O28 K28 N28 (Nat.le_trans (own_old_le O0) g1) (Or.inr (Nat.le_trans (Keep.refl h0 []).1 g1)) (j := (14 : Int32)) 14 (by decide) (Nat.le_of_ble_eq_true rfl) (vs' := [(.ref w5), (.ref w14), (.ref w11), (.ref w0), .null, (.ref w8), (.ref w15), (.ref w10), (.ref w13), (.ref w9), (.ref w7), (.ref w12), (.ref w6), (.ref w4), (.ref w1), .null, .null]) rfl rfl rfl (Or.inr ⟨_, _, rfl, O'1, (Ins.self (hS.2.2.2.2.1.ext O28.2))⟩) (g := (mkF m 113 #[.val (.int (13 : Int32)), .unset] [(.ref w1), (.int (14 : Int32)), (.ref b1), (.ref b1)])) rfl rfl (hb hby d1_113)
  obtain ⟨T31, X31, e31, st31⟩ := getS2 X30 hx hZ hown (host := "") (Or.inl (hw _ m36)) Via.refl e30 (hS.2.2.2.2.2.2.1.ext O30.2) (g := (mkF m 117 #[.val (.int (13 : Int32)), .unset] [(.int (15 : Int32)), (.ref b1), (.ref b1)])) rfl (hb hby d1_117)
  obtain ⟨T32, h32, L'32, X32, e32, W32, V32, O32, K32, N32, st32⟩ := own_stR X31 hx hZ e31 V30 O30 K30 N30 (Nat.le_trans (own_old_le O0) g1) (Or.inr (Nat.le_trans (Keep.refl h0 []).1 g1)) (j := (15 : Int32)) 15 (by decide) (Nat.le_of_ble_eq_true rfl) (vs' := [(.ref w5), (.ref w14), (.ref w11), (.ref w0), .null, (.ref w8), (.ref w15), (.ref w10), (.ref w13), (.ref w9), (.ref w7), (.ref w12), (.ref w6), (.ref w4), (.ref w1), (.ref w2), .null]) rfl rfl rfl (Or.inr ⟨_, _, rfl, O'1, (Ins.self (hS.2.2.2.2.2.2.2.1.ext O30.2))⟩) (g := (mkF m 120 #[.val (.int (13 : Int32)), .unset] [(.ref w2), (.int (15 : Int32)), (.ref b1), (.ref b1)])) rfl rfl (hb hby d1_120)
  obtain ⟨T33, X33, e33, st33⟩ := getS2 X32 hx hZ hown (host := "") (Or.inl (hw _ m38)) Via.refl e32 (hS.2.2.2.2.2.2.2.2.2.1.ext O32.2) (g := (mkF m 124 #[.val (.int (13 : Int32)), .unset] [(.int (16 : Int32)), (.ref b1), (.ref b1)])) rfl (hb hby d1_124)
  obtain ⟨T34, h34, L'34, X34, e34, W34, V34, O34, K34, N34, st34⟩ := own_stR X33 hx hZ e33 V32 O32 K32 N32 (Nat.le_trans (own_old_le O0) g1) (Or.inr (Nat.le_trans (Keep.refl h0 []).1 g1)) (j := (16 : Int32)) 16 (by decide) (Nat.le_of_ble_eq_true rfl) (vs' := [(.ref w5), (.ref w14), (.ref w11), (.ref w0), .null, (.ref w8), (.ref w15), (.ref w10), (.ref w13), (.ref w9), (.ref w7), (.ref w12), (.ref w6), (.ref w4), (.ref w1), (.ref w2), (.ref w3)]) rfl rfl rfl (Or.inr ⟨_, _, rfl, O'1, (Ins.self (hS.2.2.2.2.2.2.2.2.2.2.1.ext O32.2))⟩) (g := (mkF m 127 #[.val (.int (13 : Int32)), .unset] [(.ref w3), (.int (16 : Int32)), (.ref b1), (.ref b1)])) rfl rfl (hb hby d1_127)
  obtain ⟨fs, hr, hrun, hended, hW, hsame⟩ := X34.leave (v := some (.ref w4)) (fun h => by rw [Bd.returns] at h; cases h)
  refine ⟨_, _, pre0 _ ?_, hrun, hended, _, _, rfl, ?_, ⟨_, rfl⟩, hW, hsame.mono (by decide) (by decide)⟩
  · show Steps p.tables e below (s₁.setTop (mkF m 0 #[.val (.int (13 : Int32)), .unset] [])) _
    refine XS.iloadN X0.here hx rfl (hb hby d1_0) rfl ?_
    refine XS.ifNo X0.here hx rfl (hb hby d1_1) rfl ((if0 _ _).trans (flt (by decide : ¬ ((13 : Int32) < (0 : Int32)))).1) ?_
    refine XS.iloadN X0.here hx rfl (hb hby d1_4) rfl ?_
    refine XS.bipush X0.here hx rfl (hb hby d1_5) ?_
    show Steps p.tables e below (s₁.setTop (mkF m 7 #[.val (.int (13 : Int32)), .unset] [(.int (16 : Int32)), (.int (13 : Int32))])) _
    refine XS.icmpYes X0.here hx rfl (pc0 := 7) (pc' := 12) rfl (hb hby d1_7) rfl (flt (by decide : ¬ ((16 : Int32) < (13 : Int32)))).2.2.2 (by decide) (by decide) ?_
    refine XS.bipush X0.here hx rfl (hb hby d1_12) ?_
    refine st1 _ ?_
    refine XS.dup X1.here hx rfl (hb hby d1_17) rfl rfl ?_
    show Steps p.tables e below (T1.setTop (mkF m 18 #[.val (.int (13 : Int32)), .unset] [(.ref b1), (.ref b1)])) _
    refine XS.iconst X1.here hx rfl (hb hby d1_18) ?_
    refine st2 _ ?_
    refine st3 _ ?_
    refine XS.dup X3.here hx rfl (hb hby d1_23) rfl rfl ?_
    show Steps p.tables e below (T3.setTop (mkF m 24 #[.val (.int (13 : Int32)), .unset] [(.ref b1), (.ref b1)])) _
    refine XS.iconst X3.here hx rfl (hb hby d1_24) ?_
    refine st4 _ ?_
    refine st5 _ ?_
    refine XS.dup X5.here hx rfl (hb hby d1_29) rfl rfl ?_
    show Steps p.tables e below (T5.setTop (mkF m 30 #[.val (.int (13 : Int32)), .unset] [(.ref b1), (.ref b1)])) _
    refine XS.iconst X5.here hx rfl (hb hby d1_30) ?_
    refine st6 _ ?_
    refine st7 _ ?_
    refine XS.dup X7.here hx rfl (hb hby d1_35) rfl rfl ?_
    show Steps p.tables e below (T7.setTop (mkF m 36 #[.val (.int (13 : Int32)), .unset] [(.ref b1), (.ref b1)])) _
    refine XS.iconst X7.here hx rfl (hb hby d1_36) ?_
    refine st8 _ ?_
    refine st9 _ ?_
    refine XS.dup X9.here hx rfl (hb hby d1_41) rfl rfl ?_
    show Steps p.tables e below (T9.setTop (mkF m 42 #[.val (.int (13 : Int32)), .unset] [(.ref b1), (.ref b1)])) _
    refine XS.iconst X9.here hx rfl (hb hby d1_42) ?_
    refine XS.aconstNull X9.here hx rfl (hb hby d1_43) ?_
    refine st10 _ ?_
    refine XS.dup X10.here hx rfl (hb hby d1_45) rfl rfl ?_
    show Steps p.tables e below (T10.setTop (mkF m 46 #[.val (.int (13 : Int32)), .unset] [(.ref b1), (.ref b1)])) _
    refine XS.iconst X10.here hx rfl (hb hby d1_46) ?_
    refine st11 _ ?_
    refine st12 _ ?_
    refine XS.dup X12.here hx rfl (hb hby d1_51) rfl rfl ?_
    show Steps p.tables e below (T12.setTop (mkF m 52 #[.val (.int (13 : Int32)), .unset] [(.ref b1), (.ref b1)])) _
    refine XS.bipush X12.here hx rfl (hb hby d1_52) ?_
    refine st13 _ ?_
    refine st14 _ ?_
    refine XS.dup X14.here hx rfl (hb hby d1_58) rfl rfl ?_
    show Steps p.tables e below (T14.setTop (mkF m 59 #[.val (.int (13 : Int32)), .unset] [(.ref b1), (.ref b1)])) _
    refine XS.bipush X14.here hx rfl (hb hby d1_59) ?_
    refine st15 _ ?_
    refine st16 _ ?_
    refine XS.dup X16.here hx rfl (hb hby d1_65) rfl rfl ?_
    show Steps p.tables e below (T16.setTop (mkF m 66 #[.val (.int (13 : Int32)), .unset] [(.ref b1), (.ref b1)])) _
    refine XS.bipush X16.here hx rfl (hb hby d1_66) ?_
    refine st17 _ ?_
    refine st18 _ ?_
    refine XS.dup X18.here hx rfl (hb hby d1_72) rfl rfl ?_
    show Steps p.tables e below (T18.setTop (mkF m 73 #[.val (.int (13 : Int32)), .unset] [(.ref b1), (.ref b1)])) _
    refine XS.bipush X18.here hx rfl (hb hby d1_73) ?_
    refine st19 _ ?_
    refine st20 _ ?_
    refine XS.dup X20.here hx rfl (hb hby d1_79) rfl rfl ?_
    show Steps p.tables e below (T20.setTop (mkF m 80 #[.val (.int (13 : Int32)), .unset] [(.ref b1), (.ref b1)])) _
    refine XS.bipush X20.here hx rfl (hb hby d1_80) ?_
    refine st21 _ ?_
    refine st22 _ ?_
    refine XS.dup X22.here hx rfl (hb hby d1_86) rfl rfl ?_
    show Steps p.tables e below (T22.setTop (mkF m 87 #[.val (.int (13 : Int32)), .unset] [(.ref b1), (.ref b1)])) _
    refine XS.bipush X22.here hx rfl (hb hby d1_87) ?_
    refine st23 _ ?_
    refine st24 _ ?_
    refine XS.dup X24.here hx rfl (hb hby d1_93) rfl rfl ?_
    show Steps p.tables e below (T24.setTop (mkF m 94 #[.val (.int (13 : Int32)), .unset] [(.ref b1), (.ref b1)])) _
    refine XS.bipush X24.here hx rfl (hb hby d1_94) ?_
    refine st25 _ ?_
    refine st26 _ ?_
    refine XS.dup X26.here hx rfl (hb hby d1_100) rfl rfl ?_
    show Steps p.tables e below (T26.setTop (mkF m 101 #[.val (.int (13 : Int32)), .unset] [(.ref b1), (.ref b1)])) _
    refine XS.bipush X26.here hx rfl (hb hby d1_101) ?_
    refine st27 _ ?_
    refine st28 _ ?_
    refine XS.dup X28.here hx rfl (hb hby d1_107) rfl rfl ?_
    show Steps p.tables e below (T28.setTop (mkF m 108 #[.val (.int (13 : Int32)), .unset] [(.ref b1), (.ref b1)])) _
    refine XS.bipush X28.here hx rfl (hb hby d1_108) ?_
    refine st29 _ ?_
    refine st30 _ ?_
    refine XS.dup X30.here hx rfl (hb hby d1_114) rfl rfl ?_
    show Steps p.tables e below (T30.setTop (mkF m 115 #[.val (.int (13 : Int32)), .unset] [(.ref b1), (.ref b1)])) _
    refine XS.bipush X30.here hx rfl (hb hby d1_115) ?_
    refine st31 _ ?_
    refine st32 _ ?_
    refine XS.dup X32.here hx rfl (hb hby d1_121) rfl rfl ?_
    show Steps p.tables e below (T32.setTop (mkF m 122 #[.val (.int (13 : Int32)), .unset] [(.ref b1), (.ref b1)])) _
    refine XS.bipush X32.here hx rfl (hb hby d1_122) ?_
    refine st33 _ ?_
    refine st34 _ ?_
    refine XS.astoreN X34.here hx rfl (hb hby d1_128) rfl rfl (l' := #[.val (.int (13 : Int32)), .val (.ref b1)]) rfl ?_
    show Steps p.tables e below (T34.setTop (mkF m 129 #[.val (.int (13 : Int32)), .val (.ref b1)] [])) _
    refine XS.aloadN X34.here hx rfl (hb hby d1_129) rfl rfl ?_
    refine XS.iloadN X34.here hx rfl (hb hby d1_130) rfl ?_
    refine own_aaload X34 hx hZ e34 V34 (j := (13 : Int32)) (by decide) (v := (.ref w4)) rfl rfl (g := (mkF m 131 #[.val (.int (13 : Int32)), .val (.ref b1)] [(.int (13 : Int32)), (.ref b1)])) rfl rfl (hb hby d1_131) ?_
    exact retOut X34 hx Bd.returns rfl (Or.inr (Or.inr (Or.inr (Or.inr ⟨rfl, rfl, rfl⟩)))) (hb hby d1_132) hr
  · show Qrm41 Z w0 w1 w2 w3 w4 w5 w6 w7 w8 w9 w10 w11 w12 w13 w14 w15 w16 kw16 h0 n0 _ T34.heap _
    rw [e34]
    exact ⟨rfl, N34, K34⟩
def Qrm42 (Z : State) (w0 : Addr) (w1 : Addr) (w2 : Addr) (w3 : Addr) (w4 : Addr) (w5 : Addr) (w6 : Addr) (w7 : Addr) (w8 : Addr) (w9 : Addr) (w10 : Addr) (w11 : Addr) (w12 : Addr) (w13 : Addr) (w14 : Addr) (w15 : Addr) (w16 : Addr) (kw16 : ClassId) (h0 : Heap) (n0 : Nat) (v : Option Value) (h : Heap) (L : List Loc) : Prop := v = some (.ref w4) ∧ Fr n0 L ∧ h = h0
set_option maxRecDepth 65536 in
set_option maxHeartbeats 40000000 in
theorem rm42 (l : Launch) (Z : State) (a0 : Array Value) (hw : ∀ d ∈ tables_1, d.before a0 Z = true) (w0 : Addr) (w1 : Addr) (w2 : Addr) (w3 : Addr) (w4 : Addr) (w5 : Addr) (w6 : Addr) (w7 : Addr) (w8 : Addr) (w9 : Addr) (w10 : Addr) (w11 : Addr) (w12 : Addr) (w13 : Addr) (w14 : Addr) (w15 : Addr) (w16 : Addr) (kw16 : ClassId) (hS : SF Z w0 w1 w2 w3 w4 w5 w6 w7 w8 w9 w10 w11 w12 w13 w14 w15 w16 kw16) (ws : List Jvm.Cond) (h0 : Heap) (n0 : Nat) (O0 : Old Z n0 h0) :
    MetFree l (⟨z0, "of", z2⟩ : MethodName) (head1 (Jvm.Cond.code (⟨z0, "of", z2⟩ : MethodName) prog_90_method_5_code 1 (some (.object z0)) :: ws) ({ frames := 0, cells := 0, slots := 0, locals := 0 } : Room)) (fun a U => a = #[(.int (13 : Int32))] ∧ Z.Warmed39 U.vm ∧ U.heap = h0) (fun _ _ _ _ _ => True) (fun _ U o U' => ∃ v L, o = .returned v ∧ Qrm42 Z w0 w1 w2 w3 w4 w5 w6 w7 w8 w9 w10 w11 w12 w13 w14 w15 w16 kw16 h0 n0 v U'.heap L ∧ FrameEnd U o U' L ({ frames := 0, cells := 0, slots := 0, locals := 0 } : Room).cells ({ frames := 0, cells := 0, slots := 0, locals := 0 } : Room).slots) := by
  refine MetFree.of_bodySF (plainFor_of_name pn18) hisR ?_
  intro p e s m args below meth c s₁ Bd hml0 hP hK
  obtain ⟨rfl, hZ, hh⟩ := hP
  have hx := Bd.exec
  have hby := Bd.bytes
  have hml : c.maxLocals = 1 := hml0
  have hown : s.vm.findClass z0 = some m.cls := findClass_of_methodNamed Bd.named
  have hnm := (name_of_methodNamed Bd.named Bd.method).1
  have X0 : Stand p l e ({ frames := 0, cells := 0, slots := 0, locals := 0 } : Room) s m #[(.int (13 : Int32))] below meth c s₁ [] 0 0 := Stand.of_body Bd
  have e0 : s₁.heap = h0 := by rw [← hh, Bd.state]; rfl
  have N0 := Fr.nil n0
  have pre0 : ∀ t, Steps p.tables e below (s₁.setTop (mkF m 0 #[.val (.int (13 : Int32))] [])) t → Steps p.tables e below (s₁.setTop (entryFrame m #[(.int (13 : Int32))] 1)) t := fun t k => castTop (ef17 m (13 : Int32)) k
  obtain ⟨T1, X1, e1, st1⟩ := getS2 X0 hx hZ hown (host := "") (Or.inl (hw _ m43)) Via.refl e0 (hS.2.2.2.2.2.2.2.2.2.2.2.2.2.2.2.2.2.2.2.2.2.2.2.2.2.2.2.2.2.2.2.2.2.2.2.2.2.2.2.2.2.2.2.2.2.2.2.2.1.ext O0.2) (g := (mkF m 5 #[.val (.int (13 : Int32))] [(.int (13 : Int32))])) rfl (hb hby d2_5)
  obtain ⟨T2, X2, e2, st2⟩ := getS2 X1 hx hZ hown (host := "") (Or.inl (hw _ m43)) Via.refl e1 (hS.2.2.2.2.2.2.2.2.2.2.2.2.2.2.2.2.2.2.2.2.2.2.2.2.2.2.2.2.2.2.2.2.2.2.2.2.2.2.2.2.2.2.2.2.2.2.2.2.1.ext O0.2) (g := (mkF m 12 #[.val (.int (13 : Int32))] [])) rfl (hb hby d2_12)
  obtain ⟨fs, hr, hrun, hended, hW, hsame⟩ := X2.leave (v := some (.ref w4)) (fun h => by rw [Bd.returns] at h; cases h)
  refine ⟨_, _, pre0 _ ?_, hrun, hended, _, _, rfl, ?_, ⟨_, rfl⟩, hW, hsame.mono (by decide) (by decide)⟩
  · show Steps p.tables e below (s₁.setTop (mkF m 0 #[.val (.int (13 : Int32))] [])) _
    refine XS.iloadN X0.here hx rfl (hb hby d2_0) rfl ?_
    refine XS.ifNo X0.here hx rfl (hb hby d2_1) rfl ((if0 _ _).trans (flt (by decide : ¬ ((13 : Int32) < (0 : Int32)))).1) ?_
    refine XS.iloadN X0.here hx rfl (hb hby d2_4) rfl ?_
    refine st1 _ ?_
    show Steps p.tables e below (T1.setTop (mkF m 8 #[.val (.int (13 : Int32))] [(.ref w16), (.int (13 : Int32))])) _
    refine own_alen X1 hx hZ e1 (hS.2.2.2.2.2.2.2.2.2.2.2.2.2.2.2.2.2.2.2.2.2.2.2.2.2.2.2.2.2.2.2.2.2.2.2.2.2.2.2.2.2.2.2.2.2.2.2.2.2.ext O0.2) (g := (mkF m 8 #[.val (.int (13 : Int32))] [(.ref w16), (.int (13 : Int32))])) rfl rfl (hb hby d2_8) ?_
    refine XS.icmpNo X1.here hx rfl (hb hby d2_9) rfl (tlt (by decide : (13 : Int32) < (17 : Int32))).2.1 ?_
    refine st2 _ ?_
    refine XS.iloadN X2.here hx rfl (hb hby d2_15) rfl ?_
    show Steps p.tables e below (T2.setTop (mkF m 16 #[.val (.int (13 : Int32))] [(.int (13 : Int32)), (.ref w16)])) _
    refine own_aaload X2 hx hZ e2 (hS.2.2.2.2.2.2.2.2.2.2.2.2.2.2.2.2.2.2.2.2.2.2.2.2.2.2.2.2.2.2.2.2.2.2.2.2.2.2.2.2.2.2.2.2.2.2.2.2.2.ext O0.2) (j := (13 : Int32)) (by decide) (v := (.ref w4)) rfl rfl (g := (mkF m 16 #[.val (.int (13 : Int32))] [(.int (13 : Int32)), (.ref w16)])) rfl rfl (hb hby d2_16) ?_
    refine XS.goto X2.here hx rfl (pc0 := 17) (pc' := 21) rfl (hb hby d2_17) (by decide) (by decide) ?_
    exact retOut X2 hx Bd.returns rfl (Or.inr (Or.inr (Or.inr (Or.inr ⟨rfl, rfl, rfl⟩)))) (hb hby d2_21) hr
  · show Qrm42 Z w0 w1 w2 w3 w4 w5 w6 w7 w8 w9 w10 w11 w12 w13 w14 w15 w16 kw16 h0 n0 _ T2.heap _
    rw [e2]
    exact ⟨rfl, N0, rfl⟩
def Qrm43 (Z : State) (w0 : Addr) (w1 : Addr) (w2 : Addr) (w3 : Addr) (w4 : Addr) (w5 : Addr) (w6 : Addr) (w7 : Addr) (w8 : Addr) (w9 : Addr) (w10 : Addr) (w11 : Addr) (w12 : Addr) (w13 : Addr) (w14 : Addr) (w15 : Addr) (w16 : Addr) (kw16 : ClassId) (h0 : Heap) (n0 : Nat) (v : Option Value) (h : Heap) (L : List Loc) : Prop := v = some (.int (13 : Int32)) ∧ Fr n0 L ∧ h = h0
set_option maxRecDepth 65536 in
set_option maxHeartbeats 40000000 in
theorem rm43 (l : Launch) (Z : State) (a0 : Array Value) (hw : ∀ d ∈ tables_1, d.before a0 Z = true) (w0 : Addr) (w1 : Addr) (w2 : Addr) (w3 : Addr) (w4 : Addr) (w5 : Addr) (w6 : Addr) (w7 : Addr) (w8 : Addr) (w9 : Addr) (w10 : Addr) (w11 : Addr) (w12 : Addr) (w13 : Addr) (w14 : Addr) (w15 : Addr) (w16 : Addr) (kw16 : ClassId) (hS : SF Z w0 w1 w2 w3 w4 w5 w6 w7 w8 w9 w10 w11 w12 w13 w14 w15 w16 kw16) (ws : List Jvm.Cond) (h0 : Heap) (n0 : Nat) (O0 : Old Z n0 h0) :
    MetFree l (⟨z0, "code", "()I"⟩ : MethodName) (head1 (Jvm.Cond.code (⟨z0, "code", "()I"⟩ : MethodName) prog_90_method_4_code 1 (some .int) :: ws) ({ frames := 0, cells := 0, slots := 0, locals := 0 } : Room)) (fun a U => a = #[(.ref w4)] ∧ Z.Warmed39 U.vm ∧ U.heap = h0) (fun _ _ _ _ _ => True) (fun _ U o U' => ∃ v L, o = .returned v ∧ Qrm43 Z w0 w1 w2 w3 w4 w5 w6 w7 w8 w9 w10 w11 w12 w13 w14 w15 w16 kw16 h0 n0 v U'.heap L ∧ FrameEnd U o U' L ({ frames := 0, cells := 0, slots := 0, locals := 0 } : Room).cells ({ frames := 0, cells := 0, slots := 0, locals := 0 } : Room).slots) := by
  refine MetFree.of_bodySF (plainFor_of_name pn18) hisR ?_
  intro p e s m args below meth c s₁ Bd hml0 hP hK
  obtain ⟨rfl, hZ, hh⟩ := hP
  have hx := Bd.exec
  have hby := Bd.bytes
  have hml : c.maxLocals = 1 := hml0
  have hown : s.vm.findClass z0 = some m.cls := findClass_of_methodNamed Bd.named
  have hnm := (name_of_methodNamed Bd.named Bd.method).1
  have X0 : Stand p l e ({ frames := 0, cells := 0, slots := 0, locals := 0 } : Room) s m #[(.ref w4)] below meth c s₁ [] 0 0 := Stand.of_body Bd
  have e0 : s₁.heap = h0 := by rw [← hh, Bd.state]; rfl
  have N0 := Fr.nil n0
  have pre0 : ∀ t, Steps p.tables e below (s₁.setTop (mkF m 0 #[.val (.ref w4)] [])) t → Steps p.tables e below (s₁.setTop (entryFrame m #[(.ref w4)] 1)) t := fun t k => castTop (ef135 m w4) k
  obtain ⟨T1, X1, e1, st1⟩ := getF X0 hx hZ hown (host := "") (Or.inl (hw _ m50)) Via.refl e0 (hS.2.2.2.2.2.2.2.2.2.2.2.2.2.2.1.ext O0.2) (g := (mkF m 1 #[.val (.ref w4)] [(.ref w4)])) rfl rfl (hb hby d3_1)
  obtain ⟨fs, hr, hrun, hended, hW, hsame⟩ := X1.leave (v := some (.int (13 : Int32))) (fun h => by rw [Bd.returns] at h; cases h)
  refine ⟨_, _, pre0 _ ?_, hrun, hended, _, _, rfl, ?_, ⟨_, rfl⟩, hW, hsame.mono (by decide) (by decide)⟩
  · show Steps p.tables e below (s₁.setTop (mkF m 0 #[.val (.ref w4)] [])) _
    refine XS.aloadN X0.here hx rfl (hb hby d3_0) rfl rfl ?_
    refine st1 _ ?_
    exact retOut X1 hx Bd.returns rfl (Or.inl ⟨rfl, Or.inl rfl, _, rfl⟩) (hb hby d3_4) hr
  · show Qrm43 Z w0 w1 w2 w3 w4 w5 w6 w7 w8 w9 w10 w11 w12 w13 w14 w15 w16 kw16 h0 n0 _ T1.heap _
    rw [e1]
    exact ⟨rfl, N0, rfl⟩
def Qrm44 (Z : State) (w0 : Addr) (w1 : Addr) (w2 : Addr) (w3 : Addr) (w4 : Addr) (w5 : Addr) (w6 : Addr) (w7 : Addr) (w8 : Addr) (w9 : Addr) (w10 : Addr) (w11 : Addr) (w12 : Addr) (w13 : Addr) (w14 : Addr) (w15 : Addr) (w16 : Addr) (kw16 : ClassId) (h0 : Heap) (n0 : Nat) (v : Option Value) (h : Heap) (L : List Loc) : Prop := v = some (.ref w1) ∧ Fr n0 L ∧ Keep h0 h []
set_option maxRecDepth 65536 in
set_option maxHeartbeats 40000000 in
theorem rm44 (l : Launch) (Z : State) (a0 : Array Value) (hw : ∀ d ∈ tables_1, d.before a0 Z = true) (w0 : Addr) (w1 : Addr) (w2 : Addr) (w3 : Addr) (w4 : Addr) (w5 : Addr) (w6 : Addr) (w7 : Addr) (w8 : Addr) (w9 : Addr) (w10 : Addr) (w11 : Addr) (w12 : Addr) (w13 : Addr) (w14 : Addr) (w15 : Addr) (w16 : Addr) (kw16 : ClassId) (hS : SF Z w0 w1 w2 w3 w4 w5 w6 w7 w8 w9 w10 w11 w12 w13 w14 w15 w16 kw16) (ws : List Jvm.Cond) (h0 : Heap) (n0 : Nat) (O0 : Old Z n0 h0) :
    MetFree l (⟨z1, "expected", z2⟩ : MethodName) (head1 (Jvm.Cond.code (⟨z1, "expected", z2⟩ : MethodName) method_3_code 2 (some (.object z0)) :: ws) ({ frames := 0, cells := 1, slots := 17, locals := 0 } : Room)) (fun a U => a = #[(.int (14 : Int32))] ∧ Z.Warmed39 U.vm ∧ U.heap = h0) (fun _ _ _ _ _ => True) (fun _ U o U' => ∃ v L, o = .returned v ∧ Qrm44 Z w0 w1 w2 w3 w4 w5 w6 w7 w8 w9 w10 w11 w12 w13 w14 w15 w16 kw16 h0 n0 v U'.heap L ∧ FrameEnd U o U' L ({ frames := 0, cells := 1, slots := 17, locals := 0 } : Room).cells ({ frames := 0, cells := 1, slots := 17, locals := 0 } : Room).slots) := by
  refine MetFree.of_bodySF (plainFor_of_name pn7) hisR ?_
  intro p e s m args below meth c s₁ Bd hml0 hP hK
  obtain ⟨rfl, hZ, hh⟩ := hP
  have hx := Bd.exec
  have hby := Bd.bytes
  have hml : c.maxLocals = 2 := hml0
  have hown : s.vm.findClass z1 = some m.cls := findClass_of_methodNamed Bd.named
  have hnm := (name_of_methodNamed Bd.named Bd.method).1
  have X0 : Stand p l e ({ frames := 0, cells := 1, slots := 17, locals := 0 } : Room) s m #[(.int (14 : Int32))] below meth c s₁ [] 0 0 := Stand.of_body Bd
  have e0 : s₁.heap = h0 := by rw [← hh, Bd.state]; rfl
  have N0 := Fr.nil n0
  have pre0 : ∀ t, Steps p.tables e below (s₁.setTop (mkF m 0 #[.val (.int (14 : Int32)), .unset] [])) t → Steps p.tables e below (s₁.setTop (entryFrame m #[(.int (14 : Int32))] 2)) t := fun t k => castTop (ef6 m (14 : Int32)) k
  obtain ⟨T1, h1, k1, b1, X1, e1, E1, V1, O'1, g1, O1, K1, st1⟩ := own_newR X0 hx hZ (vs := [.null, .null, .null, .null, .null, .null, .null, .null, .null, .null, .null, .null, .null, .null, .null, .null, .null]) (cap := 17) rfl hown (hw _ m4) (hw _ m5) e0 O0 (Keep.refl h0 []) (g := (mkF m 14 #[.val (.int (14 : Int32)), .unset] [(.int (17 : Int32))])) rfl (hb hby d1_14) rfl (by decide) (by decide) (by decide) (by decide) (by decide)
  obtain ⟨T2, X2, e2, st2⟩ := getS2 X1 hx hZ hown (host := "") (Or.inl (hw _ m6)) Via.refl e1 (hS.2.2.2.2.2.2.2.2.2.2.2.2.2.2.2.1.ext O1.2) (g := (mkF m 19 #[.val (.int (14 : Int32)), .unset] [(.int (0 : Int32)), (.ref b1), (.ref b1)])) rfl (hb hby d1_19)
  obtain ⟨T3, h3, L'3, X3, e3, W3, V3, O3, K3, N3, st3⟩ := own_stR X2 hx hZ e2 V1 O1 K1 N0 (Nat.le_trans (own_old_le O0) g1) (Or.inr (Nat.le_trans (Keep.refl h0 []).1 g1)) (j := (0 : Int32)) 0 (by decide) (Nat.le_of_ble_eq_true rfl) (vs' := [(.ref w5), .null, .null, .null, .null, .null, .null, .null, .null, .null, .null, .null, .null, .null, .null, .null, .null]) rfl rfl rfl (Or.inr ⟨_, _, rfl, O'1, (Ins.self (hS.2.2.2.2.2.2.2.2.2.2.2.2.2.2.2.2.1.ext O1.2))⟩) (g := (mkF m 22 #[.val (.int (14 : Int32)), .unset] [(.ref w5), (.int (0 : Int32)), (.ref b1), (.ref b1)])) rfl rfl (hb hby d1_22)
  obtain ⟨T4, X4, e4, st4⟩ := getS2 X3 hx hZ hown (host := "") (Or.inl (hw _ m10)) Via.refl e3 (hS.2.2.2.2.2.2.2.2.2.2.2.2.2.2.2.2.2.2.2.2.2.2.2.2.2.2.2.2.2.2.2.2.2.2.2.2.2.2.2.2.2.2.1.ext O3.2) (g := (mkF m 25 #[.val (.int (14 : Int32)), .unset] [(.int (1 : Int32)), (.ref b1), (.ref b1)])) rfl (hb hby d1_25)
  obtain ⟨T5, h5, L'5, X5, e5, W5, V5, O5, K5, N5, st5⟩ := own_stR X4 hx hZ e4 V3 O3 K3 N3 (Nat.le_trans (own_old_le O0) g1) (Or.inr (Nat.le_trans (Keep.refl h0 []).1 g1)) (j := (1 : Int32)) 1 (by decide) (Nat.le_of_ble_eq_true rfl) (vs' := [(.ref w5), (.ref w14), .null, .null, .null, .null, .null, .null, .null, .null, .null, .null, .null, .null, .null, .null, .null]) rfl rfl rfl (Or.inr ⟨_, _, rfl, O'1, (Ins.self (hS.2.2.2.2.2.2.2.2.2.2.2.2.2.2.2.2.2.2.2.2.2.2.2.2.2.2.2.2.2.2.2.2.2.2.2.2.2.2.2.2.2.2.2.1.ext O3.2))⟩) (g := (mkF m 28 #[.val (.int (14 : Int32)), .unset] [(.ref w14), (.int (1 : Int32)), (.ref b1), (.ref b1)])) rfl rfl (hb hby d1_28)
  obtain ⟨T6, X6, e6, st6⟩ := getS2 X5 hx hZ hown (host := "") (Or.inl (hw _ m12)) Via.refl e5 (hS.2.2.2.2.2.2.2.2.2.2.2.2.2.2.2.2.2.2.2.2.2.2.2.2.2.2.2.2.2.2.2.2.2.1.ext O5.2) (g := (mkF m 31 #[.val (.int (14 : Int32)), .unset] [(.int (2 : Int32)), (.ref b1), (.ref b1)])) rfl (hb hby d1_31)
  obtain ⟨T7, h7, L'7, X7, e7, W7, V7, O7, K7, N7, st7⟩ := own_stR X6 hx hZ e6 V5 O5 K5 N5 (Nat.le_trans (own_old_le O0) g1) (Or.inr (Nat.le_trans (Keep.refl h0 []).1 g1)) (j := (2 : Int32)) 2 (by decide) (Nat.le_of_ble_eq_true rfl) (vs' := [(.ref w5), (.ref w14), (.ref w11), .null, .null, .null, .null, .null, .null, .null, .null, .null, .null, .null, .null, .null, .null]) rfl rfl rfl (Or.inr ⟨_, _, rfl, O'1, (Ins.self (hS.2.2.2.2.2.2.2.2.2.2.2.2.2.2.2.2.2.2.2.2.2.2.2.2.2.2.2.2.2.2.2.2.2.2.1.ext O5.2))⟩) (g := (mkF m 34 #[.val (.int (14 : Int32)), .unset] [(.ref w11), (.int (2 : Int32)), (.ref b1), (.ref b1)])) rfl rfl (hb hby d1_34)
  obtain ⟨T8, X8, e8, st8⟩ := getS2 X7 hx hZ hown (host := "") (Or.inl (hw _ m14)) Via.refl e7 (hS.1.ext O7.2) (g := (mkF m 37 #[.val (.int (14 : Int32)), .unset] [(.int (3 : Int32)), (.ref b1), (.ref b1)])) rfl (hb hby d1_37)
  obtain ⟨T9, h9, L'9, X9, e9, W9, V9, O9, K9, N9, st9⟩ := own_stR X8 hx hZ e8 V7 O7 K7 N7 (Nat.le_trans (own_old_le O0) g1) (Or.inr (Nat.le_trans (Keep.refl h0 []).1 g1)) (j := (3 : Int32)) 3 (by decide) (Nat.le_of_ble_eq_true rfl) (vs' := [(.ref w5), (.ref w14), (.ref w11), (.ref w0), .null, .null, .null, .null, .null, .null, .null, .null, .null, .null, .null, .null, .null]) rfl rfl rfl (Or.inr ⟨_, _, rfl, O'1, (Ins.self (hS.2.1.ext O7.2))⟩) (g := (mkF m 40 #[.val (.int (14 : Int32)), .unset] [(.ref w0), (.int (3 : Int32)), (.ref b1), (.ref b1)])) rfl rfl (hb hby d1_40)
  obtain ⟨T10, h10, L'10, X10, e10, W10, V10, O10, K10, N10, st10⟩ := own_stR X9 hx hZ e9 V9 O9 K9 N9 (Nat.le_trans (own_old_le O0) g1) (Or.inr (Nat.le_trans (Keep.refl h0 []).1 g1)) (j := (4 : Int32)) 4 (by decide) (Nat.le_of_ble_eq_true rfl) (vs' := [(.ref w5), (.ref w14), (.ref w11), (.ref w0), .null, .null, .null, .null, .null, .null, .null, .null, .null, .null, .null, .null, .null]) rfl rfl rfl (Or.inl rfl) (g := (mkF m 44 #[.val (.int (14 : Int32)), .unset] [.null, (.int (4 : Int32)), (.ref b1), (.ref b1)])) rfl rfl (hb hby d1_44)
  obtain ⟨T11, X11, e11, st11⟩ := getS2 X10 hx hZ hown (host := "") (Or.inl (hw _ m16)) Via.refl e10 (hS.2.2.2.2.2.2.2.2.2.2.2.2.2.2.2.2.2.2.2.2.2.2.2.2.1.ext O10.2) (g := (mkF m 47 #[.val (.int (14 : Int32)), .unset] [(.int (5 : Int32)), (.ref b1), (.ref b1)])) rfl (hb hby d1_47)
  obtain ⟨T12, h12, L'12, X12, e12, W12, V12, O12, K12, N12, st12⟩ := own_stR X11 hx hZ e11 V10 O10 K10 N10 (Nat.le_trans (own_old_le O0) g1) (Or.inr (Nat.le_trans (Keep.refl h0 []).1 g1)) (j := (5 : Int32)) 5 (by decide) (Nat.le_of_ble_eq_true rfl) (vs' := [(.ref w5), (.ref w14), (.ref w11), (.ref w0), .null, (.ref w8), .null, .null, .null, .null, .null, .null, .null, .null, .null, .null, .null]) rfl rfl rfl (Or.inr ⟨_, _, rfl, O'1, (Ins.self (hS.2.2.2.2.2.2.2.2.2.2.2.2.2.2.2.2.2.2.2.2.2.2.2.2.2.1.ext O10.2))⟩) (g := (mkF m 50 #[.val (.int (14 : Int32)), .unset] [(.ref w8), (.int (5 : Int32)), (.ref b1), (.ref b1)])) rfl rfl (hb hby d1_50)
  obtain ⟨T13, X13, e13, st13⟩ := getS2 X12 hx hZ hown (host := "") (Or.inl (hw _ m18)) Via.refl e12 (hS.2.2.2.2.2.2.2.2.2.2.2.2.2.2.2.2.2.2.2.2.2.2.2.2.2.2.2.2.2.2.2.2.2.2.2.2.2.2.2.2.2.2.2.2.2.1.ext O12.2) (g := (mkF m 54 #[.val (.int (14 : Int32)), .unset] [(.int (6 : Int32)), (.ref b1), (.ref b1)])) rfl (hb hby d1_54)
  obtain ⟨T14, h14, L'14, X14, e14, W14, V14, O14, K14, N14, st14⟩ := own_stR X13 hx hZ e13 V12 O12 K12 N12 (Nat.le_trans (own_old_le O0) g1) (Or.inr (Nat.le_trans (Keep.refl h0 []).1 g1)) (j := (6 : Int32)) 6 (by decide) (Nat.le_of_ble_eq_true rfl) (vs' := [(.ref w5), (.ref w14), (.ref w11), (.ref w0), .null, (.ref w8), (.ref w15), .null, .null, .null, .null, .null, .null, .null, .null, .null, .null]) rfl rfl rfl (Or.inr ⟨_, _, rfl, O'1, (Ins.self (hS.2.2.2.2.2.2.2.2.2.2.2.2.2.2.2.2.2.2.2.2.2.2.2.2.2.2.2.2.2.2.2.2.2.2.2.2.2.2.2.2.2.2.2.2.2.2.1.ext O12.2))⟩) (g := (mkF m 57 #[.val (.int (14 : Int32)), .unset] [(.ref w15), (.int (6 : Int32)), (.ref b1), (.ref b1)])) rfl rfl (hb hby d1_57)
  obtain ⟨T15, X15, e15, st15⟩ := getS2 X14 hx hZ hown (host := "") (Or.inl (hw _ m20)) Via.refl e14 (hS.2.2.2.2.2.2.2.2.2.2.2.2.2.2.2.2.2.2.2.2.2.2.2.2.2.2.2.2.2.2.1.ext O14.2) (g := (mkF m 61 #[.val (.int (14 : Int32)), .unset] [(.int (7 : Int32)), (.ref b1), (.ref b1)])) rfl (hb hby d1_61)
  obtain ⟨T16, h16, L'16, X16, e16, W16, V16, O16, K16, N16, st16⟩ := own_stR X15 hx hZ e15 V14 O14 K14 N14 (Nat.le_trans (own_old_le O0) g1) (Or.inr (Nat.le_trans (Keep.refl h0 []).1 g1)) (j := (7 : Int32)) 7 (by decide) (Nat.le_of_ble_eq_true rfl) (vs' := [(.ref w5), (.ref w14), (.ref w11), (.ref w0), .null, (.ref w8), (.ref w15), (.ref w10), .null, .null, .null, .null, .null, .null, .null, .null, .null]) rfl rfl rfl (Or.inr ⟨_, _, rfl, O'1, (Ins.self (hS.2.2.2.2.2.2.2.2.2.2.2.2.2.2.2.2.2.2.2.2.2.2.2.2.2.2.2.2.2.2.2.1.ext O14.2))⟩) (g := (mkF m 64 #[.val (.int (14 : Int32)), .unset] [(.ref w10), (.int (7 : Int32)), (.ref b1), (.ref b1)])) rfl rfl (hb hby d1_64)
  obtain ⟨T17, X17, e17, st17⟩ := getS2 X16 hx hZ hown (host := "") (Or.inl (hw _ m22)) Via.refl e16 (hS.2.2.2.2.2.2.2.2.2.2.2.2.2.2.2.2.2.2.2.2.2.2.2.2.2.2.2.2.2.2.2.2.2.2.2.2.2.2.2.1.ext O16.2) (g := (mkF m 68 #[.val (.int (14 : Int32)), .unset] [(.int (8 : Int32)), (.ref b1), (.ref b1)])) rfl (hb hby d1_68)
  obtain ⟨T18, h18, L'18, X18, e18, W18, V18, O18, K18, N18, st18⟩ := own_stR X17 hx hZ e17 V16 O16 K16 N16 (Nat.le_trans (own_old_le O0) g1) (Or.inr (Nat.le_trans (Keep.refl h0 []).1 g1)) (j := (8 : Int32)) 8 (by decide) (Nat.le_of_ble_eq_true rfl) (vs' := [(.ref w5), (.ref w14), (.ref w11), (.ref w0), .null, (.ref w8), (.ref w15), (.ref w10), (.ref w13), .null, .null, .null, .null, .null, .null, .null, .null]) rfl rfl rfl (Or.inr ⟨_, _, rfl, O'1, (Ins.self (hS.2.2.2.2.2.2.2.2.2.2.2.2.2.2.2.2.2.2.2.2.2.2.2.2.2.2.2.2.2.2.2.2.2.2.2.2.2.2.2.2.1.ext O16.2))⟩) (g := (mkF m 71 #[.val (.int (14 : Int32)), .unset] [(.ref w13), (.int (8 : Int32)), (.ref b1), (.ref b1)])) rfl rfl (hb hby d1_71)
  obtain ⟨T19, X19, e19, st19⟩ := getS2 X18 hx hZ hown (host := "") (Or.inl (hw _ m24)) Via.refl e18 (hS.2.2.2.2.2.2.2.2.2.2.2.2.2.2.2.2.2.2.2.2.2.2.2.2.2.2.2.1.ext O18.2) (g := (mkF m 75 #[.val (.int (14 : Int32)), .unset] [(.int (9 : Int32)), (.ref b1), (.ref b1)])) rfl (hb hby d1_75)
  obtain ⟨T20, h20, L'20, X20, e20, W20, V20, O20, K20, N20, st20⟩ := own_stR X19 hx hZ e19 V18 O18 K18 N18 (Nat.le_trans (own_old_le O0) g1) (Or.inr (Nat.le_trans (Keep.refl h0 []).1 g1)) (j := (9 : Int32)) 9 (by decide) (Nat.le_of_ble_eq_true rfl) (vs' := [(.ref w5), (.ref w14), (.ref w11), (.ref w0), .null, (.ref w8), (.ref w15), (.ref w10), (.ref w13), (.ref w9), .null, .null, .null, .null, .null, .null, .null]) rfl rfl rfl (Or.inr ⟨_, _, rfl, O'1, (Ins.self (hS.2.2.2.2.2.2.2.2.2.2.2.2.2.2.2.2.2.2.2.2.2.2.2.2.2.2.2.2.1.ext O18.2))⟩) (g := (mkF m 78 #[.val (.int (14 : Int32)), .unset] [(.ref w9), (.int (9 : Int32)), (.ref b1), (.ref b1)])) rfl rfl (hb hby d1_78)
  obtain ⟨T21, X21, e21, st21⟩ := getS2 X20 hx hZ hown (host := "") (Or.inl (hw _ m26)) Via.refl e20 (hS.2.2.2.2.2.2.2.2.2.2.2.2.2.2.2.2.2.2.2.2.2.1.ext O20.2) (g := (mkF m 82 #[.val (.int (14 : Int32)), .unset] [(.int (10 : Int32)), (.ref b1), (.ref b1)])) rfl (hb hby d1_82)
  obtain ⟨T22, h22, L'22, X22, e22, W22, V22, O22, K22, N22, st22⟩ := own_stR X21 hx hZ e21 V20 O20 K20 N20 (Nat.le_trans (own_old_le O0) g1) (Or.inr (Nat.le_trans (Keep.refl h0 []).1 g1)) (j := (10 : Int32)) 10 (by decide) (Nat.le_of_ble_eq_true rfl) (vs' := [(.ref w5), (.ref w14), (.ref w11), (.ref w0), .null, (.ref w8), (.ref w15), (.ref w10), (.ref w13), (.ref w9), (.ref w7), .null, .null, .null, .null, .null, .null]) rfl rfl rfl (Or.inr ⟨_, _, rfl, O'1, (Ins.self (hS.2.2.2.2.2.2.2.2.2.2.2.2.2.2.2.2.2.2.2.2.2.2.1.ext O20.2))⟩) (g := (mkF m 85 #[.val (.int (14 : Int32)), .unset] [(.ref w7), (.int (10 : Int32)), (.ref b1), (.ref b1)])) rfl rfl (hb hby d1_85)
  obtain ⟨T23, X23, e23, st23⟩ := getS2 X22 hx hZ hown (host := "") (Or.inl (hw _ m28)) Via.refl e22 (hS.2.2.2.2.2.2.2.2.2.2.2.2.2.2.2.2.2.2.2.2.2.2.2.2.2.2.2.2.2.2.2.2.2.2.2.2.1.ext O22.2) (g := (mkF m 89 #[.val (.int (14 : Int32)), .unset] [(.int (11 : Int32)), (.ref b1), (.ref b1)])) rfl (hb hby d1_89)
  obtain ⟨T24, h24, L'24, X24, e24, W24, V24, O24, K24, N24, st24⟩ := own_stR X23 hx hZ e23 V22 O22 K22 N22 (Nat.le_trans (own_old_le O0) g1) (Or.inr (Nat.le_trans (Keep.refl h0 []).1 g1)) (j := (11 : Int32)) 11 (by decide) (Nat.le_of_ble_eq_true rfl) (vs' := [(.ref w5), (.ref w14), (.ref w11), (.ref w0), .null, (.ref w8), (.ref w15), (.ref w10), (.ref w13), (.ref w9), (.ref w7), (.ref w12), .null, .null, .null, .null, .null]) rfl rfl rfl (Or.inr ⟨_, _, rfl, O'1, (Ins.self (hS.2.2.2.2.2.2.2.2.2.2.2.2.2.2.2.2.2.2.2.2.2.2.2.2.2.2.2.2.2.2.2.2.2.2.2.2.2.1.ext O22.2))⟩) (g := (mkF m 92 #[.val (.int (14 : Int32)), .unset] [(.ref w12), (.int (11 : Int32)), (.ref b1), (.ref b1)])) rfl rfl (hb hby d1_92)
  obtain ⟨T25, X25, e25, st25⟩ := getS2 X24 hx hZ hown (host := "") (Or.inl (hw _ m30)) Via.refl e24 (hS.2.2.2.2.2.2.2.2.2.2.2.2.2.2.2.2.2.2.1.ext O24.2) (g := (mkF m 96 #[.val (.int (14 : Int32)), .unset] [(.int (12 : Int32)), (.ref b1), (.ref b1)])) rfl (hb hby d1_96)
  obtain ⟨T26, h26, L'26, X26, e26, W26, V26, O26, K26, N26, st26⟩ := own_stR X25 hx hZ e25 V24 O24 K24 N24 (Nat.le_trans (own_old_le O0) g1) (Or.inr (Nat.le_trans (Keep.refl h0 []).1 g1)) (j := (12 : Int32)) 12 (by decide) (Nat.le_of_ble_eq_true rfl) (vs' := [(.ref w5), (.ref w14), (.ref w11), (.ref w0), .null, (.ref w8), (.ref w15), (.ref w10), (.ref w13), (.ref w9), (.ref w7), (.ref w12), (.ref w6), .null, .null, .null, .null]) rfl rfl rfl (Or.inr ⟨_, _, rfl, O'1, (Ins.self (hS.2.2.2.2.2.2.2.2.2.2.2.2.2.2.2.2.2.2.2.1.ext O24.2))⟩) (g := (mkF m 99 #[.val (.int (14 : Int32)), .unset] [(.ref w6), (.int (12 : Int32)), (.ref b1), (.ref b1)])) rfl rfl (hb hby d1_99)
  obtain ⟨T27, X27, e27, st27⟩ := getS2 X26 hx hZ hown (host := "") (Or.inl (hw _ m32)) Via.refl e26 (hS.2.2.2.2.2.2.2.2.2.2.2.2.1.ext O26.2) (g := (mkF m 103 #[.val (.int (14 : Int32)), .unset] [(.int (13 : Int32)), (.ref b1), (.ref b1)])) rfl (hb hby d1_103)
  obtain ⟨T28, h28, L'28, X28, e28, W28, V28, O28, K28, N28, st28⟩ := own_stR X27 hx hZ e27 V26 O26 K26 N26 (Nat.le_trans (own_old_le O0) g1) (Or.inr (Nat.le_trans (Keep.refl h0 []).1 g1)) (j := (13 : Int32)) 13 (by decide) (Nat.le_of_ble_eq_true rfl) (vs' := [(.ref w5), (.ref w14), (.ref w11), (.ref w0), .null, (.ref w8), (.ref w15), (.ref w10), (.ref w13), (.ref w9), (.ref w7), (.ref w12), (.ref w6), (.ref w4), .null, .null, .null]) rfl rfl rfl (Or.inr ⟨_, _, rfl, O'1, (Ins.self (hS.2.2.2.2.2.2.2.2.2.2.2.2.2.1.ext O26.2))⟩) (g := (mkF m 106 #[.val (.int (14 : Int32)), .unset] [(.ref w4), (.int (13 : Int32)), (.ref b1), (.ref b1)])) rfl rfl (hb hby d1_106)
  obtain ⟨T29, X29, e29, st29⟩ := getS2 X28 hx hZ hown (host := "") (Or.inl (hw _ m34)) Via.refl e28 (hS.2.2.2.1.ext O28.2) (g := (mkF m 110 #[.val (.int (14 : Int32)), .unset] [(.int (14 : Int32)), (.ref b1), (.ref b1)])) rfl (hb hby d1_110)
  obtain ⟨T30, h30, L'30, X30, e30, W30, V30, O30, K30, N30, st30⟩ := own_stR X29 hx hZ e29 V28 O28 K28 N28 (Nat.le_trans (own_old_le O0) g1) (Or.inr (Nat.le_trans (Keep.refl h0 []).1 g1)) (j := (14 : Int32)) 14 (by decide) (Nat.le_of_ble_eq_true rfl) (vs' := [(.ref w5), (.ref w14), (.ref w11), (.ref w0), .null, (.ref w8), (.ref w15), (.ref w10), (.ref w13), (.ref w9), (.ref w7), (.ref w12), (.ref w6), (.ref w4), (.ref w1), .null, .null]) rfl rfl rfl (Or.inr ⟨_, _, rfl, O'1, (Ins.self (hS.2.2.2.2.1.ext O28.2))⟩) (g := (mkF m 113 #[.val (.int (14 : Int32)), .unset] [(.ref w1), (.int (14 : Int32)), (.ref b1), (.ref b1)])) rfl rfl (hb hby d1_113)
  obtain ⟨T31, X31, e31, st31⟩ := getS2 X30 hx hZ hown (host := "") (Or.inl (hw _ m36)) Via.refl e30 (hS.2.2.2.2.2.2.1.ext O30.2) (g := (mkF m 117 #[.val (.int (14 : Int32)), .unset] [(.int (15 : Int32)), (.ref b1), (.ref b1)])) rfl (hb hby d1_117)
  obtain ⟨T32, h32, L'32, X32, e32, W32, V32, O32, K32, N32, st32⟩ := own_stR X31 hx hZ e31 V30 O30 K30 N30 (Nat.le_trans (own_old_le O0) g1) (Or.inr (Nat.le_trans (Keep.refl h0 []).1 g1)) (j := (15 : Int32)) 15 (by decide) (Nat.le_of_ble_eq_true rfl) (vs' := [(.ref w5), (.ref w14), (.ref w11), (.ref w0), .null, (.ref w8), (.ref w15), (.ref w10), (.ref w13), (.ref w9), (.ref w7), (.ref w12), (.ref w6), (.ref w4), (.ref w1), (.ref w2), .null]) rfl rfl rfl (Or.inr ⟨_, _, rfl, O'1, (Ins.self (hS.2.2.2.2.2.2.2.1.ext O30.2))⟩) (g := (mkF m 120 #[.val (.int (14 : Int32)), .unset] [(.ref w2), (.int (15 : Int32)), (.ref b1), (.ref b1)])) rfl rfl (hb hby d1_120)
  obtain ⟨T33, X33, e33, st33⟩ := getS2 X32 hx hZ hown (host := "") (Or.inl (hw _ m38)) Via.refl e32 (hS.2.2.2.2.2.2.2.2.2.1.ext O32.2) (g := (mkF m 124 #[.val (.int (14 : Int32)), .unset] [(.int (16 : Int32)), (.ref b1), (.ref b1)])) rfl (hb hby d1_124)
  obtain ⟨T34, h34, L'34, X34, e34, W34, V34, O34, K34, N34, st34⟩ := own_stR X33 hx hZ e33 V32 O32 K32 N32 (Nat.le_trans (own_old_le O0) g1) (Or.inr (Nat.le_trans (Keep.refl h0 []).1 g1)) (j := (16 : Int32)) 16 (by decide) (Nat.le_of_ble_eq_true rfl) (vs' := [(.ref w5), (.ref w14), (.ref w11), (.ref w0), .null, (.ref w8), (.ref w15), (.ref w10), (.ref w13), (.ref w9), (.ref w7), (.ref w12), (.ref w6), (.ref w4), (.ref w1), (.ref w2), (.ref w3)]) rfl rfl rfl (Or.inr ⟨_, _, rfl, O'1, (Ins.self (hS.2.2.2.2.2.2.2.2.2.2.1.ext O32.2))⟩) (g := (mkF m 127 #[.val (.int (14 : Int32)), .unset] [(.ref w3), (.int (16 : Int32)), (.ref b1), (.ref b1)])) rfl rfl (hb hby d1_127)
  obtain ⟨fs, hr, hrun, hended, hW, hsame⟩ := X34.leave (v := some (.ref w1)) (fun h => by rw [Bd.returns] at h; cases h)
  refine ⟨_, _, pre0 _ ?_, hrun, hended, _, _, rfl, ?_, ⟨_, rfl⟩, hW, hsame.mono (by decide) (by decide)⟩
  · show Steps p.tables e below (s₁.setTop (mkF m 0 #[.val (.int (14 : Int32)), .unset] [])) _
    refine XS.iloadN X0.here hx rfl (hb hby d1_0) rfl ?_
    refine XS.ifNo X0.here hx rfl (hb hby d1_1) rfl ((if0 _ _).trans (flt (by decide : ¬ ((14 : Int32) < (0 : Int32)))).1) ?_
    refine XS.iloadN X0.here hx rfl (hb hby d1_4) rfl ?_
    refine XS.bipush X0.here hx rfl (hb hby d1_5) ?_
    show Steps p.tables e below (s₁.setTop (mkF m 7 #[.val (.int (14 : Int32)), .unset] [(.int (16 : Int32)), (.int (14 : Int32))])) _
    refine XS.icmpYes X0.here hx rfl (pc0 := 7) (pc' := 12) rfl (hb hby d1_7) rfl (flt (by decide : ¬ ((16 : Int32) < (14 : Int32)))).2.2.2 (by decide) (by decide) ?_
    refine XS.bipush X0.here hx rfl (hb hby d1_12) ?_
    refine st1 _ ?_
    refine XS.dup X1.here hx rfl (hb hby d1_17) rfl rfl ?_
    show Steps p.tables e below (T1.setTop (mkF m 18 #[.val (.int (14 : Int32)), .unset] [(.ref b1), (.ref b1)])) _
    refine XS.iconst X1.here hx rfl (hb hby d1_18) ?_
    refine st2 _ ?_
    refine st3 _ ?_
    refine XS.dup X3.here hx rfl (hb hby d1_23) rfl rfl ?_
    show Steps p.tables e below (T3.setTop (mkF m 24 #[.val (.int (14 : Int32)), .unset] [(.ref b1), (.ref b1)])) _
    refine XS.iconst X3.here hx rfl (hb hby d1_24) ?_
    refine st4 _ ?_
    refine st5 _ ?_
    refine XS.dup X5.here hx rfl (hb hby d1_29) rfl rfl ?_
    show Steps p.tables e below (T5.setTop (mkF m 30 #[.val (.int (14 : Int32)), .unset] [(.ref b1), (.ref b1)])) _
    refine XS.iconst X5.here hx rfl (hb hby d1_30) ?_
    refine st6 _ ?_
    refine st7 _ ?_
    refine XS.dup X7.here hx rfl (hb hby d1_35) rfl rfl ?_
    show Steps p.tables e below (T7.setTop (mkF m 36 #[.val (.int (14 : Int32)), .unset] [(.ref b1), (.ref b1)])) _
    refine XS.iconst X7.here hx rfl (hb hby d1_36) ?_
    refine st8 _ ?_
    refine st9 _ ?_
    refine XS.dup X9.here hx rfl (hb hby d1_41) rfl rfl ?_
    show Steps p.tables e below (T9.setTop (mkF m 42 #[.val (.int (14 : Int32)), .unset] [(.ref b1), (.ref b1)])) _
    refine XS.iconst X9.here hx rfl (hb hby d1_42) ?_
    refine XS.aconstNull X9.here hx rfl (hb hby d1_43) ?_
    refine st10 _ ?_
    refine XS.dup X10.here hx rfl (hb hby d1_45) rfl rfl ?_
    show Steps p.tables e below (T10.setTop (mkF m 46 #[.val (.int (14 : Int32)), .unset] [(.ref b1), (.ref b1)])) _
    refine XS.iconst X10.here hx rfl (hb hby d1_46) ?_
    refine st11 _ ?_
    refine st12 _ ?_
    refine XS.dup X12.here hx rfl (hb hby d1_51) rfl rfl ?_
    show Steps p.tables e below (T12.setTop (mkF m 52 #[.val (.int (14 : Int32)), .unset] [(.ref b1), (.ref b1)])) _
    refine XS.bipush X12.here hx rfl (hb hby d1_52) ?_
    refine st13 _ ?_
    refine st14 _ ?_
    refine XS.dup X14.here hx rfl (hb hby d1_58) rfl rfl ?_
    show Steps p.tables e below (T14.setTop (mkF m 59 #[.val (.int (14 : Int32)), .unset] [(.ref b1), (.ref b1)])) _
    refine XS.bipush X14.here hx rfl (hb hby d1_59) ?_
    refine st15 _ ?_
    refine st16 _ ?_
    refine XS.dup X16.here hx rfl (hb hby d1_65) rfl rfl ?_
    show Steps p.tables e below (T16.setTop (mkF m 66 #[.val (.int (14 : Int32)), .unset] [(.ref b1), (.ref b1)])) _
    refine XS.bipush X16.here hx rfl (hb hby d1_66) ?_
    refine st17 _ ?_
    refine st18 _ ?_
    refine XS.dup X18.here hx rfl (hb hby d1_72) rfl rfl ?_
    show Steps p.tables e below (T18.setTop (mkF m 73 #[.val (.int (14 : Int32)), .unset] [(.ref b1), (.ref b1)])) _
    refine XS.bipush X18.here hx rfl (hb hby d1_73) ?_
    refine st19 _ ?_
    refine st20 _ ?_
    refine XS.dup X20.here hx rfl (hb hby d1_79) rfl rfl ?_
    show Steps p.tables e below (T20.setTop (mkF m 80 #[.val (.int (14 : Int32)), .unset] [(.ref b1), (.ref b1)])) _
    refine XS.bipush X20.here hx rfl (hb hby d1_80) ?_
    refine st21 _ ?_
    refine st22 _ ?_
    refine XS.dup X22.here hx rfl (hb hby d1_86) rfl rfl ?_
    show Steps p.tables e below (T22.setTop (mkF m 87 #[.val (.int (14 : Int32)), .unset] [(.ref b1), (.ref b1)])) _
    refine XS.bipush X22.here hx rfl (hb hby d1_87) ?_
    refine st23 _ ?_
    refine st24 _ ?_
    refine XS.dup X24.here hx rfl (hb hby d1_93) rfl rfl ?_
    show Steps p.tables e below (T24.setTop (mkF m 94 #[.val (.int (14 : Int32)), .unset] [(.ref b1), (.ref b1)])) _
    refine XS.bipush X24.here hx rfl (hb hby d1_94) ?_
    refine st25 _ ?_
    refine st26 _ ?_
    refine XS.dup X26.here hx rfl (hb hby d1_100) rfl rfl ?_
    show Steps p.tables e below (T26.setTop (mkF m 101 #[.val (.int (14 : Int32)), .unset] [(.ref b1), (.ref b1)])) _
    refine XS.bipush X26.here hx rfl (hb hby d1_101) ?_
    refine st27 _ ?_
    refine st28 _ ?_
    refine XS.dup X28.here hx rfl (hb hby d1_107) rfl rfl ?_
    show Steps p.tables e below (T28.setTop (mkF m 108 #[.val (.int (14 : Int32)), .unset] [(.ref b1), (.ref b1)])) _
    refine XS.bipush X28.here hx rfl (hb hby d1_108) ?_
    refine st29 _ ?_
    refine st30 _ ?_
    refine XS.dup X30.here hx rfl (hb hby d1_114) rfl rfl ?_
    show Steps p.tables e below (T30.setTop (mkF m 115 #[.val (.int (14 : Int32)), .unset] [(.ref b1), (.ref b1)])) _
    refine XS.bipush X30.here hx rfl (hb hby d1_115) ?_
    refine st31 _ ?_
    refine st32 _ ?_
    refine XS.dup X32.here hx rfl (hb hby d1_121) rfl rfl ?_
    show Steps p.tables e below (T32.setTop (mkF m 122 #[.val (.int (14 : Int32)), .unset] [(.ref b1), (.ref b1)])) _
    refine XS.bipush X32.here hx rfl (hb hby d1_122) ?_
    refine st33 _ ?_
    refine st34 _ ?_
    refine XS.astoreN X34.here hx rfl (hb hby d1_128) rfl rfl (l' := #[.val (.int (14 : Int32)), .val (.ref b1)]) rfl ?_
    show Steps p.tables e below (T34.setTop (mkF m 129 #[.val (.int (14 : Int32)), .val (.ref b1)] [])) _
    refine XS.aloadN X34.here hx rfl (hb hby d1_129) rfl rfl ?_
    refine XS.iloadN X34.here hx rfl (hb hby d1_130) rfl ?_
    refine own_aaload X34 hx hZ e34 V34 (j := (14 : Int32)) (by decide) (v := (.ref w1)) rfl rfl (g := (mkF m 131 #[.val (.int (14 : Int32)), .val (.ref b1)] [(.int (14 : Int32)), (.ref b1)])) rfl rfl (hb hby d1_131) ?_
    exact retOut X34 hx Bd.returns rfl (Or.inr (Or.inr (Or.inr (Or.inr ⟨rfl, rfl, rfl⟩)))) (hb hby d1_132) hr
  · show Qrm44 Z w0 w1 w2 w3 w4 w5 w6 w7 w8 w9 w10 w11 w12 w13 w14 w15 w16 kw16 h0 n0 _ T34.heap _
    rw [e34]
    exact ⟨rfl, N34, K34⟩
def Qrm45 (Z : State) (w0 : Addr) (w1 : Addr) (w2 : Addr) (w3 : Addr) (w4 : Addr) (w5 : Addr) (w6 : Addr) (w7 : Addr) (w8 : Addr) (w9 : Addr) (w10 : Addr) (w11 : Addr) (w12 : Addr) (w13 : Addr) (w14 : Addr) (w15 : Addr) (w16 : Addr) (kw16 : ClassId) (h0 : Heap) (n0 : Nat) (v : Option Value) (h : Heap) (L : List Loc) : Prop := v = some (.ref w1) ∧ Fr n0 L ∧ h = h0
set_option maxRecDepth 65536 in
set_option maxHeartbeats 40000000 in
theorem rm45 (l : Launch) (Z : State) (a0 : Array Value) (hw : ∀ d ∈ tables_1, d.before a0 Z = true) (w0 : Addr) (w1 : Addr) (w2 : Addr) (w3 : Addr) (w4 : Addr) (w5 : Addr) (w6 : Addr) (w7 : Addr) (w8 : Addr) (w9 : Addr) (w10 : Addr) (w11 : Addr) (w12 : Addr) (w13 : Addr) (w14 : Addr) (w15 : Addr) (w16 : Addr) (kw16 : ClassId) (hS : SF Z w0 w1 w2 w3 w4 w5 w6 w7 w8 w9 w10 w11 w12 w13 w14 w15 w16 kw16) (ws : List Jvm.Cond) (h0 : Heap) (n0 : Nat) (O0 : Old Z n0 h0) :
    MetFree l (⟨z0, "of", z2⟩ : MethodName) (head1 (Jvm.Cond.code (⟨z0, "of", z2⟩ : MethodName) prog_90_method_5_code 1 (some (.object z0)) :: ws) ({ frames := 0, cells := 0, slots := 0, locals := 0 } : Room)) (fun a U => a = #[(.int (14 : Int32))] ∧ Z.Warmed39 U.vm ∧ U.heap = h0) (fun _ _ _ _ _ => True) (fun _ U o U' => ∃ v L, o = .returned v ∧ Qrm45 Z w0 w1 w2 w3 w4 w5 w6 w7 w8 w9 w10 w11 w12 w13 w14 w15 w16 kw16 h0 n0 v U'.heap L ∧ FrameEnd U o U' L ({ frames := 0, cells := 0, slots := 0, locals := 0 } : Room).cells ({ frames := 0, cells := 0, slots := 0, locals := 0 } : Room).slots) := by
  refine MetFree.of_bodySF (plainFor_of_name pn18) hisR ?_
  intro p e s m args below meth c s₁ Bd hml0 hP hK
  obtain ⟨rfl, hZ, hh⟩ := hP
  have hx := Bd.exec
  have hby := Bd.bytes
  have hml : c.maxLocals = 1 := hml0
  have hown : s.vm.findClass z0 = some m.cls := findClass_of_methodNamed Bd.named
  have hnm := (name_of_methodNamed Bd.named Bd.method).1
  have X0 : Stand p l e ({ frames := 0, cells := 0, slots := 0, locals := 0 } : Room) s m #[(.int (14 : Int32))] below meth c s₁ [] 0 0 := Stand.of_body Bd
  have e0 : s₁.heap = h0 := by rw [← hh, Bd.state]; rfl
  have N0 := Fr.nil n0
  have pre0 : ∀ t, Steps p.tables e below (s₁.setTop (mkF m 0 #[.val (.int (14 : Int32))] [])) t → Steps p.tables e below (s₁.setTop (entryFrame m #[(.int (14 : Int32))] 1)) t := fun t k => castTop (ef17 m (14 : Int32)) k
  obtain ⟨T1, X1, e1, st1⟩ := getS2 X0 hx hZ hown (host := "") (Or.inl (hw _ m43)) Via.refl e0 (hS.2.2.2.2.2.2.2.2.2.2.2.2.2.2.2.2.2.2.2.2.2.2.2.2.2.2.2.2.2.2.2.2.2.2.2.2.2.2.2.2.2.2.2.2.2.2.2.2.1.ext O0.2) (g := (mkF m 5 #[.val (.int (14 : Int32))] [(.int (14 : Int32))])) rfl (hb hby d2_5)
  obtain ⟨T2, X2, e2, st2⟩ := getS2 X1 hx hZ hown (host := "") (Or.inl (hw _ m43)) Via.refl e1 (hS.2.2.2.2.2.2.2.2.2.2.2.2.2.2.2.2.2.2.2.2.2.2.2.2.2.2.2.2.2.2.2.2.2.2.2.2.2.2.2.2.2.2.2.2.2.2.2.2.1.ext O0.2) (g := (mkF m 12 #[.val (.int (14 : Int32))] [])) rfl (hb hby d2_12)
  obtain ⟨fs, hr, hrun, hended, hW, hsame⟩ := X2.leave (v := some (.ref w1)) (fun h => by rw [Bd.returns] at h; cases h)
  refine ⟨_, _, pre0 _ ?_, hrun, hended, _, _, rfl, ?_, ⟨_, rfl⟩, hW, hsame.mono (by decide) (by decide)⟩
  · show Steps p.tables e below (s₁.setTop (mkF m 0 #[.val (.int (14 : Int32))] [])) _
    refine XS.iloadN X0.here hx rfl (hb hby d2_0) rfl ?_
    refine XS.ifNo X0.here hx rfl (hb hby d2_1) rfl ((if0 _ _).trans (flt (by decide : ¬ ((14 : Int32) < (0 : Int32)))).1) ?_
    refine XS.iloadN X0.here hx rfl (hb hby d2_4) rfl ?_
    refine st1 _ ?_
    show Steps p.tables e below (T1.setTop (mkF m 8 #[.val (.int (14 : Int32))] [(.ref w16), (.int (14 : Int32))])) _
    refine own_alen X1 hx hZ e1 (hS.2.2.2.2.2.2.2.2.2.2.2.2.2.2.2.2.2.2.2.2.2.2.2.2.2.2.2.2.2.2.2.2.2.2.2.2.2.2.2.2.2.2.2.2.2.2.2.2.2.ext O0.2) (g := (mkF m 8 #[.val (.int (14 : Int32))] [(.ref w16), (.int (14 : Int32))])) rfl rfl (hb hby d2_8) ?_
    refine XS.icmpNo X1.here hx rfl (hb hby d2_9) rfl (tlt (by decide : (14 : Int32) < (17 : Int32))).2.1 ?_
    refine st2 _ ?_
    refine XS.iloadN X2.here hx rfl (hb hby d2_15) rfl ?_
    show Steps p.tables e below (T2.setTop (mkF m 16 #[.val (.int (14 : Int32))] [(.int (14 : Int32)), (.ref w16)])) _
    refine own_aaload X2 hx hZ e2 (hS.2.2.2.2.2.2.2.2.2.2.2.2.2.2.2.2.2.2.2.2.2.2.2.2.2.2.2.2.2.2.2.2.2.2.2.2.2.2.2.2.2.2.2.2.2.2.2.2.2.ext O0.2) (j := (14 : Int32)) (by decide) (v := (.ref w1)) rfl rfl (g := (mkF m 16 #[.val (.int (14 : Int32))] [(.int (14 : Int32)), (.ref w16)])) rfl rfl (hb hby d2_16) ?_
    refine XS.goto X2.here hx rfl (pc0 := 17) (pc' := 21) rfl (hb hby d2_17) (by decide) (by decide) ?_
    exact retOut X2 hx Bd.returns rfl (Or.inr (Or.inr (Or.inr (Or.inr ⟨rfl, rfl, rfl⟩)))) (hb hby d2_21) hr
  · show Qrm45 Z w0 w1 w2 w3 w4 w5 w6 w7 w8 w9 w10 w11 w12 w13 w14 w15 w16 kw16 h0 n0 _ T2.heap _
    rw [e2]
    exact ⟨rfl, N0, rfl⟩
def Qrm46 (Z : State) (w0 : Addr) (w1 : Addr) (w2 : Addr) (w3 : Addr) (w4 : Addr) (w5 : Addr) (w6 : Addr) (w7 : Addr) (w8 : Addr) (w9 : Addr) (w10 : Addr) (w11 : Addr) (w12 : Addr) (w13 : Addr) (w14 : Addr) (w15 : Addr) (w16 : Addr) (kw16 : ClassId) (h0 : Heap) (n0 : Nat) (v : Option Value) (h : Heap) (L : List Loc) : Prop := v = some (.int (14 : Int32)) ∧ Fr n0 L ∧ h = h0
set_option maxRecDepth 65536 in
set_option maxHeartbeats 40000000 in
theorem rm46 (l : Launch) (Z : State) (a0 : Array Value) (hw : ∀ d ∈ tables_1, d.before a0 Z = true) (w0 : Addr) (w1 : Addr) (w2 : Addr) (w3 : Addr) (w4 : Addr) (w5 : Addr) (w6 : Addr) (w7 : Addr) (w8 : Addr) (w9 : Addr) (w10 : Addr) (w11 : Addr) (w12 : Addr) (w13 : Addr) (w14 : Addr) (w15 : Addr) (w16 : Addr) (kw16 : ClassId) (hS : SF Z w0 w1 w2 w3 w4 w5 w6 w7 w8 w9 w10 w11 w12 w13 w14 w15 w16 kw16) (ws : List Jvm.Cond) (h0 : Heap) (n0 : Nat) (O0 : Old Z n0 h0) :
    MetFree l (⟨z0, "code", "()I"⟩ : MethodName) (head1 (Jvm.Cond.code (⟨z0, "code", "()I"⟩ : MethodName) prog_90_method_4_code 1 (some .int) :: ws) ({ frames := 0, cells := 0, slots := 0, locals := 0 } : Room)) (fun a U => a = #[(.ref w1)] ∧ Z.Warmed39 U.vm ∧ U.heap = h0) (fun _ _ _ _ _ => True) (fun _ U o U' => ∃ v L, o = .returned v ∧ Qrm46 Z w0 w1 w2 w3 w4 w5 w6 w7 w8 w9 w10 w11 w12 w13 w14 w15 w16 kw16 h0 n0 v U'.heap L ∧ FrameEnd U o U' L ({ frames := 0, cells := 0, slots := 0, locals := 0 } : Room).cells ({ frames := 0, cells := 0, slots := 0, locals := 0 } : Room).slots) := by
  refine MetFree.of_bodySF (plainFor_of_name pn18) hisR ?_
  intro p e s m args below meth c s₁ Bd hml0 hP hK
  obtain ⟨rfl, hZ, hh⟩ := hP
  have hx := Bd.exec
  have hby := Bd.bytes
  have hml : c.maxLocals = 1 := hml0
  have hown : s.vm.findClass z0 = some m.cls := findClass_of_methodNamed Bd.named
  have hnm := (name_of_methodNamed Bd.named Bd.method).1
  have X0 : Stand p l e ({ frames := 0, cells := 0, slots := 0, locals := 0 } : Room) s m #[(.ref w1)] below meth c s₁ [] 0 0 := Stand.of_body Bd
  have e0 : s₁.heap = h0 := by rw [← hh, Bd.state]; rfl
  have N0 := Fr.nil n0
  have pre0 : ∀ t, Steps p.tables e below (s₁.setTop (mkF m 0 #[.val (.ref w1)] [])) t → Steps p.tables e below (s₁.setTop (entryFrame m #[(.ref w1)] 1)) t := fun t k => castTop (ef135 m w1) k
  obtain ⟨T1, X1, e1, st1⟩ := getF X0 hx hZ hown (host := "") (Or.inl (hw _ m50)) Via.refl e0 (hS.2.2.2.2.2.1.ext O0.2) (g := (mkF m 1 #[.val (.ref w1)] [(.ref w1)])) rfl rfl (hb hby d3_1)
  obtain ⟨fs, hr, hrun, hended, hW, hsame⟩ := X1.leave (v := some (.int (14 : Int32))) (fun h => by rw [Bd.returns] at h; cases h)
  refine ⟨_, _, pre0 _ ?_, hrun, hended, _, _, rfl, ?_, ⟨_, rfl⟩, hW, hsame.mono (by decide) (by decide)⟩
  · show Steps p.tables e below (s₁.setTop (mkF m 0 #[.val (.ref w1)] [])) _
    refine XS.aloadN X0.here hx rfl (hb hby d3_0) rfl rfl ?_
    refine st1 _ ?_
    exact retOut X1 hx Bd.returns rfl (Or.inl ⟨rfl, Or.inl rfl, _, rfl⟩) (hb hby d3_4) hr
  · show Qrm46 Z w0 w1 w2 w3 w4 w5 w6 w7 w8 w9 w10 w11 w12 w13 w14 w15 w16 kw16 h0 n0 _ T1.heap _
    rw [e1]
    exact ⟨rfl, N0, rfl⟩
def Qrm47 (Z : State) (w0 : Addr) (w1 : Addr) (w2 : Addr) (w3 : Addr) (w4 : Addr) (w5 : Addr) (w6 : Addr) (w7 : Addr) (w8 : Addr) (w9 : Addr) (w10 : Addr) (w11 : Addr) (w12 : Addr) (w13 : Addr) (w14 : Addr) (w15 : Addr) (w16 : Addr) (kw16 : ClassId) (h0 : Heap) (n0 : Nat) (v : Option Value) (h : Heap) (L : List Loc) : Prop := v = some (.ref w2) ∧ Fr n0 L ∧ Keep h0 h []
set_option maxRecDepth 65536 in
set_option maxHeartbeats 40000000 in
theorem rm47 (l : Launch) (Z : State) (a0 : Array Value) (hw : ∀ d ∈ tables_1, d.before a0 Z = true) (w0 : Addr) (w1 : Addr) (w2 : Addr) (w3 : Addr) (w4 : Addr) (w5 : Addr) (w6 : Addr) (w7 : Addr) (w8 : Addr) (w9 : Addr) (w10 : Addr) (w11 : Addr) (w12 : Addr) (w13 : Addr) (w14 : Addr) (w15 : Addr) (w16 : Addr) (kw16 : ClassId) (hS : SF Z w0 w1 w2 w3 w4 w5 w6 w7 w8 w9 w10 w11 w12 w13 w14 w15 w16 kw16) (ws : List Jvm.Cond) (h0 : Heap) (n0 : Nat) (O0 : Old Z n0 h0) :
    MetFree l (⟨z1, "expected", z2⟩ : MethodName) (head1 (Jvm.Cond.code (⟨z1, "expected", z2⟩ : MethodName) method_3_code 2 (some (.object z0)) :: ws) ({ frames := 0, cells := 1, slots := 17, locals := 0 } : Room)) (fun a U => a = #[(.int (15 : Int32))] ∧ Z.Warmed39 U.vm ∧ U.heap = h0) (fun _ _ _ _ _ => True) (fun _ U o U' => ∃ v L, o = .returned v ∧ Qrm47 Z w0 w1 w2 w3 w4 w5 w6 w7 w8 w9 w10 w11 w12 w13 w14 w15 w16 kw16 h0 n0 v U'.heap L ∧ FrameEnd U o U' L ({ frames := 0, cells := 1, slots := 17, locals := 0 } : Room).cells ({ frames := 0, cells := 1, slots := 17, locals := 0 } : Room).slots) := by
  refine MetFree.of_bodySF (plainFor_of_name pn7) hisR ?_
  intro p e s m args below meth c s₁ Bd hml0 hP hK
  obtain ⟨rfl, hZ, hh⟩ := hP
  have hx := Bd.exec
  have hby := Bd.bytes
  have hml : c.maxLocals = 2 := hml0
  have hown : s.vm.findClass z1 = some m.cls := findClass_of_methodNamed Bd.named
  have hnm := (name_of_methodNamed Bd.named Bd.method).1
  have X0 : Stand p l e ({ frames := 0, cells := 1, slots := 17, locals := 0 } : Room) s m #[(.int (15 : Int32))] below meth c s₁ [] 0 0 := Stand.of_body Bd
  have e0 : s₁.heap = h0 := by rw [← hh, Bd.state]; rfl
  have N0 := Fr.nil n0
  have pre0 : ∀ t, Steps p.tables e below (s₁.setTop (mkF m 0 #[.val (.int (15 : Int32)), .unset] [])) t → Steps p.tables e below (s₁.setTop (entryFrame m #[(.int (15 : Int32))] 2)) t := fun t k => castTop (ef6 m (15 : Int32)) k
  obtain ⟨T1, h1, k1, b1, X1, e1, E1, V1, O'1, g1, O1, K1, st1⟩ := own_newR X0 hx hZ (vs := [.null, .null, .null, .null, .null, .null, .null, .null, .null, .null, .null, .null, .null, .null, .null, .null, .null]) (cap := 17) rfl hown (hw _ m4) (hw _ m5) e0 O0 (Keep.refl h0 []) (g := (mkF m 14 #[.val (.int (15 : Int32)), .unset] [(.int (17 : Int32))])) rfl (hb hby d1_14) rfl (by decide) (by decide) (by decide) (by decide) (by decide)
  obtain ⟨T2, X2, e2, st2⟩ := getS2 X1 hx hZ hown (host := "") (Or.inl (hw _ m6)) Via.refl e1 (hS.2.2.2.2.2.2.2.2.2.2.2.2.2.2.2.1.ext O1.2) (g := (mkF m 19 #[.val (.int (15 : Int32)), .unset] [(.int (0 : Int32)), (.ref b1), (.ref b1)])) rfl (hb hby d1_19)
  obtain ⟨T3, h3, L'3, X3, e3, W3, V3, O3, K3, N3, st3⟩ := own_stR X2 hx hZ e2 V1 O1 K1 N0 (Nat.le_trans (own_old_le O0) g1) (Or.inr (Nat.le_trans (Keep.refl h0 []).1 g1)) (j := (0 : Int32)) 0 (by decide) (Nat.le_of_ble_eq_true rfl) (vs' := [(.ref w5), .null, .null, .null, .null, .null, .null, .null, .null, .null, .null, .null, .null, .null, .null, .null, .null]) rfl rfl rfl (Or.inr ⟨_, _, rfl, O'1, (Ins.self (hS.2.2.2.2.2.2.2.2.2.2.2.2.2.2.2.2.1.ext O1.2))⟩) (g := (mkF m 22 #[.val (.int (15 : Int32)), .unset] [(.ref w5), (.int (0 : Int32)), (.ref b1), (.ref b1)])) rfl rfl (hb hby d1_22)
  obtain ⟨T4, X4, e4, st4⟩ := getS2 X3 hx hZ hown (host := "") (Or.inl (hw _ m10)) Via.refl e3 (hS.2.2.2.2.2.2.2.2.2.2.2.2.2.2.2.2.2.2.2.2.2.2.2.2.2.2.2.2.2.2.2.2.2.2.2.2.2.2.2.2.2.2.1.ext O3.2) (g := (mkF m 25 #[.val (.int (15 : Int32)), .unset] [(.int (1 : Int32)), (.ref b1), (.ref b1)])) rfl (hb hby d1_25)
  obtain ⟨T5, h5, L'5, X5, e5, W5, V5, O5, K5, N5, st5⟩ := own_stR X4 hx hZ e4 V3 O3 K3 N3 (Nat.le_trans (own_old_le O0) g1) (Or.inr (Nat.le_trans (Keep.refl h0 []).1 g1)) (j := (1 : Int32)) 1 (by decide) (Nat.le_of_ble_eq_true rfl) (vs' := [(.ref w5), (.ref w14), .null, .null, .null, .null, .null, .null, .null, .null, .null, .null, .null, .null, .null, .null, .null]) rfl rfl rfl (Or.inr ⟨_, _, rfl, O'1, (Ins.self (hS.2.2.2.2.2.2.2.2.2.2.2.2.2.2.2.2.2.2.2.2.2.2.2.2.2.2.2.2.2.2.2.2.2.2.2.2.2.2.2.2.2.2.2.1.ext O3.2))⟩) (g := (mkF m 28 #[.val (.int (15 : Int32)), .unset] [(.ref w14), (.int (1 : Int32)), (.ref b1), (.ref b1)])) rfl rfl (hb hby d1_28)
  obtain ⟨T6, X6, e6, st6⟩ := getS2 X5 hx hZ hown (host := "") (Or.inl (hw _ m12)) Via.refl e5 (hS.2.2.2.2.2.2.2.2.2.2.2.2.2.2.2.2.2.2.2.2.2.2.2.2.2.2.2.2.2.2.2.2.2.1.ext O5.2) (g := (mkF m 31 #[.val (.int (15 : Int32)), .unset] [(.int (2 : Int32)), (.ref b1), (.ref b1)])) rfl (hb hby d1_31)
  obtain ⟨T7, h7, L'7, X7, e7, W7, V7, O7, K7, N7, st7⟩ := own_stR X6 hx hZ e6 V5 O5 K5 N5 (Nat.le_trans (own_old_le O0) g1) (Or.inr (Nat.le_trans (Keep.refl h0 []).1 g1)) (j := (2 : Int32)) 2 (by decide) (Nat.le_of_ble_eq_true rfl) (vs' := [(.ref w5), (.ref w14), (.ref w11), .null, .null, .null, .null, .null, .null, .null, .null, .null, .null, .null, .null, .null, .null]) rfl rfl rfl (Or.inr ⟨_, _, rfl, O'1, (Ins.self (hS.2.2.2.2.2.2.2.2.2.2.2.2.2.2.2.2.2.2.2.2.2.2.2.2.2.2.2.2.2.2.2.2.2.2.1.ext O5.2))⟩) (g := (mkF m 34 #[.val (.int (15 : Int32)), .unset] [(.ref w11), (.int (2 : Int32)), (.ref b1), (.ref b1)])) rfl rfl (hb hby d1_34)
  obtain ⟨T8, X8, e8, st8⟩ := getS2 X7 hx hZ hown (host := "") (Or.inl (hw _ m14)) Via.refl e7 (hS.1.ext O7.2) (g := (mkF m 37 #[.val (.int (15 : Int32)), .unset] [(.int (3 : Int32)), (.ref b1), (.ref b1)])) rfl (hb hby d1_37)
  obtain ⟨T9, h9, L'9, X9, e9, W9, V9, O9, K9, N9, st9⟩ := own_stR X8 hx hZ e8 V7 O7 K7 N7 (Nat.le_trans (own_old_le O0) g1) (Or.inr (Nat.le_trans (Keep.refl h0 []).1 g1)) (j := (3 : Int32)) 3 (by decide) (Nat.le_of_ble_eq_true rfl) (vs' := [(.ref w5), (.ref w14), (.ref w11), (.ref w0), .null, .null, .null, .null, .null, .null, .null, .null, .null, .null, .null, .null, .null]) rfl rfl rfl (Or.inr ⟨_, _, rfl, O'1, (Ins.self (hS.2.1.ext O7.2))⟩) (g := (mkF m 40 #[.val (.int (15 : Int32)), .unset] [(.ref w0), (.int (3 : Int32)), (.ref b1), (.ref b1)])) rfl rfl (hb hby d1_40)
  obtain ⟨T10, h10, L'10, X10, e10, W10, V10, O10, K10, N10, st10⟩ := own_stR X9 hx hZ e9 V9 O9 K9 N9 (Nat.le_trans (own_old_le O0) g1) (Or.inr (Nat.le_trans (Keep.refl h0 []).1 g1)) (j := (4 : Int32)) 4 (by decide) (Nat.le_of_ble_eq_true rfl) (vs' := [(.ref w5), (.ref w14), (.ref w11), (.ref w0), .null, .null, .null, .null, .null, .null, .null, .null, .null, .null, .null, .null, .null]) rfl rfl rfl (Or.inl rfl) (g := (mkF m 44 #[.val (.int (15 : Int32)), .unset] [.null, (.int (4 : Int32)), (.ref b1), (.ref b1)])) rfl rfl (hb hby d1_44)
  obtain ⟨T11, X11, e11, st11⟩ := getS2 X10 hx hZ hown (host := "") (Or.inl (hw _ m16)) Via.refl e10 (hS.2.2.2.2.2.2.2.2.2.2.2.2.2.2.2.2.2.2.2.2.2.2.2.2.1.ext O10.2) (g := (mkF m 47 #[.val (.int (15 : Int32)), .unset] [(.int (5 : Int32)), (.ref b1), (.ref b1)])) rfl (hb hby d1_47)
  obtain ⟨T12, h12, L'12, X12, e12, W12, V12, O12, K12, N12, st12⟩ := own_stR X11 hx hZ e11 V10 O10 K10 N10 (Nat.le_trans (own_old_le O0) g1) (Or.inr (Nat.le_trans (Keep.refl h0 []).1 g1)) (j := (5 : Int32)) 5 (by decide) (Nat.le_of_ble_eq_true rfl) (vs' := [(.ref w5), (.ref w14), (.ref w11), (.ref w0), .null, (.ref w8), .null, .null, .null, .null, .null, .null, .null, .null, .null, .null, .null]) rfl rfl rfl (Or.inr ⟨_, _, rfl, O'1, (Ins.self (hS.2.2.2.2.2.2.2.2.2.2.2.2.2.2.2.2.2.2.2.2.2.2.2.2.2.1.ext O10.2))⟩) (g := (mkF m 50 #[.val (.int (15 : Int32)), .unset] [(.ref w8), (.int (5 : Int32)), (.ref b1), (.ref b1)])) rfl rfl (hb hby d1_50)
  obtain ⟨T13, X13, e13, st13⟩ := getS2 X12 hx hZ hown (host := "") (Or.inl (hw _ m18)) Via.refl e12 (hS.2.2.2.2.2.2.2.2.2.2.2.2.2.2.2.2.2.2.2.2.2.2.2.2.2.2.2.2.2.2.2.2.2.2.2.2.2.2.2.2.2.2.2.2.2.1.ext O12.2) (g := (mkF m 54 #[.val (.int (15 : Int32)), .unset] [(.int (6 : Int32)), (.ref b1), (.ref b1)])) rfl (hb hby d1_54)
  obtain ⟨T14, h14, L'14, X14, e14, W14, V14, O14, K14, N14, st14⟩ := own_stR X13 hx hZ e13 V12 O12 K12 N12 (Nat.le_trans (own_old_le O0) g1) (Or.inr (Nat.le_trans (Keep.refl h0 []).1 g1)) (j := (6 : Int32)) 6 (by decide) (Nat.le_of_ble_eq_true rfl) (vs' := [(.ref w5), (.ref w14), (.ref w11), (.ref w0), .null, (.ref w8), (.ref w15), .null, .null, .null, .null, .null, .null, .null, .null, .null, .null]) rfl rfl rfl (Or.inr ⟨_, _, rfl, O'1, (Ins.self (hS.2.2.2.2.2.2.2.2.2.2.2.2.2.2.2.2.2.2.2.2.2.2.2.2.2.2.2.2.2.2.2.2.2.2.2.2.2.2.2.2.2.2.2.2.2.2.1.ext O12.2))⟩) (g := (mkF m 57 #[.val (.int (15 : Int32)), .unset] [(.ref w15), (.int (6 : Int32)), (.ref b1), (.ref b1)])) rfl rfl (hb hby d1_57)
  obtain ⟨T15, X15, e15, st15⟩ := getS2 X14 hx hZ hown (host := "") (Or.inl (hw _ m20)) Via.refl e14 (hS.2.2.2.2.2.2.2.2.2.2.2.2.2.2.2.2.2.2.2.2.2.2.2.2.2.2.2.2.2.2.1.ext O14.2) (g := (mkF m 61 #[.val (.int (15 : Int32)), .unset] [(.int (7 : Int32)), (.ref b1), (.ref b1)])) rfl (hb hby d1_61)
  obtain ⟨T16, h16, L'16, X16, e16, W16, V16, O16, K16, N16, st16⟩ := own_stR X15 hx hZ e15 V14 O14 K14 N14 (Nat.le_trans (own_old_le O0) g1) (Or.inr (Nat.le_trans (Keep.refl h0 []).1 g1)) (j := (7 : Int32)) 7 (by decide) (Nat.le_of_ble_eq_true rfl) (vs' := [(.ref w5), (.ref w14), (.ref w11), (.ref w0), .null, (.ref w8), (.ref w15), (.ref w10), .null, .null, .null, .null, .null, .null, .null, .null, .null]) rfl rfl rfl (Or.inr ⟨_, _, rfl, O'1, (Ins.self (hS.2.2.2.2.2.2.2.2.2.2.2.2.2.2.2.2.2.2.2.2.2.2.2.2.2.2.2.2.2.2.2.1.ext O14.2))⟩) (g := (mkF m 64 #[.val (.int (15 : Int32)), .unset] [(.ref w10), (.int (7 : Int32)), (.ref b1), (.ref b1)])) rfl rfl (hb hby d1_64)
  obtain ⟨T17, X17, e17, st17⟩ := getS2 X16 hx hZ hown (host := "") (Or.inl (hw _ m22)) Via.refl e16 (hS.2.2.2.2.2.2.2.2.2.2.2.2.2.2.2.2.2.2.2.2.2.2.2.2.2.2.2.2.2.2.2.2.2.2.2.2.2.2.2.1.ext O16.2) (g := (mkF m 68 #[.val (.int (15 : Int32)), .unset] [(.int (8 : Int32)), (.ref b1), (.ref b1)])) rfl (hb hby d1_68)
  obtain ⟨T18, h18, L'18, X18, e18, W18, V18, O18, K18, N18, st18⟩ := own_stR X17 hx hZ e17 V16 O16 K16 N16 (Nat.le_trans (own_old_le O0) g1) (Or.inr (Nat.le_trans (Keep.refl h0 []).1 g1)) (j := (8 : Int32)) 8 (by decide) (Nat.le_of_ble_eq_true rfl) (vs' := [(.ref w5), (.ref w14), (.ref w11), (.ref w0), .null, (.ref w8), (.ref w15), (.ref w10), (.ref w13), .null, .null, .null, .null, .null, .null, .null, .null]) rfl rfl rfl (Or.inr ⟨_, _, rfl, O'1, (Ins.self (hS.2.2.2.2.2.2.2.2.2.2.2.2.2.2.2.2.2.2.2.2.2.2.2.2.2.2.2.2.2.2.2.2.2.2.2.2.2.2.2.2.1.ext O16.2))⟩) (g := (mkF m 71 #[.val (.int (15 : Int32)), .unset] [(.ref w13), (.int (8 : Int32)), (.ref b1), (.ref b1)])) rfl rfl (hb hby d1_71)
  obtain ⟨T19, X19, e19, st19⟩ := getS2 X18 hx hZ hown (host := "") (Or.inl (hw _ m24)) Via.refl e18 (hS.2.2.2.2.2.2.2.2.2.2.2.2.2.2.2.2.2.2.2.2.2.2.2.2.2.2.2.1.ext O18.2) (g := (mkF m 75 #[.val (.int (15 : Int32)), .unset] [(.int (9 : Int32)), (.ref b1), (.ref b1)])) rfl (hb hby d1_75)
  obtain ⟨T20, h20, L'20, X20, e20, W20, V20, O20, K20, N20, st20⟩ := own_stR X19 hx hZ e19 V18 O18 K18 N18 (Nat.le_trans (own_old_le O0) g1) (Or.inr (Nat.le_trans (Keep.refl h0 []).1 g1)) (j := (9 : Int32)) 9 (by decide) (Nat.le_of_ble_eq_true rfl) (vs' := [(.ref w5), (.ref w14), (.ref w11), (.ref w0), .null, (.ref w8), (.ref w15), (.ref w10), (.ref w13), (.ref w9), .null, .null, .null, .null, .null, .null, .null]) rfl rfl rfl (Or.inr ⟨_, _, rfl, O'1, (Ins.self (hS.2.2.2.2.2.2.2.2.2.2.2.2.2.2.2.2.2.2.2.2.2.2.2.2.2.2.2.2.1.ext O18.2))⟩) (g := (mkF m 78 #[.val (.int (15 : Int32)), .unset] [(.ref w9), (.int (9 : Int32)), (.ref b1), (.ref b1)])) rfl rfl (hb hby d1_78)
  obtain ⟨T21, X21, e21, st21⟩ := getS2 X20 hx hZ hown (host := "") (Or.inl (hw _ m26)) Via.refl e20 (hS.2.2.2.2.2.2.2.2.2.2.2.2.2.2.2.2.2.2.2.2.2.1.ext O20.2) (g := (mkF m 82 #[.val (.int (15 : Int32)), .unset] [(.int (10 : Int32)), (.ref b1), (.ref b1)])) rfl (hb hby d1_82)
  obtain ⟨T22, h22, L'22, X22, e22, W22, V22, O22, K22, N22, st22⟩ := own_stR X21 hx hZ e21 V20 O20 K20 N20 (Nat.le_trans (own_old_le O0) g1) (Or.inr (Nat.le_trans (Keep.refl h0 []).1 g1)) (j := (10 : Int32)) 10 (by decide) (Nat.le_of_ble_eq_true rfl) (vs' := [(.ref w5), (.ref w14), (.ref w11), (.ref w0), .null, (.ref w8), (.ref w15), (.ref w10), (.ref w13), (.ref w9), (.ref w7), .null, .null, .null, .null, .null, .null]) rfl rfl rfl (Or.inr ⟨_, _, rfl, O'1, (Ins.self (hS.2.2.2.2.2.2.2.2.2.2.2.2.2.2.2.2.2.2.2.2.2.2.1.ext O20.2))⟩) (g := (mkF m 85 #[.val (.int (15 : Int32)), .unset] [(.ref w7), (.int (10 : Int32)), (.ref b1), (.ref b1)])) rfl rfl (hb hby d1_85)
  obtain ⟨T23, X23, e23, st23⟩ := getS2 X22 hx hZ hown (host := "") (Or.inl (hw _ m28)) Via.refl e22 (hS.2.2.2.2.2.2.2.2.2.2.2.2.2.2.2.2.2.2.2.2.2.2.2.2.2.2.2.2.2.2.2.2.2.2.2.2.1.ext O22.2) (g := (mkF m 89 #[.val (.int (15 : Int32)), .unset] [(.int (11 : Int32)), (.ref b1), (.ref b1)])) rfl (hb hby d1_89)
  obtain ⟨T24, h24, L'24, X24, e24, W24, V24, O24, K24, N24, st24⟩ := own_stR X23 hx hZ e23 V22 O22 K22 N22 (Nat.le_trans (own_old_le O0) g1) (Or.inr (Nat.le_trans (Keep.refl h0 []).1 g1)) (j := (11 : Int32)) 11 (by decide) (Nat.le_of_ble_eq_true rfl) (vs' := [(.ref w5), (.ref w14), (.ref w11), (.ref w0), .null, (.ref w8), (.ref w15), (.ref w10), (.ref w13), (.ref w9), (.ref w7), (.ref w12), .null, .null, .null, .null, .null]) rfl rfl rfl (Or.inr ⟨_, _, rfl, O'1, (Ins.self (hS.2.2.2.2.2.2.2.2.2.2.2.2.2.2.2.2.2.2.2.2.2.2.2.2.2.2.2.2.2.2.2.2.2.2.2.2.2.1.ext O22.2))⟩) (g := (mkF m 92 #[.val (.int (15 : Int32)), .unset] [(.ref w12), (.int (11 : Int32)), (.ref b1), (.ref b1)])) rfl rfl (hb hby d1_92)
  obtain ⟨T25, X25, e25, st25⟩ := getS2 X24 hx hZ hown (host := "") (Or.inl (hw _ m30)) Via.refl e24 (hS.2.2.2.2.2.2.2.2.2.2.2.2.2.2.2.2.2.2.1.ext O24.2) (g := (mkF m 96 #[.val (.int (15 : Int32)), .unset] [(.int (12 : Int32)), (.ref b1), (.ref b1)])) rfl (hb hby d1_96)
  obtain ⟨T26, h26, L'26, X26, e26, W26, V26, O26, K26, N26, st26⟩ := own_stR X25 hx hZ e25 V24 O24 K24 N24 (Nat.le_trans (own_old_le O0) g1) (Or.inr (Nat.le_trans (Keep.refl h0 []).1 g1)) (j := (12 : Int32)) 12 (by decide) (Nat.le_of_ble_eq_true rfl) (vs' := [(.ref w5), (.ref w14), (.ref w11), (.ref w0), .null, (.ref w8), (.ref w15), (.ref w10), (.ref w13), (.ref w9), (.ref w7), (.ref w12), (.ref w6), .null, .null, .null, .null]) rfl rfl rfl (Or.inr ⟨_, _, rfl, O'1, (Ins.self (hS.2.2.2.2.2.2.2.2.2.2.2.2.2.2.2.2.2.2.2.1.ext O24.2))⟩) (g := (mkF m 99 #[.val (.int (15 : Int32)), .unset] [(.ref w6), (.int (12 : Int32)), (.ref b1), (.ref b1)])) rfl rfl (hb hby d1_99)
  obtain ⟨T27, X27, e27, st27⟩ := getS2 X26 hx hZ hown (host := "") (Or.inl (hw _ m32)) Via.refl e26 (hS.2.2.2.2.2.2.2.2.2.2.2.2.1.ext O26.2) (g := (mkF m 103 #[.val (.int (15 : Int32)), .unset] [(.int (13 : Int32)), (.ref b1), (.ref b1)])) rfl (hb hby d1_103)
  obtain ⟨T28, h28, L'28, X28, e28, W28, V28, O28, K28, N28, st28⟩ := own_stR X27 hx hZ e27 V26 O26 K26 N26 (Nat.le_trans (own_old_le O0) g1) (Or.inr (Nat.le_trans (Keep.refl h0 []).1 g1)) (j := (13 : Int32)) 13 (by decide) (Nat.le_of_ble_eq_true rfl) (vs' := [(.ref w5), (.ref w14), (.ref w11), (.ref w0), .null, (.ref w8), (.ref w15), (.ref w10), (.ref w13), (.ref w9), (.ref w7), (.ref w12), (.ref w6), (.ref w4), .null, .null, .null]) rfl rfl rfl (Or.inr ⟨_, _, rfl, O'1, (Ins.self (hS.2.2.2.2.2.2.2.2.2.2.2.2.2.1.ext O26.2))⟩) (g := (mkF m 106 #[.val (.int (15 : Int32)), .unset] [(.ref w4), (.int (13 : Int32)), (.ref b1), (.ref b1)])) rfl rfl (hb hby d1_106)
  obtain ⟨T29, X29, e29, st29⟩ := getS2 X28 hx hZ hown (host := "") (Or.inl (hw _ m34)) Via.refl e28 (hS.2.2.2.1.ext O28.2) (g := (mkF m 110 #[.val (.int (15 : Int32)), .unset] [(.int (14 : Int32)), (.ref b1), (.ref b1)])) rfl (hb hby d1_110)
  obtain ⟨T30, h30, L'30, X30, e30, W30, V30, O30, K30, N30, st30⟩ := own_stR X29 hx hZ e29 V28 O28 K28 N28 (Nat.le_trans (own_old_le O0) g1) (Or.inr (Nat.le_trans (Keep.refl h0 []).1 g1)) (j := (14 : Int32)) 14 (by decide) (Nat.le_of_ble_eq_true rfl) (vs' := [(.ref w5), (.ref w14), (.ref w11), (.ref w0), .null, (.ref w8), (.ref w15), (.ref w10), (.ref w13), (.ref w9), (.ref w7), (.ref w12), (.ref w6), (.ref w4), (.ref w1), .null, .null]) rfl rfl rfl (Or.inr ⟨_, _, rfl, O'1, (Ins.self (hS.2.2.2.2.1.ext O28.2))⟩) (g := (mkF m 113 #[.val (.int (15 : Int32)), .unset] [(.ref w1), (.int (14 : Int32)), (.ref b1), (.ref b1)])) rfl rfl (hb hby d1_113)
  obtain ⟨T31, X31, e31, st31⟩ := getS2 X30 hx hZ hown (host := "") (Or.inl (hw _ m36)) Via.refl e30 (hS.2.2.2.2.2.2.1.ext O30.2) (g := (mkF m 117 #[.val (.int (15 : Int32)), .unset] [(.int (15 : Int32)), (.ref b1), (.ref b1)])) rfl (hb hby d1_117)
  obtain ⟨T32, h32, L'32, X32, e32, W32, V32, O32, K32, N32, st32⟩ := own_stR X31 hx hZ e31 V30 O30 K30 N30 (Nat.le_trans (own_old_le O0) g1) (Or.inr (Nat.le_trans (Keep.refl h0 []).1 g1)) (j := (15 : Int32)) 15 (by decide) (Nat.le_of_ble_eq_true rfl) (vs' := [(.ref w5), (.ref w14), (.ref w11), (.ref w0), .null, (.ref w8), (.ref w15), (.ref w10), (.ref w13), (.ref w9), (.ref w7), (.ref w12), (.ref w6), (.ref w4), (.ref w1), (.ref w2), .null]) rfl rfl rfl (Or.inr ⟨_, _, rfl, O'1, (Ins.self (hS.2.2.2.2.2.2.2.1.ext O30.2))⟩) (g := (mkF m 120 #[.val (.int (15 : Int32)), .unset] [(.ref w2), (.int (15 : Int32)), (.ref b1), (.ref b1)])) rfl rfl (hb hby d1_120)
  obtain ⟨T33, X33, e33, st33⟩ := getS2 X32 hx hZ hown (host := "") (Or.inl (hw _ m38)) Via.refl e32 (hS.2.2.2.2.2.2.2.2.2.1.ext O32.2) (g := (mkF m 124 #[.val (.int (15 : Int32)), .unset] [(.int (16 : Int32)), (.ref b1), (.ref b1)])) rfl (hb hby d1_124)
  obtain ⟨T34, h34, L'34, X34, e34, W34, V34, O34, K34, N34, st34⟩ := own_stR X33 hx hZ e33 V32 O32 K32 N32 (Nat.le_trans (own_old_le O0) g1) (Or.inr (Nat.le_trans (Keep.refl h0 []).1 g1)) (j := (16 : Int32)) 16 (by decide) (Nat.le_of_ble_eq_true rfl) (vs' := [(.ref w5), (.ref w14), (.ref w11), (.ref w0), .null, (.ref w8), (.ref w15), (.ref w10), (.ref w13), (.ref w9), (.ref w7), (.ref w12), (.ref w6), (.ref w4), (.ref w1), (.ref w2), (.ref w3)]) rfl rfl rfl (Or.inr ⟨_, _, rfl, O'1, (Ins.self (hS.2.2.2.2.2.2.2.2.2.2.1.ext O32.2))⟩) (g := (mkF m 127 #[.val (.int (15 : Int32)), .unset] [(.ref w3), (.int (16 : Int32)), (.ref b1), (.ref b1)])) rfl rfl (hb hby d1_127)
  obtain ⟨fs, hr, hrun, hended, hW, hsame⟩ := X34.leave (v := some (.ref w2)) (fun h => by rw [Bd.returns] at h; cases h)
  refine ⟨_, _, pre0 _ ?_, hrun, hended, _, _, rfl, ?_, ⟨_, rfl⟩, hW, hsame.mono (by decide) (by decide)⟩
  · show Steps p.tables e below (s₁.setTop (mkF m 0 #[.val (.int (15 : Int32)), .unset] [])) _
    refine XS.iloadN X0.here hx rfl (hb hby d1_0) rfl ?_
    refine XS.ifNo X0.here hx rfl (hb hby d1_1) rfl ((if0 _ _).trans (flt (by decide : ¬ ((15 : Int32) < (0 : Int32)))).1) ?_
    refine XS.iloadN X0.here hx rfl (hb hby d1_4) rfl ?_
    refine XS.bipush X0.here hx rfl (hb hby d1_5) ?_
    show Steps p.tables e below (s₁.setTop (mkF m 7 #[.val (.int (15 : Int32)), .unset] [(.int (16 : Int32)), (.int (15 : Int32))])) _
    refine XS.icmpYes X0.here hx rfl (pc0 := 7) (pc' := 12) rfl (hb hby d1_7) rfl (flt (by decide : ¬ ((16 : Int32) < (15 : Int32)))).2.2.2 (by decide) (by decide) ?_
    refine XS.bipush X0.here hx rfl (hb hby d1_12) ?_
    refine st1 _ ?_
    refine XS.dup X1.here hx rfl (hb hby d1_17) rfl rfl ?_
    show Steps p.tables e below (T1.setTop (mkF m 18 #[.val (.int (15 : Int32)), .unset] [(.ref b1), (.ref b1)])) _
    refine XS.iconst X1.here hx rfl (hb hby d1_18) ?_
    refine st2 _ ?_
    refine st3 _ ?_
    refine XS.dup X3.here hx rfl (hb hby d1_23) rfl rfl ?_
    show Steps p.tables e below (T3.setTop (mkF m 24 #[.val (.int (15 : Int32)), .unset] [(.ref b1), (.ref b1)])) _
    refine XS.iconst X3.here hx rfl (hb hby d1_24) ?_
    refine st4 _ ?_
    refine st5 _ ?_
    refine XS.dup X5.here hx rfl (hb hby d1_29) rfl rfl ?_
    show Steps p.tables e below (T5.setTop (mkF m 30 #[.val (.int (15 : Int32)), .unset] [(.ref b1), (.ref b1)])) _
    refine XS.iconst X5.here hx rfl (hb hby d1_30) ?_
    refine st6 _ ?_
    refine st7 _ ?_
    refine XS.dup X7.here hx rfl (hb hby d1_35) rfl rfl ?_
    show Steps p.tables e below (T7.setTop (mkF m 36 #[.val (.int (15 : Int32)), .unset] [(.ref b1), (.ref b1)])) _
    refine XS.iconst X7.here hx rfl (hb hby d1_36) ?_
    refine st8 _ ?_
    refine st9 _ ?_
    refine XS.dup X9.here hx rfl (hb hby d1_41) rfl rfl ?_
    show Steps p.tables e below (T9.setTop (mkF m 42 #[.val (.int (15 : Int32)), .unset] [(.ref b1), (.ref b1)])) _
    refine XS.iconst X9.here hx rfl (hb hby d1_42) ?_
    refine XS.aconstNull X9.here hx rfl (hb hby d1_43) ?_
    refine st10 _ ?_
    refine XS.dup X10.here hx rfl (hb hby d1_45) rfl rfl ?_
    show Steps p.tables e below (T10.setTop (mkF m 46 #[.val (.int (15 : Int32)), .unset] [(.ref b1), (.ref b1)])) _
    refine XS.iconst X10.here hx rfl (hb hby d1_46) ?_
    refine st11 _ ?_
    refine st12 _ ?_
    refine XS.dup X12.here hx rfl (hb hby d1_51) rfl rfl ?_
    show Steps p.tables e below (T12.setTop (mkF m 52 #[.val (.int (15 : Int32)), .unset] [(.ref b1), (.ref b1)])) _
    refine XS.bipush X12.here hx rfl (hb hby d1_52) ?_
    refine st13 _ ?_
    refine st14 _ ?_
    refine XS.dup X14.here hx rfl (hb hby d1_58) rfl rfl ?_
    show Steps p.tables e below (T14.setTop (mkF m 59 #[.val (.int (15 : Int32)), .unset] [(.ref b1), (.ref b1)])) _
    refine XS.bipush X14.here hx rfl (hb hby d1_59) ?_
    refine st15 _ ?_
    refine st16 _ ?_
    refine XS.dup X16.here hx rfl (hb hby d1_65) rfl rfl ?_
    show Steps p.tables e below (T16.setTop (mkF m 66 #[.val (.int (15 : Int32)), .unset] [(.ref b1), (.ref b1)])) _
    refine XS.bipush X16.here hx rfl (hb hby d1_66) ?_
    refine st17 _ ?_
    refine st18 _ ?_
    refine XS.dup X18.here hx rfl (hb hby d1_72) rfl rfl ?_
    show Steps p.tables e below (T18.setTop (mkF m 73 #[.val (.int (15 : Int32)), .unset] [(.ref b1), (.ref b1)])) _
    refine XS.bipush X18.here hx rfl (hb hby d1_73) ?_
    refine st19 _ ?_
    refine st20 _ ?_
    refine XS.dup X20.here hx rfl (hb hby d1_79) rfl rfl ?_
    show Steps p.tables e below (T20.setTop (mkF m 80 #[.val (.int (15 : Int32)), .unset] [(.ref b1), (.ref b1)])) _
    refine XS.bipush X20.here hx rfl (hb hby d1_80) ?_
    refine st21 _ ?_
    refine st22 _ ?_
    refine XS.dup X22.here hx rfl (hb hby d1_86) rfl rfl ?_
    show Steps p.tables e below (T22.setTop (mkF m 87 #[.val (.int (15 : Int32)), .unset] [(.ref b1), (.ref b1)])) _
    refine XS.bipush X22.here hx rfl (hb hby d1_87) ?_
    refine st23 _ ?_
    refine st24 _ ?_
    refine XS.dup X24.here hx rfl (hb hby d1_93) rfl rfl ?_
    show Steps p.tables e below (T24.setTop (mkF m 94 #[.val (.int (15 : Int32)), .unset] [(.ref b1), (.ref b1)])) _
    refine XS.bipush X24.here hx rfl (hb hby d1_94) ?_
    refine st25 _ ?_
    refine st26 _ ?_
    refine XS.dup X26.here hx rfl (hb hby d1_100) rfl rfl ?_
    show Steps p.tables e below (T26.setTop (mkF m 101 #[.val (.int (15 : Int32)), .unset] [(.ref b1), (.ref b1)])) _
    refine XS.bipush X26.here hx rfl (hb hby d1_101) ?_
    refine st27 _ ?_
    refine st28 _ ?_
    refine XS.dup X28.here hx rfl (hb hby d1_107) rfl rfl ?_
    show Steps p.tables e below (T28.setTop (mkF m 108 #[.val (.int (15 : Int32)), .unset] [(.ref b1), (.ref b1)])) _
    refine XS.bipush X28.here hx rfl (hb hby d1_108) ?_
    refine st29 _ ?_
    refine st30 _ ?_
    refine XS.dup X30.here hx rfl (hb hby d1_114) rfl rfl ?_
    show Steps p.tables e below (T30.setTop (mkF m 115 #[.val (.int (15 : Int32)), .unset] [(.ref b1), (.ref b1)])) _
    refine XS.bipush X30.here hx rfl (hb hby d1_115) ?_
    refine st31 _ ?_
    refine st32 _ ?_
    refine XS.dup X32.here hx rfl (hb hby d1_121) rfl rfl ?_
    show Steps p.tables e below (T32.setTop (mkF m 122 #[.val (.int (15 : Int32)), .unset] [(.ref b1), (.ref b1)])) _
    refine XS.bipush X32.here hx rfl (hb hby d1_122) ?_
    refine st33 _ ?_
    refine st34 _ ?_
    refine XS.astoreN X34.here hx rfl (hb hby d1_128) rfl rfl (l' := #[.val (.int (15 : Int32)), .val (.ref b1)]) rfl ?_
    show Steps p.tables e below (T34.setTop (mkF m 129 #[.val (.int (15 : Int32)), .val (.ref b1)] [])) _
    refine XS.aloadN X34.here hx rfl (hb hby d1_129) rfl rfl ?_
    refine XS.iloadN X34.here hx rfl (hb hby d1_130) rfl ?_
    refine own_aaload X34 hx hZ e34 V34 (j := (15 : Int32)) (by decide) (v := (.ref w2)) rfl rfl (g := (mkF m 131 #[.val (.int (15 : Int32)), .val (.ref b1)] [(.int (15 : Int32)), (.ref b1)])) rfl rfl (hb hby d1_131) ?_
    exact retOut X34 hx Bd.returns rfl (Or.inr (Or.inr (Or.inr (Or.inr ⟨rfl, rfl, rfl⟩)))) (hb hby d1_132) hr
  · show Qrm47 Z w0 w1 w2 w3 w4 w5 w6 w7 w8 w9 w10 w11 w12 w13 w14 w15 w16 kw16 h0 n0 _ T34.heap _
    rw [e34]
    exact ⟨rfl, N34, K34⟩
def Qrm48 (Z : State) (w0 : Addr) (w1 : Addr) (w2 : Addr) (w3 : Addr) (w4 : Addr) (w5 : Addr) (w6 : Addr) (w7 : Addr) (w8 : Addr) (w9 : Addr) (w10 : Addr) (w11 : Addr) (w12 : Addr) (w13 : Addr) (w14 : Addr) (w15 : Addr) (w16 : Addr) (kw16 : ClassId) (h0 : Heap) (n0 : Nat) (v : Option Value) (h : Heap) (L : List Loc) : Prop := v = some (.ref w2) ∧ Fr n0 L ∧ h = h0
set_option maxRecDepth 65536 in
set_option maxHeartbeats 40000000 in
theorem rm48 (l : Launch) (Z : State) (a0 : Array Value) (hw : ∀ d ∈ tables_1, d.before a0 Z = true) (w0 : Addr) (w1 : Addr) (w2 : Addr) (w3 : Addr) (w4 : Addr) (w5 : Addr) (w6 : Addr) (w7 : Addr) (w8 : Addr) (w9 : Addr) (w10 : Addr) (w11 : Addr) (w12 : Addr) (w13 : Addr) (w14 : Addr) (w15 : Addr) (w16 : Addr) (kw16 : ClassId) (hS : SF Z w0 w1 w2 w3 w4 w5 w6 w7 w8 w9 w10 w11 w12 w13 w14 w15 w16 kw16) (ws : List Jvm.Cond) (h0 : Heap) (n0 : Nat) (O0 : Old Z n0 h0) :
    MetFree l (⟨z0, "of", z2⟩ : MethodName) (head1 (Jvm.Cond.code (⟨z0, "of", z2⟩ : MethodName) prog_90_method_5_code 1 (some (.object z0)) :: ws) ({ frames := 0, cells := 0, slots := 0, locals := 0 } : Room)) (fun a U => a = #[(.int (15 : Int32))] ∧ Z.Warmed39 U.vm ∧ U.heap = h0) (fun _ _ _ _ _ => True) (fun _ U o U' => ∃ v L, o = .returned v ∧ Qrm48 Z w0 w1 w2 w3 w4 w5 w6 w7 w8 w9 w10 w11 w12 w13 w14 w15 w16 kw16 h0 n0 v U'.heap L ∧ FrameEnd U o U' L ({ frames := 0, cells := 0, slots := 0, locals := 0 } : Room).cells ({ frames := 0, cells := 0, slots := 0, locals := 0 } : Room).slots) := by
  refine MetFree.of_bodySF (plainFor_of_name pn18) hisR ?_
  intro p e s m args below meth c s₁ Bd hml0 hP hK
  obtain ⟨rfl, hZ, hh⟩ := hP
  have hx := Bd.exec
  have hby := Bd.bytes
  have hml : c.maxLocals = 1 := hml0
  have hown : s.vm.findClass z0 = some m.cls := findClass_of_methodNamed Bd.named
  have hnm := (name_of_methodNamed Bd.named Bd.method).1
  have X0 : Stand p l e ({ frames := 0, cells := 0, slots := 0, locals := 0 } : Room) s m #[(.int (15 : Int32))] below meth c s₁ [] 0 0 := Stand.of_body Bd
  have e0 : s₁.heap = h0 := by rw [← hh, Bd.state]; rfl
  have N0 := Fr.nil n0
  have pre0 : ∀ t, Steps p.tables e below (s₁.setTop (mkF m 0 #[.val (.int (15 : Int32))] [])) t → Steps p.tables e below (s₁.setTop (entryFrame m #[(.int (15 : Int32))] 1)) t := fun t k => castTop (ef17 m (15 : Int32)) k
  obtain ⟨T1, X1, e1, st1⟩ := getS2 X0 hx hZ hown (host := "") (Or.inl (hw _ m43)) Via.refl e0 (hS.2.2.2.2.2.2.2.2.2.2.2.2.2.2.2.2.2.2.2.2.2.2.2.2.2.2.2.2.2.2.2.2.2.2.2.2.2.2.2.2.2.2.2.2.2.2.2.2.1.ext O0.2) (g := (mkF m 5 #[.val (.int (15 : Int32))] [(.int (15 : Int32))])) rfl (hb hby d2_5)
  obtain ⟨T2, X2, e2, st2⟩ := getS2 X1 hx hZ hown (host := "") (Or.inl (hw _ m43)) Via.refl e1 (hS.2.2.2.2.2.2.2.2.2.2.2.2.2.2.2.2.2.2.2.2.2.2.2.2.2.2.2.2.2.2.2.2.2.2.2.2.2.2.2.2.2.2.2.2.2.2.2.2.1.ext O0.2) (g := (mkF m 12 #[.val (.int (15 : Int32))] [])) rfl (hb hby d2_12)
  obtain ⟨fs, hr, hrun, hended, hW, hsame⟩ := X2.leave (v := some (.ref w2)) (fun h => by rw [Bd.returns] at h; cases h)
  refine ⟨_, _, pre0 _ ?_, hrun, hended, _, _, rfl, ?_, ⟨_, rfl⟩, hW, hsame.mono (by decide) (by decide)⟩
  · show Steps p.tables e below (s₁.setTop (mkF m 0 #[.val (.int (15 : Int32))] [])) _
    refine XS.iloadN X0.here hx rfl (hb hby d2_0) rfl ?_
    refine XS.ifNo X0.here hx rfl (hb hby d2_1) rfl ((if0 _ _).trans (flt (by decide : ¬ ((15 : Int32) < (0 : Int32)))).1) ?_
    refine XS.iloadN X0.here hx rfl (hb hby d2_4) rfl ?_
    refine st1 _ ?_
    show Steps p.tables e below (T1.setTop (mkF m 8 #[.val (.int (15 : Int32))] [(.ref w16), (.int (15 : Int32))])) _
    refine own_alen X1 hx hZ e1 (hS.2.2.2.2.2.2.2.2.2.2.2.2.2.2.2.2.2.2.2.2.2.2.2.2.2.2.2.2.2.2.2.2.2.2.2.2.2.2.2.2.2.2.2.2.2.2.2.2.2.ext O0.2) (g := (mkF m 8 #[.val (.int (15 : Int32))] [(.ref w16), (.int (15 : Int32))])) rfl rfl (hb hby d2_8) ?_
    refine XS.icmpNo X1.here hx rfl (hb hby d2_9) rfl (tlt (by decide : (15 : Int32) < (17 : Int32))).2.1 ?_
    refine st2 _ ?_
    refine XS.iloadN X2.here hx rfl (hb hby d2_15) rfl ?_
    show Steps p.tables e below (T2.setTop (mkF m 16 #[.val (.int (15 : Int32))] [(.int (15 : Int32)), (.ref w16)])) _
    refine own_aaload X2 hx hZ e2 (hS.2.2.2.2.2.2.2.2.2.2.2.2.2.2.2.2.2.2.2.2.2.2.2.2.2.2.2.2.2.2.2.2.2.2.2.2.2.2.2.2.2.2.2.2.2.2.2.2.2.ext O0.2) (j := (15 : Int32)) (by decide) (v := (.ref w2)) rfl rfl (g := (mkF m 16 #[.val (.int (15 : Int32))] [(.int (15 : Int32)), (.ref w16)])) rfl rfl (hb hby d2_16) ?_
    refine XS.goto X2.here hx rfl (pc0 := 17) (pc' := 21) rfl (hb hby d2_17) (by decide) (by decide) ?_
    exact retOut X2 hx Bd.returns rfl (Or.inr (Or.inr (Or.inr (Or.inr ⟨rfl, rfl, rfl⟩)))) (hb hby d2_21) hr
  · show Qrm48 Z w0 w1 w2 w3 w4 w5 w6 w7 w8 w9 w10 w11 w12 w13 w14 w15 w16 kw16 h0 n0 _ T2.heap _
    rw [e2]
    exact ⟨rfl, N0, rfl⟩
def Qrm49 (Z : State) (w0 : Addr) (w1 : Addr) (w2 : Addr) (w3 : Addr) (w4 : Addr) (w5 : Addr) (w6 : Addr) (w7 : Addr) (w8 : Addr) (w9 : Addr) (w10 : Addr) (w11 : Addr) (w12 : Addr) (w13 : Addr) (w14 : Addr) (w15 : Addr) (w16 : Addr) (kw16 : ClassId) (h0 : Heap) (n0 : Nat) (v : Option Value) (h : Heap) (L : List Loc) : Prop := v = some (.int (15 : Int32)) ∧ Fr n0 L ∧ h = h0
set_option maxRecDepth 65536 in
set_option maxHeartbeats 40000000 in
theorem rm49 (l : Launch) (Z : State) (a0 : Array Value) (hw : ∀ d ∈ tables_1, d.before a0 Z = true) (w0 : Addr) (w1 : Addr) (w2 : Addr) (w3 : Addr) (w4 : Addr) (w5 : Addr) (w6 : Addr) (w7 : Addr) (w8 : Addr) (w9 : Addr) (w10 : Addr) (w11 : Addr) (w12 : Addr) (w13 : Addr) (w14 : Addr) (w15 : Addr) (w16 : Addr) (kw16 : ClassId) (hS : SF Z w0 w1 w2 w3 w4 w5 w6 w7 w8 w9 w10 w11 w12 w13 w14 w15 w16 kw16) (ws : List Jvm.Cond) (h0 : Heap) (n0 : Nat) (O0 : Old Z n0 h0) :
    MetFree l (⟨z0, "code", "()I"⟩ : MethodName) (head1 (Jvm.Cond.code (⟨z0, "code", "()I"⟩ : MethodName) prog_90_method_4_code 1 (some .int) :: ws) ({ frames := 0, cells := 0, slots := 0, locals := 0 } : Room)) (fun a U => a = #[(.ref w2)] ∧ Z.Warmed39 U.vm ∧ U.heap = h0) (fun _ _ _ _ _ => True) (fun _ U o U' => ∃ v L, o = .returned v ∧ Qrm49 Z w0 w1 w2 w3 w4 w5 w6 w7 w8 w9 w10 w11 w12 w13 w14 w15 w16 kw16 h0 n0 v U'.heap L ∧ FrameEnd U o U' L ({ frames := 0, cells := 0, slots := 0, locals := 0 } : Room).cells ({ frames := 0, cells := 0, slots := 0, locals := 0 } : Room).slots) := by
  refine MetFree.of_bodySF (plainFor_of_name pn18) hisR ?_
  intro p e s m args below meth c s₁ Bd hml0 hP hK
  obtain ⟨rfl, hZ, hh⟩ := hP
  have hx := Bd.exec
  have hby := Bd.bytes
  have hml : c.maxLocals = 1 := hml0
  have hown : s.vm.findClass z0 = some m.cls := findClass_of_methodNamed Bd.named
  have hnm := (name_of_methodNamed Bd.named Bd.method).1
  have X0 : Stand p l e ({ frames := 0, cells := 0, slots := 0, locals := 0 } : Room) s m #[(.ref w2)] below meth c s₁ [] 0 0 := Stand.of_body Bd
  have e0 : s₁.heap = h0 := by rw [← hh, Bd.state]; rfl
  have N0 := Fr.nil n0
  have pre0 : ∀ t, Steps p.tables e below (s₁.setTop (mkF m 0 #[.val (.ref w2)] [])) t → Steps p.tables e below (s₁.setTop (entryFrame m #[(.ref w2)] 1)) t := fun t k => castTop (ef135 m w2) k
  obtain ⟨T1, X1, e1, st1⟩ := getF X0 hx hZ hown (host := "") (Or.inl (hw _ m50)) Via.refl e0 (hS.2.2.2.2.2.2.2.2.1.ext O0.2) (g := (mkF m 1 #[.val (.ref w2)] [(.ref w2)])) rfl rfl (hb hby d3_1)
  obtain ⟨fs, hr, hrun, hended, hW, hsame⟩ := X1.leave (v := some (.int (15 : Int32))) (fun h => by rw [Bd.returns] at h; cases h)
  refine ⟨_, _, pre0 _ ?_, hrun, hended, _, _, rfl, ?_, ⟨_, rfl⟩, hW, hsame.mono (by decide) (by decide)⟩
  · show Steps p.tables e below (s₁.setTop (mkF m 0 #[.val (.ref w2)] [])) _
    refine XS.aloadN X0.here hx rfl (hb hby d3_0) rfl rfl ?_
    refine st1 _ ?_
    exact retOut X1 hx Bd.returns rfl (Or.inl ⟨rfl, Or.inl rfl, _, rfl⟩) (hb hby d3_4) hr
  · show Qrm49 Z w0 w1 w2 w3 w4 w5 w6 w7 w8 w9 w10 w11 w12 w13 w14 w15 w16 kw16 h0 n0 _ T1.heap _
    rw [e1]
    exact ⟨rfl, N0, rfl⟩
def Qrm50 (Z : State) (w0 : Addr) (w1 : Addr) (w2 : Addr) (w3 : Addr) (w4 : Addr) (w5 : Addr) (w6 : Addr) (w7 : Addr) (w8 : Addr) (w9 : Addr) (w10 : Addr) (w11 : Addr) (w12 : Addr) (w13 : Addr) (w14 : Addr) (w15 : Addr) (w16 : Addr) (kw16 : ClassId) (h0 : Heap) (n0 : Nat) (v : Option Value) (h : Heap) (L : List Loc) : Prop := v = some (.ref w3) ∧ Fr n0 L ∧ Keep h0 h []
set_option maxRecDepth 65536 in
set_option maxHeartbeats 40000000 in
theorem rm50 (l : Launch) (Z : State) (a0 : Array Value) (hw : ∀ d ∈ tables_1, d.before a0 Z = true) (w0 : Addr) (w1 : Addr) (w2 : Addr) (w3 : Addr) (w4 : Addr) (w5 : Addr) (w6 : Addr) (w7 : Addr) (w8 : Addr) (w9 : Addr) (w10 : Addr) (w11 : Addr) (w12 : Addr) (w13 : Addr) (w14 : Addr) (w15 : Addr) (w16 : Addr) (kw16 : ClassId) (hS : SF Z w0 w1 w2 w3 w4 w5 w6 w7 w8 w9 w10 w11 w12 w13 w14 w15 w16 kw16) (ws : List Jvm.Cond) (h0 : Heap) (n0 : Nat) (O0 : Old Z n0 h0) :
    MetFree l (⟨z1, "expected", z2⟩ : MethodName) (head1 (Jvm.Cond.code (⟨z1, "expected", z2⟩ : MethodName) method_3_code 2 (some (.object z0)) :: ws) ({ frames := 0, cells := 1, slots := 17, locals := 0 } : Room)) (fun a U => a = #[(.int (16 : Int32))] ∧ Z.Warmed39 U.vm ∧ U.heap = h0) (fun _ _ _ _ _ => True) (fun _ U o U' => ∃ v L, o = .returned v ∧ Qrm50 Z w0 w1 w2 w3 w4 w5 w6 w7 w8 w9 w10 w11 w12 w13 w14 w15 w16 kw16 h0 n0 v U'.heap L ∧ FrameEnd U o U' L ({ frames := 0, cells := 1, slots := 17, locals := 0 } : Room).cells ({ frames := 0, cells := 1, slots := 17, locals := 0 } : Room).slots) := by
  refine MetFree.of_bodySF (plainFor_of_name pn7) hisR ?_
  intro p e s m args below meth c s₁ Bd hml0 hP hK
  obtain ⟨rfl, hZ, hh⟩ := hP
  have hx := Bd.exec
  have hby := Bd.bytes
  have hml : c.maxLocals = 2 := hml0
  have hown : s.vm.findClass z1 = some m.cls := findClass_of_methodNamed Bd.named
  have hnm := (name_of_methodNamed Bd.named Bd.method).1
  have X0 : Stand p l e ({ frames := 0, cells := 1, slots := 17, locals := 0 } : Room) s m #[(.int (16 : Int32))] below meth c s₁ [] 0 0 := Stand.of_body Bd
  have e0 : s₁.heap = h0 := by rw [← hh, Bd.state]; rfl
  have N0 := Fr.nil n0
  have pre0 : ∀ t, Steps p.tables e below (s₁.setTop (mkF m 0 #[.val (.int (16 : Int32)), .unset] [])) t → Steps p.tables e below (s₁.setTop (entryFrame m #[(.int (16 : Int32))] 2)) t := fun t k => castTop (ef6 m (16 : Int32)) k
  obtain ⟨T1, h1, k1, b1, X1, e1, E1, V1, O'1, g1, O1, K1, st1⟩ := own_newR X0 hx hZ (vs := [.null, .null, .null, .null, .null, .null, .null, .null, .null, .null, .null, .null, .null, .null, .null, .null, .null]) (cap := 17) rfl hown (hw _ m4) (hw _ m5) e0 O0 (Keep.refl h0 []) (g := (mkF m 14 #[.val (.int (16 : Int32)), .unset] [(.int (17 : Int32))])) rfl (hb hby d1_14) rfl (by decide) (by decide) (by decide) (by decide) (by decide)
  obtain ⟨T2, X2, e2, st2⟩ := getS2 X1 hx hZ hown (host := "") (Or.inl (hw _ m6)) Via.refl e1 (hS.2.2.2.2.2.2.2.2.2.2.2.2.2.2.2.1.ext O1.2) (g := (mkF m 19 #[.val (.int (16 : Int32)), .unset] [(.int (0 : Int32)), (.ref b1), (.ref b1)])) rfl (hb hby d1_19)
  obtain ⟨T3, h3, L'3, X3, e3, W3, V3, O3, K3, N3, st3⟩ := own_stR X2 hx hZ e2 V1 O1 K1 N0 (Nat.le_trans (own_old_le O0) g1) (Or.inr (Nat.le_trans (Keep.refl h0 []).1 g1)) (j := (0 : Int32)) 0 (by decide) (Nat.le_of_ble_eq_true rfl) (vs' := [(.ref w5), .null, .null, .null, .null, .null, .null, .null, .null, .null, .null, .null, .null, .null, .null, .null, .null]) rfl rfl rfl (Or.inr ⟨_, _, rfl, O'1, (Ins.self (hS.2.2.2.2.2.2.2.2.2.2.2.2.2.2.2.2.1.ext O1.2))⟩) (g := (mkF m 22 #[.val (.int (16 : Int32)), .unset] [(.ref w5), (.int (0 : Int32)), (.ref b1), (.ref b1)])) rfl rfl (hb hby d1_22)
  obtain ⟨T4, X4, e4, st4⟩ := getS2 X3 hx hZ hown (host := "") (Or.inl (hw _ m10)) Via.refl e3 (hS.2.2.2.2.2.2.2.2.2.2.2.2.2.2.2.2.2.2.2.2.2.2.2.2.2.2.2.2.2.2.2.2.2.2.2.2.2.2.2.2.2.2.1.ext O3.2) (g := (mkF m 25 #[.val (.int (16 : Int32)), .unset] [(.int (1 : Int32)), (.ref b1), (.ref b1)])) rfl (hb hby d1_25)
  obtain ⟨T5, h5, L'5, X5, e5, W5, V5, O5, K5, N5, st5⟩ := own_stR X4 hx hZ e4 V3 O3 K3 N3 (Nat.le_trans (own_old_le O0) g1) (Or.inr (Nat.le_trans (Keep.refl h0 []).1 g1)) (j := (1 : Int32)) 1 (by decide) (Nat.le_of_ble_eq_true rfl) (vs' := [(.ref w5), (.ref w14), .null, .null, .null, .null, .null, .null, .null, .null, .null, .null, .null, .null, .null, .null, .null]) rfl rfl rfl (Or.inr ⟨_, _, rfl, O'1, (Ins.self (hS.2.2.2.2.2.2.2.2.2.2.2.2.2.2.2.2.2.2.2.2.2.2.2.2.2.2.2.2.2.2.2.2.2.2.2.2.2.2.2.2.2.2.2.1.ext O3.2))⟩) (g := (mkF m 28 #[.val (.int (16 : Int32)), .unset] [(.ref w14), (.int (1 : Int32)), (.ref b1), (.ref b1)])) rfl rfl (hb hby d1_28)
  obtain ⟨T6, X6, e6, st6⟩ := getS2 X5 hx hZ hown (host := "") (Or.inl (hw _ m12)) Via.refl e5 (hS.2.2.2.2.2.2.2.2.2.2.2.2.2.2.2.2.2.2.2.2.2.2.2.2.2.2.2.2.2.2.2.2.2.1.ext O5.2) (g := (mkF m 31 #[.val (.int (16 : Int32)), .unset] [(.int (2 : Int32)), (.ref b1), (.ref b1)])) rfl (hb hby d1_31)
  obtain ⟨T7, h7, L'7, X7, e7, W7, V7, O7, K7, N7, st7⟩ := own_stR X6 hx hZ e6 V5 O5 K5 N5 (Nat.le_trans (own_old_le O0) g1) (Or.inr (Nat.le_trans (Keep.refl h0 []).1 g1)) (j := (2 : Int32)) 2 (by decide) (Nat.le_of_ble_eq_true rfl) (vs' := [(.ref w5), (.ref w14), (.ref w11), .null, .null, .null, .null, .null, .null, .null, .null, .null, .null, .null, .null, .null, .null]) rfl rfl rfl (Or.inr ⟨_, _, rfl, O'1, (Ins.self (hS.2.2.2.2.2.2.2.2.2.2.2.2.2.2.2.2.2.2.2.2.2.2.2.2.2.2.2.2.2.2.2.2.2.2.1.ext O5.2))⟩) (g := (mkF m 34 #[.val (.int (16 : Int32)), .unset] [(.ref w11), (.int (2 : Int32)), (.ref b1), (.ref b1)])) rfl rfl (hb hby d1_34)
  obtain ⟨T8, X8, e8, st8⟩ := getS2 X7 hx hZ hown (host := "") (Or.inl (hw _ m14)) Via.refl e7 (hS.1.ext O7.2) (g := (mkF m 37 #[.val (.int (16 : Int32)), .unset] [(.int (3 : Int32)), (.ref b1), (.ref b1)])) rfl (hb hby d1_37)
  obtain ⟨T9, h9, L'9, X9, e9, W9, V9, O9, K9, N9, st9⟩ := own_stR X8 hx hZ e8 V7 O7 K7 N7 (Nat.le_trans (own_old_le O0) g1) (Or.inr (Nat.le_trans (Keep.refl h0 []).1 g1)) (j := (3 : Int32)) 3 (by decide) (Nat.le_of_ble_eq_true rfl) (vs' := [(.ref w5), (.ref w14), (.ref w11), (.ref w0), .null, .null, .null, .null, .null, .null, .null, .null, .null, .null, .null, .null, .null]) rfl rfl rfl (Or.inr ⟨_, _, rfl, O'1, (Ins.self (hS.2.1.ext O7.2))⟩) (g := (mkF m 40 #[.val (.int (16 : Int32)), .unset] [(.ref w0), (.int (3 : Int32)), (.ref b1), (.ref b1)])) rfl rfl (hb hby d1_40)
  obtain ⟨T10, h10, L'10, X10, e10, W10, V10, O10, K10, N10, st10⟩ := own_stR X9 hx hZ e9 V9 O9 K9 N9 (Nat.le_trans (own_old_le O0) g1) (Or.inr (Nat.le_trans (Keep.refl h0 []).1 g1)) (j := (4 : Int32)) 4 (by decide) (Nat.le_of_ble_eq_true rfl) (vs' := [(.ref w5), (.ref w14), (.ref w11), (.ref w0), .null, .null, .null, .null, .null, .null, .null, .null, .null, .null, .null, .null, .null]) rfl rfl rfl (Or.inl rfl) (g := (mkF m 44 #[.val (.int (16 : Int32)), .unset] [.null, (.int (4 : Int32)), (.ref b1), (.ref b1)])) rfl rfl (hb hby d1_44)
  obtain ⟨T11, X11, e11, st11⟩ := getS2 X10 hx hZ hown (host := "") (Or.inl (hw _ m16)) Via.refl e10 (hS.2.2.2.2.2.2.2.2.2.2.2.2.2.2.2.2.2.2.2.2.2.2.2.2.1.ext O10.2) (g := (mkF m 47 #[.val (.int (16 : Int32)), .unset] [(.int (5 : Int32)), (.ref b1), (.ref b1)])) rfl (hb hby d1_47)
  obtain ⟨T12, h12, L'12, X12, e12, W12, V12, O12, K12, N12, st12⟩ := own_stR X11 hx hZ e11 V10 O10 K10 N10 (Nat.le_trans (own_old_le O0) g1) (Or.inr (Nat.le_trans (Keep.refl h0 []).1 g1)) (j := (5 : Int32)) 5 (by decide) (Nat.le_of_ble_eq_true rfl) (vs' := [(.ref w5), (.ref w14), (.ref w11), (.ref w0), .null, (.ref w8), .null, .null, .null, .null, .null, .null, .null, .null, .null, .null, .null]) rfl rfl rfl (Or.inr ⟨_, _, rfl, O'1, (Ins.self (hS.2.2.2.2.2.2.2.2.2.2.2.2.2.2.2.2.2.2.2.2.2.2.2.2.2.1.ext O10.2))⟩) (g := (mkF m 50 #[.val (.int (16 : Int32)), .unset] [(.ref w8), (.int (5 : Int32)), (.ref b1), (.ref b1)])) rfl rfl (hb hby d1_50)
  obtain ⟨T13, X13, e13, st13⟩ := getS2 X12 hx hZ hown (host := "") (Or.inl (hw _ m18)) Via.refl e12 (hS.2.2.2.2.2.2.2.2.2.2.2.2.2.2.2.2.2.2.2.2.2.2.2.2.2.2.2.2.2.2.2.2.2.2.2.2.2.2.2.2.2.2.2.2.2.1.ext O12.2) (g := (mkF m 54 #[.val (.int (16 : Int32)), .unset] [(.int (6 : Int32)), (.ref b1), (.ref b1)])) rfl (hb hby d1_54)
  obtain ⟨T14, h14, L'14, X14, e14, W14, V14, O14, K14, N14, st14⟩ := own_stR X13 hx hZ e13 V12 O12 K12 N12 (Nat.le_trans (own_old_le O0) g1) (Or.inr (Nat.le_trans (Keep.refl h0 []).1 g1)) (j := (6 : Int32)) 6 (by decide) (Nat.le_of_ble_eq_true rfl) (vs' := [(.ref w5), (.ref w14), (.ref w11), (.ref w0), .null, (.ref w8), (.ref w15), .null, .null, .null, .null, .null, .null, .null, .null, .null, .null]) rfl rfl rfl (Or.inr ⟨_, _, rfl, O'1, (Ins.self (hS.2.2.2.2.2.2.2.2.2.2.2.2.2.2.2.2.2.2.2.2.2.2.2.2.2.2.2.2.2.2.2.2.2.2.2.2.2.2.2.2.2.2.2.2.2.2.1.ext O12.2))⟩) (g := (mkF m 57 #[.val (.int (16 : Int32)), .unset] [(.ref w15), (.int (6 : Int32)), (.ref b1), (.ref b1)])) rfl rfl (hb hby d1_57)
  obtain ⟨T15, X15, e15, st15⟩ := getS2 X14 hx hZ hown (host := "") (Or.inl (hw _ m20)) Via.refl e14 (hS.2.2.2.2.2.2.2.2.2.2.2.2.2.2.2.2.2.2.2.2.2.2.2.2.2.2.2.2.2.2.1.ext O14.2) (g := (mkF m 61 #[.val (.int (16 : Int32)), .unset] [(.int (7 : Int32)), (.ref b1), (.ref b1)])) rfl (hb hby d1_61)
  obtain ⟨T16, h16, L'16, X16, e16, W16, V16, O16, K16, N16, st16⟩ := own_stR X15 hx hZ e15 V14 O14 K14 N14 (Nat.le_trans (own_old_le O0) g1) (Or.inr (Nat.le_trans (Keep.refl h0 []).1 g1)) (j := (7 : Int32)) 7 (by decide) (Nat.le_of_ble_eq_true rfl) (vs' := [(.ref w5), (.ref w14), (.ref w11), (.ref w0), .null, (.ref w8), (.ref w15), (.ref w10), .null, .null, .null, .null, .null, .null, .null, .null, .null]) rfl rfl rfl (Or.inr ⟨_, _, rfl, O'1, (Ins.self (hS.2.2.2.2.2.2.2.2.2.2.2.2.2.2.2.2.2.2.2.2.2.2.2.2.2.2.2.2.2.2.2.1.ext O14.2))⟩) (g := (mkF m 64 #[.val (.int (16 : Int32)), .unset] [(.ref w10), (.int (7 : Int32)), (.ref b1), (.ref b1)])) rfl rfl (hb hby d1_64)
  obtain ⟨T17, X17, e17, st17⟩ := getS2 X16 hx hZ hown (host := "") (Or.inl (hw _ m22)) Via.refl e16 (hS.2.2.2.2.2.2.2.2.2.2.2.2.2.2.2.2.2.2.2.2.2.2.2.2.2.2.2.2.2.2.2.2.2.2.2.2.2.2.2.1.ext O16.2) (g := (mkF m 68 #[.val (.int (16 : Int32)), .unset] [(.int (8 : Int32)), (.ref b1), (.ref b1)])) rfl (hb hby d1_68)
  obtain ⟨T18, h18, L'18, X18, e18, W18, V18, O18, K18, N18, st18⟩ := own_stR X17 hx hZ e17 V16 O16 K16 N16 (Nat.le_trans (own_old_le O0) g1) (Or.inr (Nat.le_trans (Keep.refl h0 []).1 g1)) (j := (8 : Int32)) 8 (by decide) (Nat.le_of_ble_eq_true rfl) (vs' := [(.ref w5), (.ref w14), (.ref w11), (.ref w0), .null, (.ref w8), (.ref w15), (.ref w10), (.ref w13), .null, .null, .null, .null, .null, .null, .null, .null]) rfl rfl rfl (Or.inr ⟨_, _, rfl, O'1, (Ins.self (hS.2.2.2.2.2.2.2.2.2.2.2.2.2.2.2.2.2.2.2.2.2.2.2.2.2.2.2.2.2.2.2.2.2.2.2.2.2.2.2.2.1.ext O16.2))⟩) (g := (mkF m 71 #[.val (.int (16 : Int32)), .unset] [(.ref w13), (.int (8 : Int32)), (.ref b1), (.ref b1)])) rfl rfl (hb hby d1_71)
  obtain ⟨T19, X19, e19, st19⟩ := getS2 X18 hx hZ hown (host := "") (Or.inl (hw _ m24)) Via.refl e18 (hS.2.2.2.2.2.2.2.2.2.2.2.2.2.2.2.2.2.2.2.2.2.2.2.2.2.2.2.1.ext O18.2) (g := (mkF m 75 #[.val (.int (16 : Int32)), .unset] [(.int (9 : Int32)), (.ref b1), (.ref b1)])) rfl (hb hby d1_75)
  obtain ⟨T20, h20, L'20, X20, e20, W20, V20, O20, K20, N20, st20⟩ := own_stR X19 hx hZ e19 V18 O18 K18 N18 (Nat.le_trans (own_old_le O0) g1) (Or.inr (Nat.le_trans (Keep.refl h0 []).1 g1)) (j := (9 : Int32)) 9 (by decide) (Nat.le_of_ble_eq_true rfl) (vs' := [(.ref w5), (.ref w14), (.ref w11), (.ref w0), .null, (.ref w8), (.ref w15), (.ref w10), (.ref w13), (.ref w9), .null, .null, .null, .null, .null, .null, .null]) rfl rfl rfl (Or.inr ⟨_, _, rfl, O'1, (Ins.self (hS.2.2.2.2.2.2.2.2.2.2.2.2.2.2.2.2.2.2.2.2.2.2.2.2.2.2.2.2.1.ext O18.2))⟩) (g := (mkF m 78 #[.val (.int (16 : Int32)), .unset] [(.ref w9), (.int (9 : Int32)), (.ref b1), (.ref b1)])) rfl rfl (hb hby d1_78)
  obtain ⟨T21, X21, e21, st21⟩ := getS2 X20 hx hZ hown (host := "") (Or.inl (hw _ m26)) Via.refl e20 (hS.2.2.2.2.2.2.2.2.2.2.2.2.2.2.2.2.2.2.2.2.2.1.ext O20.2) (g := (mkF m 82 #[.val (.int (16 : Int32)), .unset] [(.int (10 : Int32)), (.ref b1), (.ref b1)])) rfl (hb hby d1_82)
  obtain ⟨T22, h22, L'22, X22, e22, W22, V22, O22, K22, N22, st22⟩ := own_stR X21 hx hZ e21 V20 O20 K20 N20 (Nat.le_trans (own_old_le O0) g1) (Or.inr (Nat.le_trans (Keep.refl h0 []).1 g1)) (j := (10 : Int32)) 10 (by decide) (Nat.le_of_ble_eq_true rfl) (vs' := [(.ref w5), (.ref w14), (.ref w11), (.ref w0), .null, (.ref w8), (.ref w15), (.ref w10), (.ref w13), (.ref w9), (.ref w7), .null, .null, .null, .null, .null, .null]) rfl rfl rfl (Or.inr ⟨_, _, rfl, O'1, (Ins.self (hS.2.2.2.2.2.2.2.2.2.2.2.2.2.2.2.2.2.2.2.2.2.2.1.ext O20.2))⟩) (g := (mkF m 85 #[.val (.int (16 : Int32)), .unset] [(.ref w7), (.int (10 : Int32)), (.ref b1), (.ref b1)])) rfl rfl (hb hby d1_85)
  obtain ⟨T23, X23, e23, st23⟩ := getS2 X22 hx hZ hown (host := "") (Or.inl (hw _ m28)) Via.refl e22 (hS.2.2.2.2.2.2.2.2.2.2.2.2.2.2.2.2.2.2.2.2.2.2.2.2.2.2.2.2.2.2.2.2.2.2.2.2.1.ext O22.2) (g := (mkF m 89 #[.val (.int (16 : Int32)), .unset] [(.int (11 : Int32)), (.ref b1), (.ref b1)])) rfl (hb hby d1_89)
  obtain ⟨T24, h24, L'24, X24, e24, W24, V24, O24, K24, N24, st24⟩ := own_stR X23 hx hZ e23 V22 O22 K22 N22 (Nat.le_trans (own_old_le O0) g1) (Or.inr (Nat.le_trans (Keep.refl h0 []).1 g1)) (j := (11 : Int32)) 11 (by decide) (Nat.le_of_ble_eq_true rfl) (vs' := [(.ref w5), (.ref w14), (.ref w11), (.ref w0), .null, (.ref w8), (.ref w15), (.ref w10), (.ref w13), (.ref w9), (.ref w7), (.ref w12), .null, .null, .null, .null, .null]) rfl rfl rfl (Or.inr ⟨_, _, rfl, O'1, (Ins.self (hS.2.2.2.2.2.2.2.2.2.2.2.2.2.2.2.2.2.2.2.2.2.2.2.2.2.2.2.2.2.2.2.2.2.2.2.2.2.1.ext O22.2))⟩) (g := (mkF m 92 #[.val (.int (16 : Int32)), .unset] [(.ref w12), (.int (11 : Int32)), (.ref b1), (.ref b1)])) rfl rfl (hb hby d1_92)
  obtain ⟨T25, X25, e25, st25⟩ := getS2 X24 hx hZ hown (host := "") (Or.inl (hw _ m30)) Via.refl e24 (hS.2.2.2.2.2.2.2.2.2.2.2.2.2.2.2.2.2.2.1.ext O24.2) (g := (mkF m 96 #[.val (.int (16 : Int32)), .unset] [(.int (12 : Int32)), (.ref b1), (.ref b1)])) rfl (hb hby d1_96)
  obtain ⟨T26, h26, L'26, X26, e26, W26, V26, O26, K26, N26, st26⟩ := own_stR X25 hx hZ e25 V24 O24 K24 N24 (Nat.le_trans (own_old_le O0) g1) (Or.inr (Nat.le_trans (Keep.refl h0 []).1 g1)) (j := (12 : Int32)) 12 (by decide) (Nat.le_of_ble_eq_true rfl) (vs' := [(.ref w5), (.ref w14), (.ref w11), (.ref w0), .null, (.ref w8), (.ref w15), (.ref w10), (.ref w13), (.ref w9), (.ref w7), (.ref w12), (.ref w6), .null, .null, .null, .null]) rfl rfl rfl (Or.inr ⟨_, _, rfl, O'1, (Ins.self (hS.2.2.2.2.2.2.2.2.2.2.2.2.2.2.2.2.2.2.2.1.ext O24.2))⟩) (g := (mkF m 99 #[.val (.int (16 : Int32)), .unset] [(.ref w6), (.int (12 : Int32)), (.ref b1), (.ref b1)])) rfl rfl (hb hby d1_99)
  obtain ⟨T27, X27, e27, st27⟩ := getS2 X26 hx hZ hown (host := "") (Or.inl (hw _ m32)) Via.refl e26 (hS.2.2.2.2.2.2.2.2.2.2.2.2.1.ext O26.2) (g := (mkF m 103 #[.val (.int (16 : Int32)), .unset] [(.int (13 : Int32)), (.ref b1), (.ref b1)])) rfl (hb hby d1_103)
  obtain ⟨T28, h28, L'28, X28, e28, W28, V28, O28, K28, N28, st28⟩ := own_stR X27 hx hZ e27 V26 O26 K26 N26 (Nat.le_trans (own_old_le O0) g1) (Or.inr (Nat.le_trans (Keep.refl h0 []).1 g1)) (j := (13 : Int32)) 13 (by decide) (Nat.le_of_ble_eq_true rfl) (vs' := [(.ref w5), (.ref w14), (.ref w11), (.ref w0), .null, (.ref w8), (.ref w15), (.ref w10), (.ref w13), (.ref w9), (.ref w7), (.ref w12), (.ref w6), (.ref w4), .null, .null, .null]) rfl rfl rfl (Or.inr ⟨_, _, rfl, O'1, (Ins.self (hS.2.2.2.2.2.2.2.2.2.2.2.2.2.1.ext O26.2))⟩) (g := (mkF m 106 #[.val (.int (16 : Int32)), .unset] [(.ref w4), (.int (13 : Int32)), (.ref b1), (.ref b1)])) rfl rfl (hb hby d1_106)
  obtain ⟨T29, X29, e29, st29⟩ := getS2 X28 hx hZ hown (host := "") (Or.inl (hw _ m34)) Via.refl e28 (hS.2.2.2.1.ext O28.2) (g := (mkF m 110 #[.val (.int (16 : Int32)), .unset] [(.int (14 : Int32)), (.ref b1), (.ref b1)])) rfl (hb hby d1_110)
  obtain ⟨T30, h30, L'30, X30, e30, W30, V30, O30, K30, N30, st30⟩ := own_stR X29 hx hZ e29 V28 O28 K28 N28 (Nat.le_trans (own_old_le O0) g1) (Or.inr (Nat.le_trans (Keep.refl h0 []).1 g1)) (j := (14 : Int32)) 14 (by decide) (Nat.le_of_ble_eq_true rfl) (vs' := [(.ref w5), (.ref w14), (.ref w11), (.ref w0), .null, (.ref w8), (.ref w15), (.ref w10), (.ref w13), (.ref w9), (.ref w7), (.ref w12), (.ref w6), (.ref w4), (.ref w1), .null, .null]) rfl rfl rfl (Or.inr ⟨_, _, rfl, O'1, (Ins.self (hS.2.2.2.2.1.ext O28.2))⟩) (g := (mkF m 113 #[.val (.int (16 : Int32)), .unset] [(.ref w1), (.int (14 : Int32)), (.ref b1), (.ref b1)])) rfl rfl (hb hby d1_113)
  obtain ⟨T31, X31, e31, st31⟩ := getS2 X30 hx hZ hown (host := "") (Or.inl (hw _ m36)) Via.refl e30 (hS.2.2.2.2.2.2.1.ext O30.2) (g := (mkF m 117 #[.val (.int (16 : Int32)), .unset] [(.int (15 : Int32)), (.ref b1), (.ref b1)])) rfl (hb hby d1_117)
  obtain ⟨T32, h32, L'32, X32, e32, W32, V32, O32, K32, N32, st32⟩ := own_stR X31 hx hZ e31 V30 O30 K30 N30 (Nat.le_trans (own_old_le O0) g1) (Or.inr (Nat.le_trans (Keep.refl h0 []).1 g1)) (j := (15 : Int32)) 15 (by decide) (Nat.le_of_ble_eq_true rfl) (vs' := [(.ref w5), (.ref w14), (.ref w11), (.ref w0), .null, (.ref w8), (.ref w15), (.ref w10), (.ref w13), (.ref w9), (.ref w7), (.ref w12), (.ref w6), (.ref w4), (.ref w1), (.ref w2), .null]) rfl rfl rfl (Or.inr ⟨_, _, rfl, O'1, (Ins.self (hS.2.2.2.2.2.2.2.1.ext O30.2))⟩) (g := (mkF m 120 #[.val (.int (16 : Int32)), .unset] [(.ref w2), (.int (15 : Int32)), (.ref b1), (.ref b1)])) rfl rfl (hb hby d1_120)
  obtain ⟨T33, X33, e33, st33⟩ := getS2 X32 hx hZ hown (host := "") (Or.inl (hw _ m38)) Via.refl e32 (hS.2.2.2.2.2.2.2.2.2.1.ext O32.2) (g := (mkF m 124 #[.val (.int (16 : Int32)), .unset] [(.int (16 : Int32)), (.ref b1), (.ref b1)])) rfl (hb hby d1_124)
  obtain ⟨T34, h34, L'34, X34, e34, W34, V34, O34, K34, N34, st34⟩ := own_stR X33 hx hZ e33 V32 O32 K32 N32 (Nat.le_trans (own_old_le O0) g1) (Or.inr (Nat.le_trans (Keep.refl h0 []).1 g1)) (j := (16 : Int32)) 16 (by decide) (Nat.le_of_ble_eq_true rfl) (vs' := [(.ref w5), (.ref w14), (.ref w11), (.ref w0), .null, (.ref w8), (.ref w15), (.ref w10), (.ref w13), (.ref w9), (.ref w7), (.ref w12), (.ref w6), (.ref w4), (.ref w1), (.ref w2), (.ref w3)]) rfl rfl rfl (Or.inr ⟨_, _, rfl, O'1, (Ins.self (hS.2.2.2.2.2.2.2.2.2.2.1.ext O32.2))⟩) (g := (mkF m 127 #[.val (.int (16 : Int32)), .unset] [(.ref w3), (.int (16 : Int32)), (.ref b1), (.ref b1)])) rfl rfl (hb hby d1_127)
  obtain ⟨fs, hr, hrun, hended, hW, hsame⟩ := X34.leave (v := some (.ref w3)) (fun h => by rw [Bd.returns] at h; cases h)
  refine ⟨_, _, pre0 _ ?_, hrun, hended, _, _, rfl, ?_, ⟨_, rfl⟩, hW, hsame.mono (by decide) (by decide)⟩
  · show Steps p.tables e below (s₁.setTop (mkF m 0 #[.val (.int (16 : Int32)), .unset] [])) _
    refine XS.iloadN X0.here hx rfl (hb hby d1_0) rfl ?_
    refine XS.ifNo X0.here hx rfl (hb hby d1_1) rfl ((if0 _ _).trans (flt (by decide : ¬ ((16 : Int32) < (0 : Int32)))).1) ?_
    refine XS.iloadN X0.here hx rfl (hb hby d1_4) rfl ?_
    refine XS.bipush X0.here hx rfl (hb hby d1_5) ?_
    show Steps p.tables e below (s₁.setTop (mkF m 7 #[.val (.int (16 : Int32)), .unset] [(.int (16 : Int32)), (.int (16 : Int32))])) _
    refine XS.icmpYes X0.here hx rfl (pc0 := 7) (pc' := 12) rfl (hb hby d1_7) rfl (flt (by decide : ¬ ((16 : Int32) < (16 : Int32)))).2.2.2 (by decide) (by decide) ?_
    refine XS.bipush X0.here hx rfl (hb hby d1_12) ?_
    refine st1 _ ?_
    refine XS.dup X1.here hx rfl (hb hby d1_17) rfl rfl ?_
    show Steps p.tables e below (T1.setTop (mkF m 18 #[.val (.int (16 : Int32)), .unset] [(.ref b1), (.ref b1)])) _
    refine XS.iconst X1.here hx rfl (hb hby d1_18) ?_
    refine st2 _ ?_
    refine st3 _ ?_
    refine XS.dup X3.here hx rfl (hb hby d1_23) rfl rfl ?_
    show Steps p.tables e below (T3.setTop (mkF m 24 #[.val (.int (16 : Int32)), .unset] [(.ref b1), (.ref b1)])) _
    refine XS.iconst X3.here hx rfl (hb hby d1_24) ?_
    refine st4 _ ?_
    refine st5 _ ?_
    refine XS.dup X5.here hx rfl (hb hby d1_29) rfl rfl ?_
    show Steps p.tables e below (T5.setTop (mkF m 30 #[.val (.int (16 : Int32)), .unset] [(.ref b1), (.ref b1)])) _
    refine XS.iconst X5.here hx rfl (hb hby d1_30) ?_
    refine st6 _ ?_
    refine st7 _ ?_
    refine XS.dup X7.here hx rfl (hb hby d1_35) rfl rfl ?_
    show Steps p.tables e below (T7.setTop (mkF m 36 #[.val (.int (16 : Int32)), .unset] [(.ref b1), (.ref b1)])) _
    refine XS.iconst X7.here hx rfl (hb hby d1_36) ?_
    refine st8 _ ?_
    refine st9 _ ?_
    refine XS.dup X9.here hx rfl (hb hby d1_41) rfl rfl ?_
    show Steps p.tables e below (T9.setTop (mkF m 42 #[.val (.int (16 : Int32)), .unset] [(.ref b1), (.ref b1)])) _
    refine XS.iconst X9.here hx rfl (hb hby d1_42) ?_
    refine XS.aconstNull X9.here hx rfl (hb hby d1_43) ?_
    refine st10 _ ?_
    refine XS.dup X10.here hx rfl (hb hby d1_45) rfl rfl ?_
    show Steps p.tables e below (T10.setTop (mkF m 46 #[.val (.int (16 : Int32)), .unset] [(.ref b1), (.ref b1)])) _
    refine XS.iconst X10.here hx rfl (hb hby d1_46) ?_
    refine st11 _ ?_
    refine st12 _ ?_
    refine XS.dup X12.here hx rfl (hb hby d1_51) rfl rfl ?_
    show Steps p.tables e below (T12.setTop (mkF m 52 #[.val (.int (16 : Int32)), .unset] [(.ref b1), (.ref b1)])) _
    refine XS.bipush X12.here hx rfl (hb hby d1_52) ?_
    refine st13 _ ?_
    refine st14 _ ?_
    refine XS.dup X14.here hx rfl (hb hby d1_58) rfl rfl ?_
    show Steps p.tables e below (T14.setTop (mkF m 59 #[.val (.int (16 : Int32)), .unset] [(.ref b1), (.ref b1)])) _
    refine XS.bipush X14.here hx rfl (hb hby d1_59) ?_
    refine st15 _ ?_
    refine st16 _ ?_
    refine XS.dup X16.here hx rfl (hb hby d1_65) rfl rfl ?_
    show Steps p.tables e below (T16.setTop (mkF m 66 #[.val (.int (16 : Int32)), .unset] [(.ref b1), (.ref b1)])) _
    refine XS.bipush X16.here hx rfl (hb hby d1_66) ?_
    refine st17 _ ?_
    refine st18 _ ?_
    refine XS.dup X18.here hx rfl (hb hby d1_72) rfl rfl ?_
    show Steps p.tables e below (T18.setTop (mkF m 73 #[.val (.int (16 : Int32)), .unset] [(.ref b1), (.ref b1)])) _
    refine XS.bipush X18.here hx rfl (hb hby d1_73) ?_
    refine st19 _ ?_
    refine st20 _ ?_
    refine XS.dup X20.here hx rfl (hb hby d1_79) rfl rfl ?_
    show Steps p.tables e below (T20.setTop (mkF m 80 #[.val (.int (16 : Int32)), .unset] [(.ref b1), (.ref b1)])) _
    refine XS.bipush X20.here hx rfl (hb hby d1_80) ?_
    refine st21 _ ?_
    refine st22 _ ?_
    refine XS.dup X22.here hx rfl (hb hby d1_86) rfl rfl ?_
    show Steps p.tables e below (T22.setTop (mkF m 87 #[.val (.int (16 : Int32)), .unset] [(.ref b1), (.ref b1)])) _
    refine XS.bipush X22.here hx rfl (hb hby d1_87) ?_
    refine st23 _ ?_
    refine st24 _ ?_
    refine XS.dup X24.here hx rfl (hb hby d1_93) rfl rfl ?_
    show Steps p.tables e below (T24.setTop (mkF m 94 #[.val (.int (16 : Int32)), .unset] [(.ref b1), (.ref b1)])) _
    refine XS.bipush X24.here hx rfl (hb hby d1_94) ?_
    refine st25 _ ?_
    refine st26 _ ?_
    refine XS.dup X26.here hx rfl (hb hby d1_100) rfl rfl ?_
    show Steps p.tables e below (T26.setTop (mkF m 101 #[.val (.int (16 : Int32)), .unset] [(.ref b1), (.ref b1)])) _
    refine XS.bipush X26.here hx rfl (hb hby d1_101) ?_
    refine st27 _ ?_
    refine st28 _ ?_
    refine XS.dup X28.here hx rfl (hb hby d1_107) rfl rfl ?_
    show Steps p.tables e below (T28.setTop (mkF m 108 #[.val (.int (16 : Int32)), .unset] [(.ref b1), (.ref b1)])) _
    refine XS.bipush X28.here hx rfl (hb hby d1_108) ?_
    refine st29 _ ?_
    refine st30 _ ?_
    refine XS.dup X30.here hx rfl (hb hby d1_114) rfl rfl ?_
    show Steps p.tables e below (T30.setTop (mkF m 115 #[.val (.int (16 : Int32)), .unset] [(.ref b1), (.ref b1)])) _
    refine XS.bipush X30.here hx rfl (hb hby d1_115) ?_
    refine st31 _ ?_
    refine st32 _ ?_
    refine XS.dup X32.here hx rfl (hb hby d1_121) rfl rfl ?_
    show Steps p.tables e below (T32.setTop (mkF m 122 #[.val (.int (16 : Int32)), .unset] [(.ref b1), (.ref b1)])) _
    refine XS.bipush X32.here hx rfl (hb hby d1_122) ?_
    refine st33 _ ?_
    refine st34 _ ?_
    refine XS.astoreN X34.here hx rfl (hb hby d1_128) rfl rfl (l' := #[.val (.int (16 : Int32)), .val (.ref b1)]) rfl ?_
    show Steps p.tables e below (T34.setTop (mkF m 129 #[.val (.int (16 : Int32)), .val (.ref b1)] [])) _
    refine XS.aloadN X34.here hx rfl (hb hby d1_129) rfl rfl ?_
    refine XS.iloadN X34.here hx rfl (hb hby d1_130) rfl ?_
    refine own_aaload X34 hx hZ e34 V34 (j := (16 : Int32)) (by decide) (v := (.ref w3)) rfl rfl (g := (mkF m 131 #[.val (.int (16 : Int32)), .val (.ref b1)] [(.int (16 : Int32)), (.ref b1)])) rfl rfl (hb hby d1_131) ?_
    exact retOut X34 hx Bd.returns rfl (Or.inr (Or.inr (Or.inr (Or.inr ⟨rfl, rfl, rfl⟩)))) (hb hby d1_132) hr
  · show Qrm50 Z w0 w1 w2 w3 w4 w5 w6 w7 w8 w9 w10 w11 w12 w13 w14 w15 w16 kw16 h0 n0 _ T34.heap _
    rw [e34]
    exact ⟨rfl, N34, K34⟩
def Qrm51 (Z : State) (w0 : Addr) (w1 : Addr) (w2 : Addr) (w3 : Addr) (w4 : Addr) (w5 : Addr) (w6 : Addr) (w7 : Addr) (w8 : Addr) (w9 : Addr) (w10 : Addr) (w11 : Addr) (w12 : Addr) (w13 : Addr) (w14 : Addr) (w15 : Addr) (w16 : Addr) (kw16 : ClassId) (h0 : Heap) (n0 : Nat) (v : Option Value) (h : Heap) (L : List Loc) : Prop := v = some (.ref w3) ∧ Fr n0 L ∧ h = h0
set_option maxRecDepth 65536 in
set_option maxHeartbeats 40000000 in
theorem rm51 (l : Launch) (Z : State) (a0 : Array Value) (hw : ∀ d ∈ tables_1, d.before a0 Z = true) (w0 : Addr) (w1 : Addr) (w2 : Addr) (w3 : Addr) (w4 : Addr) (w5 : Addr) (w6 : Addr) (w7 : Addr) (w8 : Addr) (w9 : Addr) (w10 : Addr) (w11 : Addr) (w12 : Addr) (w13 : Addr) (w14 : Addr) (w15 : Addr) (w16 : Addr) (kw16 : ClassId) (hS : SF Z w0 w1 w2 w3 w4 w5 w6 w7 w8 w9 w10 w11 w12 w13 w14 w15 w16 kw16) (ws : List Jvm.Cond) (h0 : Heap) (n0 : Nat) (O0 : Old Z n0 h0) :
    MetFree l (⟨z0, "of", z2⟩ : MethodName) (head1 (Jvm.Cond.code (⟨z0, "of", z2⟩ : MethodName) prog_90_method_5_code 1 (some (.object z0)) :: ws) ({ frames := 0, cells := 0, slots := 0, locals := 0 } : Room)) (fun a U => a = #[(.int (16 : Int32))] ∧ Z.Warmed39 U.vm ∧ U.heap = h0) (fun _ _ _ _ _ => True) (fun _ U o U' => ∃ v L, o = .returned v ∧ Qrm51 Z w0 w1 w2 w3 w4 w5 w6 w7 w8 w9 w10 w11 w12 w13 w14 w15 w16 kw16 h0 n0 v U'.heap L ∧ FrameEnd U o U' L ({ frames := 0, cells := 0, slots := 0, locals := 0 } : Room).cells ({ frames := 0, cells := 0, slots := 0, locals := 0 } : Room).slots) := by
  refine MetFree.of_bodySF (plainFor_of_name pn18) hisR ?_
  intro p e s m args below meth c s₁ Bd hml0 hP hK
  obtain ⟨rfl, hZ, hh⟩ := hP
  have hx := Bd.exec
  have hby := Bd.bytes
  have hml : c.maxLocals = 1 := hml0
  have hown : s.vm.findClass z0 = some m.cls := findClass_of_methodNamed Bd.named
  have hnm := (name_of_methodNamed Bd.named Bd.method).1
  have X0 : Stand p l e ({ frames := 0, cells := 0, slots := 0, locals := 0 } : Room) s m #[(.int (16 : Int32))] below meth c s₁ [] 0 0 := Stand.of_body Bd
  have e0 : s₁.heap = h0 := by rw [← hh, Bd.state]; rfl
  have N0 := Fr.nil n0
  have pre0 : ∀ t, Steps p.tables e below (s₁.setTop (mkF m 0 #[.val (.int (16 : Int32))] [])) t → Steps p.tables e below (s₁.setTop (entryFrame m #[(.int (16 : Int32))] 1)) t := fun t k => castTop (ef17 m (16 : Int32)) k
  obtain ⟨T1, X1, e1, st1⟩ := getS2 X0 hx hZ hown (host := "") (Or.inl (hw _ m43)) Via.refl e0 (hS.2.2.2.2.2.2.2.2.2.2.2.2.2.2.2.2.2.2.2.2.2.2.2.2.2.2.2.2.2.2.2.2.2.2.2.2.2.2.2.2.2.2.2.2.2.2.2.2.1.ext O0.2) (g := (mkF m 5 #[.val (.int (16 : Int32))] [(.int (16 : Int32))])) rfl (hb hby d2_5)
  obtain ⟨T2, X2, e2, st2⟩ := getS2 X1 hx hZ hown (host := "") (Or.inl (hw _ m43)) Via.refl e1 (hS.2.2.2.2.2.2.2.2.2.2.2.2.2.2.2.2.2.2.2.2.2.2.2.2.2.2.2.2.2.2.2.2.2.2.2.2.2.2.2.2.2.2.2.2.2.2.2.2.1.ext O0.2) (g := (mkF m 12 #[.val (.int (16 : Int32))] [])) rfl (hb hby d2_12)
  obtain ⟨fs, hr, hrun, hended, hW, hsame⟩ := X2.leave (v := some (.ref w3)) (fun h => by rw [Bd.returns] at h; cases h)
  refine ⟨_, _, pre0 _ ?_, hrun, hended, _, _, rfl, ?_, ⟨_, rfl⟩, hW, hsame.mono (by decide) (by decide)⟩
  · show Steps p.tables e below (s₁.setTop (mkF m 0 #[.val (.int (16 : Int32))] [])) _
    refine XS.iloadN X0.here hx rfl (hb hby d2_0) rfl ?_
    refine XS.ifNo X0.here hx rfl (hb hby d2_1) rfl ((if0 _ _).trans (flt (by decide : ¬ ((16 : Int32) < (0 : Int32)))).1) ?_
    refine XS.iloadN X0.here hx rfl (hb hby d2_4) rfl ?_
    refine st1 _ ?_
    show Steps p.tables e below (T1.setTop (mkF m 8 #[.val (.int (16 : Int32))] [(.ref w16), (.int (16 : Int32))])) _
    refine own_alen X1 hx hZ e1 (hS.2.2.2.2.2.2.2.2.2.2.2.2.2.2.2.2.2.2.2.2.2.2.2.2.2.2.2.2.2.2.2.2.2.2.2.2.2.2.2.2.2.2.2.2.2.2.2.2.2.ext O0.2) (g := (mkF m 8 #[.val (.int (16 : Int32))] [(.ref w16), (.int (16 : Int32))])) rfl rfl (hb hby d2_8) ?_
    refine XS.icmpNo X1.here hx rfl (hb hby d2_9) rfl (tlt (by decide : (16 : Int32) < (17 : Int32))).2.1 ?_
    refine st2 _ ?_
    refine XS.iloadN X2.here hx rfl (hb hby d2_15) rfl ?_
    show Steps p.tables e below (T2.setTop (mkF m 16 #[.val (.int (16 : Int32))] [(.int (16 : Int32)), (.ref w16)])) _
    refine own_aaload X2 hx hZ e2 (hS.2.2.2.2.2.2.2.2.2.2.2.2.2.2.2.2.2.2.2.2.2.2.2.2.2.2.2.2.2.2.2.2.2.2.2.2.2.2.2.2.2.2.2.2.2.2.2.2.2.ext O0.2) (j := (16 : Int32)) (by decide) (v := (.ref w3)) rfl rfl (g := (mkF m 16 #[.val (.int (16 : Int32))] [(.int (16 : Int32)), (.ref w16)])) rfl rfl (hb hby d2_16) ?_
    refine XS.goto X2.here hx rfl (pc0 := 17) (pc' := 21) rfl (hb hby d2_17) (by decide) (by decide) ?_
    exact retOut X2 hx Bd.returns rfl (Or.inr (Or.inr (Or.inr (Or.inr ⟨rfl, rfl, rfl⟩)))) (hb hby d2_21) hr
  · show Qrm51 Z w0 w1 w2 w3 w4 w5 w6 w7 w8 w9 w10 w11 w12 w13 w14 w15 w16 kw16 h0 n0 _ T2.heap _
    rw [e2]
    exact ⟨rfl, N0, rfl⟩
def Qrm52 (Z : State) (w0 : Addr) (w1 : Addr) (w2 : Addr) (w3 : Addr) (w4 : Addr) (w5 : Addr) (w6 : Addr) (w7 : Addr) (w8 : Addr) (w9 : Addr) (w10 : Addr) (w11 : Addr) (w12 : Addr) (w13 : Addr) (w14 : Addr) (w15 : Addr) (w16 : Addr) (kw16 : ClassId) (h0 : Heap) (n0 : Nat) (v : Option Value) (h : Heap) (L : List Loc) : Prop := v = some (.int (16 : Int32)) ∧ Fr n0 L ∧ h = h0
set_option maxRecDepth 65536 in
set_option maxHeartbeats 40000000 in
theorem rm52 (l : Launch) (Z : State) (a0 : Array Value) (hw : ∀ d ∈ tables_1, d.before a0 Z = true) (w0 : Addr) (w1 : Addr) (w2 : Addr) (w3 : Addr) (w4 : Addr) (w5 : Addr) (w6 : Addr) (w7 : Addr) (w8 : Addr) (w9 : Addr) (w10 : Addr) (w11 : Addr) (w12 : Addr) (w13 : Addr) (w14 : Addr) (w15 : Addr) (w16 : Addr) (kw16 : ClassId) (hS : SF Z w0 w1 w2 w3 w4 w5 w6 w7 w8 w9 w10 w11 w12 w13 w14 w15 w16 kw16) (ws : List Jvm.Cond) (h0 : Heap) (n0 : Nat) (O0 : Old Z n0 h0) :
    MetFree l (⟨z0, "code", "()I"⟩ : MethodName) (head1 (Jvm.Cond.code (⟨z0, "code", "()I"⟩ : MethodName) prog_90_method_4_code 1 (some .int) :: ws) ({ frames := 0, cells := 0, slots := 0, locals := 0 } : Room)) (fun a U => a = #[(.ref w3)] ∧ Z.Warmed39 U.vm ∧ U.heap = h0) (fun _ _ _ _ _ => True) (fun _ U o U' => ∃ v L, o = .returned v ∧ Qrm52 Z w0 w1 w2 w3 w4 w5 w6 w7 w8 w9 w10 w11 w12 w13 w14 w15 w16 kw16 h0 n0 v U'.heap L ∧ FrameEnd U o U' L ({ frames := 0, cells := 0, slots := 0, locals := 0 } : Room).cells ({ frames := 0, cells := 0, slots := 0, locals := 0 } : Room).slots) := by
  refine MetFree.of_bodySF (plainFor_of_name pn18) hisR ?_
  intro p e s m args below meth c s₁ Bd hml0 hP hK
  obtain ⟨rfl, hZ, hh⟩ := hP
  have hx := Bd.exec
  have hby := Bd.bytes
  have hml : c.maxLocals = 1 := hml0
  have hown : s.vm.findClass z0 = some m.cls := findClass_of_methodNamed Bd.named
  have hnm := (name_of_methodNamed Bd.named Bd.method).1
  have X0 : Stand p l e ({ frames := 0, cells := 0, slots := 0, locals := 0 } : Room) s m #[(.ref w3)] below meth c s₁ [] 0 0 := Stand.of_body Bd
  have e0 : s₁.heap = h0 := by rw [← hh, Bd.state]; rfl
  have N0 := Fr.nil n0
  have pre0 : ∀ t, Steps p.tables e below (s₁.setTop (mkF m 0 #[.val (.ref w3)] [])) t → Steps p.tables e below (s₁.setTop (entryFrame m #[(.ref w3)] 1)) t := fun t k => castTop (ef135 m w3) k
  obtain ⟨T1, X1, e1, st1⟩ := getF X0 hx hZ hown (host := "") (Or.inl (hw _ m50)) Via.refl e0 (hS.2.2.2.2.2.2.2.2.2.2.2.1.ext O0.2) (g := (mkF m 1 #[.val (.ref w3)] [(.ref w3)])) rfl rfl (hb hby d3_1)
  obtain ⟨fs, hr, hrun, hended, hW, hsame⟩ := X1.leave (v := some (.int (16 : Int32))) (fun h => by rw [Bd.returns] at h; cases h)
  refine ⟨_, _, pre0 _ ?_, hrun, hended, _, _, rfl, ?_, ⟨_, rfl⟩, hW, hsame.mono (by decide) (by decide)⟩
  · show Steps p.tables e below (s₁.setTop (mkF m 0 #[.val (.ref w3)] [])) _
    refine XS.aloadN X0.here hx rfl (hb hby d3_0) rfl rfl ?_
    refine st1 _ ?_
    exact retOut X1 hx Bd.returns rfl (Or.inl ⟨rfl, Or.inl rfl, _, rfl⟩) (hb hby d3_4) hr
  · show Qrm52 Z w0 w1 w2 w3 w4 w5 w6 w7 w8 w9 w10 w11 w12 w13 w14 w15 w16 kw16 h0 n0 _ T1.heap _
    rw [e1]
    exact ⟨rfl, N0, rfl⟩
def Qrm53 (Z : State) (w0 : Addr) (w1 : Addr) (w2 : Addr) (w3 : Addr) (w4 : Addr) (w5 : Addr) (w6 : Addr) (w7 : Addr) (w8 : Addr) (w9 : Addr) (w10 : Addr) (w11 : Addr) (w12 : Addr) (w13 : Addr) (w14 : Addr) (w15 : Addr) (w16 : Addr) (kw16 : ClassId) (h0 : Heap) (n0 : Nat) (v : Option Value) (h : Heap) (L : List Loc) : Prop := v = some .null ∧ Fr n0 L ∧ h = h0
set_option maxRecDepth 65536 in
set_option maxHeartbeats 40000000 in
theorem rm53 (l : Launch) (Z : State) (a0 : Array Value) (hw : ∀ d ∈ tables_1, d.before a0 Z = true) (w0 : Addr) (w1 : Addr) (w2 : Addr) (w3 : Addr) (w4 : Addr) (w5 : Addr) (w6 : Addr) (w7 : Addr) (w8 : Addr) (w9 : Addr) (w10 : Addr) (w11 : Addr) (w12 : Addr) (w13 : Addr) (w14 : Addr) (w15 : Addr) (w16 : Addr) (kw16 : ClassId) (hS : SF Z w0 w1 w2 w3 w4 w5 w6 w7 w8 w9 w10 w11 w12 w13 w14 w15 w16 kw16) (ws : List Jvm.Cond) (h0 : Heap) (n0 : Nat) (O0 : Old Z n0 h0) :
    MetFree l (⟨z1, "expected", z2⟩ : MethodName) (head1 (Jvm.Cond.code (⟨z1, "expected", z2⟩ : MethodName) method_3_code 2 (some (.object z0)) :: ws) ({ frames := 0, cells := 0, slots := 0, locals := 0 } : Room)) (fun a U => a = #[(.int (17 : Int32))] ∧ Z.Warmed39 U.vm ∧ U.heap = h0) (fun _ _ _ _ _ => True) (fun _ U o U' => ∃ v L, o = .returned v ∧ Qrm53 Z w0 w1 w2 w3 w4 w5 w6 w7 w8 w9 w10 w11 w12 w13 w14 w15 w16 kw16 h0 n0 v U'.heap L ∧ FrameEnd U o U' L ({ frames := 0, cells := 0, slots := 0, locals := 0 } : Room).cells ({ frames := 0, cells := 0, slots := 0, locals := 0 } : Room).slots) := by
  refine MetFree.of_bodySF (plainFor_of_name pn7) hisR ?_
  intro p e s m args below meth c s₁ Bd hml0 hP hK
  obtain ⟨rfl, hZ, hh⟩ := hP
  have hx := Bd.exec
  have hby := Bd.bytes
  have hml : c.maxLocals = 2 := hml0
  have hown : s.vm.findClass z1 = some m.cls := findClass_of_methodNamed Bd.named
  have hnm := (name_of_methodNamed Bd.named Bd.method).1
  have X0 : Stand p l e ({ frames := 0, cells := 0, slots := 0, locals := 0 } : Room) s m #[(.int (17 : Int32))] below meth c s₁ [] 0 0 := Stand.of_body Bd
  have e0 : s₁.heap = h0 := by rw [← hh, Bd.state]; rfl
  have N0 := Fr.nil n0
  have pre0 : ∀ t, Steps p.tables e below (s₁.setTop (mkF m 0 #[.val (.int (17 : Int32)), .unset] [])) t → Steps p.tables e below (s₁.setTop (entryFrame m #[(.int (17 : Int32))] 2)) t := fun t k => castTop (ef6 m (17 : Int32)) k
  obtain ⟨fs, hr, hrun, hended, hW, hsame⟩ := X0.leave (v := some .null) (fun h => by rw [Bd.returns] at h; cases h)
  refine ⟨_, _, pre0 _ ?_, hrun, hended, _, _, rfl, ?_, ⟨_, rfl⟩, hW, hsame.mono (by decide) (by decide)⟩
  · show Steps p.tables e below (s₁.setTop (mkF m 0 #[.val (.int (17 : Int32)), .unset] [])) _
    refine XS.iloadN X0.here hx rfl (hb hby d1_0) rfl ?_
    refine XS.ifNo X0.here hx rfl (hb hby d1_1) rfl ((if0 _ _).trans (flt (by decide : ¬ ((17 : Int32) < (0 : Int32)))).1) ?_
    refine XS.iloadN X0.here hx rfl (hb hby d1_4) rfl ?_
    refine XS.bipush X0.here hx rfl (hb hby d1_5) ?_
    show Steps p.tables e below (s₁.setTop (mkF m 7 #[.val (.int (17 : Int32)), .unset] [(.int (16 : Int32)), (.int (17 : Int32))])) _
    refine XS.icmpNo X0.here hx rfl (hb hby d1_7) rfl (tlt (by decide : (16 : Int32) < (17 : Int32))).2.2.2 ?_
    refine XS.aconstNull X0.here hx rfl (hb hby d1_10) ?_
    exact retOut X0 hx Bd.returns rfl (Or.inr (Or.inr (Or.inr (Or.inr ⟨rfl, rfl, rfl⟩)))) (hb hby d1_11) hr
  · show Qrm53 Z w0 w1 w2 w3 w4 w5 w6 w7 w8 w9 w10 w11 w12 w13 w14 w15 w16 kw16 h0 n0 _ s₁.heap _
    rw [e0]
    exact ⟨rfl, N0, rfl⟩
def Qrm54 (Z : State) (w0 : Addr) (w1 : Addr) (w2 : Addr) (w3 : Addr) (w4 : Addr) (w5 : Addr) (w6 : Addr) (w7 : Addr) (w8 : Addr) (w9 : Addr) (w10 : Addr) (w11 : Addr) (w12 : Addr) (w13 : Addr) (w14 : Addr) (w15 : Addr) (w16 : Addr) (kw16 : ClassId) (h0 : Heap) (n0 : Nat) (v : Option Value) (h : Heap) (L : List Loc) : Prop := v = some .null ∧ Fr n0 L ∧ h = h0
set_option maxRecDepth 65536 in
set_option maxHeartbeats 40000000 in
theorem rm54 (l : Launch) (Z : State) (a0 : Array Value) (hw : ∀ d ∈ tables_1, d.before a0 Z = true) (w0 : Addr) (w1 : Addr) (w2 : Addr) (w3 : Addr) (w4 : Addr) (w5 : Addr) (w6 : Addr) (w7 : Addr) (w8 : Addr) (w9 : Addr) (w10 : Addr) (w11 : Addr) (w12 : Addr) (w13 : Addr) (w14 : Addr) (w15 : Addr) (w16 : Addr) (kw16 : ClassId) (hS : SF Z w0 w1 w2 w3 w4 w5 w6 w7 w8 w9 w10 w11 w12 w13 w14 w15 w16 kw16) (ws : List Jvm.Cond) (h0 : Heap) (n0 : Nat) (O0 : Old Z n0 h0) :
    MetFree l (⟨z0, "of", z2⟩ : MethodName) (head1 (Jvm.Cond.code (⟨z0, "of", z2⟩ : MethodName) prog_90_method_5_code 1 (some (.object z0)) :: ws) ({ frames := 0, cells := 0, slots := 0, locals := 0 } : Room)) (fun a U => a = #[(.int (17 : Int32))] ∧ Z.Warmed39 U.vm ∧ U.heap = h0) (fun _ _ _ _ _ => True) (fun _ U o U' => ∃ v L, o = .returned v ∧ Qrm54 Z w0 w1 w2 w3 w4 w5 w6 w7 w8 w9 w10 w11 w12 w13 w14 w15 w16 kw16 h0 n0 v U'.heap L ∧ FrameEnd U o U' L ({ frames := 0, cells := 0, slots := 0, locals := 0 } : Room).cells ({ frames := 0, cells := 0, slots := 0, locals := 0 } : Room).slots) := by
  refine MetFree.of_bodySF (plainFor_of_name pn18) hisR ?_
  intro p e s m args below meth c s₁ Bd hml0 hP hK
  obtain ⟨rfl, hZ, hh⟩ := hP
  have hx := Bd.exec
  have hby := Bd.bytes
  have hml : c.maxLocals = 1 := hml0
  have hown : s.vm.findClass z0 = some m.cls := findClass_of_methodNamed Bd.named
  have hnm := (name_of_methodNamed Bd.named Bd.method).1
  have X0 : Stand p l e ({ frames := 0, cells := 0, slots := 0, locals := 0 } : Room) s m #[(.int (17 : Int32))] below meth c s₁ [] 0 0 := Stand.of_body Bd
  have e0 : s₁.heap = h0 := by rw [← hh, Bd.state]; rfl
  have N0 := Fr.nil n0
  have pre0 : ∀ t, Steps p.tables e below (s₁.setTop (mkF m 0 #[.val (.int (17 : Int32))] [])) t → Steps p.tables e below (s₁.setTop (entryFrame m #[(.int (17 : Int32))] 1)) t := fun t k => castTop (ef17 m (17 : Int32)) k
  obtain ⟨T1, X1, e1, st1⟩ := getS2 X0 hx hZ hown (host := "") (Or.inl (hw _ m43)) Via.refl e0 (hS.2.2.2.2.2.2.2.2.2.2.2.2.2.2.2.2.2.2.2.2.2.2.2.2.2.2.2.2.2.2.2.2.2.2.2.2.2.2.2.2.2.2.2.2.2.2.2.2.1.ext O0.2) (g := (mkF m 5 #[.val (.int (17 : Int32))] [(.int (17 : Int32))])) rfl (hb hby d2_5)
  obtain ⟨fs, hr, hrun, hended, hW, hsame⟩ := X1.leave (v := some .null) (fun h => by rw [Bd.returns] at h; cases h)
  refine ⟨_, _, pre0 _ ?_, hrun, hended, _, _, rfl, ?_, ⟨_, rfl⟩, hW, hsame.mono (by decide) (by decide)⟩
  · show Steps p.tables e below (s₁.setTop (mkF m 0 #[.val (.int (17 : Int32))] [])) _
    refine XS.iloadN X0.here hx rfl (hb hby d2_0) rfl ?_
    refine XS.ifNo X0.here hx rfl (hb hby d2_1) rfl ((if0 _ _).trans (flt (by decide : ¬ ((17 : Int32) < (0 : Int32)))).1) ?_
    refine XS.iloadN X0.here hx rfl (hb hby d2_4) rfl ?_
    refine st1 _ ?_
    show Steps p.tables e below (T1.setTop (mkF m 8 #[.val (.int (17 : Int32))] [(.ref w16), (.int (17 : Int32))])) _
    refine own_alen X1 hx hZ e1 (hS.2.2.2.2.2.2.2.2.2.2.2.2.2.2.2.2.2.2.2.2.2.2.2.2.2.2.2.2.2.2.2.2.2.2.2.2.2.2.2.2.2.2.2.2.2.2.2.2.2.ext O0.2) (g := (mkF m 8 #[.val (.int (17 : Int32))] [(.ref w16), (.int (17 : Int32))])) rfl rfl (hb hby d2_8) ?_
    refine XS.icmpYes X1.here hx rfl (pc0 := 9) (pc' := 20) rfl (hb hby d2_9) rfl (flt (by decide : ¬ ((17 : Int32) < (17 : Int32)))).2.1 (by decide) (by decide) ?_
    refine XS.aconstNull X1.here hx rfl (hb hby d2_20) ?_
    exact retOut X1 hx Bd.returns rfl (Or.inr (Or.inr (Or.inr (Or.inr ⟨rfl, rfl, rfl⟩)))) (hb hby d2_21) hr
  · show Qrm54 Z w0 w1 w2 w3 w4 w5 w6 w7 w8 w9 w10 w11 w12 w13 w14 w15 w16 kw16 h0 n0 _ T1.heap _
    rw [e1]
    exact ⟨rfl, N0, rfl⟩
def Qrm55 (Z : State) (w0 : Addr) (w1 : Addr) (w2 : Addr) (w3 : Addr) (w4 : Addr) (w5 : Addr) (w6 : Addr) (w7 : Addr) (w8 : Addr) (w9 : Addr) (w10 : Addr) (w11 : Addr) (w12 : Addr) (w13 : Addr) (w14 : Addr) (w15 : Addr) (w16 : Addr) (kw16 : ClassId) (p1 : Int32) (h0 : Heap) (n0 : Nat) (v : Option Value) (h : Heap) (L : List Loc) : Prop := v = some .null ∧ Fr n0 L ∧ h = h0
set_option maxRecDepth 65536 in
set_option maxHeartbeats 40000000 in
theorem rm55 (l : Launch) (Z : State) (a0 : Array Value) (hw : ∀ d ∈ tables_1, d.before a0 Z = true) (w0 : Addr) (w1 : Addr) (w2 : Addr) (w3 : Addr) (w4 : Addr) (w5 : Addr) (w6 : Addr) (w7 : Addr) (w8 : Addr) (w9 : Addr) (w10 : Addr) (w11 : Addr) (w12 : Addr) (w13 : Addr) (w14 : Addr) (w15 : Addr) (w16 : Addr) (kw16 : ClassId) (hS : SF Z w0 w1 w2 w3 w4 w5 w6 w7 w8 w9 w10 w11 w12 w13 w14 w15 w16 kw16) (ws : List Jvm.Cond) (p1 : Int32) (h0 : Heap) (n0 : Nat) (O0 : Old Z n0 h0) (hc1 : ¬ (p1 < (0 : Int32))) (hc2 : (16 : Int32) < p1) :
    MetFree l (⟨z1, "expected", z2⟩ : MethodName) (head1 (Jvm.Cond.code (⟨z1, "expected", z2⟩ : MethodName) method_3_code 2 (some (.object z0)) :: ws) ({ frames := 0, cells := 0, slots := 0, locals := 0 } : Room)) (fun a U => a = #[(.int p1)] ∧ Z.Warmed39 U.vm ∧ U.heap = h0) (fun _ _ _ _ _ => True) (fun _ U o U' => ∃ v L, o = .returned v ∧ Qrm55 Z w0 w1 w2 w3 w4 w5 w6 w7 w8 w9 w10 w11 w12 w13 w14 w15 w16 kw16 p1 h0 n0 v U'.heap L ∧ FrameEnd U o U' L ({ frames := 0, cells := 0, slots := 0, locals := 0 } : Room).cells ({ frames := 0, cells := 0, slots := 0, locals := 0 } : Room).slots) := by
  refine MetFree.of_bodySF (plainFor_of_name pn7) hisR ?_
  intro p e s m args below meth c s₁ Bd hml0 hP hK
  obtain ⟨rfl, hZ, hh⟩ := hP
  have hx := Bd.exec
  have hby := Bd.bytes
  have hml : c.maxLocals = 2 := hml0
  have hown : s.vm.findClass z1 = some m.cls := findClass_of_methodNamed Bd.named
  have hnm := (name_of_methodNamed Bd.named Bd.method).1
  have X0 : Stand p l e ({ frames := 0, cells := 0, slots := 0, locals := 0 } : Room) s m #[(.int p1)] below meth c s₁ [] 0 0 := Stand.of_body Bd
  have e0 : s₁.heap = h0 := by rw [← hh, Bd.state]; rfl
  have N0 := Fr.nil n0
  have pre0 : ∀ t, Steps p.tables e below (s₁.setTop (mkF m 0 #[.val (.int p1), .unset] [])) t → Steps p.tables e below (s₁.setTop (entryFrame m #[(.int p1)] 2)) t := fun t k => castTop (ef6 m p1) k
  obtain ⟨fs, hr, hrun, hended, hW, hsame⟩ := X0.leave (v := some .null) (fun h => by rw [Bd.returns] at h; cases h)
  refine ⟨_, _, pre0 _ ?_, hrun, hended, _, _, rfl, ?_, ⟨_, rfl⟩, hW, hsame.mono (by decide) (by decide)⟩
  · show Steps p.tables e below (s₁.setTop (mkF m 0 #[.val (.int p1), .unset] [])) _
    refine XS.iloadN X0.here hx rfl (hb hby d1_0) rfl ?_
    refine XS.ifNo X0.here hx rfl (hb hby d1_1) rfl ((if0 _ _).trans (flt hc1).1) ?_
    refine XS.iloadN X0.here hx rfl (hb hby d1_4) rfl ?_
    refine XS.bipush X0.here hx rfl (hb hby d1_5) ?_
    show Steps p.tables e below (s₁.setTop (mkF m 7 #[.val (.int p1), .unset] [(.int (16 : Int32)), (.int p1)])) _
    refine XS.icmpNo X0.here hx rfl (hb hby d1_7) rfl (tlt hc2).2.2.2 ?_
    refine XS.aconstNull X0.here hx rfl (hb hby d1_10) ?_
    exact retOut X0 hx Bd.returns rfl (Or.inr (Or.inr (Or.inr (Or.inr ⟨rfl, rfl, rfl⟩)))) (hb hby d1_11) hr
  · show Qrm55 Z w0 w1 w2 w3 w4 w5 w6 w7 w8 w9 w10 w11 w12 w13 w14 w15 w16 kw16 p1 h0 n0 _ s₁.heap _
    rw [e0]
    exact ⟨rfl, N0, rfl⟩
def Qrm56 (Z : State) (w0 : Addr) (w1 : Addr) (w2 : Addr) (w3 : Addr) (w4 : Addr) (w5 : Addr) (w6 : Addr) (w7 : Addr) (w8 : Addr) (w9 : Addr) (w10 : Addr) (w11 : Addr) (w12 : Addr) (w13 : Addr) (w14 : Addr) (w15 : Addr) (w16 : Addr) (kw16 : ClassId) (p1 : Int32) (h0 : Heap) (n0 : Nat) (v : Option Value) (h : Heap) (L : List Loc) : Prop := v = some .null ∧ Fr n0 L ∧ h = h0
set_option maxRecDepth 65536 in
set_option maxHeartbeats 40000000 in
theorem rm56 (l : Launch) (Z : State) (a0 : Array Value) (hw : ∀ d ∈ tables_1, d.before a0 Z = true) (w0 : Addr) (w1 : Addr) (w2 : Addr) (w3 : Addr) (w4 : Addr) (w5 : Addr) (w6 : Addr) (w7 : Addr) (w8 : Addr) (w9 : Addr) (w10 : Addr) (w11 : Addr) (w12 : Addr) (w13 : Addr) (w14 : Addr) (w15 : Addr) (w16 : Addr) (kw16 : ClassId) (hS : SF Z w0 w1 w2 w3 w4 w5 w6 w7 w8 w9 w10 w11 w12 w13 w14 w15 w16 kw16) (ws : List Jvm.Cond) (p1 : Int32) (h0 : Heap) (n0 : Nat) (O0 : Old Z n0 h0) (hc1 : ¬ (p1 < (0 : Int32))) (hc2 : ¬ (p1 < (17 : Int32))) :
    MetFree l (⟨z0, "of", z2⟩ : MethodName) (head1 (Jvm.Cond.code (⟨z0, "of", z2⟩ : MethodName) prog_90_method_5_code 1 (some (.object z0)) :: ws) ({ frames := 0, cells := 0, slots := 0, locals := 0 } : Room)) (fun a U => a = #[(.int p1)] ∧ Z.Warmed39 U.vm ∧ U.heap = h0) (fun _ _ _ _ _ => True) (fun _ U o U' => ∃ v L, o = .returned v ∧ Qrm56 Z w0 w1 w2 w3 w4 w5 w6 w7 w8 w9 w10 w11 w12 w13 w14 w15 w16 kw16 p1 h0 n0 v U'.heap L ∧ FrameEnd U o U' L ({ frames := 0, cells := 0, slots := 0, locals := 0 } : Room).cells ({ frames := 0, cells := 0, slots := 0, locals := 0 } : Room).slots) := by
  refine MetFree.of_bodySF (plainFor_of_name pn18) hisR ?_
  intro p e s m args below meth c s₁ Bd hml0 hP hK
  obtain ⟨rfl, hZ, hh⟩ := hP
  have hx := Bd.exec
  have hby := Bd.bytes
  have hml : c.maxLocals = 1 := hml0
  have hown : s.vm.findClass z0 = some m.cls := findClass_of_methodNamed Bd.named
  have hnm := (name_of_methodNamed Bd.named Bd.method).1
  have X0 : Stand p l e ({ frames := 0, cells := 0, slots := 0, locals := 0 } : Room) s m #[(.int p1)] below meth c s₁ [] 0 0 := Stand.of_body Bd
  have e0 : s₁.heap = h0 := by rw [← hh, Bd.state]; rfl
  have N0 := Fr.nil n0
  have pre0 : ∀ t, Steps p.tables e below (s₁.setTop (mkF m 0 #[.val (.int p1)] [])) t → Steps p.tables e below (s₁.setTop (entryFrame m #[(.int p1)] 1)) t := fun t k => castTop (ef17 m p1) k
  obtain ⟨T1, X1, e1, st1⟩ := getS2 X0 hx hZ hown (host := "") (Or.inl (hw _ m43)) Via.refl e0 (hS.2.2.2.2.2.2.2.2.2.2.2.2.2.2.2.2.2.2.2.2.2.2.2.2.2.2.2.2.2.2.2.2.2.2.2.2.2.2.2.2.2.2.2.2.2.2.2.2.1.ext O0.2) (g := (mkF m 5 #[.val (.int p1)] [(.int p1)])) rfl (hb hby d2_5)
  obtain ⟨fs, hr, hrun, hended, hW, hsame⟩ := X1.leave (v := some .null) (fun h => by rw [Bd.returns] at h; cases h)
  refine ⟨_, _, pre0 _ ?_, hrun, hended, _, _, rfl, ?_, ⟨_, rfl⟩, hW, hsame.mono (by decide) (by decide)⟩
  · show Steps p.tables e below (s₁.setTop (mkF m 0 #[.val (.int p1)] [])) _
    refine XS.iloadN X0.here hx rfl (hb hby d2_0) rfl ?_
    refine XS.ifNo X0.here hx rfl (hb hby d2_1) rfl ((if0 _ _).trans (flt hc1).1) ?_
    refine XS.iloadN X0.here hx rfl (hb hby d2_4) rfl ?_
    refine st1 _ ?_
    show Steps p.tables e below (T1.setTop (mkF m 8 #[.val (.int p1)] [(.ref w16), (.int p1)])) _
    refine own_alen X1 hx hZ e1 (hS.2.2.2.2.2.2.2.2.2.2.2.2.2.2.2.2.2.2.2.2.2.2.2.2.2.2.2.2.2.2.2.2.2.2.2.2.2.2.2.2.2.2.2.2.2.2.2.2.2.ext O0.2) (g := (mkF m 8 #[.val (.int p1)] [(.ref w16), (.int p1)])) rfl rfl (hb hby d2_8) ?_
    refine XS.icmpYes X1.here hx rfl (pc0 := 9) (pc' := 20) rfl (hb hby d2_9) rfl (flt hc2).2.1 (by decide) (by decide) ?_
    refine XS.aconstNull X1.here hx rfl (hb hby d2_20) ?_
    exact retOut X1 hx Bd.returns rfl (Or.inr (Or.inr (Or.inr (Or.inr ⟨rfl, rfl, rfl⟩)))) (hb hby d2_21) hr
  · show Qrm56 Z w0 w1 w2 w3 w4 w5 w6 w7 w8 w9 w10 w11 w12 w13 w14 w15 w16 kw16 p1 h0 n0 _ T1.heap _
    rw [e1]
    exact ⟨rfl, N0, rfl⟩
def QL (n0 : Nat) (v : Option Value) (h : Heap) (L : List Loc) : Prop := v = some (.int (1 : Int32)) ∧ Fr n0 L
set_option maxRecDepth 65536 in
set_option maxHeartbeats 40000000 in
theorem rm0 (l : Launch) (Z : State) (a0 : Array Value) (hw : ∀ d ∈ tables_1, d.before a0 Z = true) (w0 : Addr) (w1 : Addr) (w2 : Addr) (w3 : Addr) (w4 : Addr) (w5 : Addr) (w6 : Addr) (w7 : Addr) (w8 : Addr) (w9 : Addr) (w10 : Addr) (w11 : Addr) (w12 : Addr) (w13 : Addr) (w14 : Addr) (w15 : Addr) (w16 : Addr) (kw16 : ClassId) (hS : SF Z w0 w1 w2 w3 w4 w5 w6 w7 w8 w9 w10 w11 w12 w13 w14 w15 w16 kw16) (ws : List Jvm.Cond) (i0 : Int32) (i1 : Int32) (h0 : Heap) (n0 : Nat) (O0 : Old Z n0 h0) :
    MetFree l x (head1 (Jvm.Cond.code x code maxLocals ret :: ws) room_1) (fun a U => a = #[(.int i0), (.int i1)] ∧ Z.Warmed39 U.vm ∧ U.heap = h0) (fun _ _ _ _ _ => True) (fun _ U o U' => ∃ v L, o = .returned v ∧ QL n0 v U'.heap L ∧ FrameEnd U o U' L room_1.cells room_1.slots) := by
  refine MetFree.of_bodySF (plainFor_of_name pn7) hisR ?_
  intro p e s m args below meth c s₁ Bd hml0 hP hK
  obtain ⟨rfl, hZ, hh⟩ := hP
  have hx := Bd.exec
  have hby := Bd.bytes
  have hml : c.maxLocals = 5 := hml0
  have hown : s.vm.findClass z1 = some m.cls := findClass_of_methodNamed Bd.named
  have hnm := (name_of_methodNamed Bd.named Bd.method).1
  have X0 : Stand p l e room_1 s m #[(.int i0), (.int i1)] below meth c s₁ [] 0 0 := Stand.of_body Bd
  have e0 : s₁.heap = h0 := by rw [← hh, Bd.state]; rfl
  have N0 := Fr.nil n0
  have pre0 : ∀ t, Steps p.tables e below (s₁.setTop (mkF m 0 #[.val (.int i0), .val (.int i1), .unset, .unset, .unset] [])) t → Steps p.tables e below (s₁.setTop (entryFrame m #[(.int i0), (.int i1)] maxLocals)) t := fun t k => castTop (ef22 m i0 i1) k
  have pre1 : ∀ t, Steps p.tables e below (s₁.setTop (mkF m 2 #[.val (.int i0), .val (.int i1), .unset, .unset, .unset] [(.int (1 : Int32)), (.int i1)])) t → Steps p.tables e below (s₁.setTop (entryFrame m #[(.int i0), (.int i1)] maxLocals)) t := fun t kt => pre0 _ (by
      show Steps p.tables e below (s₁.setTop (mkF m 0 #[.val (.int i0), .val (.int i1), .unset, .unset, .unset] [])) _
      refine XS.iloadN X0.here hx rfl (hb hby at_0) rfl ?_
      refine XS.iconst X0.here hx rfl (hb hby at_1) ?_
      exact kt)
  rcases en_0 (i1 &&& (1 : Int32)) (by have q0 := (own_mask i1 (1 : Int32) (by decide) : 0 ≤ ((i1 &&& (1 : Int32))).toInt ∧ ((i1 &&& (1 : Int32))).toInt ≤ 1); omega) with hp0 | hp0
  · have pre2 : ∀ t, Steps p.tables e below (s₁.setTop (mkF m 15 #[.val (.int i0), .val (.int i1), .unset, .unset, .unset] [(.int (2 : Int32)), (.int (i0 % (20 : Int32)))])) t → Steps p.tables e below (s₁.setTop (entryFrame m #[(.int i0), (.int i1)] maxLocals)) t := fun t kt => pre1 _ (by
        refine Own.iand X0.here hx rfl (hb hby at_2) rfl hp0 ?_
        refine XS.ifYes X0.here hx rfl (pc0 := 3) (pc' := 10) rfl (hb hby at_3) rfl ((if0 _ _).trans (teq (by decide : (0 : Int32) = (0 : Int32))).1) (by decide) (by decide) ?_
        show Steps p.tables e below (s₁.setTop (mkF m 10 #[.val (.int i0), .val (.int i1), .unset, .unset, .unset] [])) _
        refine XS.iloadN X0.here hx rfl (hb hby at_10) rfl ?_
        refine XS.bipush X0.here hx rfl (hb hby at_11) ?_
        refine iremM X0 hx rfl (hb hby at_13) rfl (by decide : ¬ ((20 : Int32) = (0 : Int32))) ?_
        refine XS.iconst X0.here hx rfl (hb hby at_14) ?_
        exact kt)
    rcases Decidable.em (((i0 % (20 : Int32)) - (2 : Int32)) < (0 : Int32)) with hp1 | hp1
    · obtain ⟨_, T1, L1, hQ1, X1, st1⟩ := own_callS X0 hx hZ (W := 0) hown (hw _ m0) (hw _ m1) (hw _ m2) (hw _ m3) (by decide) (rm1 l Z a0 hw w0 w1 w2 w3 w4 w5 w6 w7 w8 w9 w10 w11 w12 w13 w14 w15 w16 kw16 hS [] ((i0 % (20 : Int32)) - (2 : Int32)) h0 n0 O0 hp1) e0 (g := (mkF m 18 #[.val (.int i0), .val (.int i1), .val (.int ((i0 % (20 : Int32)) - (2 : Int32))), .unset, .unset] [(.int ((i0 % (20 : Int32)) - (2 : Int32)))])) rfl (by rw [hml]; rfl) (argsL := [(.int ((i0 % (20 : Int32)) - (2 : Int32)))]) (rest := []) (lenOf pd10 rfl) rfl rfl (by show 2 * 0 + _ ≤ _; exact Nat.le_of_eq rfl) (hb hby at_18) (by decide) (by decide) (by decide) (by decide)
      obtain ⟨rfl, N1q, e1⟩ := hQ1
      have N1 := Fr.app N0 N1q
      have e1' : T1.heap = h0 := e1
      obtain ⟨_, T2, L2, hQ2, X2, st2⟩ := own_callS X1 hx hZ (W := 0) hown (hw _ m40) (hw _ m41) (hw _ m7) (hw _ m42) (by decide) (rm2 l Z a0 hw w0 w1 w2 w3 w4 w5 w6 w7 w8 w9 w10 w11 w12 w13 w14 w15 w16 kw16 hS [] ((i0 % (20 : Int32)) - (2 : Int32)) h0 n0 O0 hp1) e1' (g := (mkF m 23 #[.val (.int i0), .val (.int i1), .val (.int ((i0 % (20 : Int32)) - (2 : Int32))), .val .null, .unset] [(.int ((i0 % (20 : Int32)) - (2 : Int32)))])) rfl (by rw [hml]; rfl) (argsL := [(.int ((i0 % (20 : Int32)) - (2 : Int32)))]) (rest := []) (lenOf pd10 rfl) rfl rfl (by show 2 * 0 + _ ≤ _; exact Nat.le_of_eq rfl) (hb hby at_23) (by decide) (by decide) (by decide) (by decide)
      obtain ⟨rfl, N2q, e2⟩ := hQ2
      have N2 := Fr.app N1 N2q
      have e2' : T2.heap = h0 := e2
      obtain ⟨fs, hr, hrun, hended, hW, hsame⟩ := X2.leave (v := some (.int (1 : Int32))) (fun h => by rw [Bd.returns] at h; cases h)
      refine ⟨_, _, pre2 _ ?_, hrun, hended, _, _, rfl, ?_, ⟨_, rfl⟩, hW, hsame.mono (by decide) (by decide)⟩
      · show Steps p.tables e below (s₁.setTop (mkF m 15 #[.val (.int i0), .val (.int i1), .unset, .unset, .unset] [(.int (2 : Int32)), (.int (i0 % (20 : Int32)))])) _
        refine XS.isub X0.here hx rfl (hb hby at_15) rfl ?_
        refine XS.istoreN X0.here hx rfl (hb hby at_16) rfl (l' := #[.val (.int i0), .val (.int i1), .val (.int ((i0 % (20 : Int32)) - (2 : Int32))), .unset, .unset]) rfl ?_
        refine XS.iloadN X0.here hx rfl (hb hby at_17) rfl ?_
        refine st1 _ ?_
        show Steps p.tables e below (T1.setTop (mkF m 21 #[.val (.int i0), .val (.int i1), .val (.int ((i0 % (20 : Int32)) - (2 : Int32))), .unset, .unset] [.null])) _
        refine XS.astoreN X1.here hx rfl (hb hby at_21) rfl rfl (l' := #[.val (.int i0), .val (.int i1), .val (.int ((i0 % (20 : Int32)) - (2 : Int32))), .val .null, .unset]) rfl ?_
        refine XS.iloadN X1.here hx rfl (hb hby at_22) rfl ?_
        refine st2 _ ?_
        refine XS.astore X2.here hx rfl (hb hby at_26) rfl rfl (l' := #[.val (.int i0), .val (.int i1), .val (.int ((i0 % (20 : Int32)) - (2 : Int32))), .val .null, .val .null]) rfl ?_
        show Steps p.tables e below (T2.setTop (mkF m 28 #[.val (.int i0), .val (.int i1), .val (.int ((i0 % (20 : Int32)) - (2 : Int32))), .val .null, .val .null] [])) _
        refine XS.aloadN X2.here hx rfl (hb hby at_28) rfl rfl ?_
        refine XS.ifnonnullNo X2.here hx rfl (hb hby at_29) rfl ?_
        refine XS.aload X2.here hx rfl (hb hby at_32) rfl rfl ?_
        refine XS.ifnonnullNo X2.here hx rfl (hb hby at_34) rfl ?_
        show Steps p.tables e below (T2.setTop (mkF m 37 #[.val (.int i0), .val (.int i1), .val (.int ((i0 % (20 : Int32)) - (2 : Int32))), .val .null, .val .null] [])) _
        refine XS.iconst X2.here hx rfl (hb hby at_37) ?_
        refine XS.goto X2.here hx rfl (pc0 := 38) (pc' := 42) rfl (hb hby at_38) (by decide) (by decide) ?_
        exact retN X2 hx (t := .boolean) Bd.returns (by simp) (hb hby at_42) hr
      · show QL n0 _ T2.heap _
        exact ⟨rfl, N2⟩
    · rcases en_26 ((i0 % (20 : Int32)) - (2 : Int32)) (by have q0 := (own_isub (i0 % (20 : Int32)) (2 : Int32) 2 (by decide) (own_rem i0 (20 : Int32) 20 (by decide) (own_rng i0 : -2147483648 ≤ (i0).toInt ∧ (i0).toInt ≤ 2147483647) (by decide) : -19 ≤ ((i0 % (20 : Int32))).toInt ∧ ((i0 % (20 : Int32))).toInt ≤ 19) (by decide) : -21 ≤ (((i0 % (20 : Int32)) - (2 : Int32))).toInt ∧ (((i0 % (20 : Int32)) - (2 : Int32))).toInt ≤ 17); have q1 := own_ltF' hp1; have q2 := (by decide : 0 ≤ ((0 : Int32)).toInt ∧ ((0 : Int32)).toInt ≤ 0); omega) with hp2 | hp2 | hp2 | hp2 | hp2 | hp2 | hp2 | hp2 | hp2 | hp2 | hp2 | hp2 | hp2 | hp2 | hp2 | hp2 | hp2 | hp2
      · obtain ⟨_, T1, L1, hQ1, X1, st1⟩ := own_callS X0 hx hZ (W := 0) hown (hw _ m0) (hw _ m1) (hw _ m2) (hw _ m3) (by decide) (rm3 l Z a0 hw w0 w1 w2 w3 w4 w5 w6 w7 w8 w9 w10 w11 w12 w13 w14 w15 w16 kw16 hS [] h0 n0 O0) e0 (g := (mkF m 18 #[.val (.int i0), .val (.int i1), .val (.int (0 : Int32)), .unset, .unset] [(.int (0 : Int32))])) rfl (by rw [hml]; rfl) (argsL := [(.int (0 : Int32))]) (rest := []) (lenOf pd10 rfl) rfl rfl (by show 2 * 0 + _ ≤ _; exact Nat.le_of_eq rfl) (hb hby at_18) (by decide) (by decide) (by decide) (by decide)
        obtain ⟨rfl, N1q, Kq1⟩ := hQ1
        have N1 := Fr.app N0 N1q
        have O1 : Old Z n0 T1.heap := O0.keep Kq1 all0
        have K1 : Keep h0 T1.heap [] := (Keep.refl h0 []).trans Kq1 all0
        obtain ⟨_, T2, L2, hQ2, X2, st2⟩ := own_callS X1 hx hZ (W := 0) hown (hw _ m40) (hw _ m41) (hw _ m7) (hw _ m42) (by decide) (rm4 l Z a0 hw w0 w1 w2 w3 w4 w5 w6 w7 w8 w9 w10 w11 w12 w13 w14 w15 w16 kw16 hS [] T1.heap n0 O1) (rfl : T1.heap = T1.heap) (g := (mkF m 23 #[.val (.int i0), .val (.int i1), .val (.int (0 : Int32)), .val (.ref w5), .unset] [(.int (0 : Int32))])) rfl (by rw [hml]; rfl) (argsL := [(.int (0 : Int32))]) (rest := []) (lenOf pd10 rfl) rfl rfl (by show 2 * 0 + _ ≤ _; exact Nat.le_of_eq rfl) (hb hby at_23) (by decide) (by decide) (by decide) (by decide)
        obtain ⟨rfl, N2q, e2⟩ := hQ2
        have N2 := Fr.app N1 N2q
        have e2' : T2.heap = T1.heap := e2
        obtain ⟨_, T3, L3, hQ3, X3, st3⟩ := own_virtual X2 hx hZ (W := 0) hown (hw _ m45) (hw _ m46) (notFace_of_selects (args := #[]) (mvT hZ (hw _ m48))) (hw _ m48) (hw _ m47) (hw _ m7) (hw _ m49) (by decide) (rm5 l Z a0 hw w0 w1 w2 w3 w4 w5 w6 w7 w8 w9 w10 w11 w12 w13 w14 w15 w16 kw16 hS [] T1.heap n0 O1) e2' (hS.2.2.2.2.2.2.2.2.2.2.2.2.2.2.2.2.1.ext O1.2) (g := (mkF m 51 #[.val (.int i0), .val (.int i1), .val (.int (0 : Int32)), .val (.ref w5), .val (.ref w5)] [(.ref w5)])) rfl (by rw [hml]; rfl) (argsL := []) (rest := []) (lenOf pd137 rfl) rfl rfl (by show 2 * 0 + _ ≤ _; exact Nat.le_of_eq rfl) (hb hby at_51) (by decide) (by decide) (by decide) (by decide)
        obtain ⟨rfl, N3q, e3⟩ := hQ3
        have N3 := Fr.app N2 N3q
        have e3' : T3.heap = T1.heap := e3
        obtain ⟨fs, hr, hrun, hended, hW, hsame⟩ := X3.leave (v := some (.int (1 : Int32))) (fun h => by rw [Bd.returns] at h; cases h)
        refine ⟨_, _, pre2 _ ?_, hrun, hended, _, _, rfl, ?_, ⟨_, rfl⟩, hW, hsame.mono (by decide) (by decide)⟩
        · show Steps p.tables e below (s₁.setTop (mkF m 15 #[.val (.int i0), .val (.int i1), .unset, .unset, .unset] [(.int (2 : Int32)), (.int (i0 % (20 : Int32)))])) _
          refine Own.isub X0.here hx rfl (hb hby at_15) rfl hp2 ?_
          refine XS.istoreN X0.here hx rfl (hb hby at_16) rfl (l' := #[.val (.int i0), .val (.int i1), .val (.int (0 : Int32)), .unset, .unset]) rfl ?_
          refine XS.iloadN X0.here hx rfl (hb hby at_17) rfl ?_
          refine st1 _ ?_
          show Steps p.tables e below (T1.setTop (mkF m 21 #[.val (.int i0), .val (.int i1), .val (.int (0 : Int32)), .unset, .unset] [(.ref w5)])) _
          refine XS.astoreN X1.here hx rfl (hb hby at_21) rfl rfl (l' := #[.val (.int i0), .val (.int i1), .val (.int (0 : Int32)), .val (.ref w5), .unset]) rfl ?_
          refine XS.iloadN X1.here hx rfl (hb hby at_22) rfl ?_
          refine st2 _ ?_
          refine XS.astore X2.here hx rfl (hb hby at_26) rfl rfl (l' := #[.val (.int i0), .val (.int i1), .val (.int (0 : Int32)), .val (.ref w5), .val (.ref w5)]) rfl ?_
          show Steps p.tables e below (T2.setTop (mkF m 28 #[.val (.int i0), .val (.int i1), .val (.int (0 : Int32)), .val (.ref w5), .val (.ref w5)] [])) _
          refine XS.aloadN X2.here hx rfl (hb hby at_28) rfl rfl ?_
          refine XS.ifnonnullYes X2.here hx rfl (pc0 := 29) (pc' := 43) rfl (hb hby at_29) rfl (by decide) (by decide) ?_
          refine XS.aload X2.here hx rfl (hb hby at_43) rfl rfl ?_
          refine XS.aloadN X2.here hx rfl (hb hby at_45) rfl rfl ?_
          show Steps p.tables e below (T2.setTop (mkF m 46 #[.val (.int i0), .val (.int i1), .val (.int (0 : Int32)), .val (.ref w5), .val (.ref w5)] [(.ref w5), (.ref w5)])) _
          refine Jvm.RoadKit.acmp (g := (mkF m 46 #[.val (.int i0), .val (.int i1), .val (.int (0 : Int32)), .val (.ref w5), .val (.ref w5)] [(.ref w5), (.ref w5)])) X2 hx rfl rfl rfl (pc0 := 46) (pc' := 49) (same := true) rfl (hb hby at_46) rfl (decide_eq_true rfl) (by decide) (by decide) ?_
          refine XS.aload X2.here hx rfl (hb hby at_49) rfl rfl ?_
          refine st3 _ ?_
          refine XS.iloadN X3.here hx rfl (hb hby at_54) rfl ?_
          show Steps p.tables e below (T3.setTop (mkF m 55 #[.val (.int i0), .val (.int i1), .val (.int (0 : Int32)), .val (.ref w5), .val (.ref w5)] [(.int (0 : Int32)), (.int (0 : Int32))])) _
          refine XS.icmpNo X3.here hx rfl (hb hby at_55) rfl (teq (by decide : (0 : Int32) = (0 : Int32))).2 ?_
          refine XS.iconst X3.here hx rfl (hb hby at_58) ?_
          refine XS.goto X3.here hx rfl (pc0 := 59) (pc' := 63) rfl (hb hby at_59) (by decide) (by decide) ?_
          exact retN X3 hx (t := .boolean) Bd.returns (by simp) (hb hby at_63) hr
        · show QL n0 _ T3.heap _
          exact ⟨rfl, N3⟩
      · obtain ⟨_, T1, L1, hQ1, X1, st1⟩ := own_callS X0 hx hZ (W := 0) hown (hw _ m0) (hw _ m1) (hw _ m2) (hw _ m3) (by decide) (rm6 l Z a0 hw w0 w1 w2 w3 w4 w5 w6 w7 w8 w9 w10 w11 w12 w13 w14 w15 w16 kw16 hS [] h0 n0 O0) e0 (g := (mkF m 18 #[.val (.int i0), .val (.int i1), .val (.int (1 : Int32)), .unset, .unset] [(.int (1 : Int32))])) rfl (by rw [hml]; rfl) (argsL := [(.int (1 : Int32))]) (rest := []) (lenOf pd10 rfl) rfl rfl (by show 2 * 0 + _ ≤ _; exact Nat.le_of_eq rfl) (hb hby at_18) (by decide) (by decide) (by decide) (by decide)
        obtain ⟨rfl, N1q, Kq1⟩ := hQ1
        have N1 := Fr.app N0 N1q
        have O1 : Old Z n0 T1.heap := O0.keep Kq1 all0
        have K1 : Keep h0 T1.heap [] := (Keep.refl h0 []).trans Kq1 all0
        obtain ⟨_, T2, L2, hQ2, X2, st2⟩ := own_callS X1 hx hZ (W := 0) hown (hw _ m40) (hw _ m41) (hw _ m7) (hw _ m42) (by decide) (rm7 l Z a0 hw w0 w1 w2 w3 w4 w5 w6 w7 w8 w9 w10 w11 w12 w13 w14 w15 w16 kw16 hS [] T1.heap n0 O1) (rfl : T1.heap = T1.heap) (g := (mkF m 23 #[.val (.int i0), .val (.int i1), .val (.int (1 : Int32)), .val (.ref w14), .unset] [(.int (1 : Int32))])) rfl (by rw [hml]; rfl) (argsL := [(.int (1 : Int32))]) (rest := []) (lenOf pd10 rfl) rfl rfl (by show 2 * 0 + _ ≤ _; exact Nat.le_of_eq rfl) (hb hby at_23) (by decide) (by decide) (by decide) (by decide)
        obtain ⟨rfl, N2q, e2⟩ := hQ2
        have N2 := Fr.app N1 N2q
        have e2' : T2.heap = T1.heap := e2
        obtain ⟨_, T3, L3, hQ3, X3, st3⟩ := own_virtual X2 hx hZ (W := 0) hown (hw _ m45) (hw _ m46) (notFace_of_selects (args := #[]) (mvT hZ (hw _ m48))) (hw _ m48) (hw _ m47) (hw _ m7) (hw _ m49) (by decide) (rm8 l Z a0 hw w0 w1 w2 w3 w4 w5 w6 w7 w8 w9 w10 w11 w12 w13 w14 w15 w16 kw16 hS [] T1.heap n0 O1) e2' (hS.2.2.2.2.2.2.2.2.2.2.2.2.2.2.2.2.2.2.2.2.2.2.2.2.2.2.2.2.2.2.2.2.2.2.2.2.2.2.2.2.2.2.2.1.ext O1.2) (g := (mkF m 51 #[.val (.int i0), .val (.int i1), .val (.int (1 : Int32)), .val (.ref w14), .val (.ref w14)] [(.ref w14)])) rfl (by rw [hml]; rfl) (argsL := []) (rest := []) (lenOf pd137 rfl) rfl rfl (by show 2 * 0 + _ ≤ _; exact Nat.le_of_eq rfl) (hb hby at_51) (by decide) (by decide) (by decide) (by decide)
        obtain ⟨rfl, N3q, e3⟩ := hQ3
        have N3 := Fr.app N2 N3q
        have e3' : T3.heap = T1.heap := e3
        obtain ⟨fs, hr, hrun, hended, hW, hsame⟩ := X3.leave (v := some (.int (1 : Int32))) (fun h => by rw [Bd.returns] at h; cases h)
        refine ⟨_, _, pre2 _ ?_, hrun, hended, _, _, rfl, ?_, ⟨_, rfl⟩, hW, hsame.mono (by decide) (by decide)⟩
        · show Steps p.tables e below (s₁.setTop (mkF m 15 #[.val (.int i0), .val (.int i1), .unset, .unset, .unset] [(.int (2 : Int32)), (.int (i0 % (20 : Int32)))])) _
          refine Own.isub X0.here hx rfl (hb hby at_15) rfl hp2 ?_
          refine XS.istoreN X0.here hx rfl (hb hby at_16) rfl (l' := #[.val (.int i0), .val (.int i1), .val (.int (1 : Int32)), .unset, .unset]) rfl ?_
          refine XS.iloadN X0.here hx rfl (hb hby at_17) rfl ?_
          refine st1 _ ?_
          show Steps p.tables e below (T1.setTop (mkF m 21 #[.val (.int i0), .val (.int i1), .val (.int (1 : Int32)), .unset, .unset] [(.ref w14)])) _
          refine XS.astoreN X1.here hx rfl (hb hby at_21) rfl rfl (l' := #[.val (.int i0), .val (.int i1), .val (.int (1 : Int32)), .val (.ref w14), .unset]) rfl ?_
          refine XS.iloadN X1.here hx rfl (hb hby at_22) rfl ?_
          refine st2 _ ?_
          refine XS.astore X2.here hx rfl (hb hby at_26) rfl rfl (l' := #[.val (.int i0), .val (.int i1), .val (.int (1 : Int32)), .val (.ref w14), .val (.ref w14)]) rfl ?_
          show Steps p.tables e below (T2.setTop (mkF m 28 #[.val (.int i0), .val (.int i1), .val (.int (1 : Int32)), .val (.ref w14), .val (.ref w14)] [])) _
          refine XS.aloadN X2.here hx rfl (hb hby at_28) rfl rfl ?_
          refine XS.ifnonnullYes X2.here hx rfl (pc0 := 29) (pc' := 43) rfl (hb hby at_29) rfl (by decide) (by decide) ?_
          refine XS.aload X2.here hx rfl (hb hby at_43) rfl rfl ?_
          refine XS.aloadN X2.here hx rfl (hb hby at_45) rfl rfl ?_
          show Steps p.tables e below (T2.setTop (mkF m 46 #[.val (.int i0), .val (.int i1), .val (.int (1 : Int32)), .val (.ref w14), .val (.ref w14)] [(.ref w14), (.ref w14)])) _
          refine Jvm.RoadKit.acmp (g := (mkF m 46 #[.val (.int i0), .val (.int i1), .val (.int (1 : Int32)), .val (.ref w14), .val (.ref w14)] [(.ref w14), (.ref w14)])) X2 hx rfl rfl rfl (pc0 := 46) (pc' := 49) (same := true) rfl (hb hby at_46) rfl (decide_eq_true rfl) (by decide) (by decide) ?_
          refine XS.aload X2.here hx rfl (hb hby at_49) rfl rfl ?_
          refine st3 _ ?_
          refine XS.iloadN X3.here hx rfl (hb hby at_54) rfl ?_
          show Steps p.tables e below (T3.setTop (mkF m 55 #[.val (.int i0), .val (.int i1), .val (.int (1 : Int32)), .val (.ref w14), .val (.ref w14)] [(.int (1 : Int32)), (.int (1 : Int32))])) _
          refine XS.icmpNo X3.here hx rfl (hb hby at_55) rfl (teq (by decide : (1 : Int32) = (1 : Int32))).2 ?_
          refine XS.iconst X3.here hx rfl (hb hby at_58) ?_
          refine XS.goto X3.here hx rfl (pc0 := 59) (pc' := 63) rfl (hb hby at_59) (by decide) (by decide) ?_
          exact retN X3 hx (t := .boolean) Bd.returns (by simp) (hb hby at_63) hr
        · show QL n0 _ T3.heap _
          exact ⟨rfl, N3⟩
      · obtain ⟨_, T1, L1, hQ1, X1, st1⟩ := own_callS X0 hx hZ (W := 0) hown (hw _ m0) (hw _ m1) (hw _ m2) (hw _ m3) (by decide) (rm9 l Z a0 hw w0 w1 w2 w3 w4 w5 w6 w7 w8 w9 w10 w11 w12 w13 w14 w15 w16 kw16 hS [] h0 n0 O0) e0 (g := (mkF m 18 #[.val (.int i0), .val (.int i1), .val (.int (2 : Int32)), .unset, .unset] [(.int (2 : Int32))])) rfl (by rw [hml]; rfl) (argsL := [(.int (2 : Int32))]) (rest := []) (lenOf pd10 rfl) rfl rfl (by show 2 * 0 + _ ≤ _; exact Nat.le_of_eq rfl) (hb hby at_18) (by decide) (by decide) (by decide) (by decide)
        obtain ⟨rfl, N1q, Kq1⟩ := hQ1
        have N1 := Fr.app N0 N1q
        have O1 : Old Z n0 T1.heap := O0.keep Kq1 all0
        have K1 : Keep h0 T1.heap [] := (Keep.refl h0 []).trans Kq1 all0
        obtain ⟨_, T2, L2, hQ2, X2, st2⟩ := own_callS X1 hx hZ (W := 0) hown (hw _ m40) (hw _ m41) (hw _ m7) (hw _ m42) (by decide) (rm10 l Z a0 hw w0 w1 w2 w3 w4 w5 w6 w7 w8 w9 w10 w11 w12 w13 w14 w15 w16 kw16 hS [] T1.heap n0 O1) (rfl : T1.heap = T1.heap) (g := (mkF m 23 #[.val (.int i0), .val (.int i1), .val (.int (2 : Int32)), .val (.ref w11), .unset] [(.int (2 : Int32))])) rfl (by rw [hml]; rfl) (argsL := [(.int (2 : Int32))]) (rest := []) (lenOf pd10 rfl) rfl rfl (by show 2 * 0 + _ ≤ _; exact Nat.le_of_eq rfl) (hb hby at_23) (by decide) (by decide) (by decide) (by decide)
        obtain ⟨rfl, N2q, e2⟩ := hQ2
        have N2 := Fr.app N1 N2q
        have e2' : T2.heap = T1.heap := e2
        obtain ⟨_, T3, L3, hQ3, X3, st3⟩ := own_virtual X2 hx hZ (W := 0) hown (hw _ m45) (hw _ m46) (notFace_of_selects (args := #[]) (mvT hZ (hw _ m48))) (hw _ m48) (hw _ m47) (hw _ m7) (hw _ m49) (by decide) (rm11 l Z a0 hw w0 w1 w2 w3 w4 w5 w6 w7 w8 w9 w10 w11 w12 w13 w14 w15 w16 kw16 hS [] T1.heap n0 O1) e2' (hS.2.2.2.2.2.2.2.2.2.2.2.2.2.2.2.2.2.2.2.2.2.2.2.2.2.2.2.2.2.2.2.2.2.2.1.ext O1.2) (g := (mkF m 51 #[.val (.int i0), .val (.int i1), .val (.int (2 : Int32)), .val (.ref w11), .val (.ref w11)] [(.ref w11)])) rfl (by rw [hml]; rfl) (argsL := []) (rest := []) (lenOf pd137 rfl) rfl rfl (by show 2 * 0 + _ ≤ _; exact Nat.le_of_eq rfl) (hb hby at_51) (by decide) (by decide) (by decide) (by decide)
        obtain ⟨rfl, N3q, e3⟩ := hQ3
        have N3 := Fr.app N2 N3q
        have e3' : T3.heap = T1.heap := e3
        obtain ⟨fs, hr, hrun, hended, hW, hsame⟩ := X3.leave (v := some (.int (1 : Int32))) (fun h => by rw [Bd.returns] at h; cases h)
        refine ⟨_, _, pre2 _ ?_, hrun, hended, _, _, rfl, ?_, ⟨_, rfl⟩, hW, hsame.mono (by decide) (by decide)⟩
        · show Steps p.tables e below (s₁.setTop (mkF m 15 #[.val (.int i0), .val (.int i1), .unset, .unset, .unset] [(.int (2 : Int32)), (.int (i0 % (20 : Int32)))])) _
          refine Own.isub X0.here hx rfl (hb hby at_15) rfl hp2 ?_
          refine XS.istoreN X0.here hx rfl (hb hby at_16) rfl (l' := #[.val (.int i0), .val (.int i1), .val (.int (2 : Int32)), .unset, .unset]) rfl ?_
          refine XS.iloadN X0.here hx rfl (hb hby at_17) rfl ?_
          refine st1 _ ?_
          show Steps p.tables e below (T1.setTop (mkF m 21 #[.val (.int i0), .val (.int i1), .val (.int (2 : Int32)), .unset, .unset] [(.ref w11)])) _
          refine XS.astoreN X1.here hx rfl (hb hby at_21) rfl rfl (l' := #[.val (.int i0), .val (.int i1), .val (.int (2 : Int32)), .val (.ref w11), .unset]) rfl ?_
          refine XS.iloadN X1.here hx rfl (hb hby at_22) rfl ?_
          refine st2 _ ?_
          refine XS.astore X2.here hx rfl (hb hby at_26) rfl rfl (l' := #[.val (.int i0), .val (.int i1), .val (.int (2 : Int32)), .val (.ref w11), .val (.ref w11)]) rfl ?_
          show Steps p.tables e below (T2.setTop (mkF m 28 #[.val (.int i0), .val (.int i1), .val (.int (2 : Int32)), .val (.ref w11), .val (.ref w11)] [])) _
          refine XS.aloadN X2.here hx rfl (hb hby at_28) rfl rfl ?_
          refine XS.ifnonnullYes X2.here hx rfl (pc0 := 29) (pc' := 43) rfl (hb hby at_29) rfl (by decide) (by decide) ?_
          refine XS.aload X2.here hx rfl (hb hby at_43) rfl rfl ?_
          refine XS.aloadN X2.here hx rfl (hb hby at_45) rfl rfl ?_
          show Steps p.tables e below (T2.setTop (mkF m 46 #[.val (.int i0), .val (.int i1), .val (.int (2 : Int32)), .val (.ref w11), .val (.ref w11)] [(.ref w11), (.ref w11)])) _
          refine Jvm.RoadKit.acmp (g := (mkF m 46 #[.val (.int i0), .val (.int i1), .val (.int (2 : Int32)), .val (.ref w11), .val (.ref w11)] [(.ref w11), (.ref w11)])) X2 hx rfl rfl rfl (pc0 := 46) (pc' := 49) (same := true) rfl (hb hby at_46) rfl (decide_eq_true rfl) (by decide) (by decide) ?_
          refine XS.aload X2.here hx rfl (hb hby at_49) rfl rfl ?_
          refine st3 _ ?_
          refine XS.iloadN X3.here hx rfl (hb hby at_54) rfl ?_
          show Steps p.tables e below (T3.setTop (mkF m 55 #[.val (.int i0), .val (.int i1), .val (.int (2 : Int32)), .val (.ref w11), .val (.ref w11)] [(.int (2 : Int32)), (.int (2 : Int32))])) _
          refine XS.icmpNo X3.here hx rfl (hb hby at_55) rfl (teq (by decide : (2 : Int32) = (2 : Int32))).2 ?_
          refine XS.iconst X3.here hx rfl (hb hby at_58) ?_
          refine XS.goto X3.here hx rfl (pc0 := 59) (pc' := 63) rfl (hb hby at_59) (by decide) (by decide) ?_
          exact retN X3 hx (t := .boolean) Bd.returns (by simp) (hb hby at_63) hr
        · show QL n0 _ T3.heap _
          exact ⟨rfl, N3⟩
      · obtain ⟨_, T1, L1, hQ1, X1, st1⟩ := own_callS X0 hx hZ (W := 0) hown (hw _ m0) (hw _ m1) (hw _ m2) (hw _ m3) (by decide) (rm12 l Z a0 hw w0 w1 w2 w3 w4 w5 w6 w7 w8 w9 w10 w11 w12 w13 w14 w15 w16 kw16 hS [] h0 n0 O0) e0 (g := (mkF m 18 #[.val (.int i0), .val (.int i1), .val (.int (3 : Int32)), .unset, .unset] [(.int (3 : Int32))])) rfl (by rw [hml]; rfl) (argsL := [(.int (3 : Int32))]) (rest := []) (lenOf pd10 rfl) rfl rfl (by show 2 * 0 + _ ≤ _; exact Nat.le_of_eq rfl) (hb hby at_18) (by decide) (by decide) (by decide) (by decide)
        obtain ⟨rfl, N1q, Kq1⟩ := hQ1
        have N1 := Fr.app N0 N1q
        have O1 : Old Z n0 T1.heap := O0.keep Kq1 all0
        have K1 : Keep h0 T1.heap [] := (Keep.refl h0 []).trans Kq1 all0
        obtain ⟨_, T2, L2, hQ2, X2, st2⟩ := own_callS X1 hx hZ (W := 0) hown (hw _ m40) (hw _ m41) (hw _ m7) (hw _ m42) (by decide) (rm13 l Z a0 hw w0 w1 w2 w3 w4 w5 w6 w7 w8 w9 w10 w11 w12 w13 w14 w15 w16 kw16 hS [] T1.heap n0 O1) (rfl : T1.heap = T1.heap) (g := (mkF m 23 #[.val (.int i0), .val (.int i1), .val (.int (3 : Int32)), .val (.ref w0), .unset] [(.int (3 : Int32))])) rfl (by rw [hml]; rfl) (argsL := [(.int (3 : Int32))]) (rest := []) (lenOf pd10 rfl) rfl rfl (by show 2 * 0 + _ ≤ _; exact Nat.le_of_eq rfl) (hb hby at_23) (by decide) (by decide) (by decide) (by decide)
        obtain ⟨rfl, N2q, e2⟩ := hQ2
        have N2 := Fr.app N1 N2q
        have e2' : T2.heap = T1.heap := e2
        obtain ⟨_, T3, L3, hQ3, X3, st3⟩ := own_virtual X2 hx hZ (W := 0) hown (hw _ m45) (hw _ m46) (notFace_of_selects (args := #[]) (mvT hZ (hw _ m48))) (hw _ m48) (hw _ m47) (hw _ m7) (hw _ m49) (by decide) (rm14 l Z a0 hw w0 w1 w2 w3 w4 w5 w6 w7 w8 w9 w10 w11 w12 w13 w14 w15 w16 kw16 hS [] T1.heap n0 O1) e2' (hS.2.1.ext O1.2) (g := (mkF m 51 #[.val (.int i0), .val (.int i1), .val (.int (3 : Int32)), .val (.ref w0), .val (.ref w0)] [(.ref w0)])) rfl (by rw [hml]; rfl) (argsL := []) (rest := []) (lenOf pd137 rfl) rfl rfl (by show 2 * 0 + _ ≤ _; exact Nat.le_of_eq rfl) (hb hby at_51) (by decide) (by decide) (by decide) (by decide)
        obtain ⟨rfl, N3q, e3⟩ := hQ3
        have N3 := Fr.app N2 N3q
        have e3' : T3.heap = T1.heap := e3
        obtain ⟨fs, hr, hrun, hended, hW, hsame⟩ := X3.leave (v := some (.int (1 : Int32))) (fun h => by rw [Bd.returns] at h; cases h)
        refine ⟨_, _, pre2 _ ?_, hrun, hended, _, _, rfl, ?_, ⟨_, rfl⟩, hW, hsame.mono (by decide) (by decide)⟩
        · show Steps p.tables e below (s₁.setTop (mkF m 15 #[.val (.int i0), .val (.int i1), .unset, .unset, .unset] [(.int (2 : Int32)), (.int (i0 % (20 : Int32)))])) _
          refine Own.isub X0.here hx rfl (hb hby at_15) rfl hp2 ?_
          refine XS.istoreN X0.here hx rfl (hb hby at_16) rfl (l' := #[.val (.int i0), .val (.int i1), .val (.int (3 : Int32)), .unset, .unset]) rfl ?_
          refine XS.iloadN X0.here hx rfl (hb hby at_17) rfl ?_
          refine st1 _ ?_
          show Steps p.tables e below (T1.setTop (mkF m 21 #[.val (.int i0), .val (.int i1), .val (.int (3 : Int32)), .unset, .unset] [(.ref w0)])) _
          refine XS.astoreN X1.here hx rfl (hb hby at_21) rfl rfl (l' := #[.val (.int i0), .val (.int i1), .val (.int (3 : Int32)), .val (.ref w0), .unset]) rfl ?_
          refine XS.iloadN X1.here hx rfl (hb hby at_22) rfl ?_
          refine st2 _ ?_
          refine XS.astore X2.here hx rfl (hb hby at_26) rfl rfl (l' := #[.val (.int i0), .val (.int i1), .val (.int (3 : Int32)), .val (.ref w0), .val (.ref w0)]) rfl ?_
          show Steps p.tables e below (T2.setTop (mkF m 28 #[.val (.int i0), .val (.int i1), .val (.int (3 : Int32)), .val (.ref w0), .val (.ref w0)] [])) _
          refine XS.aloadN X2.here hx rfl (hb hby at_28) rfl rfl ?_
          refine XS.ifnonnullYes X2.here hx rfl (pc0 := 29) (pc' := 43) rfl (hb hby at_29) rfl (by decide) (by decide) ?_
          refine XS.aload X2.here hx rfl (hb hby at_43) rfl rfl ?_
          refine XS.aloadN X2.here hx rfl (hb hby at_45) rfl rfl ?_
          show Steps p.tables e below (T2.setTop (mkF m 46 #[.val (.int i0), .val (.int i1), .val (.int (3 : Int32)), .val (.ref w0), .val (.ref w0)] [(.ref w0), (.ref w0)])) _
          refine Jvm.RoadKit.acmp (g := (mkF m 46 #[.val (.int i0), .val (.int i1), .val (.int (3 : Int32)), .val (.ref w0), .val (.ref w0)] [(.ref w0), (.ref w0)])) X2 hx rfl rfl rfl (pc0 := 46) (pc' := 49) (same := true) rfl (hb hby at_46) rfl (decide_eq_true rfl) (by decide) (by decide) ?_
          refine XS.aload X2.here hx rfl (hb hby at_49) rfl rfl ?_
          refine st3 _ ?_
          refine XS.iloadN X3.here hx rfl (hb hby at_54) rfl ?_
          show Steps p.tables e below (T3.setTop (mkF m 55 #[.val (.int i0), .val (.int i1), .val (.int (3 : Int32)), .val (.ref w0), .val (.ref w0)] [(.int (3 : Int32)), (.int (3 : Int32))])) _
          refine XS.icmpNo X3.here hx rfl (hb hby at_55) rfl (teq (by decide : (3 : Int32) = (3 : Int32))).2 ?_
          refine XS.iconst X3.here hx rfl (hb hby at_58) ?_
          refine XS.goto X3.here hx rfl (pc0 := 59) (pc' := 63) rfl (hb hby at_59) (by decide) (by decide) ?_
          exact retN X3 hx (t := .boolean) Bd.returns (by simp) (hb hby at_63) hr
        · show QL n0 _ T3.heap _
          exact ⟨rfl, N3⟩
      · obtain ⟨_, T1, L1, hQ1, X1, st1⟩ := own_callS X0 hx hZ (W := 0) hown (hw _ m0) (hw _ m1) (hw _ m2) (hw _ m3) (by decide) (rm15 l Z a0 hw w0 w1 w2 w3 w4 w5 w6 w7 w8 w9 w10 w11 w12 w13 w14 w15 w16 kw16 hS [] h0 n0 O0) e0 (g := (mkF m 18 #[.val (.int i0), .val (.int i1), .val (.int (4 : Int32)), .unset, .unset] [(.int (4 : Int32))])) rfl (by rw [hml]; rfl) (argsL := [(.int (4 : Int32))]) (rest := []) (lenOf pd10 rfl) rfl rfl (by show 2 * 0 + _ ≤ _; exact Nat.le_of_eq rfl) (hb hby at_18) (by decide) (by decide) (by decide) (by decide)
        obtain ⟨rfl, N1q, Kq1⟩ := hQ1
        have N1 := Fr.app N0 N1q
        have O1 : Old Z n0 T1.heap := O0.keep Kq1 all0
        have K1 : Keep h0 T1.heap [] := (Keep.refl h0 []).trans Kq1 all0
        obtain ⟨_, T2, L2, hQ2, X2, st2⟩ := own_callS X1 hx hZ (W := 0) hown (hw _ m40) (hw _ m41) (hw _ m7) (hw _ m42) (by decide) (rm16 l Z a0 hw w0 w1 w2 w3 w4 w5 w6 w7 w8 w9 w10 w11 w12 w13 w14 w15 w16 kw16 hS [] T1.heap n0 O1) (rfl : T1.heap = T1.heap) (g := (mkF m 23 #[.val (.int i0), .val (.int i1), .val (.int (4 : Int32)), .val .null, .unset] [(.int (4 : Int32))])) rfl (by rw [hml]; rfl) (argsL := [(.int (4 : Int32))]) (rest := []) (lenOf pd10 rfl) rfl rfl (by show 2 * 0 + _ ≤ _; exact Nat.le_of_eq rfl) (hb hby at_23) (by decide) (by decide) (by decide) (by decide)
        obtain ⟨rfl, N2q, e2⟩ := hQ2
        have N2 := Fr.app N1 N2q
        have e2' : T2.heap = T1.heap := e2
        obtain ⟨fs, hr, hrun, hended, hW, hsame⟩ := X2.leave (v := some (.int (1 : Int32))) (fun h => by rw [Bd.returns] at h; cases h)
        refine ⟨_, _, pre2 _ ?_, hrun, hended, _, _, rfl, ?_, ⟨_, rfl⟩, hW, hsame.mono (by decide) (by decide)⟩
        · show Steps p.tables e below (s₁.setTop (mkF m 15 #[.val (.int i0), .val (.int i1), .unset, .unset, .unset] [(.int (2 : Int32)), (.int (i0 % (20 : Int32)))])) _
          refine Own.isub X0.here hx rfl (hb hby at_15) rfl hp2 ?_
          refine XS.istoreN X0.here hx rfl (hb hby at_16) rfl (l' := #[.val (.int i0), .val (.int i1), .val (.int (4 : Int32)), .unset, .unset]) rfl ?_
          refine XS.iloadN X0.here hx rfl (hb hby at_17) rfl ?_
          refine st1 _ ?_
          show Steps p.tables e below (T1.setTop (mkF m 21 #[.val (.int i0), .val (.int i1), .val (.int (4 : Int32)), .unset, .unset] [.null])) _
          refine XS.astoreN X1.here hx rfl (hb hby at_21) rfl rfl (l' := #[.val (.int i0), .val (.int i1), .val (.int (4 : Int32)), .val .null, .unset]) rfl ?_
          refine XS.iloadN X1.here hx rfl (hb hby at_22) rfl ?_
          refine st2 _ ?_
          refine XS.astore X2.here hx rfl (hb hby at_26) rfl rfl (l' := #[.val (.int i0), .val (.int i1), .val (.int (4 : Int32)), .val .null, .val .null]) rfl ?_
          show Steps p.tables e below (T2.setTop (mkF m 28 #[.val (.int i0), .val (.int i1), .val (.int (4 : Int32)), .val .null, .val .null] [])) _
          refine XS.aloadN X2.here hx rfl (hb hby at_28) rfl rfl ?_
          refine XS.ifnonnullNo X2.here hx rfl (hb hby at_29) rfl ?_
          refine XS.aload X2.here hx rfl (hb hby at_32) rfl rfl ?_
          refine XS.ifnonnullNo X2.here hx rfl (hb hby at_34) rfl ?_
          show Steps p.tables e below (T2.setTop (mkF m 37 #[.val (.int i0), .val (.int i1), .val (.int (4 : Int32)), .val .null, .val .null] [])) _
          refine XS.iconst X2.here hx rfl (hb hby at_37) ?_
          refine XS.goto X2.here hx rfl (pc0 := 38) (pc' := 42) rfl (hb hby at_38) (by decide) (by decide) ?_
          exact retN X2 hx (t := .boolean) Bd.returns (by simp) (hb hby at_42) hr
        · show QL n0 _ T2.heap _
          exact ⟨rfl, N2⟩
      · obtain ⟨_, T1, L1, hQ1, X1, st1⟩ := own_callS X0 hx hZ (W := 0) hown (hw _ m0) (hw _ m1) (hw _ m2) (hw _ m3) (by decide) (rm17 l Z a0 hw w0 w1 w2 w3 w4 w5 w6 w7 w8 w9 w10 w11 w12 w13 w14 w15 w16 kw16 hS [] h0 n0 O0) e0 (g := (mkF m 18 #[.val (.int i0), .val (.int i1), .val (.int (5 : Int32)), .unset, .unset] [(.int (5 : Int32))])) rfl (by rw [hml]; rfl) (argsL := [(.int (5 : Int32))]) (rest := []) (lenOf pd10 rfl) rfl rfl (by show 2 * 0 + _ ≤ _; exact Nat.le_of_eq rfl) (hb hby at_18) (by decide) (by decide) (by decide) (by decide)
        obtain ⟨rfl, N1q, Kq1⟩ := hQ1
        have N1 := Fr.app N0 N1q
        have O1 : Old Z n0 T1.heap := O0.keep Kq1 all0
        have K1 : Keep h0 T1.heap [] := (Keep.refl h0 []).trans Kq1 all0
        obtain ⟨_, T2, L2, hQ2, X2, st2⟩ := own_callS X1 hx hZ (W := 0) hown (hw _ m40) (hw _ m41) (hw _ m7) (hw _ m42) (by decide) (rm18 l Z a0 hw w0 w1 w2 w3 w4 w5 w6 w7 w8 w9 w10 w11 w12 w13 w14 w15 w16 kw16 hS [] T1.heap n0 O1) (rfl : T1.heap = T1.heap) (g := (mkF m 23 #[.val (.int i0), .val (.int i1), .val (.int (5 : Int32)), .val (.ref w8), .unset] [(.int (5 : Int32))])) rfl (by rw [hml]; rfl) (argsL := [(.int (5 : Int32))]) (rest := []) (lenOf pd10 rfl) rfl rfl (by show 2 * 0 + _ ≤ _; exact Nat.le_of_eq rfl) (hb hby at_23) (by decide) (by decide) (by decide) (by decide)
        obtain ⟨rfl, N2q, e2⟩ := hQ2
        have N2 := Fr.app N1 N2q
        have e2' : T2.heap = T1.heap := e2
        obtain ⟨_, T3, L3, hQ3, X3, st3⟩ := own_virtual X2 hx hZ (W := 0) hown (hw _ m45) (hw _ m46) (notFace_of_selects (args := #[]) (mvT hZ (hw _ m48))) (hw _ m48) (hw _ m47) (hw _ m7) (hw _ m49) (by decide) (rm19 l Z a0 hw w0 w1 w2 w3 w4 w5 w6 w7 w8 w9 w10 w11 w12 w13 w14 w15 w16 kw16 hS [] T1.heap n0 O1) e2' (hS.2.2.2.2.2.2.2.2.2.2.2.2.2.2.2.2.2.2.2.2.2.2.2.2.2.1.ext O1.2) (g := (mkF m 51 #[.val (.int i0), .val (.int i1), .val (.int (5 : Int32)), .val (.ref w8), .val (.ref w8)] [(.ref w8)])) rfl (by rw [hml]; rfl) (argsL := []) (rest := []) (lenOf pd137 rfl) rfl rfl (by show 2 * 0 + _ ≤ _; exact Nat.le_of_eq rfl) (hb hby at_51) (by decide) (by decide) (by decide) (by decide)
        obtain ⟨rfl, N3q, e3⟩ := hQ3
        have N3 := Fr.app N2 N3q
        have e3' : T3.heap = T1.heap := e3
        obtain ⟨fs, hr, hrun, hended, hW, hsame⟩ := X3.leave (v := some (.int (1 : Int32))) (fun h => by rw [Bd.returns] at h; cases h)
        refine ⟨_, _, pre2 _ ?_, hrun, hended, _, _, rfl, ?_, ⟨_, rfl⟩, hW, hsame.mono (by decide) (by decide)⟩
        · show Steps p.tables e below (s₁.setTop (mkF m 15 #[.val (.int i0), .val (.int i1), .unset, .unset, .unset] [(.int (2 : Int32)), (.int (i0 % (20 : Int32)))])) _
          refine Own.isub X0.here hx rfl (hb hby at_15) rfl hp2 ?_
          refine XS.istoreN X0.here hx rfl (hb hby at_16) rfl (l' := #[.val (.int i0), .val (.int i1), .val (.int (5 : Int32)), .unset, .unset]) rfl ?_
          refine XS.iloadN X0.here hx rfl (hb hby at_17) rfl ?_
          refine st1 _ ?_
          show Steps p.tables e below (T1.setTop (mkF m 21 #[.val (.int i0), .val (.int i1), .val (.int (5 : Int32)), .unset, .unset] [(.ref w8)])) _
          refine XS.astoreN X1.here hx rfl (hb hby at_21) rfl rfl (l' := #[.val (.int i0), .val (.int i1), .val (.int (5 : Int32)), .val (.ref w8), .unset]) rfl ?_
          refine XS.iloadN X1.here hx rfl (hb hby at_22) rfl ?_
          refine st2 _ ?_
          refine XS.astore X2.here hx rfl (hb hby at_26) rfl rfl (l' := #[.val (.int i0), .val (.int i1), .val (.int (5 : Int32)), .val (.ref w8), .val (.ref w8)]) rfl ?_
          show Steps p.tables e below (T2.setTop (mkF m 28 #[.val (.int i0), .val (.int i1), .val (.int (5 : Int32)), .val (.ref w8), .val (.ref w8)] [])) _
          refine XS.aloadN X2.here hx rfl (hb hby at_28) rfl rfl ?_
          refine XS.ifnonnullYes X2.here hx rfl (pc0 := 29) (pc' := 43) rfl (hb hby at_29) rfl (by decide) (by decide) ?_
          refine XS.aload X2.here hx rfl (hb hby at_43) rfl rfl ?_
          refine XS.aloadN X2.here hx rfl (hb hby at_45) rfl rfl ?_
          show Steps p.tables e below (T2.setTop (mkF m 46 #[.val (.int i0), .val (.int i1), .val (.int (5 : Int32)), .val (.ref w8), .val (.ref w8)] [(.ref w8), (.ref w8)])) _
          refine Jvm.RoadKit.acmp (g := (mkF m 46 #[.val (.int i0), .val (.int i1), .val (.int (5 : Int32)), .val (.ref w8), .val (.ref w8)] [(.ref w8), (.ref w8)])) X2 hx rfl rfl rfl (pc0 := 46) (pc' := 49) (same := true) rfl (hb hby at_46) rfl (decide_eq_true rfl) (by decide) (by decide) ?_
          refine XS.aload X2.here hx rfl (hb hby at_49) rfl rfl ?_
          refine st3 _ ?_
          refine XS.iloadN X3.here hx rfl (hb hby at_54) rfl ?_
          show Steps p.tables e below (T3.setTop (mkF m 55 #[.val (.int i0), .val (.int i1), .val (.int (5 : Int32)), .val (.ref w8), .val (.ref w8)] [(.int (5 : Int32)), (.int (5 : Int32))])) _
          refine XS.icmpNo X3.here hx rfl (hb hby at_55) rfl (teq (by decide : (5 : Int32) = (5 : Int32))).2 ?_
          refine XS.iconst X3.here hx rfl (hb hby at_58) ?_
          refine XS.goto X3.here hx rfl (pc0 := 59) (pc' := 63) rfl (hb hby at_59) (by decide) (by decide) ?_
          exact retN X3 hx (t := .boolean) Bd.returns (by simp) (hb hby at_63) hr
        · show QL n0 _ T3.heap _
          exact ⟨rfl, N3⟩
      · obtain ⟨_, T1, L1, hQ1, X1, st1⟩ := own_callS X0 hx hZ (W := 0) hown (hw _ m0) (hw _ m1) (hw _ m2) (hw _ m3) (by decide) (rm20 l Z a0 hw w0 w1 w2 w3 w4 w5 w6 w7 w8 w9 w10 w11 w12 w13 w14 w15 w16 kw16 hS [] h0 n0 O0) e0 (g := (mkF m 18 #[.val (.int i0), .val (.int i1), .val (.int (6 : Int32)), .unset, .unset] [(.int (6 : Int32))])) rfl (by rw [hml]; rfl) (argsL := [(.int (6 : Int32))]) (rest := []) (lenOf pd10 rfl) rfl rfl (by show 2 * 0 + _ ≤ _; exact Nat.le_of_eq rfl) (hb hby at_18) (by decide) (by decide) (by decide) (by decide)
        obtain ⟨rfl, N1q, Kq1⟩ := hQ1
        have N1 := Fr.app N0 N1q
        have O1 : Old Z n0 T1.heap := O0.keep Kq1 all0
        have K1 : Keep h0 T1.heap [] := (Keep.refl h0 []).trans Kq1 all0
        obtain ⟨_, T2, L2, hQ2, X2, st2⟩ := own_callS X1 hx hZ (W := 0) hown (hw _ m40) (hw _ m41) (hw _ m7) (hw _ m42) (by decide) (rm21 l Z a0 hw w0 w1 w2 w3 w4 w5 w6 w7 w8 w9 w10 w11 w12 w13 w14 w15 w16 kw16 hS [] T1.heap n0 O1) (rfl : T1.heap = T1.heap) (g := (mkF m 23 #[.val (.int i0), .val (.int i1), .val (.int (6 : Int32)), .val (.ref w15), .unset] [(.int (6 : Int32))])) rfl (by rw [hml]; rfl) (argsL := [(.int (6 : Int32))]) (rest := []) (lenOf pd10 rfl) rfl rfl (by show 2 * 0 + _ ≤ _; exact Nat.le_of_eq rfl) (hb hby at_23) (by decide) (by decide) (by decide) (by decide)
        obtain ⟨rfl, N2q, e2⟩ := hQ2
        have N2 := Fr.app N1 N2q
        have e2' : T2.heap = T1.heap := e2
        obtain ⟨_, T3, L3, hQ3, X3, st3⟩ := own_virtual X2 hx hZ (W := 0) hown (hw _ m45) (hw _ m46) (notFace_of_selects (args := #[]) (mvT hZ (hw _ m48))) (hw _ m48) (hw _ m47) (hw _ m7) (hw _ m49) (by decide) (rm22 l Z a0 hw w0 w1 w2 w3 w4 w5 w6 w7 w8 w9 w10 w11 w12 w13 w14 w15 w16 kw16 hS [] T1.heap n0 O1) e2' (hS.2.2.2.2.2.2.2.2.2.2.2.2.2.2.2.2.2.2.2.2.2.2.2.2.2.2.2.2.2.2.2.2.2.2.2.2.2.2.2.2.2.2.2.2.2.2.1.ext O1.2) (g := (mkF m 51 #[.val (.int i0), .val (.int i1), .val (.int (6 : Int32)), .val (.ref w15), .val (.ref w15)] [(.ref w15)])) rfl (by rw [hml]; rfl) (argsL := []) (rest := []) (lenOf pd137 rfl) rfl rfl (by show 2 * 0 + _ ≤ _; exact Nat.le_of_eq rfl) (hb hby at_51) (by decide) (by decide) (by decide) (by decide)
        obtain ⟨rfl, N3q, e3⟩ := hQ3
        have N3 := Fr.app N2 N3q
        have e3' : T3.heap = T1.heap := e3
        obtain ⟨fs, hr, hrun, hended, hW, hsame⟩ := X3.leave (v := some (.int (1 : Int32))) (fun h => by rw [Bd.returns] at h; cases h)
        refine ⟨_, _, pre2 _ ?_, hrun, hended, _, _, rfl, ?_, ⟨_, rfl⟩, hW, hsame.mono (by decide) (by decide)⟩
        · show Steps p.tables e below (s₁.setTop (mkF m 15 #[.val (.int i0), .val (.int i1), .unset, .unset, .unset] [(.int (2 : Int32)), (.int (i0 % (20 : Int32)))])) _
          refine Own.isub X0.here hx rfl (hb hby at_15) rfl hp2 ?_
          refine XS.istoreN X0.here hx rfl (hb hby at_16) rfl (l' := #[.val (.int i0), .val (.int i1), .val (.int (6 : Int32)), .unset, .unset]) rfl ?_
          refine XS.iloadN X0.here hx rfl (hb hby at_17) rfl ?_
          refine st1 _ ?_
          show Steps p.tables e below (T1.setTop (mkF m 21 #[.val (.int i0), .val (.int i1), .val (.int (6 : Int32)), .unset, .unset] [(.ref w15)])) _
          refine XS.astoreN X1.here hx rfl (hb hby at_21) rfl rfl (l' := #[.val (.int i0), .val (.int i1), .val (.int (6 : Int32)), .val (.ref w15), .unset]) rfl ?_
          refine XS.iloadN X1.here hx rfl (hb hby at_22) rfl ?_
          refine st2 _ ?_
          refine XS.astore X2.here hx rfl (hb hby at_26) rfl rfl (l' := #[.val (.int i0), .val (.int i1), .val (.int (6 : Int32)), .val (.ref w15), .val (.ref w15)]) rfl ?_
          show Steps p.tables e below (T2.setTop (mkF m 28 #[.val (.int i0), .val (.int i1), .val (.int (6 : Int32)), .val (.ref w15), .val (.ref w15)] [])) _
          refine XS.aloadN X2.here hx rfl (hb hby at_28) rfl rfl ?_
          refine XS.ifnonnullYes X2.here hx rfl (pc0 := 29) (pc' := 43) rfl (hb hby at_29) rfl (by decide) (by decide) ?_
          refine XS.aload X2.here hx rfl (hb hby at_43) rfl rfl ?_
          refine XS.aloadN X2.here hx rfl (hb hby at_45) rfl rfl ?_
          show Steps p.tables e below (T2.setTop (mkF m 46 #[.val (.int i0), .val (.int i1), .val (.int (6 : Int32)), .val (.ref w15), .val (.ref w15)] [(.ref w15), (.ref w15)])) _
          refine Jvm.RoadKit.acmp (g := (mkF m 46 #[.val (.int i0), .val (.int i1), .val (.int (6 : Int32)), .val (.ref w15), .val (.ref w15)] [(.ref w15), (.ref w15)])) X2 hx rfl rfl rfl (pc0 := 46) (pc' := 49) (same := true) rfl (hb hby at_46) rfl (decide_eq_true rfl) (by decide) (by decide) ?_
          refine XS.aload X2.here hx rfl (hb hby at_49) rfl rfl ?_
          refine st3 _ ?_
          refine XS.iloadN X3.here hx rfl (hb hby at_54) rfl ?_
          show Steps p.tables e below (T3.setTop (mkF m 55 #[.val (.int i0), .val (.int i1), .val (.int (6 : Int32)), .val (.ref w15), .val (.ref w15)] [(.int (6 : Int32)), (.int (6 : Int32))])) _
          refine XS.icmpNo X3.here hx rfl (hb hby at_55) rfl (teq (by decide : (6 : Int32) = (6 : Int32))).2 ?_
          refine XS.iconst X3.here hx rfl (hb hby at_58) ?_
          refine XS.goto X3.here hx rfl (pc0 := 59) (pc' := 63) rfl (hb hby at_59) (by decide) (by decide) ?_
          exact retN X3 hx (t := .boolean) Bd.returns (by simp) (hb hby at_63) hr
        · show QL n0 _ T3.heap _
          exact ⟨rfl, N3⟩
      · obtain ⟨_, T1, L1, hQ1, X1, st1⟩ := own_callS X0 hx hZ (W := 0) hown (hw _ m0) (hw _ m1) (hw _ m2) (hw _ m3) (by decide) (rm23 l Z a0 hw w0 w1 w2 w3 w4 w5 w6 w7 w8 w9 w10 w11 w12 w13 w14 w15 w16 kw16 hS [] h0 n0 O0) e0 (g := (mkF m 18 #[.val (.int i0), .val (.int i1), .val (.int (7 : Int32)), .unset, .unset] [(.int (7 : Int32))])) rfl (by rw [hml]; rfl) (argsL := [(.int (7 : Int32))]) (rest := []) (lenOf pd10 rfl) rfl rfl (by show 2 * 0 + _ ≤ _; exact Nat.le_of_eq rfl) (hb hby at_18) (by decide) (by decide) (by decide) (by decide)
        obtain ⟨rfl, N1q, Kq1⟩ := hQ1
        have N1 := Fr.app N0 N1q
        have O1 : Old Z n0 T1.heap := O0.keep Kq1 all0
        have K1 : Keep h0 T1.heap [] := (Keep.refl h0 []).trans Kq1 all0
        obtain ⟨_, T2, L2, hQ2, X2, st2⟩ := own_callS X1 hx hZ (W := 0) hown (hw _ m40) (hw _ m41) (hw _ m7) (hw _ m42) (by decide) (rm24 l Z a0 hw w0 w1 w2 w3 w4 w5 w6 w7 w8 w9 w10 w11 w12 w13 w14 w15 w16 kw16 hS [] T1.heap n0 O1) (rfl : T1.heap = T1.heap) (g := (mkF m 23 #[.val (.int i0), .val (.int i1), .val (.int (7 : Int32)), .val (.ref w10), .unset] [(.int (7 : Int32))])) rfl (by rw [hml]; rfl) (argsL := [(.int (7 : Int32))]) (rest := []) (lenOf pd10 rfl) rfl rfl (by show 2 * 0 + _ ≤ _; exact Nat.le_of_eq rfl) (hb hby at_23) (by decide) (by decide) (by decide) (by decide)
        obtain ⟨rfl, N2q, e2⟩ := hQ2
        have N2 := Fr.app N1 N2q
        have e2' : T2.heap = T1.heap := e2
        obtain ⟨_, T3, L3, hQ3, X3, st3⟩ := own_virtual X2 hx hZ (W := 0) hown (hw _ m45) (hw _ m46) (notFace_of_selects (args := #[]) (mvT hZ (hw _ m48))) (hw _ m48) (hw _ m47) (hw _ m7) (hw _ m49) (by decide) (rm25 l Z a0 hw w0 w1 w2 w3 w4 w5 w6 w7 w8 w9 w10 w11 w12 w13 w14 w15 w16 kw16 hS [] T1.heap n0 O1) e2' (hS.2.2.2.2.2.2.2.2.2.2.2.2.2.2.2.2.2.2.2.2.2.2.2.2.2.2.2.2.2.2.2.1.ext O1.2) (g := (mkF m 51 #[.val (.int i0), .val (.int i1), .val (.int (7 : Int32)), .val (.ref w10), .val (.ref w10)] [(.ref w10)])) rfl (by rw [hml]; rfl) (argsL := []) (rest := []) (lenOf pd137 rfl) rfl rfl (by show 2 * 0 + _ ≤ _; exact Nat.le_of_eq rfl) (hb hby at_51) (by decide) (by decide) (by decide) (by decide)
        obtain ⟨rfl, N3q, e3⟩ := hQ3
        have N3 := Fr.app N2 N3q
        have e3' : T3.heap = T1.heap := e3
        obtain ⟨fs, hr, hrun, hended, hW, hsame⟩ := X3.leave (v := some (.int (1 : Int32))) (fun h => by rw [Bd.returns] at h; cases h)
        refine ⟨_, _, pre2 _ ?_, hrun, hended, _, _, rfl, ?_, ⟨_, rfl⟩, hW, hsame.mono (by decide) (by decide)⟩
        · show Steps p.tables e below (s₁.setTop (mkF m 15 #[.val (.int i0), .val (.int i1), .unset, .unset, .unset] [(.int (2 : Int32)), (.int (i0 % (20 : Int32)))])) _
          refine Own.isub X0.here hx rfl (hb hby at_15) rfl hp2 ?_
          refine XS.istoreN X0.here hx rfl (hb hby at_16) rfl (l' := #[.val (.int i0), .val (.int i1), .val (.int (7 : Int32)), .unset, .unset]) rfl ?_
          refine XS.iloadN X0.here hx rfl (hb hby at_17) rfl ?_
          refine st1 _ ?_
          show Steps p.tables e below (T1.setTop (mkF m 21 #[.val (.int i0), .val (.int i1), .val (.int (7 : Int32)), .unset, .unset] [(.ref w10)])) _
          refine XS.astoreN X1.here hx rfl (hb hby at_21) rfl rfl (l' := #[.val (.int i0), .val (.int i1), .val (.int (7 : Int32)), .val (.ref w10), .unset]) rfl ?_
          refine XS.iloadN X1.here hx rfl (hb hby at_22) rfl ?_
          refine st2 _ ?_
          refine XS.astore X2.here hx rfl (hb hby at_26) rfl rfl (l' := #[.val (.int i0), .val (.int i1), .val (.int (7 : Int32)), .val (.ref w10), .val (.ref w10)]) rfl ?_
          show Steps p.tables e below (T2.setTop (mkF m 28 #[.val (.int i0), .val (.int i1), .val (.int (7 : Int32)), .val (.ref w10), .val (.ref w10)] [])) _
          refine XS.aloadN X2.here hx rfl (hb hby at_28) rfl rfl ?_
          refine XS.ifnonnullYes X2.here hx rfl (pc0 := 29) (pc' := 43) rfl (hb hby at_29) rfl (by decide) (by decide) ?_
          refine XS.aload X2.here hx rfl (hb hby at_43) rfl rfl ?_
          refine XS.aloadN X2.here hx rfl (hb hby at_45) rfl rfl ?_
          show Steps p.tables e below (T2.setTop (mkF m 46 #[.val (.int i0), .val (.int i1), .val (.int (7 : Int32)), .val (.ref w10), .val (.ref w10)] [(.ref w10), (.ref w10)])) _
          refine Jvm.RoadKit.acmp (g := (mkF m 46 #[.val (.int i0), .val (.int i1), .val (.int (7 : Int32)), .val (.ref w10), .val (.ref w10)] [(.ref w10), (.ref w10)])) X2 hx rfl rfl rfl (pc0 := 46) (pc' := 49) (same := true) rfl (hb hby at_46) rfl (decide_eq_true rfl) (by decide) (by decide) ?_
          refine XS.aload X2.here hx rfl (hb hby at_49) rfl rfl ?_
          refine st3 _ ?_
          refine XS.iloadN X3.here hx rfl (hb hby at_54) rfl ?_
          show Steps p.tables e below (T3.setTop (mkF m 55 #[.val (.int i0), .val (.int i1), .val (.int (7 : Int32)), .val (.ref w10), .val (.ref w10)] [(.int (7 : Int32)), (.int (7 : Int32))])) _
          refine XS.icmpNo X3.here hx rfl (hb hby at_55) rfl (teq (by decide : (7 : Int32) = (7 : Int32))).2 ?_
          refine XS.iconst X3.here hx rfl (hb hby at_58) ?_
          refine XS.goto X3.here hx rfl (pc0 := 59) (pc' := 63) rfl (hb hby at_59) (by decide) (by decide) ?_
          exact retN X3 hx (t := .boolean) Bd.returns (by simp) (hb hby at_63) hr
        · show QL n0 _ T3.heap _
          exact ⟨rfl, N3⟩
      · obtain ⟨_, T1, L1, hQ1, X1, st1⟩ := own_callS X0 hx hZ (W := 0) hown (hw _ m0) (hw _ m1) (hw _ m2) (hw _ m3) (by decide) (rm26 l Z a0 hw w0 w1 w2 w3 w4 w5 w6 w7 w8 w9 w10 w11 w12 w13 w14 w15 w16 kw16 hS [] h0 n0 O0) e0 (g := (mkF m 18 #[.val (.int i0), .val (.int i1), .val (.int (8 : Int32)), .unset, .unset] [(.int (8 : Int32))])) rfl (by rw [hml]; rfl) (argsL := [(.int (8 : Int32))]) (rest := []) (lenOf pd10 rfl) rfl rfl (by show 2 * 0 + _ ≤ _; exact Nat.le_of_eq rfl) (hb hby at_18) (by decide) (by decide) (by decide) (by decide)
        obtain ⟨rfl, N1q, Kq1⟩ := hQ1
        have N1 := Fr.app N0 N1q
        have O1 : Old Z n0 T1.heap := O0.keep Kq1 all0
        have K1 : Keep h0 T1.heap [] := (Keep.refl h0 []).trans Kq1 all0
        obtain ⟨_, T2, L2, hQ2, X2, st2⟩ := own_callS X1 hx hZ (W := 0) hown (hw _ m40) (hw _ m41) (hw _ m7) (hw _ m42) (by decide) (rm27 l Z a0 hw w0 w1 w2 w3 w4 w5 w6 w7 w8 w9 w10 w11 w12 w13 w14 w15 w16 kw16 hS [] T1.heap n0 O1) (rfl : T1.heap = T1.heap) (g := (mkF m 23 #[.val (.int i0), .val (.int i1), .val (.int (8 : Int32)), .val (.ref w13), .unset] [(.int (8 : Int32))])) rfl (by rw [hml]; rfl) (argsL := [(.int (8 : Int32))]) (rest := []) (lenOf pd10 rfl) rfl rfl (by show 2 * 0 + _ ≤ _; exact Nat.le_of_eq rfl) (hb hby at_23) (by decide) (by decide) (by decide) (by decide)
        obtain ⟨rfl, N2q, e2⟩ := hQ2
        have N2 := Fr.app N1 N2q
        have e2' : T2.heap = T1.heap := e2
        obtain ⟨_, T3, L3, hQ3, X3, st3⟩ := own_virtual X2 hx hZ (W := 0) hown (hw _ m45) (hw _ m46) (notFace_of_selects (args := #[]) (mvT hZ (hw _ m48))) (hw _ m48) (hw _ m47) (hw _ m7) (hw _ m49) (by decide) (rm28 l Z a0 hw w0 w1 w2 w3 w4 w5 w6 w7 w8 w9 w10 w11 w12 w13 w14 w15 w16 kw16 hS [] T1.heap n0 O1) e2' (hS.2.2.2.2.2.2.2.2.2.2.2.2.2.2.2.2.2.2.2.2.2.2.2.2.2.2.2.2.2.2.2.2.2.2.2.2.2.2.2.2.1.ext O1.2) (g := (mkF m 51 #[.val (.int i0), .val (.int i1), .val (.int (8 : Int32)), .val (.ref w13), .val (.ref w13)] [(.ref w13)])) rfl (by rw [hml]; rfl) (argsL := []) (rest := []) (lenOf pd137 rfl) rfl rfl (by show 2 * 0 + _ ≤ _; exact Nat.le_of_eq rfl) (hb hby at_51) (by decide) (by decide) (by decide) (by decide)
        obtain ⟨rfl, N3q, e3⟩ := hQ3
        have N3 := Fr.app N2 N3q
        have e3' : T3.heap = T1.heap := e3
        obtain ⟨fs, hr, hrun, hended, hW, hsame⟩ := X3.leave (v := some (.int (1 : Int32))) (fun h => by rw [Bd.returns] at h; cases h)
        refine ⟨_, _, pre2 _ ?_, hrun, hended, _, _, rfl, ?_, ⟨_, rfl⟩, hW, hsame.mono (by decide) (by decide)⟩
        · show Steps p.tables e below (s₁.setTop (mkF m 15 #[.val (.int i0), .val (.int i1), .unset, .unset, .unset] [(.int (2 : Int32)), (.int (i0 % (20 : Int32)))])) _
          refine Own.isub X0.here hx rfl (hb hby at_15) rfl hp2 ?_
          refine XS.istoreN X0.here hx rfl (hb hby at_16) rfl (l' := #[.val (.int i0), .val (.int i1), .val (.int (8 : Int32)), .unset, .unset]) rfl ?_
          refine XS.iloadN X0.here hx rfl (hb hby at_17) rfl ?_
          refine st1 _ ?_
          show Steps p.tables e below (T1.setTop (mkF m 21 #[.val (.int i0), .val (.int i1), .val (.int (8 : Int32)), .unset, .unset] [(.ref w13)])) _
          refine XS.astoreN X1.here hx rfl (hb hby at_21) rfl rfl (l' := #[.val (.int i0), .val (.int i1), .val (.int (8 : Int32)), .val (.ref w13), .unset]) rfl ?_
          refine XS.iloadN X1.here hx rfl (hb hby at_22) rfl ?_
          refine st2 _ ?_
          refine XS.astore X2.here hx rfl (hb hby at_26) rfl rfl (l' := #[.val (.int i0), .val (.int i1), .val (.int (8 : Int32)), .val (.ref w13), .val (.ref w13)]) rfl ?_
          show Steps p.tables e below (T2.setTop (mkF m 28 #[.val (.int i0), .val (.int i1), .val (.int (8 : Int32)), .val (.ref w13), .val (.ref w13)] [])) _
          refine XS.aloadN X2.here hx rfl (hb hby at_28) rfl rfl ?_
          refine XS.ifnonnullYes X2.here hx rfl (pc0 := 29) (pc' := 43) rfl (hb hby at_29) rfl (by decide) (by decide) ?_
          refine XS.aload X2.here hx rfl (hb hby at_43) rfl rfl ?_
          refine XS.aloadN X2.here hx rfl (hb hby at_45) rfl rfl ?_
          show Steps p.tables e below (T2.setTop (mkF m 46 #[.val (.int i0), .val (.int i1), .val (.int (8 : Int32)), .val (.ref w13), .val (.ref w13)] [(.ref w13), (.ref w13)])) _
          refine Jvm.RoadKit.acmp (g := (mkF m 46 #[.val (.int i0), .val (.int i1), .val (.int (8 : Int32)), .val (.ref w13), .val (.ref w13)] [(.ref w13), (.ref w13)])) X2 hx rfl rfl rfl (pc0 := 46) (pc' := 49) (same := true) rfl (hb hby at_46) rfl (decide_eq_true rfl) (by decide) (by decide) ?_
          refine XS.aload X2.here hx rfl (hb hby at_49) rfl rfl ?_
          refine st3 _ ?_
          refine XS.iloadN X3.here hx rfl (hb hby at_54) rfl ?_
          show Steps p.tables e below (T3.setTop (mkF m 55 #[.val (.int i0), .val (.int i1), .val (.int (8 : Int32)), .val (.ref w13), .val (.ref w13)] [(.int (8 : Int32)), (.int (8 : Int32))])) _
          refine XS.icmpNo X3.here hx rfl (hb hby at_55) rfl (teq (by decide : (8 : Int32) = (8 : Int32))).2 ?_
          refine XS.iconst X3.here hx rfl (hb hby at_58) ?_
          refine XS.goto X3.here hx rfl (pc0 := 59) (pc' := 63) rfl (hb hby at_59) (by decide) (by decide) ?_
          exact retN X3 hx (t := .boolean) Bd.returns (by simp) (hb hby at_63) hr
        · show QL n0 _ T3.heap _
          exact ⟨rfl, N3⟩
      · obtain ⟨_, T1, L1, hQ1, X1, st1⟩ := own_callS X0 hx hZ (W := 0) hown (hw _ m0) (hw _ m1) (hw _ m2) (hw _ m3) (by decide) (rm29 l Z a0 hw w0 w1 w2 w3 w4 w5 w6 w7 w8 w9 w10 w11 w12 w13 w14 w15 w16 kw16 hS [] h0 n0 O0) e0 (g := (mkF m 18 #[.val (.int i0), .val (.int i1), .val (.int (9 : Int32)), .unset, .unset] [(.int (9 : Int32))])) rfl (by rw [hml]; rfl) (argsL := [(.int (9 : Int32))]) (rest := []) (lenOf pd10 rfl) rfl rfl (by show 2 * 0 + _ ≤ _; exact Nat.le_of_eq rfl) (hb hby at_18) (by decide) (by decide) (by decide) (by decide)
        obtain ⟨rfl, N1q, Kq1⟩ := hQ1
        have N1 := Fr.app N0 N1q
        have O1 : Old Z n0 T1.heap := O0.keep Kq1 all0
        have K1 : Keep h0 T1.heap [] := (Keep.refl h0 []).trans Kq1 all0
        obtain ⟨_, T2, L2, hQ2, X2, st2⟩ := own_callS X1 hx hZ (W := 0) hown (hw _ m40) (hw _ m41) (hw _ m7) (hw _ m42) (by decide) (rm30 l Z a0 hw w0 w1 w2 w3 w4 w5 w6 w7 w8 w9 w10 w11 w12 w13 w14 w15 w16 kw16 hS [] T1.heap n0 O1) (rfl : T1.heap = T1.heap) (g := (mkF m 23 #[.val (.int i0), .val (.int i1), .val (.int (9 : Int32)), .val (.ref w9), .unset] [(.int (9 : Int32))])) rfl (by rw [hml]; rfl) (argsL := [(.int (9 : Int32))]) (rest := []) (lenOf pd10 rfl) rfl rfl (by show 2 * 0 + _ ≤ _; exact Nat.le_of_eq rfl) (hb hby at_23) (by decide) (by decide) (by decide) (by decide)
        obtain ⟨rfl, N2q, e2⟩ := hQ2
        have N2 := Fr.app N1 N2q
        have e2' : T2.heap = T1.heap := e2
        obtain ⟨_, T3, L3, hQ3, X3, st3⟩ := own_virtual X2 hx hZ (W := 0) hown (hw _ m45) (hw _ m46) (notFace_of_selects (args := #[]) (mvT hZ (hw _ m48))) (hw _ m48) (hw _ m47) (hw _ m7) (hw _ m49) (by decide) (rm31 l Z a0 hw w0 w1 w2 w3 w4 w5 w6 w7 w8 w9 w10 w11 w12 w13 w14 w15 w16 kw16 hS [] T1.heap n0 O1) e2' (hS.2.2.2.2.2.2.2.2.2.2.2.2.2.2.2.2.2.2.2.2.2.2.2.2.2.2.2.2.1.ext O1.2) (g := (mkF m 51 #[.val (.int i0), .val (.int i1), .val (.int (9 : Int32)), .val (.ref w9), .val (.ref w9)] [(.ref w9)])) rfl (by rw [hml]; rfl) (argsL := []) (rest := []) (lenOf pd137 rfl) rfl rfl (by show 2 * 0 + _ ≤ _; exact Nat.le_of_eq rfl) (hb hby at_51) (by decide) (by decide) (by decide) (by decide)
        obtain ⟨rfl, N3q, e3⟩ := hQ3
        have N3 := Fr.app N2 N3q
        have e3' : T3.heap = T1.heap := e3
        obtain ⟨fs, hr, hrun, hended, hW, hsame⟩ := X3.leave (v := some (.int (1 : Int32))) (fun h => by rw [Bd.returns] at h; cases h)
        refine ⟨_, _, pre2 _ ?_, hrun, hended, _, _, rfl, ?_, ⟨_, rfl⟩, hW, hsame.mono (by decide) (by decide)⟩
        · show Steps p.tables e below (s₁.setTop (mkF m 15 #[.val (.int i0), .val (.int i1), .unset, .unset, .unset] [(.int (2 : Int32)), (.int (i0 % (20 : Int32)))])) _
          refine Own.isub X0.here hx rfl (hb hby at_15) rfl hp2 ?_
          refine XS.istoreN X0.here hx rfl (hb hby at_16) rfl (l' := #[.val (.int i0), .val (.int i1), .val (.int (9 : Int32)), .unset, .unset]) rfl ?_
          refine XS.iloadN X0.here hx rfl (hb hby at_17) rfl ?_
          refine st1 _ ?_
          show Steps p.tables e below (T1.setTop (mkF m 21 #[.val (.int i0), .val (.int i1), .val (.int (9 : Int32)), .unset, .unset] [(.ref w9)])) _
          refine XS.astoreN X1.here hx rfl (hb hby at_21) rfl rfl (l' := #[.val (.int i0), .val (.int i1), .val (.int (9 : Int32)), .val (.ref w9), .unset]) rfl ?_
          refine XS.iloadN X1.here hx rfl (hb hby at_22) rfl ?_
          refine st2 _ ?_
          refine XS.astore X2.here hx rfl (hb hby at_26) rfl rfl (l' := #[.val (.int i0), .val (.int i1), .val (.int (9 : Int32)), .val (.ref w9), .val (.ref w9)]) rfl ?_
          show Steps p.tables e below (T2.setTop (mkF m 28 #[.val (.int i0), .val (.int i1), .val (.int (9 : Int32)), .val (.ref w9), .val (.ref w9)] [])) _
          refine XS.aloadN X2.here hx rfl (hb hby at_28) rfl rfl ?_
          refine XS.ifnonnullYes X2.here hx rfl (pc0 := 29) (pc' := 43) rfl (hb hby at_29) rfl (by decide) (by decide) ?_
          refine XS.aload X2.here hx rfl (hb hby at_43) rfl rfl ?_
          refine XS.aloadN X2.here hx rfl (hb hby at_45) rfl rfl ?_
          show Steps p.tables e below (T2.setTop (mkF m 46 #[.val (.int i0), .val (.int i1), .val (.int (9 : Int32)), .val (.ref w9), .val (.ref w9)] [(.ref w9), (.ref w9)])) _
          refine Jvm.RoadKit.acmp (g := (mkF m 46 #[.val (.int i0), .val (.int i1), .val (.int (9 : Int32)), .val (.ref w9), .val (.ref w9)] [(.ref w9), (.ref w9)])) X2 hx rfl rfl rfl (pc0 := 46) (pc' := 49) (same := true) rfl (hb hby at_46) rfl (decide_eq_true rfl) (by decide) (by decide) ?_
          refine XS.aload X2.here hx rfl (hb hby at_49) rfl rfl ?_
          refine st3 _ ?_
          refine XS.iloadN X3.here hx rfl (hb hby at_54) rfl ?_
          show Steps p.tables e below (T3.setTop (mkF m 55 #[.val (.int i0), .val (.int i1), .val (.int (9 : Int32)), .val (.ref w9), .val (.ref w9)] [(.int (9 : Int32)), (.int (9 : Int32))])) _
          refine XS.icmpNo X3.here hx rfl (hb hby at_55) rfl (teq (by decide : (9 : Int32) = (9 : Int32))).2 ?_
          refine XS.iconst X3.here hx rfl (hb hby at_58) ?_
          refine XS.goto X3.here hx rfl (pc0 := 59) (pc' := 63) rfl (hb hby at_59) (by decide) (by decide) ?_
          exact retN X3 hx (t := .boolean) Bd.returns (by simp) (hb hby at_63) hr
        · show QL n0 _ T3.heap _
          exact ⟨rfl, N3⟩
      · obtain ⟨_, T1, L1, hQ1, X1, st1⟩ := own_callS X0 hx hZ (W := 0) hown (hw _ m0) (hw _ m1) (hw _ m2) (hw _ m3) (by decide) (rm32 l Z a0 hw w0 w1 w2 w3 w4 w5 w6 w7 w8 w9 w10 w11 w12 w13 w14 w15 w16 kw16 hS [] h0 n0 O0) e0 (g := (mkF m 18 #[.val (.int i0), .val (.int i1), .val (.int (10 : Int32)), .unset, .unset] [(.int (10 : Int32))])) rfl (by rw [hml]; rfl) (argsL := [(.int (10 : Int32))]) (rest := []) (lenOf pd10 rfl) rfl rfl (by show 2 * 0 + _ ≤ _; exact Nat.le_of_eq rfl) (hb hby at_18) (by decide) (by decide) (by decide) (by decide)
        obtain ⟨rfl, N1q, Kq1⟩ := hQ1
        have N1 := Fr.app N0 N1q
        have O1 : Old Z n0 T1.heap := O0.keep Kq1 all0
        have K1 : Keep h0 T1.heap [] := (Keep.refl h0 []).trans Kq1 all0
        obtain ⟨_, T2, L2, hQ2, X2, st2⟩ := own_callS X1 hx hZ (W := 0) hown (hw _ m40) (hw _ m41) (hw _ m7) (hw _ m42) (by decide) (rm33 l Z a0 hw w0 w1 w2 w3 w4 w5 w6 w7 w8 w9 w10 w11 w12 w13 w14 w15 w16 kw16 hS [] T1.heap n0 O1) (rfl : T1.heap = T1.heap) (g := (mkF m 23 #[.val (.int i0), .val (.int i1), .val (.int (10 : Int32)), .val (.ref w7), .unset] [(.int (10 : Int32))])) rfl (by rw [hml]; rfl) (argsL := [(.int (10 : Int32))]) (rest := []) (lenOf pd10 rfl) rfl rfl (by show 2 * 0 + _ ≤ _; exact Nat.le_of_eq rfl) (hb hby at_23) (by decide) (by decide) (by decide) (by decide)
        obtain ⟨rfl, N2q, e2⟩ := hQ2
        have N2 := Fr.app N1 N2q
        have e2' : T2.heap = T1.heap := e2
        obtain ⟨_, T3, L3, hQ3, X3, st3⟩ := own_virtual X2 hx hZ (W := 0) hown (hw _ m45) (hw _ m46) (notFace_of_selects (args := #[]) (mvT hZ (hw _ m48))) (hw _ m48) (hw _ m47) (hw _ m7) (hw _ m49) (by decide) (rm34 l Z a0 hw w0 w1 w2 w3 w4 w5 w6 w7 w8 w9 w10 w11 w12 w13 w14 w15 w16 kw16 hS [] T1.heap n0 O1) e2' (hS.2.2.2.2.2.2.2.2.2.2.2.2.2.2.2.2.2.2.2.2.2.2.1.ext O1.2) (g := (mkF m 51 #[.val (.int i0), .val (.int i1), .val (.int (10 : Int32)), .val (.ref w7), .val (.ref w7)] [(.ref w7)])) rfl (by rw [hml]; rfl) (argsL := []) (rest := []) (lenOf pd137 rfl) rfl rfl (by show 2 * 0 + _ ≤ _; exact Nat.le_of_eq rfl) (hb hby at_51) (by decide) (by decide) (by decide) (by decide)
        obtain ⟨rfl, N3q, e3⟩ := hQ3
        have N3 := Fr.app N2 N3q
        have e3' : T3.heap = T1.heap := e3
        obtain ⟨fs, hr, hrun, hended, hW, hsame⟩ := X3.leave (v := some (.int (1 : Int32))) (fun h => by rw [Bd.returns] at h; cases h)
        refine ⟨_, _, pre2 _ ?_, hrun, hended, _, _, rfl, ?_, ⟨_, rfl⟩, hW, hsame.mono (by decide) (by decide)⟩
        · show Steps p.tables e below (s₁.setTop (mkF m 15 #[.val (.int i0), .val (.int i1), .unset, .unset, .unset] [(.int (2 : Int32)), (.int (i0 % (20 : Int32)))])) _
          refine Own.isub X0.here hx rfl (hb hby at_15) rfl hp2 ?_
          refine XS.istoreN X0.here hx rfl (hb hby at_16) rfl (l' := #[.val (.int i0), .val (.int i1), .val (.int (10 : Int32)), .unset, .unset]) rfl ?_
          refine XS.iloadN X0.here hx rfl (hb hby at_17) rfl ?_
          refine st1 _ ?_
          show Steps p.tables e below (T1.setTop (mkF m 21 #[.val (.int i0), .val (.int i1), .val (.int (10 : Int32)), .unset, .unset] [(.ref w7)])) _
          refine XS.astoreN X1.here hx rfl (hb hby at_21) rfl rfl (l' := #[.val (.int i0), .val (.int i1), .val (.int (10 : Int32)), .val (.ref w7), .unset]) rfl ?_
          refine XS.iloadN X1.here hx rfl (hb hby at_22) rfl ?_
          refine st2 _ ?_
          refine XS.astore X2.here hx rfl (hb hby at_26) rfl rfl (l' := #[.val (.int i0), .val (.int i1), .val (.int (10 : Int32)), .val (.ref w7), .val (.ref w7)]) rfl ?_
          show Steps p.tables e below (T2.setTop (mkF m 28 #[.val (.int i0), .val (.int i1), .val (.int (10 : Int32)), .val (.ref w7), .val (.ref w7)] [])) _
          refine XS.aloadN X2.here hx rfl (hb hby at_28) rfl rfl ?_
          refine XS.ifnonnullYes X2.here hx rfl (pc0 := 29) (pc' := 43) rfl (hb hby at_29) rfl (by decide) (by decide) ?_
          refine XS.aload X2.here hx rfl (hb hby at_43) rfl rfl ?_
          refine XS.aloadN X2.here hx rfl (hb hby at_45) rfl rfl ?_
          show Steps p.tables e below (T2.setTop (mkF m 46 #[.val (.int i0), .val (.int i1), .val (.int (10 : Int32)), .val (.ref w7), .val (.ref w7)] [(.ref w7), (.ref w7)])) _
          refine Jvm.RoadKit.acmp (g := (mkF m 46 #[.val (.int i0), .val (.int i1), .val (.int (10 : Int32)), .val (.ref w7), .val (.ref w7)] [(.ref w7), (.ref w7)])) X2 hx rfl rfl rfl (pc0 := 46) (pc' := 49) (same := true) rfl (hb hby at_46) rfl (decide_eq_true rfl) (by decide) (by decide) ?_
          refine XS.aload X2.here hx rfl (hb hby at_49) rfl rfl ?_
          refine st3 _ ?_
          refine XS.iloadN X3.here hx rfl (hb hby at_54) rfl ?_
          show Steps p.tables e below (T3.setTop (mkF m 55 #[.val (.int i0), .val (.int i1), .val (.int (10 : Int32)), .val (.ref w7), .val (.ref w7)] [(.int (10 : Int32)), (.int (10 : Int32))])) _
          refine XS.icmpNo X3.here hx rfl (hb hby at_55) rfl (teq (by decide : (10 : Int32) = (10 : Int32))).2 ?_
          refine XS.iconst X3.here hx rfl (hb hby at_58) ?_
          refine XS.goto X3.here hx rfl (pc0 := 59) (pc' := 63) rfl (hb hby at_59) (by decide) (by decide) ?_
          exact retN X3 hx (t := .boolean) Bd.returns (by simp) (hb hby at_63) hr
        · show QL n0 _ T3.heap _
          exact ⟨rfl, N3⟩
      · obtain ⟨_, T1, L1, hQ1, X1, st1⟩ := own_callS X0 hx hZ (W := 0) hown (hw _ m0) (hw _ m1) (hw _ m2) (hw _ m3) (by decide) (rm35 l Z a0 hw w0 w1 w2 w3 w4 w5 w6 w7 w8 w9 w10 w11 w12 w13 w14 w15 w16 kw16 hS [] h0 n0 O0) e0 (g := (mkF m 18 #[.val (.int i0), .val (.int i1), .val (.int (11 : Int32)), .unset, .unset] [(.int (11 : Int32))])) rfl (by rw [hml]; rfl) (argsL := [(.int (11 : Int32))]) (rest := []) (lenOf pd10 rfl) rfl rfl (by show 2 * 0 + _ ≤ _; exact Nat.le_of_eq rfl) (hb hby at_18) (by decide) (by decide) (by decide) (by decide)
        obtain ⟨rfl, N1q, Kq1⟩ := hQ1
        have N1 := Fr.app N0 N1q
        have O1 : Old Z n0 T1.heap := O0.keep Kq1 all0
        have K1 : Keep h0 T1.heap [] := (Keep.refl h0 []).trans Kq1 all0
        obtain ⟨_, T2, L2, hQ2, X2, st2⟩ := own_callS X1 hx hZ (W := 0) hown (hw _ m40) (hw _ m41) (hw _ m7) (hw _ m42) (by decide) (rm36 l Z a0 hw w0 w1 w2 w3 w4 w5 w6 w7 w8 w9 w10 w11 w12 w13 w14 w15 w16 kw16 hS [] T1.heap n0 O1) (rfl : T1.heap = T1.heap) (g := (mkF m 23 #[.val (.int i0), .val (.int i1), .val (.int (11 : Int32)), .val (.ref w12), .unset] [(.int (11 : Int32))])) rfl (by rw [hml]; rfl) (argsL := [(.int (11 : Int32))]) (rest := []) (lenOf pd10 rfl) rfl rfl (by show 2 * 0 + _ ≤ _; exact Nat.le_of_eq rfl) (hb hby at_23) (by decide) (by decide) (by decide) (by decide)
        obtain ⟨rfl, N2q, e2⟩ := hQ2
        have N2 := Fr.app N1 N2q
        have e2' : T2.heap = T1.heap := e2
        obtain ⟨_, T3, L3, hQ3, X3, st3⟩ := own_virtual X2 hx hZ (W := 0) hown (hw _ m45) (hw _ m46) (notFace_of_selects (args := #[]) (mvT hZ (hw _ m48))) (hw _ m48) (hw _ m47) (hw _ m7) (hw _ m49) (by decide) (rm37 l Z a0 hw w0 w1 w2 w3 w4 w5 w6 w7 w8 w9 w10 w11 w12 w13 w14 w15 w16 kw16 hS [] T1.heap n0 O1) e2' (hS.2.2.2.2.2.2.2.2.2.2.2.2.2.2.2.2.2.2.2.2.2.2.2.2.2.2.2.2.2.2.2.2.2.2.2.2.2.1.ext O1.2) (g := (mkF m 51 #[.val (.int i0), .val (.int i1), .val (.int (11 : Int32)), .val (.ref w12), .val (.ref w12)] [(.ref w12)])) rfl (by rw [hml]; rfl) (argsL := []) (rest := []) (lenOf pd137 rfl) rfl rfl (by show 2 * 0 + _ ≤ _; exact Nat.le_of_eq rfl) (hb hby at_51) (by decide) (by decide) (by decide) (by decide)
        obtain ⟨rfl, N3q, e3⟩ := hQ3
        have N3 := Fr.app N2 N3q
        have e3' : T3.heap = T1.heap := e3
        obtain ⟨fs, hr, hrun, hended, hW, hsame⟩ := X3.leave (v := some (.int (1 : Int32))) (fun h => by rw [Bd.returns] at h; cases h)
        refine ⟨_, _, pre2 _ ?_, hrun, hended, _, _, rfl, ?_, ⟨_, rfl⟩, hW, hsame.mono (by decide) (by decide)⟩
        · show Steps p.tables e below (s₁.setTop (mkF m 15 #[.val (.int i0), .val (.int i1), .unset, .unset, .unset] [(.int (2 : Int32)), (.int (i0 % (20 : Int32)))])) _
          refine Own.isub X0.here hx rfl (hb hby at_15) rfl hp2 ?_
          refine XS.istoreN X0.here hx rfl (hb hby at_16) rfl (l' := #[.val (.int i0), .val (.int i1), .val (.int (11 : Int32)), .unset, .unset]) rfl ?_
          refine XS.iloadN X0.here hx rfl (hb hby at_17) rfl ?_
          refine st1 _ ?_
          show Steps p.tables e below (T1.setTop (mkF m 21 #[.val (.int i0), .val (.int i1), .val (.int (11 : Int32)), .unset, .unset] [(.ref w12)])) _
          refine XS.astoreN X1.here hx rfl (hb hby at_21) rfl rfl (l' := #[.val (.int i0), .val (.int i1), .val (.int (11 : Int32)), .val (.ref w12), .unset]) rfl ?_
          refine XS.iloadN X1.here hx rfl (hb hby at_22) rfl ?_
          refine st2 _ ?_
          refine XS.astore X2.here hx rfl (hb hby at_26) rfl rfl (l' := #[.val (.int i0), .val (.int i1), .val (.int (11 : Int32)), .val (.ref w12), .val (.ref w12)]) rfl ?_
          show Steps p.tables e below (T2.setTop (mkF m 28 #[.val (.int i0), .val (.int i1), .val (.int (11 : Int32)), .val (.ref w12), .val (.ref w12)] [])) _
          refine XS.aloadN X2.here hx rfl (hb hby at_28) rfl rfl ?_
          refine XS.ifnonnullYes X2.here hx rfl (pc0 := 29) (pc' := 43) rfl (hb hby at_29) rfl (by decide) (by decide) ?_
          refine XS.aload X2.here hx rfl (hb hby at_43) rfl rfl ?_
          refine XS.aloadN X2.here hx rfl (hb hby at_45) rfl rfl ?_
          show Steps p.tables e below (T2.setTop (mkF m 46 #[.val (.int i0), .val (.int i1), .val (.int (11 : Int32)), .val (.ref w12), .val (.ref w12)] [(.ref w12), (.ref w12)])) _
          refine Jvm.RoadKit.acmp (g := (mkF m 46 #[.val (.int i0), .val (.int i1), .val (.int (11 : Int32)), .val (.ref w12), .val (.ref w12)] [(.ref w12), (.ref w12)])) X2 hx rfl rfl rfl (pc0 := 46) (pc' := 49) (same := true) rfl (hb hby at_46) rfl (decide_eq_true rfl) (by decide) (by decide) ?_
          refine XS.aload X2.here hx rfl (hb hby at_49) rfl rfl ?_
          refine st3 _ ?_
          refine XS.iloadN X3.here hx rfl (hb hby at_54) rfl ?_
          show Steps p.tables e below (T3.setTop (mkF m 55 #[.val (.int i0), .val (.int i1), .val (.int (11 : Int32)), .val (.ref w12), .val (.ref w12)] [(.int (11 : Int32)), (.int (11 : Int32))])) _
          refine XS.icmpNo X3.here hx rfl (hb hby at_55) rfl (teq (by decide : (11 : Int32) = (11 : Int32))).2 ?_
          refine XS.iconst X3.here hx rfl (hb hby at_58) ?_
          refine XS.goto X3.here hx rfl (pc0 := 59) (pc' := 63) rfl (hb hby at_59) (by decide) (by decide) ?_
          exact retN X3 hx (t := .boolean) Bd.returns (by simp) (hb hby at_63) hr
        · show QL n0 _ T3.heap _
          exact ⟨rfl, N3⟩
      · obtain ⟨_, T1, L1, hQ1, X1, st1⟩ := own_callS X0 hx hZ (W := 0) hown (hw _ m0) (hw _ m1) (hw _ m2) (hw _ m3) (by decide) (rm38 l Z a0 hw w0 w1 w2 w3 w4 w5 w6 w7 w8 w9 w10 w11 w12 w13 w14 w15 w16 kw16 hS [] h0 n0 O0) e0 (g := (mkF m 18 #[.val (.int i0), .val (.int i1), .val (.int (12 : Int32)), .unset, .unset] [(.int (12 : Int32))])) rfl (by rw [hml]; rfl) (argsL := [(.int (12 : Int32))]) (rest := []) (lenOf pd10 rfl) rfl rfl (by show 2 * 0 + _ ≤ _; exact Nat.le_of_eq rfl) (hb hby at_18) (by decide) (by decide) (by decide) (by decide)
        obtain ⟨rfl, N1q, Kq1⟩ := hQ1
        have N1 := Fr.app N0 N1q
        have O1 : Old Z n0 T1.heap := O0.keep Kq1 all0
        have K1 : Keep h0 T1.heap [] := (Keep.refl h0 []).trans Kq1 all0
        obtain ⟨_, T2, L2, hQ2, X2, st2⟩ := own_callS X1 hx hZ (W := 0) hown (hw _ m40) (hw _ m41) (hw _ m7) (hw _ m42) (by decide) (rm39 l Z a0 hw w0 w1 w2 w3 w4 w5 w6 w7 w8 w9 w10 w11 w12 w13 w14 w15 w16 kw16 hS [] T1.heap n0 O1) (rfl : T1.heap = T1.heap) (g := (mkF m 23 #[.val (.int i0), .val (.int i1), .val (.int (12 : Int32)), .val (.ref w6), .unset] [(.int (12 : Int32))])) rfl (by rw [hml]; rfl) (argsL := [(.int (12 : Int32))]) (rest := []) (lenOf pd10 rfl) rfl rfl (by show 2 * 0 + _ ≤ _; exact Nat.le_of_eq rfl) (hb hby at_23) (by decide) (by decide) (by decide) (by decide)
        obtain ⟨rfl, N2q, e2⟩ := hQ2
        have N2 := Fr.app N1 N2q
        have e2' : T2.heap = T1.heap := e2
        obtain ⟨_, T3, L3, hQ3, X3, st3⟩ := own_virtual X2 hx hZ (W := 0) hown (hw _ m45) (hw _ m46) (notFace_of_selects (args := #[]) (mvT hZ (hw _ m48))) (hw _ m48) (hw _ m47) (hw _ m7) (hw _ m49) (by decide) (rm40 l Z a0 hw w0 w1 w2 w3 w4 w5 w6 w7 w8 w9 w10 w11 w12 w13 w14 w15 w16 kw16 hS [] T1.heap n0 O1) e2' (hS.2.2.2.2.2.2.2.2.2.2.2.2.2.2.2.2.2.2.2.1.ext O1.2) (g := (mkF m 51 #[.val (.int i0), .val (.int i1), .val (.int (12 : Int32)), .val (.ref w6), .val (.ref w6)] [(.ref w6)])) rfl (by rw [hml]; rfl) (argsL := []) (rest := []) (lenOf pd137 rfl) rfl rfl (by show 2 * 0 + _ ≤ _; exact Nat.le_of_eq rfl) (hb hby at_51) (by decide) (by decide) (by decide) (by decide)
        obtain ⟨rfl, N3q, e3⟩ := hQ3
        have N3 := Fr.app N2 N3q
        have e3' : T3.heap = T1.heap := e3
        obtain ⟨fs, hr, hrun, hended, hW, hsame⟩ := X3.leave (v := some (.int (1 : Int32))) (fun h => by rw [Bd.returns] at h; cases h)
        refine ⟨_, _, pre2 _ ?_, hrun, hended, _, _, rfl, ?_, ⟨_, rfl⟩, hW, hsame.mono (by decide) (by decide)⟩
        · show Steps p.tables e below (s₁.setTop (mkF m 15 #[.val (.int i0), .val (.int i1), .unset, .unset, .unset] [(.int (2 : Int32)), (.int (i0 % (20 : Int32)))])) _
          refine Own.isub X0.here hx rfl (hb hby at_15) rfl hp2 ?_
          refine XS.istoreN X0.here hx rfl (hb hby at_16) rfl (l' := #[.val (.int i0), .val (.int i1), .val (.int (12 : Int32)), .unset, .unset]) rfl ?_
          refine XS.iloadN X0.here hx rfl (hb hby at_17) rfl ?_
          refine st1 _ ?_
          show Steps p.tables e below (T1.setTop (mkF m 21 #[.val (.int i0), .val (.int i1), .val (.int (12 : Int32)), .unset, .unset] [(.ref w6)])) _
          refine XS.astoreN X1.here hx rfl (hb hby at_21) rfl rfl (l' := #[.val (.int i0), .val (.int i1), .val (.int (12 : Int32)), .val (.ref w6), .unset]) rfl ?_
          refine XS.iloadN X1.here hx rfl (hb hby at_22) rfl ?_
          refine st2 _ ?_
          refine XS.astore X2.here hx rfl (hb hby at_26) rfl rfl (l' := #[.val (.int i0), .val (.int i1), .val (.int (12 : Int32)), .val (.ref w6), .val (.ref w6)]) rfl ?_
          show Steps p.tables e below (T2.setTop (mkF m 28 #[.val (.int i0), .val (.int i1), .val (.int (12 : Int32)), .val (.ref w6), .val (.ref w6)] [])) _
          refine XS.aloadN X2.here hx rfl (hb hby at_28) rfl rfl ?_
          refine XS.ifnonnullYes X2.here hx rfl (pc0 := 29) (pc' := 43) rfl (hb hby at_29) rfl (by decide) (by decide) ?_
          refine XS.aload X2.here hx rfl (hb hby at_43) rfl rfl ?_
          refine XS.aloadN X2.here hx rfl (hb hby at_45) rfl rfl ?_
          show Steps p.tables e below (T2.setTop (mkF m 46 #[.val (.int i0), .val (.int i1), .val (.int (12 : Int32)), .val (.ref w6), .val (.ref w6)] [(.ref w6), (.ref w6)])) _
          refine Jvm.RoadKit.acmp (g := (mkF m 46 #[.val (.int i0), .val (.int i1), .val (.int (12 : Int32)), .val (.ref w6), .val (.ref w6)] [(.ref w6), (.ref w6)])) X2 hx rfl rfl rfl (pc0 := 46) (pc' := 49) (same := true) rfl (hb hby at_46) rfl (decide_eq_true rfl) (by decide) (by decide) ?_
          refine XS.aload X2.here hx rfl (hb hby at_49) rfl rfl ?_
          refine st3 _ ?_
          refine XS.iloadN X3.here hx rfl (hb hby at_54) rfl ?_
          show Steps p.tables e below (T3.setTop (mkF m 55 #[.val (.int i0), .val (.int i1), .val (.int (12 : Int32)), .val (.ref w6), .val (.ref w6)] [(.int (12 : Int32)), (.int (12 : Int32))])) _
          refine XS.icmpNo X3.here hx rfl (hb hby at_55) rfl (teq (by decide : (12 : Int32) = (12 : Int32))).2 ?_
          refine XS.iconst X3.here hx rfl (hb hby at_58) ?_
          refine XS.goto X3.here hx rfl (pc0 := 59) (pc' := 63) rfl (hb hby at_59) (by decide) (by decide) ?_
          exact retN X3 hx (t := .boolean) Bd.returns (by simp) (hb hby at_63) hr
        · show QL n0 _ T3.heap _
          exact ⟨rfl, N3⟩
      · obtain ⟨_, T1, L1, hQ1, X1, st1⟩ := own_callS X0 hx hZ (W := 0) hown (hw _ m0) (hw _ m1) (hw _ m2) (hw _ m3) (by decide) (rm41 l Z a0 hw w0 w1 w2 w3 w4 w5 w6 w7 w8 w9 w10 w11 w12 w13 w14 w15 w16 kw16 hS [] h0 n0 O0) e0 (g := (mkF m 18 #[.val (.int i0), .val (.int i1), .val (.int (13 : Int32)), .unset, .unset] [(.int (13 : Int32))])) rfl (by rw [hml]; rfl) (argsL := [(.int (13 : Int32))]) (rest := []) (lenOf pd10 rfl) rfl rfl (by show 2 * 0 + _ ≤ _; exact Nat.le_of_eq rfl) (hb hby at_18) (by decide) (by decide) (by decide) (by decide)
        obtain ⟨rfl, N1q, Kq1⟩ := hQ1
        have N1 := Fr.app N0 N1q
        have O1 : Old Z n0 T1.heap := O0.keep Kq1 all0
        have K1 : Keep h0 T1.heap [] := (Keep.refl h0 []).trans Kq1 all0
        obtain ⟨_, T2, L2, hQ2, X2, st2⟩ := own_callS X1 hx hZ (W := 0) hown (hw _ m40) (hw _ m41) (hw _ m7) (hw _ m42) (by decide) (rm42 l Z a0 hw w0 w1 w2 w3 w4 w5 w6 w7 w8 w9 w10 w11 w12 w13 w14 w15 w16 kw16 hS [] T1.heap n0 O1) (rfl : T1.heap = T1.heap) (g := (mkF m 23 #[.val (.int i0), .val (.int i1), .val (.int (13 : Int32)), .val (.ref w4), .unset] [(.int (13 : Int32))])) rfl (by rw [hml]; rfl) (argsL := [(.int (13 : Int32))]) (rest := []) (lenOf pd10 rfl) rfl rfl (by show 2 * 0 + _ ≤ _; exact Nat.le_of_eq rfl) (hb hby at_23) (by decide) (by decide) (by decide) (by decide)
        obtain ⟨rfl, N2q, e2⟩ := hQ2
        have N2 := Fr.app N1 N2q
        have e2' : T2.heap = T1.heap := e2
        obtain ⟨_, T3, L3, hQ3, X3, st3⟩ := own_virtual X2 hx hZ (W := 0) hown (hw _ m45) (hw _ m46) (notFace_of_selects (args := #[]) (mvT hZ (hw _ m48))) (hw _ m48) (hw _ m47) (hw _ m7) (hw _ m49) (by decide) (rm43 l Z a0 hw w0 w1 w2 w3 w4 w5 w6 w7 w8 w9 w10 w11 w12 w13 w14 w15 w16 kw16 hS [] T1.heap n0 O1) e2' (hS.2.2.2.2.2.2.2.2.2.2.2.2.2.1.ext O1.2) (g := (mkF m 51 #[.val (.int i0), .val (.int i1), .val (.int (13 : Int32)), .val (.ref w4), .val (.ref w4)] [(.ref w4)])) rfl (by rw [hml]; rfl) (argsL := []) (rest := []) (lenOf pd137 rfl) rfl rfl (by show 2 * 0 + _ ≤ _; exact Nat.le_of_eq rfl) (hb hby at_51) (by decide) (by decide) (by decide) (by decide)
        obtain ⟨rfl, N3q, e3⟩ := hQ3
        have N3 := Fr.app N2 N3q
        have e3' : T3.heap = T1.heap := e3
        obtain ⟨fs, hr, hrun, hended, hW, hsame⟩ := X3.leave (v := some (.int (1 : Int32))) (fun h => by rw [Bd.returns] at h; cases h)
        refine ⟨_, _, pre2 _ ?_, hrun, hended, _, _, rfl, ?_, ⟨_, rfl⟩, hW, hsame.mono (by decide) (by decide)⟩
        · show Steps p.tables e below (s₁.setTop (mkF m 15 #[.val (.int i0), .val (.int i1), .unset, .unset, .unset] [(.int (2 : Int32)), (.int (i0 % (20 : Int32)))])) _
          refine Own.isub X0.here hx rfl (hb hby at_15) rfl hp2 ?_
          refine XS.istoreN X0.here hx rfl (hb hby at_16) rfl (l' := #[.val (.int i0), .val (.int i1), .val (.int (13 : Int32)), .unset, .unset]) rfl ?_
          refine XS.iloadN X0.here hx rfl (hb hby at_17) rfl ?_
          refine st1 _ ?_
          show Steps p.tables e below (T1.setTop (mkF m 21 #[.val (.int i0), .val (.int i1), .val (.int (13 : Int32)), .unset, .unset] [(.ref w4)])) _
          refine XS.astoreN X1.here hx rfl (hb hby at_21) rfl rfl (l' := #[.val (.int i0), .val (.int i1), .val (.int (13 : Int32)), .val (.ref w4), .unset]) rfl ?_
          refine XS.iloadN X1.here hx rfl (hb hby at_22) rfl ?_
          refine st2 _ ?_
          refine XS.astore X2.here hx rfl (hb hby at_26) rfl rfl (l' := #[.val (.int i0), .val (.int i1), .val (.int (13 : Int32)), .val (.ref w4), .val (.ref w4)]) rfl ?_
          show Steps p.tables e below (T2.setTop (mkF m 28 #[.val (.int i0), .val (.int i1), .val (.int (13 : Int32)), .val (.ref w4), .val (.ref w4)] [])) _
          refine XS.aloadN X2.here hx rfl (hb hby at_28) rfl rfl ?_
          refine XS.ifnonnullYes X2.here hx rfl (pc0 := 29) (pc' := 43) rfl (hb hby at_29) rfl (by decide) (by decide) ?_
          refine XS.aload X2.here hx rfl (hb hby at_43) rfl rfl ?_
          refine XS.aloadN X2.here hx rfl (hb hby at_45) rfl rfl ?_
          show Steps p.tables e below (T2.setTop (mkF m 46 #[.val (.int i0), .val (.int i1), .val (.int (13 : Int32)), .val (.ref w4), .val (.ref w4)] [(.ref w4), (.ref w4)])) _
          refine Jvm.RoadKit.acmp (g := (mkF m 46 #[.val (.int i0), .val (.int i1), .val (.int (13 : Int32)), .val (.ref w4), .val (.ref w4)] [(.ref w4), (.ref w4)])) X2 hx rfl rfl rfl (pc0 := 46) (pc' := 49) (same := true) rfl (hb hby at_46) rfl (decide_eq_true rfl) (by decide) (by decide) ?_
          refine XS.aload X2.here hx rfl (hb hby at_49) rfl rfl ?_
          refine st3 _ ?_
          refine XS.iloadN X3.here hx rfl (hb hby at_54) rfl ?_
          show Steps p.tables e below (T3.setTop (mkF m 55 #[.val (.int i0), .val (.int i1), .val (.int (13 : Int32)), .val (.ref w4), .val (.ref w4)] [(.int (13 : Int32)), (.int (13 : Int32))])) _
          refine XS.icmpNo X3.here hx rfl (hb hby at_55) rfl (teq (by decide : (13 : Int32) = (13 : Int32))).2 ?_
          refine XS.iconst X3.here hx rfl (hb hby at_58) ?_
          refine XS.goto X3.here hx rfl (pc0 := 59) (pc' := 63) rfl (hb hby at_59) (by decide) (by decide) ?_
          exact retN X3 hx (t := .boolean) Bd.returns (by simp) (hb hby at_63) hr
        · show QL n0 _ T3.heap _
          exact ⟨rfl, N3⟩
      · obtain ⟨_, T1, L1, hQ1, X1, st1⟩ := own_callS X0 hx hZ (W := 0) hown (hw _ m0) (hw _ m1) (hw _ m2) (hw _ m3) (by decide) (rm44 l Z a0 hw w0 w1 w2 w3 w4 w5 w6 w7 w8 w9 w10 w11 w12 w13 w14 w15 w16 kw16 hS [] h0 n0 O0) e0 (g := (mkF m 18 #[.val (.int i0), .val (.int i1), .val (.int (14 : Int32)), .unset, .unset] [(.int (14 : Int32))])) rfl (by rw [hml]; rfl) (argsL := [(.int (14 : Int32))]) (rest := []) (lenOf pd10 rfl) rfl rfl (by show 2 * 0 + _ ≤ _; exact Nat.le_of_eq rfl) (hb hby at_18) (by decide) (by decide) (by decide) (by decide)
        obtain ⟨rfl, N1q, Kq1⟩ := hQ1
        have N1 := Fr.app N0 N1q
        have O1 : Old Z n0 T1.heap := O0.keep Kq1 all0
        have K1 : Keep h0 T1.heap [] := (Keep.refl h0 []).trans Kq1 all0
        obtain ⟨_, T2, L2, hQ2, X2, st2⟩ := own_callS X1 hx hZ (W := 0) hown (hw _ m40) (hw _ m41) (hw _ m7) (hw _ m42) (by decide) (rm45 l Z a0 hw w0 w1 w2 w3 w4 w5 w6 w7 w8 w9 w10 w11 w12 w13 w14 w15 w16 kw16 hS [] T1.heap n0 O1) (rfl : T1.heap = T1.heap) (g := (mkF m 23 #[.val (.int i0), .val (.int i1), .val (.int (14 : Int32)), .val (.ref w1), .unset] [(.int (14 : Int32))])) rfl (by rw [hml]; rfl) (argsL := [(.int (14 : Int32))]) (rest := []) (lenOf pd10 rfl) rfl rfl (by show 2 * 0 + _ ≤ _; exact Nat.le_of_eq rfl) (hb hby at_23) (by decide) (by decide) (by decide) (by decide)
        obtain ⟨rfl, N2q, e2⟩ := hQ2
        have N2 := Fr.app N1 N2q
        have e2' : T2.heap = T1.heap := e2
        obtain ⟨_, T3, L3, hQ3, X3, st3⟩ := own_virtual X2 hx hZ (W := 0) hown (hw _ m45) (hw _ m46) (notFace_of_selects (args := #[]) (mvT hZ (hw _ m48))) (hw _ m48) (hw _ m47) (hw _ m7) (hw _ m49) (by decide) (rm46 l Z a0 hw w0 w1 w2 w3 w4 w5 w6 w7 w8 w9 w10 w11 w12 w13 w14 w15 w16 kw16 hS [] T1.heap n0 O1) e2' (hS.2.2.2.2.1.ext O1.2) (g := (mkF m 51 #[.val (.int i0), .val (.int i1), .val (.int (14 : Int32)), .val (.ref w1), .val (.ref w1)] [(.ref w1)])) rfl (by rw [hml]; rfl) (argsL := []) (rest := []) (lenOf pd137 rfl) rfl rfl (by show 2 * 0 + _ ≤ _; exact Nat.le_of_eq rfl) (hb hby at_51) (by decide) (by decide) (by decide) (by decide)
        obtain ⟨rfl, N3q, e3⟩ := hQ3
        have N3 := Fr.app N2 N3q
        have e3' : T3.heap = T1.heap := e3
        obtain ⟨fs, hr, hrun, hended, hW, hsame⟩ := X3.leave (v := some (.int (1 : Int32))) (fun h => by rw [Bd.returns] at h; cases h)
        refine ⟨_, _, pre2 _ ?_, hrun, hended, _, _, rfl, ?_, ⟨_, rfl⟩, hW, hsame.mono (by decide) (by decide)⟩
        · show Steps p.tables e below (s₁.setTop (mkF m 15 #[.val (.int i0), .val (.int i1), .unset, .unset, .unset] [(.int (2 : Int32)), (.int (i0 % (20 : Int32)))])) _
          refine Own.isub X0.here hx rfl (hb hby at_15) rfl hp2 ?_
          refine XS.istoreN X0.here hx rfl (hb hby at_16) rfl (l' := #[.val (.int i0), .val (.int i1), .val (.int (14 : Int32)), .unset, .unset]) rfl ?_
          refine XS.iloadN X0.here hx rfl (hb hby at_17) rfl ?_
          refine st1 _ ?_
          show Steps p.tables e below (T1.setTop (mkF m 21 #[.val (.int i0), .val (.int i1), .val (.int (14 : Int32)), .unset, .unset] [(.ref w1)])) _
          refine XS.astoreN X1.here hx rfl (hb hby at_21) rfl rfl (l' := #[.val (.int i0), .val (.int i1), .val (.int (14 : Int32)), .val (.ref w1), .unset]) rfl ?_
          refine XS.iloadN X1.here hx rfl (hb hby at_22) rfl ?_
          refine st2 _ ?_
          refine XS.astore X2.here hx rfl (hb hby at_26) rfl rfl (l' := #[.val (.int i0), .val (.int i1), .val (.int (14 : Int32)), .val (.ref w1), .val (.ref w1)]) rfl ?_
          show Steps p.tables e below (T2.setTop (mkF m 28 #[.val (.int i0), .val (.int i1), .val (.int (14 : Int32)), .val (.ref w1), .val (.ref w1)] [])) _
          refine XS.aloadN X2.here hx rfl (hb hby at_28) rfl rfl ?_
          refine XS.ifnonnullYes X2.here hx rfl (pc0 := 29) (pc' := 43) rfl (hb hby at_29) rfl (by decide) (by decide) ?_
          refine XS.aload X2.here hx rfl (hb hby at_43) rfl rfl ?_
          refine XS.aloadN X2.here hx rfl (hb hby at_45) rfl rfl ?_
          show Steps p.tables e below (T2.setTop (mkF m 46 #[.val (.int i0), .val (.int i1), .val (.int (14 : Int32)), .val (.ref w1), .val (.ref w1)] [(.ref w1), (.ref w1)])) _
          refine Jvm.RoadKit.acmp (g := (mkF m 46 #[.val (.int i0), .val (.int i1), .val (.int (14 : Int32)), .val (.ref w1), .val (.ref w1)] [(.ref w1), (.ref w1)])) X2 hx rfl rfl rfl (pc0 := 46) (pc' := 49) (same := true) rfl (hb hby at_46) rfl (decide_eq_true rfl) (by decide) (by decide) ?_
          refine XS.aload X2.here hx rfl (hb hby at_49) rfl rfl ?_
          refine st3 _ ?_
          refine XS.iloadN X3.here hx rfl (hb hby at_54) rfl ?_
          show Steps p.tables e below (T3.setTop (mkF m 55 #[.val (.int i0), .val (.int i1), .val (.int (14 : Int32)), .val (.ref w1), .val (.ref w1)] [(.int (14 : Int32)), (.int (14 : Int32))])) _
          refine XS.icmpNo X3.here hx rfl (hb hby at_55) rfl (teq (by decide : (14 : Int32) = (14 : Int32))).2 ?_
          refine XS.iconst X3.here hx rfl (hb hby at_58) ?_
          refine XS.goto X3.here hx rfl (pc0 := 59) (pc' := 63) rfl (hb hby at_59) (by decide) (by decide) ?_
          exact retN X3 hx (t := .boolean) Bd.returns (by simp) (hb hby at_63) hr
        · show QL n0 _ T3.heap _
          exact ⟨rfl, N3⟩
      · obtain ⟨_, T1, L1, hQ1, X1, st1⟩ := own_callS X0 hx hZ (W := 0) hown (hw _ m0) (hw _ m1) (hw _ m2) (hw _ m3) (by decide) (rm47 l Z a0 hw w0 w1 w2 w3 w4 w5 w6 w7 w8 w9 w10 w11 w12 w13 w14 w15 w16 kw16 hS [] h0 n0 O0) e0 (g := (mkF m 18 #[.val (.int i0), .val (.int i1), .val (.int (15 : Int32)), .unset, .unset] [(.int (15 : Int32))])) rfl (by rw [hml]; rfl) (argsL := [(.int (15 : Int32))]) (rest := []) (lenOf pd10 rfl) rfl rfl (by show 2 * 0 + _ ≤ _; exact Nat.le_of_eq rfl) (hb hby at_18) (by decide) (by decide) (by decide) (by decide)
        obtain ⟨rfl, N1q, Kq1⟩ := hQ1
        have N1 := Fr.app N0 N1q
        have O1 : Old Z n0 T1.heap := O0.keep Kq1 all0
        have K1 : Keep h0 T1.heap [] := (Keep.refl h0 []).trans Kq1 all0
        obtain ⟨_, T2, L2, hQ2, X2, st2⟩ := own_callS X1 hx hZ (W := 0) hown (hw _ m40) (hw _ m41) (hw _ m7) (hw _ m42) (by decide) (rm48 l Z a0 hw w0 w1 w2 w3 w4 w5 w6 w7 w8 w9 w10 w11 w12 w13 w14 w15 w16 kw16 hS [] T1.heap n0 O1) (rfl : T1.heap = T1.heap) (g := (mkF m 23 #[.val (.int i0), .val (.int i1), .val (.int (15 : Int32)), .val (.ref w2), .unset] [(.int (15 : Int32))])) rfl (by rw [hml]; rfl) (argsL := [(.int (15 : Int32))]) (rest := []) (lenOf pd10 rfl) rfl rfl (by show 2 * 0 + _ ≤ _; exact Nat.le_of_eq rfl) (hb hby at_23) (by decide) (by decide) (by decide) (by decide)
        obtain ⟨rfl, N2q, e2⟩ := hQ2
        have N2 := Fr.app N1 N2q
        have e2' : T2.heap = T1.heap := e2
        obtain ⟨_, T3, L3, hQ3, X3, st3⟩ := own_virtual X2 hx hZ (W := 0) hown (hw _ m45) (hw _ m46) (notFace_of_selects (args := #[]) (mvT hZ (hw _ m48))) (hw _ m48) (hw _ m47) (hw _ m7) (hw _ m49) (by decide) (rm49 l Z a0 hw w0 w1 w2 w3 w4 w5 w6 w7 w8 w9 w10 w11 w12 w13 w14 w15 w16 kw16 hS [] T1.heap n0 O1) e2' (hS.2.2.2.2.2.2.2.1.ext O1.2) (g := (mkF m 51 #[.val (.int i0), .val (.int i1), .val (.int (15 : Int32)), .val (.ref w2), .val (.ref w2)] [(.ref w2)])) rfl (by rw [hml]; rfl) (argsL := []) (rest := []) (lenOf pd137 rfl) rfl rfl (by show 2 * 0 + _ ≤ _; exact Nat.le_of_eq rfl) (hb hby at_51) (by decide) (by decide) (by decide) (by decide)
        obtain ⟨rfl, N3q, e3⟩ := hQ3
        have N3 := Fr.app N2 N3q
        have e3' : T3.heap = T1.heap := e3
        obtain ⟨fs, hr, hrun, hended, hW, hsame⟩ := X3.leave (v := some (.int (1 : Int32))) (fun h => by rw [Bd.returns] at h; cases h)
        refine ⟨_, _, pre2 _ ?_, hrun, hended, _, _, rfl, ?_, ⟨_, rfl⟩, hW, hsame.mono (by decide) (by decide)⟩
        · show Steps p.tables e below (s₁.setTop (mkF m 15 #[.val (.int i0), .val (.int i1), .unset, .unset, .unset] [(.int (2 : Int32)), (.int (i0 % (20 : Int32)))])) _
          refine Own.isub X0.here hx rfl (hb hby at_15) rfl hp2 ?_
          refine XS.istoreN X0.here hx rfl (hb hby at_16) rfl (l' := #[.val (.int i0), .val (.int i1), .val (.int (15 : Int32)), .unset, .unset]) rfl ?_
          refine XS.iloadN X0.here hx rfl (hb hby at_17) rfl ?_
          refine st1 _ ?_
          show Steps p.tables e below (T1.setTop (mkF m 21 #[.val (.int i0), .val (.int i1), .val (.int (15 : Int32)), .unset, .unset] [(.ref w2)])) _
          refine XS.astoreN X1.here hx rfl (hb hby at_21) rfl rfl (l' := #[.val (.int i0), .val (.int i1), .val (.int (15 : Int32)), .val (.ref w2), .unset]) rfl ?_
          refine XS.iloadN X1.here hx rfl (hb hby at_22) rfl ?_
          refine st2 _ ?_
          refine XS.astore X2.here hx rfl (hb hby at_26) rfl rfl (l' := #[.val (.int i0), .val (.int i1), .val (.int (15 : Int32)), .val (.ref w2), .val (.ref w2)]) rfl ?_
          show Steps p.tables e below (T2.setTop (mkF m 28 #[.val (.int i0), .val (.int i1), .val (.int (15 : Int32)), .val (.ref w2), .val (.ref w2)] [])) _
          refine XS.aloadN X2.here hx rfl (hb hby at_28) rfl rfl ?_
          refine XS.ifnonnullYes X2.here hx rfl (pc0 := 29) (pc' := 43) rfl (hb hby at_29) rfl (by decide) (by decide) ?_
          refine XS.aload X2.here hx rfl (hb hby at_43) rfl rfl ?_
          refine XS.aloadN X2.here hx rfl (hb hby at_45) rfl rfl ?_
          show Steps p.tables e below (T2.setTop (mkF m 46 #[.val (.int i0), .val (.int i1), .val (.int (15 : Int32)), .val (.ref w2), .val (.ref w2)] [(.ref w2), (.ref w2)])) _
          refine Jvm.RoadKit.acmp (g := (mkF m 46 #[.val (.int i0), .val (.int i1), .val (.int (15 : Int32)), .val (.ref w2), .val (.ref w2)] [(.ref w2), (.ref w2)])) X2 hx rfl rfl rfl (pc0 := 46) (pc' := 49) (same := true) rfl (hb hby at_46) rfl (decide_eq_true rfl) (by decide) (by decide) ?_
          refine XS.aload X2.here hx rfl (hb hby at_49) rfl rfl ?_
          refine st3 _ ?_
          refine XS.iloadN X3.here hx rfl (hb hby at_54) rfl ?_
          show Steps p.tables e below (T3.setTop (mkF m 55 #[.val (.int i0), .val (.int i1), .val (.int (15 : Int32)), .val (.ref w2), .val (.ref w2)] [(.int (15 : Int32)), (.int (15 : Int32))])) _
          refine XS.icmpNo X3.here hx rfl (hb hby at_55) rfl (teq (by decide : (15 : Int32) = (15 : Int32))).2 ?_
          refine XS.iconst X3.here hx rfl (hb hby at_58) ?_
          refine XS.goto X3.here hx rfl (pc0 := 59) (pc' := 63) rfl (hb hby at_59) (by decide) (by decide) ?_
          exact retN X3 hx (t := .boolean) Bd.returns (by simp) (hb hby at_63) hr
        · show QL n0 _ T3.heap _
          exact ⟨rfl, N3⟩
      · obtain ⟨_, T1, L1, hQ1, X1, st1⟩ := own_callS X0 hx hZ (W := 0) hown (hw _ m0) (hw _ m1) (hw _ m2) (hw _ m3) (by decide) (rm50 l Z a0 hw w0 w1 w2 w3 w4 w5 w6 w7 w8 w9 w10 w11 w12 w13 w14 w15 w16 kw16 hS [] h0 n0 O0) e0 (g := (mkF m 18 #[.val (.int i0), .val (.int i1), .val (.int (16 : Int32)), .unset, .unset] [(.int (16 : Int32))])) rfl (by rw [hml]; rfl) (argsL := [(.int (16 : Int32))]) (rest := []) (lenOf pd10 rfl) rfl rfl (by show 2 * 0 + _ ≤ _; exact Nat.le_of_eq rfl) (hb hby at_18) (by decide) (by decide) (by decide) (by decide)
        obtain ⟨rfl, N1q, Kq1⟩ := hQ1
        have N1 := Fr.app N0 N1q
        have O1 : Old Z n0 T1.heap := O0.keep Kq1 all0
        have K1 : Keep h0 T1.heap [] := (Keep.refl h0 []).trans Kq1 all0
        obtain ⟨_, T2, L2, hQ2, X2, st2⟩ := own_callS X1 hx hZ (W := 0) hown (hw _ m40) (hw _ m41) (hw _ m7) (hw _ m42) (by decide) (rm51 l Z a0 hw w0 w1 w2 w3 w4 w5 w6 w7 w8 w9 w10 w11 w12 w13 w14 w15 w16 kw16 hS [] T1.heap n0 O1) (rfl : T1.heap = T1.heap) (g := (mkF m 23 #[.val (.int i0), .val (.int i1), .val (.int (16 : Int32)), .val (.ref w3), .unset] [(.int (16 : Int32))])) rfl (by rw [hml]; rfl) (argsL := [(.int (16 : Int32))]) (rest := []) (lenOf pd10 rfl) rfl rfl (by show 2 * 0 + _ ≤ _; exact Nat.le_of_eq rfl) (hb hby at_23) (by decide) (by decide) (by decide) (by decide)
        obtain ⟨rfl, N2q, e2⟩ := hQ2
        have N2 := Fr.app N1 N2q
        have e2' : T2.heap = T1.heap := e2
        obtain ⟨_, T3, L3, hQ3, X3, st3⟩ := own_virtual X2 hx hZ (W := 0) hown (hw _ m45) (hw _ m46) (notFace_of_selects (args := #[]) (mvT hZ (hw _ m48))) (hw _ m48) (hw _ m47) (hw _ m7) (hw _ m49) (by decide) (rm52 l Z a0 hw w0 w1 w2 w3 w4 w5 w6 w7 w8 w9 w10 w11 w12 w13 w14 w15 w16 kw16 hS [] T1.heap n0 O1) e2' (hS.2.2.2.2.2.2.2.2.2.2.1.ext O1.2) (g := (mkF m 51 #[.val (.int i0), .val (.int i1), .val (.int (16 : Int32)), .val (.ref w3), .val (.ref w3)] [(.ref w3)])) rfl (by rw [hml]; rfl) (argsL := []) (rest := []) (lenOf pd137 rfl) rfl rfl (by show 2 * 0 + _ ≤ _; exact Nat.le_of_eq rfl) (hb hby at_51) (by decide) (by decide) (by decide) (by decide)
        obtain ⟨rfl, N3q, e3⟩ := hQ3
        have N3 := Fr.app N2 N3q
        have e3' : T3.heap = T1.heap := e3
        obtain ⟨fs, hr, hrun, hended, hW, hsame⟩ := X3.leave (v := some (.int (1 : Int32))) (fun h => by rw [Bd.returns] at h; cases h)
        refine ⟨_, _, pre2 _ ?_, hrun, hended, _, _, rfl, ?_, ⟨_, rfl⟩, hW, hsame.mono (by decide) (by decide)⟩
        · show Steps p.tables e below (s₁.setTop (mkF m 15 #[.val (.int i0), .val (.int i1), .unset, .unset, .unset] [(.int (2 : Int32)), (.int (i0 % (20 : Int32)))])) _
          refine Own.isub X0.here hx rfl (hb hby at_15) rfl hp2 ?_
          refine XS.istoreN X0.here hx rfl (hb hby at_16) rfl (l' := #[.val (.int i0), .val (.int i1), .val (.int (16 : Int32)), .unset, .unset]) rfl ?_
          refine XS.iloadN X0.here hx rfl (hb hby at_17) rfl ?_
          refine st1 _ ?_
          show Steps p.tables e below (T1.setTop (mkF m 21 #[.val (.int i0), .val (.int i1), .val (.int (16 : Int32)), .unset, .unset] [(.ref w3)])) _
          refine XS.astoreN X1.here hx rfl (hb hby at_21) rfl rfl (l' := #[.val (.int i0), .val (.int i1), .val (.int (16 : Int32)), .val (.ref w3), .unset]) rfl ?_
          refine XS.iloadN X1.here hx rfl (hb hby at_22) rfl ?_
          refine st2 _ ?_
          refine XS.astore X2.here hx rfl (hb hby at_26) rfl rfl (l' := #[.val (.int i0), .val (.int i1), .val (.int (16 : Int32)), .val (.ref w3), .val (.ref w3)]) rfl ?_
          show Steps p.tables e below (T2.setTop (mkF m 28 #[.val (.int i0), .val (.int i1), .val (.int (16 : Int32)), .val (.ref w3), .val (.ref w3)] [])) _
          refine XS.aloadN X2.here hx rfl (hb hby at_28) rfl rfl ?_
          refine XS.ifnonnullYes X2.here hx rfl (pc0 := 29) (pc' := 43) rfl (hb hby at_29) rfl (by decide) (by decide) ?_
          refine XS.aload X2.here hx rfl (hb hby at_43) rfl rfl ?_
          refine XS.aloadN X2.here hx rfl (hb hby at_45) rfl rfl ?_
          show Steps p.tables e below (T2.setTop (mkF m 46 #[.val (.int i0), .val (.int i1), .val (.int (16 : Int32)), .val (.ref w3), .val (.ref w3)] [(.ref w3), (.ref w3)])) _
          refine Jvm.RoadKit.acmp (g := (mkF m 46 #[.val (.int i0), .val (.int i1), .val (.int (16 : Int32)), .val (.ref w3), .val (.ref w3)] [(.ref w3), (.ref w3)])) X2 hx rfl rfl rfl (pc0 := 46) (pc' := 49) (same := true) rfl (hb hby at_46) rfl (decide_eq_true rfl) (by decide) (by decide) ?_
          refine XS.aload X2.here hx rfl (hb hby at_49) rfl rfl ?_
          refine st3 _ ?_
          refine XS.iloadN X3.here hx rfl (hb hby at_54) rfl ?_
          show Steps p.tables e below (T3.setTop (mkF m 55 #[.val (.int i0), .val (.int i1), .val (.int (16 : Int32)), .val (.ref w3), .val (.ref w3)] [(.int (16 : Int32)), (.int (16 : Int32))])) _
          refine XS.icmpNo X3.here hx rfl (hb hby at_55) rfl (teq (by decide : (16 : Int32) = (16 : Int32))).2 ?_
          refine XS.iconst X3.here hx rfl (hb hby at_58) ?_
          refine XS.goto X3.here hx rfl (pc0 := 59) (pc' := 63) rfl (hb hby at_59) (by decide) (by decide) ?_
          exact retN X3 hx (t := .boolean) Bd.returns (by simp) (hb hby at_63) hr
        · show QL n0 _ T3.heap _
          exact ⟨rfl, N3⟩
      · obtain ⟨_, T1, L1, hQ1, X1, st1⟩ := own_callS X0 hx hZ (W := 0) hown (hw _ m0) (hw _ m1) (hw _ m2) (hw _ m3) (by decide) (rm53 l Z a0 hw w0 w1 w2 w3 w4 w5 w6 w7 w8 w9 w10 w11 w12 w13 w14 w15 w16 kw16 hS [] h0 n0 O0) e0 (g := (mkF m 18 #[.val (.int i0), .val (.int i1), .val (.int (17 : Int32)), .unset, .unset] [(.int (17 : Int32))])) rfl (by rw [hml]; rfl) (argsL := [(.int (17 : Int32))]) (rest := []) (lenOf pd10 rfl) rfl rfl (by show 2 * 0 + _ ≤ _; exact Nat.le_of_eq rfl) (hb hby at_18) (by decide) (by decide) (by decide) (by decide)
        obtain ⟨rfl, N1q, e1⟩ := hQ1
        have N1 := Fr.app N0 N1q
        have e1' : T1.heap = h0 := e1
        obtain ⟨_, T2, L2, hQ2, X2, st2⟩ := own_callS X1 hx hZ (W := 0) hown (hw _ m40) (hw _ m41) (hw _ m7) (hw _ m42) (by decide) (rm54 l Z a0 hw w0 w1 w2 w3 w4 w5 w6 w7 w8 w9 w10 w11 w12 w13 w14 w15 w16 kw16 hS [] h0 n0 O0) e1' (g := (mkF m 23 #[.val (.int i0), .val (.int i1), .val (.int (17 : Int32)), .val .null, .unset] [(.int (17 : Int32))])) rfl (by rw [hml]; rfl) (argsL := [(.int (17 : Int32))]) (rest := []) (lenOf pd10 rfl) rfl rfl (by show 2 * 0 + _ ≤ _; exact Nat.le_of_eq rfl) (hb hby at_23) (by decide) (by decide) (by decide) (by decide)
        obtain ⟨rfl, N2q, e2⟩ := hQ2
        have N2 := Fr.app N1 N2q
        have e2' : T2.heap = h0 := e2
        obtain ⟨fs, hr, hrun, hended, hW, hsame⟩ := X2.leave (v := some (.int (1 : Int32))) (fun h => by rw [Bd.returns] at h; cases h)
        refine ⟨_, _, pre2 _ ?_, hrun, hended, _, _, rfl, ?_, ⟨_, rfl⟩, hW, hsame.mono (by decide) (by decide)⟩
        · show Steps p.tables e below (s₁.setTop (mkF m 15 #[.val (.int i0), .val (.int i1), .unset, .unset, .unset] [(.int (2 : Int32)), (.int (i0 % (20 : Int32)))])) _
          refine Own.isub X0.here hx rfl (hb hby at_15) rfl hp2 ?_
          refine XS.istoreN X0.here hx rfl (hb hby at_16) rfl (l' := #[.val (.int i0), .val (.int i1), .val (.int (17 : Int32)), .unset, .unset]) rfl ?_
          refine XS.iloadN X0.here hx rfl (hb hby at_17) rfl ?_
          refine st1 _ ?_
          show Steps p.tables e below (T1.setTop (mkF m 21 #[.val (.int i0), .val (.int i1), .val (.int (17 : Int32)), .unset, .unset] [.null])) _
          refine XS.astoreN X1.here hx rfl (hb hby at_21) rfl rfl (l' := #[.val (.int i0), .val (.int i1), .val (.int (17 : Int32)), .val .null, .unset]) rfl ?_
          refine XS.iloadN X1.here hx rfl (hb hby at_22) rfl ?_
          refine st2 _ ?_
          refine XS.astore X2.here hx rfl (hb hby at_26) rfl rfl (l' := #[.val (.int i0), .val (.int i1), .val (.int (17 : Int32)), .val .null, .val .null]) rfl ?_
          show Steps p.tables e below (T2.setTop (mkF m 28 #[.val (.int i0), .val (.int i1), .val (.int (17 : Int32)), .val .null, .val .null] [])) _
          refine XS.aloadN X2.here hx rfl (hb hby at_28) rfl rfl ?_
          refine XS.ifnonnullNo X2.here hx rfl (hb hby at_29) rfl ?_
          refine XS.aload X2.here hx rfl (hb hby at_32) rfl rfl ?_
          refine XS.ifnonnullNo X2.here hx rfl (hb hby at_34) rfl ?_
          show Steps p.tables e below (T2.setTop (mkF m 37 #[.val (.int i0), .val (.int i1), .val (.int (17 : Int32)), .val .null, .val .null] [])) _
          refine XS.iconst X2.here hx rfl (hb hby at_37) ?_
          refine XS.goto X2.here hx rfl (pc0 := 38) (pc' := 42) rfl (hb hby at_38) (by decide) (by decide) ?_
          exact retN X2 hx (t := .boolean) Bd.returns (by simp) (hb hby at_42) hr
        · show QL n0 _ T2.heap _
          exact ⟨rfl, N2⟩
  · have pre2 : ∀ t, Steps p.tables e below (s₁.setTop (mkF m 6 #[.val (.int i0), .val (.int i1), .unset, .unset, .unset] [])) t → Steps p.tables e below (s₁.setTop (entryFrame m #[(.int i0), (.int i1)] maxLocals)) t := fun t kt => pre1 _ (by
        refine Own.iand X0.here hx rfl (hb hby at_2) rfl hp0 ?_
        refine XS.ifNo X0.here hx rfl (hb hby at_3) rfl ((if0 _ _).trans (feq (by decide : ¬ ((1 : Int32) = (0 : Int32)))).1) ?_
        exact kt)
    rcases Decidable.em (i0 < (0 : Int32)) with hp1 | hp1
    · obtain ⟨_, T1, L1, hQ1, X1, st1⟩ := own_callS X0 hx hZ (W := 0) hown (hw _ m0) (hw _ m1) (hw _ m2) (hw _ m3) (by decide) (rm1 l Z a0 hw w0 w1 w2 w3 w4 w5 w6 w7 w8 w9 w10 w11 w12 w13 w14 w15 w16 kw16 hS [] i0 h0 n0 O0 hp1) e0 (g := (mkF m 18 #[.val (.int i0), .val (.int i1), .val (.int i0), .unset, .unset] [(.int i0)])) rfl (by rw [hml]; rfl) (argsL := [(.int i0)]) (rest := []) (lenOf pd10 rfl) rfl rfl (by show 2 * 0 + _ ≤ _; exact Nat.le_of_eq rfl) (hb hby at_18) (by decide) (by decide) (by decide) (by decide)
      obtain ⟨rfl, N1q, e1⟩ := hQ1
      have N1 := Fr.app N0 N1q
      have e1' : T1.heap = h0 := e1
      obtain ⟨_, T2, L2, hQ2, X2, st2⟩ := own_callS X1 hx hZ (W := 0) hown (hw _ m40) (hw _ m41) (hw _ m7) (hw _ m42) (by decide) (rm2 l Z a0 hw w0 w1 w2 w3 w4 w5 w6 w7 w8 w9 w10 w11 w12 w13 w14 w15 w16 kw16 hS [] i0 h0 n0 O0 hp1) e1' (g := (mkF m 23 #[.val (.int i0), .val (.int i1), .val (.int i0), .val .null, .unset] [(.int i0)])) rfl (by rw [hml]; rfl) (argsL := [(.int i0)]) (rest := []) (lenOf pd10 rfl) rfl rfl (by show 2 * 0 + _ ≤ _; exact Nat.le_of_eq rfl) (hb hby at_23) (by decide) (by decide) (by decide) (by decide)
      obtain ⟨rfl, N2q, e2⟩ := hQ2
      have N2 := Fr.app N1 N2q
      have e2' : T2.heap = h0 := e2
      obtain ⟨fs, hr, hrun, hended, hW, hsame⟩ := X2.leave (v := some (.int (1 : Int32))) (fun h => by rw [Bd.returns] at h; cases h)
      refine ⟨_, _, pre2 _ ?_, hrun, hended, _, _, rfl, ?_, ⟨_, rfl⟩, hW, hsame.mono (by decide) (by decide)⟩
      · show Steps p.tables e below (s₁.setTop (mkF m 6 #[.val (.int i0), .val (.int i1), .unset, .unset, .unset] [])) _
        refine XS.iloadN X0.here hx rfl (hb hby at_6) rfl ?_
        refine XS.goto X0.here hx rfl (pc0 := 7) (pc' := 16) rfl (hb hby at_7) (by decide) (by decide) ?_
        refine XS.istoreN X0.here hx rfl (hb hby at_16) rfl (l' := #[.val (.int i0), .val (.int i1), .val (.int i0), .unset, .unset]) rfl ?_
        refine XS.iloadN X0.here hx rfl (hb hby at_17) rfl ?_
        show Steps p.tables e below (s₁.setTop (mkF m 18 #[.val (.int i0), .val (.int i1), .val (.int i0), .unset, .unset] [(.int i0)])) _
        refine st1 _ ?_
        refine XS.astoreN X1.here hx rfl (hb hby at_21) rfl rfl (l' := #[.val (.int i0), .val (.int i1), .val (.int i0), .val .null, .unset]) rfl ?_
        refine XS.iloadN X1.here hx rfl (hb hby at_22) rfl ?_
        refine st2 _ ?_
        show Steps p.tables e below (T2.setTop (mkF m 26 #[.val (.int i0), .val (.int i1), .val (.int i0), .val .null, .unset] [.null])) _
        refine XS.astore X2.here hx rfl (hb hby at_26) rfl rfl (l' := #[.val (.int i0), .val (.int i1), .val (.int i0), .val .null, .val .null]) rfl ?_
        refine XS.aloadN X2.here hx rfl (hb hby at_28) rfl rfl ?_
        refine XS.ifnonnullNo X2.here hx rfl (hb hby at_29) rfl ?_
        refine XS.aload X2.here hx rfl (hb hby at_32) rfl rfl ?_
        show Steps p.tables e below (T2.setTop (mkF m 34 #[.val (.int i0), .val (.int i1), .val (.int i0), .val .null, .val .null] [.null])) _
        refine XS.ifnonnullNo X2.here hx rfl (hb hby at_34) rfl ?_
        refine XS.iconst X2.here hx rfl (hb hby at_37) ?_
        refine XS.goto X2.here hx rfl (pc0 := 38) (pc' := 42) rfl (hb hby at_38) (by decide) (by decide) ?_
        exact retN X2 hx (t := .boolean) Bd.returns (by simp) (hb hby at_42) hr
      · show QL n0 _ T2.heap _
        exact ⟨rfl, N2⟩
    · rcases Decidable.em ((16 : Int32) < i0) with hp2 | hp2
      · obtain ⟨_, T1, L1, hQ1, X1, st1⟩ := own_callS X0 hx hZ (W := 0) hown (hw _ m0) (hw _ m1) (hw _ m2) (hw _ m3) (by decide) (rm55 l Z a0 hw w0 w1 w2 w3 w4 w5 w6 w7 w8 w9 w10 w11 w12 w13 w14 w15 w16 kw16 hS [] i0 h0 n0 O0 hp1 hp2) e0 (g := (mkF m 18 #[.val (.int i0), .val (.int i1), .val (.int i0), .unset, .unset] [(.int i0)])) rfl (by rw [hml]; rfl) (argsL := [(.int i0)]) (rest := []) (lenOf pd10 rfl) rfl rfl (by show 2 * 0 + _ ≤ _; exact Nat.le_of_eq rfl) (hb hby at_18) (by decide) (by decide) (by decide) (by decide)
        obtain ⟨rfl, N1q, e1⟩ := hQ1
        have N1 := Fr.app N0 N1q
        have e1' : T1.heap = h0 := e1
        obtain ⟨_, T2, L2, hQ2, X2, st2⟩ := own_callS X1 hx hZ (W := 0) hown (hw _ m40) (hw _ m41) (hw _ m7) (hw _ m42) (by decide) (rm56 l Z a0 hw w0 w1 w2 w3 w4 w5 w6 w7 w8 w9 w10 w11 w12 w13 w14 w15 w16 kw16 hS [] i0 h0 n0 O0 hp1 (by have q0 := (own_rng i0 : -2147483648 ≤ (i0).toInt ∧ (i0).toInt ≤ 2147483647); have q1 := (by decide : 17 ≤ ((17 : Int32)).toInt ∧ ((17 : Int32)).toInt ≤ 17); have q2 := own_ltF' hp1; have q3 := own_ltT' hp2; have q4 := (by decide : 0 ≤ ((0 : Int32)).toInt ∧ ((0 : Int32)).toInt ≤ 0); have q5 := (by decide : 16 ≤ ((16 : Int32)).toInt ∧ ((16 : Int32)).toInt ≤ 16); exact own_ltF (by omega) : ¬ (i0 < (17 : Int32)))) e1' (g := (mkF m 23 #[.val (.int i0), .val (.int i1), .val (.int i0), .val .null, .unset] [(.int i0)])) rfl (by rw [hml]; rfl) (argsL := [(.int i0)]) (rest := []) (lenOf pd10 rfl) rfl rfl (by show 2 * 0 + _ ≤ _; exact Nat.le_of_eq rfl) (hb hby at_23) (by decide) (by decide) (by decide) (by decide)
        obtain ⟨rfl, N2q, e2⟩ := hQ2
        have N2 := Fr.app N1 N2q
        have e2' : T2.heap = h0 := e2
        obtain ⟨fs, hr, hrun, hended, hW, hsame⟩ := X2.leave (v := some (.int (1 : Int32))) (fun h => by rw [Bd.returns] at h; cases h)
        refine ⟨_, _, pre2 _ ?_, hrun, hended, _, _, rfl, ?_, ⟨_, rfl⟩, hW, hsame.mono (by decide) (by decide)⟩
        · show Steps p.tables e below (s₁.setTop (mkF m 6 #[.val (.int i0), .val (.int i1), .unset, .unset, .unset] [])) _
          refine XS.iloadN X0.here hx rfl (hb hby at_6) rfl ?_
          refine XS.goto X0.here hx rfl (pc0 := 7) (pc' := 16) rfl (hb hby at_7) (by decide) (by decide) ?_
          refine XS.istoreN X0.here hx rfl (hb hby at_16) rfl (l' := #[.val (.int i0), .val (.int i1), .val (.int i0), .unset, .unset]) rfl ?_
          refine XS.iloadN X0.here hx rfl (hb hby at_17) rfl ?_
          show Steps p.tables e below (s₁.setTop (mkF m 18 #[.val (.int i0), .val (.int i1), .val (.int i0), .unset, .unset] [(.int i0)])) _
          refine st1 _ ?_
          refine XS.astoreN X1.here hx rfl (hb hby at_21) rfl rfl (l' := #[.val (.int i0), .val (.int i1), .val (.int i0), .val .null, .unset]) rfl ?_
          refine XS.iloadN X1.here hx rfl (hb hby at_22) rfl ?_
          refine st2 _ ?_
          show Steps p.tables e below (T2.setTop (mkF m 26 #[.val (.int i0), .val (.int i1), .val (.int i0), .val .null, .unset] [.null])) _
          refine XS.astore X2.here hx rfl (hb hby at_26) rfl rfl (l' := #[.val (.int i0), .val (.int i1), .val (.int i0), .val .null, .val .null]) rfl ?_
          refine XS.aloadN X2.here hx rfl (hb hby at_28) rfl rfl ?_
          refine XS.ifnonnullNo X2.here hx rfl (hb hby at_29) rfl ?_
          refine XS.aload X2.here hx rfl (hb hby at_32) rfl rfl ?_
          show Steps p.tables e below (T2.setTop (mkF m 34 #[.val (.int i0), .val (.int i1), .val (.int i0), .val .null, .val .null] [.null])) _
          refine XS.ifnonnullNo X2.here hx rfl (hb hby at_34) rfl ?_
          refine XS.iconst X2.here hx rfl (hb hby at_37) ?_
          refine XS.goto X2.here hx rfl (pc0 := 38) (pc' := 42) rfl (hb hby at_38) (by decide) (by decide) ?_
          exact retN X2 hx (t := .boolean) Bd.returns (by simp) (hb hby at_42) hr
        · show QL n0 _ T2.heap _
          exact ⟨rfl, N2⟩
      · rcases en_140 i0 (by have q0 := (own_rng i0 : -2147483648 ≤ (i0).toInt ∧ (i0).toInt ≤ 2147483647); have q1 := own_ltF' hp1; have q2 := own_ltF' hp2; have q3 := (by decide : 0 ≤ ((0 : Int32)).toInt ∧ ((0 : Int32)).toInt ≤ 0); have q4 := (by decide : 16 ≤ ((16 : Int32)).toInt ∧ ((16 : Int32)).toInt ≤ 16); omega) with hp3 | hp3 | hp3 | hp3 | hp3 | hp3 | hp3 | hp3 | hp3 | hp3 | hp3 | hp3 | hp3 | hp3 | hp3 | hp3 | hp3
        · obtain ⟨_, T1, L1, hQ1, X1, st1⟩ := own_callS X0 hx hZ (W := 0) hown (hw _ m0) (hw _ m1) (hw _ m2) (hw _ m3) (by decide) (rm3 l Z a0 hw w0 w1 w2 w3 w4 w5 w6 w7 w8 w9 w10 w11 w12 w13 w14 w15 w16 kw16 hS [] h0 n0 O0) e0 (g := (mkF m 18 #[.val (.int i0), .val (.int i1), .val (.int (0 : Int32)), .unset, .unset] [(.int (0 : Int32))])) rfl (by rw [hml]; rfl) (argsL := [(.int (0 : Int32))]) (rest := []) (lenOf pd10 rfl) rfl rfl (by show 2 * 0 + _ ≤ _; exact Nat.le_of_eq rfl) (hb hby at_18) (by decide) (by decide) (by decide) (by decide)
          obtain ⟨rfl, N1q, Kq1⟩ := hQ1
          have N1 := Fr.app N0 N1q
          have O1 : Old Z n0 T1.heap := O0.keep Kq1 all0
          have K1 : Keep h0 T1.heap [] := (Keep.refl h0 []).trans Kq1 all0
          obtain ⟨_, T2, L2, hQ2, X2, st2⟩ := own_callS X1 hx hZ (W := 0) hown (hw _ m40) (hw _ m41) (hw _ m7) (hw _ m42) (by decide) (rm4 l Z a0 hw w0 w1 w2 w3 w4 w5 w6 w7 w8 w9 w10 w11 w12 w13 w14 w15 w16 kw16 hS [] T1.heap n0 O1) (rfl : T1.heap = T1.heap) (g := (mkF m 23 #[.val (.int i0), .val (.int i1), .val (.int (0 : Int32)), .val (.ref w5), .unset] [(.int (0 : Int32))])) rfl (by rw [hml]; rfl) (argsL := [(.int (0 : Int32))]) (rest := []) (lenOf pd10 rfl) rfl rfl (by show 2 * 0 + _ ≤ _; exact Nat.le_of_eq rfl) (hb hby at_23) (by decide) (by decide) (by decide) (by decide)
          obtain ⟨rfl, N2q, e2⟩ := hQ2
          have N2 := Fr.app N1 N2q
          have e2' : T2.heap = T1.heap := e2
          obtain ⟨_, T3, L3, hQ3, X3, st3⟩ := own_virtual X2 hx hZ (W := 0) hown (hw _ m45) (hw _ m46) (notFace_of_selects (args := #[]) (mvT hZ (hw _ m48))) (hw _ m48) (hw _ m47) (hw _ m7) (hw _ m49) (by decide) (rm5 l Z a0 hw w0 w1 w2 w3 w4 w5 w6 w7 w8 w9 w10 w11 w12 w13 w14 w15 w16 kw16 hS [] T1.heap n0 O1) e2' (hS.2.2.2.2.2.2.2.2.2.2.2.2.2.2.2.2.1.ext O1.2) (g := (mkF m 51 #[.val (.int i0), .val (.int i1), .val (.int (0 : Int32)), .val (.ref w5), .val (.ref w5)] [(.ref w5)])) rfl (by rw [hml]; rfl) (argsL := []) (rest := []) (lenOf pd137 rfl) rfl rfl (by show 2 * 0 + _ ≤ _; exact Nat.le_of_eq rfl) (hb hby at_51) (by decide) (by decide) (by decide) (by decide)
          obtain ⟨rfl, N3q, e3⟩ := hQ3
          have N3 := Fr.app N2 N3q
          have e3' : T3.heap = T1.heap := e3
          obtain ⟨fs, hr, hrun, hended, hW, hsame⟩ := X3.leave (v := some (.int (1 : Int32))) (fun h => by rw [Bd.returns] at h; cases h)
          refine ⟨_, _, pre2 _ ?_, hrun, hended, _, _, rfl, ?_, ⟨_, rfl⟩, hW, hsame.mono (by decide) (by decide)⟩
          · show Steps p.tables e below (s₁.setTop (mkF m 6 #[.val (.int i0), .val (.int i1), .unset, .unset, .unset] [])) _
            refine Own.iloadN X0.here hx rfl (hb hby at_6) rfl hp3 ?_
            refine XS.goto X0.here hx rfl (pc0 := 7) (pc' := 16) rfl (hb hby at_7) (by decide) (by decide) ?_
            refine XS.istoreN X0.here hx rfl (hb hby at_16) rfl (l' := #[.val (.int i0), .val (.int i1), .val (.int (0 : Int32)), .unset, .unset]) rfl ?_
            refine XS.iloadN X0.here hx rfl (hb hby at_17) rfl ?_
            show Steps p.tables e below (s₁.setTop (mkF m 18 #[.val (.int i0), .val (.int i1), .val (.int (0 : Int32)), .unset, .unset] [(.int (0 : Int32))])) _
            refine st1 _ ?_
            refine XS.astoreN X1.here hx rfl (hb hby at_21) rfl rfl (l' := #[.val (.int i0), .val (.int i1), .val (.int (0 : Int32)), .val (.ref w5), .unset]) rfl ?_
            refine XS.iloadN X1.here hx rfl (hb hby at_22) rfl ?_
            refine st2 _ ?_
            show Steps p.tables e below (T2.setTop (mkF m 26 #[.val (.int i0), .val (.int i1), .val (.int (0 : Int32)), .val (.ref w5), .unset] [(.ref w5)])) _
            refine XS.astore X2.here hx rfl (hb hby at_26) rfl rfl (l' := #[.val (.int i0), .val (.int i1), .val (.int (0 : Int32)), .val (.ref w5), .val (.ref w5)]) rfl ?_
            refine XS.aloadN X2.here hx rfl (hb hby at_28) rfl rfl ?_
            refine XS.ifnonnullYes X2.here hx rfl (pc0 := 29) (pc' := 43) rfl (hb hby at_29) rfl (by decide) (by decide) ?_
            refine XS.aload X2.here hx rfl (hb hby at_43) rfl rfl ?_
            show Steps p.tables e below (T2.setTop (mkF m 45 #[.val (.int i0), .val (.int i1), .val (.int (0 : Int32)), .val (.ref w5), .val (.ref w5)] [(.ref w5)])) _
            refine XS.aloadN X2.here hx rfl (hb hby at_45) rfl rfl ?_
            refine Jvm.RoadKit.acmp (g := (mkF m 46 #[.val (.int i0), .val (.int i1), .val (.int (0 : Int32)), .val (.ref w5), .val (.ref w5)] [(.ref w5), (.ref w5)])) X2 hx rfl rfl rfl (pc0 := 46) (pc' := 49) (same := true) rfl (hb hby at_46) rfl (decide_eq_true rfl) (by decide) (by decide) ?_
            refine XS.aload X2.here hx rfl (hb hby at_49) rfl rfl ?_
            refine st3 _ ?_
            show Steps p.tables e below (T3.setTop (mkF m 54 #[.val (.int i0), .val (.int i1), .val (.int (0 : Int32)), .val (.ref w5), .val (.ref w5)] [(.int (0 : Int32))])) _
            refine XS.iloadN X3.here hx rfl (hb hby at_54) rfl ?_
            refine XS.icmpNo X3.here hx rfl (hb hby at_55) rfl (teq (by decide : (0 : Int32) = (0 : Int32))).2 ?_
            refine XS.iconst X3.here hx rfl (hb hby at_58) ?_
            refine XS.goto X3.here hx rfl (pc0 := 59) (pc' := 63) rfl (hb hby at_59) (by decide) (by decide) ?_
            show Steps p.tables e below (T3.setTop (mkF m 63 #[.val (.int i0), .val (.int i1), .val (.int (0 : Int32)), .val (.ref w5), .val (.ref w5)] [(.int (1 : Int32))])) _
            exact retN X3 hx (t := .boolean) Bd.returns (by simp) (hb hby at_63) hr
          · show QL n0 _ T3.heap _
            exact ⟨rfl, N3⟩
        · obtain ⟨_, T1, L1, hQ1, X1, st1⟩ := own_callS X0 hx hZ (W := 0) hown (hw _ m0) (hw _ m1) (hw _ m2) (hw _ m3) (by decide) (rm6 l Z a0 hw w0 w1 w2 w3 w4 w5 w6 w7 w8 w9 w10 w11 w12 w13 w14 w15 w16 kw16 hS [] h0 n0 O0) e0 (g := (mkF m 18 #[.val (.int i0), .val (.int i1), .val (.int (1 : Int32)), .unset, .unset] [(.int (1 : Int32))])) rfl (by rw [hml]; rfl) (argsL := [(.int (1 : Int32))]) (rest := []) (lenOf pd10 rfl) rfl rfl (by show 2 * 0 + _ ≤ _; exact Nat.le_of_eq rfl) (hb hby at_18) (by decide) (by decide) (by decide) (by decide)
          obtain ⟨rfl, N1q, Kq1⟩ := hQ1
          have N1 := Fr.app N0 N1q
          have O1 : Old Z n0 T1.heap := O0.keep Kq1 all0
          have K1 : Keep h0 T1.heap [] := (Keep.refl h0 []).trans Kq1 all0
          obtain ⟨_, T2, L2, hQ2, X2, st2⟩ := own_callS X1 hx hZ (W := 0) hown (hw _ m40) (hw _ m41) (hw _ m7) (hw _ m42) (by decide) (rm7 l Z a0 hw w0 w1 w2 w3 w4 w5 w6 w7 w8 w9 w10 w11 w12 w13 w14 w15 w16 kw16 hS [] T1.heap n0 O1) (rfl : T1.heap = T1.heap) (g := (mkF m 23 #[.val (.int i0), .val (.int i1), .val (.int (1 : Int32)), .val (.ref w14), .unset] [(.int (1 : Int32))])) rfl (by rw [hml]; rfl) (argsL := [(.int (1 : Int32))]) (rest := []) (lenOf pd10 rfl) rfl rfl (by show 2 * 0 + _ ≤ _; exact Nat.le_of_eq rfl) (hb hby at_23) (by decide) (by decide) (by decide) (by decide)
          obtain ⟨rfl, N2q, e2⟩ := hQ2
          have N2 := Fr.app N1 N2q
          have e2' : T2.heap = T1.heap := e2
          obtain ⟨_, T3, L3, hQ3, X3, st3⟩ := own_virtual X2 hx hZ (W := 0) hown (hw _ m45) (hw _ m46) (notFace_of_selects (args := #[]) (mvT hZ (hw _ m48))) (hw _ m48) (hw _ m47) (hw _ m7) (hw _ m49) (by decide) (rm8 l Z a0 hw w0 w1 w2 w3 w4 w5 w6 w7 w8 w9 w10 w11 w12 w13 w14 w15 w16 kw16 hS [] T1.heap n0 O1) e2' (hS.2.2.2.2.2.2.2.2.2.2.2.2.2.2.2.2.2.2.2.2.2.2.2.2.2.2.2.2.2.2.2.2.2.2.2.2.2.2.2.2.2.2.2.1.ext O1.2) (g := (mkF m 51 #[.val (.int i0), .val (.int i1), .val (.int (1 : Int32)), .val (.ref w14), .val (.ref w14)] [(.ref w14)])) rfl (by rw [hml]; rfl) (argsL := []) (rest := []) (lenOf pd137 rfl) rfl rfl (by show 2 * 0 + _ ≤ _; exact Nat.le_of_eq rfl) (hb hby at_51) (by decide) (by decide) (by decide) (by decide)
          obtain ⟨rfl, N3q, e3⟩ := hQ3
          have N3 := Fr.app N2 N3q
          have e3' : T3.heap = T1.heap := e3
          obtain ⟨fs, hr, hrun, hended, hW, hsame⟩ := X3.leave (v := some (.int (1 : Int32))) (fun h => by rw [Bd.returns] at h; cases h)
          refine ⟨_, _, pre2 _ ?_, hrun, hended, _, _, rfl, ?_, ⟨_, rfl⟩, hW, hsame.mono (by decide) (by decide)⟩
          · show Steps p.tables e below (s₁.setTop (mkF m 6 #[.val (.int i0), .val (.int i1), .unset, .unset, .unset] [])) _
            refine Own.iloadN X0.here hx rfl (hb hby at_6) rfl hp3 ?_
            refine XS.goto X0.here hx rfl (pc0 := 7) (pc' := 16) rfl (hb hby at_7) (by decide) (by decide) ?_
            refine XS.istoreN X0.here hx rfl (hb hby at_16) rfl (l' := #[.val (.int i0), .val (.int i1), .val (.int (1 : Int32)), .unset, .unset]) rfl ?_
            refine XS.iloadN X0.here hx rfl (hb hby at_17) rfl ?_
            show Steps p.tables e below (s₁.setTop (mkF m 18 #[.val (.int i0), .val (.int i1), .val (.int (1 : Int32)), .unset, .unset] [(.int (1 : Int32))])) _
            refine st1 _ ?_
            refine XS.astoreN X1.here hx rfl (hb hby at_21) rfl rfl (l' := #[.val (.int i0), .val (.int i1), .val (.int (1 : Int32)), .val (.ref w14), .unset]) rfl ?_
            refine XS.iloadN X1.here hx rfl (hb hby at_22) rfl ?_
            refine st2 _ ?_
            show Steps p.tables e below (T2.setTop (mkF m 26 #[.val (.int i0), .val (.int i1), .val (.int (1 : Int32)), .val (.ref w14), .unset] [(.ref w14)])) _
            refine XS.astore X2.here hx rfl (hb hby at_26) rfl rfl (l' := #[.val (.int i0), .val (.int i1), .val (.int (1 : Int32)), .val (.ref w14), .val (.ref w14)]) rfl ?_
            refine XS.aloadN X2.here hx rfl (hb hby at_28) rfl rfl ?_
            refine XS.ifnonnullYes X2.here hx rfl (pc0 := 29) (pc' := 43) rfl (hb hby at_29) rfl (by decide) (by decide) ?_
            refine XS.aload X2.here hx rfl (hb hby at_43) rfl rfl ?_
            show Steps p.tables e below (T2.setTop (mkF m 45 #[.val (.int i0), .val (.int i1), .val (.int (1 : Int32)), .val (.ref w14), .val (.ref w14)] [(.ref w14)])) _
            refine XS.aloadN X2.here hx rfl (hb hby at_45) rfl rfl ?_
            refine Jvm.RoadKit.acmp (g := (mkF m 46 #[.val (.int i0), .val (.int i1), .val (.int (1 : Int32)), .val (.ref w14), .val (.ref w14)] [(.ref w14), (.ref w14)])) X2 hx rfl rfl rfl (pc0 := 46) (pc' := 49) (same := true) rfl (hb hby at_46) rfl (decide_eq_true rfl) (by decide) (by decide) ?_
            refine XS.aload X2.here hx rfl (hb hby at_49) rfl rfl ?_
            refine st3 _ ?_
            show Steps p.tables e below (T3.setTop (mkF m 54 #[.val (.int i0), .val (.int i1), .val (.int (1 : Int32)), .val (.ref w14), .val (.ref w14)] [(.int (1 : Int32))])) _
            refine XS.iloadN X3.here hx rfl (hb hby at_54) rfl ?_
            refine XS.icmpNo X3.here hx rfl (hb hby at_55) rfl (teq (by decide : (1 : Int32) = (1 : Int32))).2 ?_
            refine XS.iconst X3.here hx rfl (hb hby at_58) ?_
            refine XS.goto X3.here hx rfl (pc0 := 59) (pc' := 63) rfl (hb hby at_59) (by decide) (by decide) ?_
            show Steps p.tables e below (T3.setTop (mkF m 63 #[.val (.int i0), .val (.int i1), .val (.int (1 : Int32)), .val (.ref w14), .val (.ref w14)] [(.int (1 : Int32))])) _
            exact retN X3 hx (t := .boolean) Bd.returns (by simp) (hb hby at_63) hr
          · show QL n0 _ T3.heap _
            exact ⟨rfl, N3⟩
        · obtain ⟨_, T1, L1, hQ1, X1, st1⟩ := own_callS X0 hx hZ (W := 0) hown (hw _ m0) (hw _ m1) (hw _ m2) (hw _ m3) (by decide) (rm9 l Z a0 hw w0 w1 w2 w3 w4 w5 w6 w7 w8 w9 w10 w11 w12 w13 w14 w15 w16 kw16 hS [] h0 n0 O0) e0 (g := (mkF m 18 #[.val (.int i0), .val (.int i1), .val (.int (2 : Int32)), .unset, .unset] [(.int (2 : Int32))])) rfl (by rw [hml]; rfl) (argsL := [(.int (2 : Int32))]) (rest := []) (lenOf pd10 rfl) rfl rfl (by show 2 * 0 + _ ≤ _; exact Nat.le_of_eq rfl) (hb hby at_18) (by decide) (by decide) (by decide) (by decide)
          obtain ⟨rfl, N1q, Kq1⟩ := hQ1
          have N1 := Fr.app N0 N1q
          have O1 : Old Z n0 T1.heap := O0.keep Kq1 all0
          have K1 : Keep h0 T1.heap [] := (Keep.refl h0 []).trans Kq1 all0
          obtain ⟨_, T2, L2, hQ2, X2, st2⟩ := own_callS X1 hx hZ (W := 0) hown (hw _ m40) (hw _ m41) (hw _ m7) (hw _ m42) (by decide) (rm10 l Z a0 hw w0 w1 w2 w3 w4 w5 w6 w7 w8 w9 w10 w11 w12 w13 w14 w15 w16 kw16 hS [] T1.heap n0 O1) (rfl : T1.heap = T1.heap) (g := (mkF m 23 #[.val (.int i0), .val (.int i1), .val (.int (2 : Int32)), .val (.ref w11), .unset] [(.int (2 : Int32))])) rfl (by rw [hml]; rfl) (argsL := [(.int (2 : Int32))]) (rest := []) (lenOf pd10 rfl) rfl rfl (by show 2 * 0 + _ ≤ _; exact Nat.le_of_eq rfl) (hb hby at_23) (by decide) (by decide) (by decide) (by decide)
          obtain ⟨rfl, N2q, e2⟩ := hQ2
          have N2 := Fr.app N1 N2q
          have e2' : T2.heap = T1.heap := e2
          obtain ⟨_, T3, L3, hQ3, X3, st3⟩ := own_virtual X2 hx hZ (W := 0) hown (hw _ m45) (hw _ m46) (notFace_of_selects (args := #[]) (mvT hZ (hw _ m48))) (hw _ m48) (hw _ m47) (hw _ m7) (hw _ m49) (by decide) (rm11 l Z a0 hw w0 w1 w2 w3 w4 w5 w6 w7 w8 w9 w10 w11 w12 w13 w14 w15 w16 kw16 hS [] T1.heap n0 O1) e2' (hS.2.2.2.2.2.2.2.2.2.2.2.2.2.2.2.2.2.2.2.2.2.2.2.2.2.2.2.2.2.2.2.2.2.2.1.ext O1.2) (g := (mkF m 51 #[.val (.int i0), .val (.int i1), .val (.int (2 : Int32)), .val (.ref w11), .val (.ref w11)] [(.ref w11)])) rfl (by rw [hml]; rfl) (argsL := []) (rest := []) (lenOf pd137 rfl) rfl rfl (by show 2 * 0 + _ ≤ _; exact Nat.le_of_eq rfl) (hb hby at_51) (by decide) (by decide) (by decide) (by decide)
          obtain ⟨rfl, N3q, e3⟩ := hQ3
          have N3 := Fr.app N2 N3q
          have e3' : T3.heap = T1.heap := e3
          obtain ⟨fs, hr, hrun, hended, hW, hsame⟩ := X3.leave (v := some (.int (1 : Int32))) (fun h => by rw [Bd.returns] at h; cases h)
          refine ⟨_, _, pre2 _ ?_, hrun, hended, _, _, rfl, ?_, ⟨_, rfl⟩, hW, hsame.mono (by decide) (by decide)⟩
          · show Steps p.tables e below (s₁.setTop (mkF m 6 #[.val (.int i0), .val (.int i1), .unset, .unset, .unset] [])) _
            refine Own.iloadN X0.here hx rfl (hb hby at_6) rfl hp3 ?_
            refine XS.goto X0.here hx rfl (pc0 := 7) (pc' := 16) rfl (hb hby at_7) (by decide) (by decide) ?_
            refine XS.istoreN X0.here hx rfl (hb hby at_16) rfl (l' := #[.val (.int i0), .val (.int i1), .val (.int (2 : Int32)), .unset, .unset]) rfl ?_
            refine XS.iloadN X0.here hx rfl (hb hby at_17) rfl ?_
            show Steps p.tables e below (s₁.setTop (mkF m 18 #[.val (.int i0), .val (.int i1), .val (.int (2 : Int32)), .unset, .unset] [(.int (2 : Int32))])) _
            refine st1 _ ?_
            refine XS.astoreN X1.here hx rfl (hb hby at_21) rfl rfl (l' := #[.val (.int i0), .val (.int i1), .val (.int (2 : Int32)), .val (.ref w11), .unset]) rfl ?_
            refine XS.iloadN X1.here hx rfl (hb hby at_22) rfl ?_
            refine st2 _ ?_
            show Steps p.tables e below (T2.setTop (mkF m 26 #[.val (.int i0), .val (.int i1), .val (.int (2 : Int32)), .val (.ref w11), .unset] [(.ref w11)])) _
            refine XS.astore X2.here hx rfl (hb hby at_26) rfl rfl (l' := #[.val (.int i0), .val (.int i1), .val (.int (2 : Int32)), .val (.ref w11), .val (.ref w11)]) rfl ?_
            refine XS.aloadN X2.here hx rfl (hb hby at_28) rfl rfl ?_
            refine XS.ifnonnullYes X2.here hx rfl (pc0 := 29) (pc' := 43) rfl (hb hby at_29) rfl (by decide) (by decide) ?_
            refine XS.aload X2.here hx rfl (hb hby at_43) rfl rfl ?_
            show Steps p.tables e below (T2.setTop (mkF m 45 #[.val (.int i0), .val (.int i1), .val (.int (2 : Int32)), .val (.ref w11), .val (.ref w11)] [(.ref w11)])) _
            refine XS.aloadN X2.here hx rfl (hb hby at_45) rfl rfl ?_
            refine Jvm.RoadKit.acmp (g := (mkF m 46 #[.val (.int i0), .val (.int i1), .val (.int (2 : Int32)), .val (.ref w11), .val (.ref w11)] [(.ref w11), (.ref w11)])) X2 hx rfl rfl rfl (pc0 := 46) (pc' := 49) (same := true) rfl (hb hby at_46) rfl (decide_eq_true rfl) (by decide) (by decide) ?_
            refine XS.aload X2.here hx rfl (hb hby at_49) rfl rfl ?_
            refine st3 _ ?_
            show Steps p.tables e below (T3.setTop (mkF m 54 #[.val (.int i0), .val (.int i1), .val (.int (2 : Int32)), .val (.ref w11), .val (.ref w11)] [(.int (2 : Int32))])) _
            refine XS.iloadN X3.here hx rfl (hb hby at_54) rfl ?_
            refine XS.icmpNo X3.here hx rfl (hb hby at_55) rfl (teq (by decide : (2 : Int32) = (2 : Int32))).2 ?_
            refine XS.iconst X3.here hx rfl (hb hby at_58) ?_
            refine XS.goto X3.here hx rfl (pc0 := 59) (pc' := 63) rfl (hb hby at_59) (by decide) (by decide) ?_
            show Steps p.tables e below (T3.setTop (mkF m 63 #[.val (.int i0), .val (.int i1), .val (.int (2 : Int32)), .val (.ref w11), .val (.ref w11)] [(.int (1 : Int32))])) _
            exact retN X3 hx (t := .boolean) Bd.returns (by simp) (hb hby at_63) hr
          · show QL n0 _ T3.heap _
            exact ⟨rfl, N3⟩
        · obtain ⟨_, T1, L1, hQ1, X1, st1⟩ := own_callS X0 hx hZ (W := 0) hown (hw _ m0) (hw _ m1) (hw _ m2) (hw _ m3) (by decide) (rm12 l Z a0 hw w0 w1 w2 w3 w4 w5 w6 w7 w8 w9 w10 w11 w12 w13 w14 w15 w16 kw16 hS [] h0 n0 O0) e0 (g := (mkF m 18 #[.val (.int i0), .val (.int i1), .val (.int (3 : Int32)), .unset, .unset] [(.int (3 : Int32))])) rfl (by rw [hml]; rfl) (argsL := [(.int (3 : Int32))]) (rest := []) (lenOf pd10 rfl) rfl rfl (by show 2 * 0 + _ ≤ _; exact Nat.le_of_eq rfl) (hb hby at_18) (by decide) (by decide) (by decide) (by decide)
          obtain ⟨rfl, N1q, Kq1⟩ := hQ1
          have N1 := Fr.app N0 N1q
          have O1 : Old Z n0 T1.heap := O0.keep Kq1 all0
          have K1 : Keep h0 T1.heap [] := (Keep.refl h0 []).trans Kq1 all0
          obtain ⟨_, T2, L2, hQ2, X2, st2⟩ := own_callS X1 hx hZ (W := 0) hown (hw _ m40) (hw _ m41) (hw _ m7) (hw _ m42) (by decide) (rm13 l Z a0 hw w0 w1 w2 w3 w4 w5 w6 w7 w8 w9 w10 w11 w12 w13 w14 w15 w16 kw16 hS [] T1.heap n0 O1) (rfl : T1.heap = T1.heap) (g := (mkF m 23 #[.val (.int i0), .val (.int i1), .val (.int (3 : Int32)), .val (.ref w0), .unset] [(.int (3 : Int32))])) rfl (by rw [hml]; rfl) (argsL := [(.int (3 : Int32))]) (rest := []) (lenOf pd10 rfl) rfl rfl (by show 2 * 0 + _ ≤ _; exact Nat.le_of_eq rfl) (hb hby at_23) (by decide) (by decide) (by decide) (by decide)
          obtain ⟨rfl, N2q, e2⟩ := hQ2
          have N2 := Fr.app N1 N2q
          have e2' : T2.heap = T1.heap := e2
          obtain ⟨_, T3, L3, hQ3, X3, st3⟩ := own_virtual X2 hx hZ (W := 0) hown (hw _ m45) (hw _ m46) (notFace_of_selects (args := #[]) (mvT hZ (hw _ m48))) (hw _ m48) (hw _ m47) (hw _ m7) (hw _ m49) (by decide) (rm14 l Z a0 hw w0 w1 w2 w3 w4 w5 w6 w7 w8 w9 w10 w11 w12 w13 w14 w15 w16 kw16 hS [] T1.heap n0 O1) e2' (hS.2.1.ext O1.2) (g := (mkF m 51 #[.val (.int i0), .val (.int i1), .val (.int (3 : Int32)), .val (.ref w0), .val (.ref w0)] [(.ref w0)])) rfl (by rw [hml]; rfl) (argsL := []) (rest := []) (lenOf pd137 rfl) rfl rfl (by show 2 * 0 + _ ≤ _; exact Nat.le_of_eq rfl) (hb hby at_51) (by decide) (by decide) (by decide) (by decide)
          obtain ⟨rfl, N3q, e3⟩ := hQ3
          have N3 := Fr.app N2 N3q
          have e3' : T3.heap = T1.heap := e3
          obtain ⟨fs, hr, hrun, hended, hW, hsame⟩ := X3.leave (v := some (.int (1 : Int32))) (fun h => by rw [Bd.returns] at h; cases h)
          refine ⟨_, _, pre2 _ ?_, hrun, hended, _, _, rfl, ?_, ⟨_, rfl⟩, hW, hsame.mono (by decide) (by decide)⟩
          · show Steps p.tables e below (s₁.setTop (mkF m 6 #[.val (.int i0), .val (.int i1), .unset, .unset, .unset] [])) _
            refine Own.iloadN X0.here hx rfl (hb hby at_6) rfl hp3 ?_
            refine XS.goto X0.here hx rfl (pc0 := 7) (pc' := 16) rfl (hb hby at_7) (by decide) (by decide) ?_
            refine XS.istoreN X0.here hx rfl (hb hby at_16) rfl (l' := #[.val (.int i0), .val (.int i1), .val (.int (3 : Int32)), .unset, .unset]) rfl ?_
            refine XS.iloadN X0.here hx rfl (hb hby at_17) rfl ?_
            show Steps p.tables e below (s₁.setTop (mkF m 18 #[.val (.int i0), .val (.int i1), .val (.int (3 : Int32)), .unset, .unset] [(.int (3 : Int32))])) _
            refine st1 _ ?_
            refine XS.astoreN X1.here hx rfl (hb hby at_21) rfl rfl (l' := #[.val (.int i0), .val (.int i1), .val (.int (3 : Int32)), .val (.ref w0), .unset]) rfl ?_
            refine XS.iloadN X1.here hx rfl (hb hby at_22) rfl ?_
            refine st2 _ ?_
            show Steps p.tables e below (T2.setTop (mkF m 26 #[.val (.int i0), .val (.int i1), .val (.int (3 : Int32)), .val (.ref w0), .unset] [(.ref w0)])) _
            refine XS.astore X2.here hx rfl (hb hby at_26) rfl rfl (l' := #[.val (.int i0), .val (.int i1), .val (.int (3 : Int32)), .val (.ref w0), .val (.ref w0)]) rfl ?_
            refine XS.aloadN X2.here hx rfl (hb hby at_28) rfl rfl ?_
            refine XS.ifnonnullYes X2.here hx rfl (pc0 := 29) (pc' := 43) rfl (hb hby at_29) rfl (by decide) (by decide) ?_
            refine XS.aload X2.here hx rfl (hb hby at_43) rfl rfl ?_
            show Steps p.tables e below (T2.setTop (mkF m 45 #[.val (.int i0), .val (.int i1), .val (.int (3 : Int32)), .val (.ref w0), .val (.ref w0)] [(.ref w0)])) _
            refine XS.aloadN X2.here hx rfl (hb hby at_45) rfl rfl ?_
            refine Jvm.RoadKit.acmp (g := (mkF m 46 #[.val (.int i0), .val (.int i1), .val (.int (3 : Int32)), .val (.ref w0), .val (.ref w0)] [(.ref w0), (.ref w0)])) X2 hx rfl rfl rfl (pc0 := 46) (pc' := 49) (same := true) rfl (hb hby at_46) rfl (decide_eq_true rfl) (by decide) (by decide) ?_
            refine XS.aload X2.here hx rfl (hb hby at_49) rfl rfl ?_
            refine st3 _ ?_
            show Steps p.tables e below (T3.setTop (mkF m 54 #[.val (.int i0), .val (.int i1), .val (.int (3 : Int32)), .val (.ref w0), .val (.ref w0)] [(.int (3 : Int32))])) _
            refine XS.iloadN X3.here hx rfl (hb hby at_54) rfl ?_
            refine XS.icmpNo X3.here hx rfl (hb hby at_55) rfl (teq (by decide : (3 : Int32) = (3 : Int32))).2 ?_
            refine XS.iconst X3.here hx rfl (hb hby at_58) ?_
            refine XS.goto X3.here hx rfl (pc0 := 59) (pc' := 63) rfl (hb hby at_59) (by decide) (by decide) ?_
            show Steps p.tables e below (T3.setTop (mkF m 63 #[.val (.int i0), .val (.int i1), .val (.int (3 : Int32)), .val (.ref w0), .val (.ref w0)] [(.int (1 : Int32))])) _
            exact retN X3 hx (t := .boolean) Bd.returns (by simp) (hb hby at_63) hr
          · show QL n0 _ T3.heap _
            exact ⟨rfl, N3⟩
        · obtain ⟨_, T1, L1, hQ1, X1, st1⟩ := own_callS X0 hx hZ (W := 0) hown (hw _ m0) (hw _ m1) (hw _ m2) (hw _ m3) (by decide) (rm15 l Z a0 hw w0 w1 w2 w3 w4 w5 w6 w7 w8 w9 w10 w11 w12 w13 w14 w15 w16 kw16 hS [] h0 n0 O0) e0 (g := (mkF m 18 #[.val (.int i0), .val (.int i1), .val (.int (4 : Int32)), .unset, .unset] [(.int (4 : Int32))])) rfl (by rw [hml]; rfl) (argsL := [(.int (4 : Int32))]) (rest := []) (lenOf pd10 rfl) rfl rfl (by show 2 * 0 + _ ≤ _; exact Nat.le_of_eq rfl) (hb hby at_18) (by decide) (by decide) (by decide) (by decide)
          obtain ⟨rfl, N1q, Kq1⟩ := hQ1
          have N1 := Fr.app N0 N1q
          have O1 : Old Z n0 T1.heap := O0.keep Kq1 all0
          have K1 : Keep h0 T1.heap [] := (Keep.refl h0 []).trans Kq1 all0
          obtain ⟨_, T2, L2, hQ2, X2, st2⟩ := own_callS X1 hx hZ (W := 0) hown (hw _ m40) (hw _ m41) (hw _ m7) (hw _ m42) (by decide) (rm16 l Z a0 hw w0 w1 w2 w3 w4 w5 w6 w7 w8 w9 w10 w11 w12 w13 w14 w15 w16 kw16 hS [] T1.heap n0 O1) (rfl : T1.heap = T1.heap) (g := (mkF m 23 #[.val (.int i0), .val (.int i1), .val (.int (4 : Int32)), .val .null, .unset] [(.int (4 : Int32))])) rfl (by rw [hml]; rfl) (argsL := [(.int (4 : Int32))]) (rest := []) (lenOf pd10 rfl) rfl rfl (by show 2 * 0 + _ ≤ _; exact Nat.le_of_eq rfl) (hb hby at_23) (by decide) (by decide) (by decide) (by decide)
          obtain ⟨rfl, N2q, e2⟩ := hQ2
          have N2 := Fr.app N1 N2q
          have e2' : T2.heap = T1.heap := e2
          obtain ⟨fs, hr, hrun, hended, hW, hsame⟩ := X2.leave (v := some (.int (1 : Int32))) (fun h => by rw [Bd.returns] at h; cases h)
          refine ⟨_, _, pre2 _ ?_, hrun, hended, _, _, rfl, ?_, ⟨_, rfl⟩, hW, hsame.mono (by decide) (by decide)⟩
          · show Steps p.tables e below (s₁.setTop (mkF m 6 #[.val (.int i0), .val (.int i1), .unset, .unset, .unset] [])) _
            refine Own.iloadN X0.here hx rfl (hb hby at_6) rfl hp3 ?_
            refine XS.goto X0.here hx rfl (pc0 := 7) (pc' := 16) rfl (hb hby at_7) (by decide) (by decide) ?_
            refine XS.istoreN X0.here hx rfl (hb hby at_16) rfl (l' := #[.val (.int i0), .val (.int i1), .val (.int (4 : Int32)), .unset, .unset]) rfl ?_
            refine XS.iloadN X0.here hx rfl (hb hby at_17) rfl ?_
            show Steps p.tables e below (s₁.setTop (mkF m 18 #[.val (.int i0), .val (.int i1), .val (.int (4 : Int32)), .unset, .unset] [(.int (4 : Int32))])) _
            refine st1 _ ?_
            refine XS.astoreN X1.here hx rfl (hb hby at_21) rfl rfl (l' := #[.val (.int i0), .val (.int i1), .val (.int (4 : Int32)), .val .null, .unset]) rfl ?_
            refine XS.iloadN X1.here hx rfl (hb hby at_22) rfl ?_
            refine st2 _ ?_
            show Steps p.tables e below (T2.setTop (mkF m 26 #[.val (.int i0), .val (.int i1), .val (.int (4 : Int32)), .val .null, .unset] [.null])) _
            refine XS.astore X2.here hx rfl (hb hby at_26) rfl rfl (l' := #[.val (.int i0), .val (.int i1), .val (.int (4 : Int32)), .val .null, .val .null]) rfl ?_
            refine XS.aloadN X2.here hx rfl (hb hby at_28) rfl rfl ?_
            refine XS.ifnonnullNo X2.here hx rfl (hb hby at_29) rfl ?_
            refine XS.aload X2.here hx rfl (hb hby at_32) rfl rfl ?_
            show Steps p.tables e below (T2.setTop (mkF m 34 #[.val (.int i0), .val (.int i1), .val (.int (4 : Int32)), .val .null, .val .null] [.null])) _
            refine XS.ifnonnullNo X2.here hx rfl (hb hby at_34) rfl ?_
            refine XS.iconst X2.here hx rfl (hb hby at_37) ?_
            refine XS.goto X2.here hx rfl (pc0 := 38) (pc' := 42) rfl (hb hby at_38) (by decide) (by decide) ?_
            exact retN X2 hx (t := .boolean) Bd.returns (by simp) (hb hby at_42) hr
          · show QL n0 _ T2.heap _
            exact ⟨rfl, N2⟩
        · obtain ⟨_, T1, L1, hQ1, X1, st1⟩ := own_callS X0 hx hZ (W := 0) hown (hw _ m0) (hw _ m1) (hw _ m2) (hw _ m3) (by decide) (rm17 l Z a0 hw w0 w1 w2 w3 w4 w5 w6 w7 w8 w9 w10 w11 w12 w13 w14 w15 w16 kw16 hS [] h0 n0 O0) e0 (g := (mkF m 18 #[.val (.int i0), .val (.int i1), .val (.int (5 : Int32)), .unset, .unset] [(.int (5 : Int32))])) rfl (by rw [hml]; rfl) (argsL := [(.int (5 : Int32))]) (rest := []) (lenOf pd10 rfl) rfl rfl (by show 2 * 0 + _ ≤ _; exact Nat.le_of_eq rfl) (hb hby at_18) (by decide) (by decide) (by decide) (by decide)
          obtain ⟨rfl, N1q, Kq1⟩ := hQ1
          have N1 := Fr.app N0 N1q
          have O1 : Old Z n0 T1.heap := O0.keep Kq1 all0
          have K1 : Keep h0 T1.heap [] := (Keep.refl h0 []).trans Kq1 all0
          obtain ⟨_, T2, L2, hQ2, X2, st2⟩ := own_callS X1 hx hZ (W := 0) hown (hw _ m40) (hw _ m41) (hw _ m7) (hw _ m42) (by decide) (rm18 l Z a0 hw w0 w1 w2 w3 w4 w5 w6 w7 w8 w9 w10 w11 w12 w13 w14 w15 w16 kw16 hS [] T1.heap n0 O1) (rfl : T1.heap = T1.heap) (g := (mkF m 23 #[.val (.int i0), .val (.int i1), .val (.int (5 : Int32)), .val (.ref w8), .unset] [(.int (5 : Int32))])) rfl (by rw [hml]; rfl) (argsL := [(.int (5 : Int32))]) (rest := []) (lenOf pd10 rfl) rfl rfl (by show 2 * 0 + _ ≤ _; exact Nat.le_of_eq rfl) (hb hby at_23) (by decide) (by decide) (by decide) (by decide)
          obtain ⟨rfl, N2q, e2⟩ := hQ2
          have N2 := Fr.app N1 N2q
          have e2' : T2.heap = T1.heap := e2
          obtain ⟨_, T3, L3, hQ3, X3, st3⟩ := own_virtual X2 hx hZ (W := 0) hown (hw _ m45) (hw _ m46) (notFace_of_selects (args := #[]) (mvT hZ (hw _ m48))) (hw _ m48) (hw _ m47) (hw _ m7) (hw _ m49) (by decide) (rm19 l Z a0 hw w0 w1 w2 w3 w4 w5 w6 w7 w8 w9 w10 w11 w12 w13 w14 w15 w16 kw16 hS [] T1.heap n0 O1) e2' (hS.2.2.2.2.2.2.2.2.2.2.2.2.2.2.2.2.2.2.2.2.2.2.2.2.2.1.ext O1.2) (g := (mkF m 51 #[.val (.int i0), .val (.int i1), .val (.int (5 : Int32)), .val (.ref w8), .val (.ref w8)] [(.ref w8)])) rfl (by rw [hml]; rfl) (argsL := []) (rest := []) (lenOf pd137 rfl) rfl rfl (by show 2 * 0 + _ ≤ _; exact Nat.le_of_eq rfl) (hb hby at_51) (by decide) (by decide) (by decide) (by decide)
          obtain ⟨rfl, N3q, e3⟩ := hQ3
          have N3 := Fr.app N2 N3q
          have e3' : T3.heap = T1.heap := e3
          obtain ⟨fs, hr, hrun, hended, hW, hsame⟩ := X3.leave (v := some (.int (1 : Int32))) (fun h => by rw [Bd.returns] at h; cases h)
          refine ⟨_, _, pre2 _ ?_, hrun, hended, _, _, rfl, ?_, ⟨_, rfl⟩, hW, hsame.mono (by decide) (by decide)⟩
          · show Steps p.tables e below (s₁.setTop (mkF m 6 #[.val (.int i0), .val (.int i1), .unset, .unset, .unset] [])) _
            refine Own.iloadN X0.here hx rfl (hb hby at_6) rfl hp3 ?_
            refine XS.goto X0.here hx rfl (pc0 := 7) (pc' := 16) rfl (hb hby at_7) (by decide) (by decide) ?_
            refine XS.istoreN X0.here hx rfl (hb hby at_16) rfl (l' := #[.val (.int i0), .val (.int i1), .val (.int (5 : Int32)), .unset, .unset]) rfl ?_
            refine XS.iloadN X0.here hx rfl (hb hby at_17) rfl ?_
            show Steps p.tables e below (s₁.setTop (mkF m 18 #[.val (.int i0), .val (.int i1), .val (.int (5 : Int32)), .unset, .unset] [(.int (5 : Int32))])) _
            refine st1 _ ?_
            refine XS.astoreN X1.here hx rfl (hb hby at_21) rfl rfl (l' := #[.val (.int i0), .val (.int i1), .val (.int (5 : Int32)), .val (.ref w8), .unset]) rfl ?_
            refine XS.iloadN X1.here hx rfl (hb hby at_22) rfl ?_
            refine st2 _ ?_
            show Steps p.tables e below (T2.setTop (mkF m 26 #[.val (.int i0), .val (.int i1), .val (.int (5 : Int32)), .val (.ref w8), .unset] [(.ref w8)])) _
            refine XS.astore X2.here hx rfl (hb hby at_26) rfl rfl (l' := #[.val (.int i0), .val (.int i1), .val (.int (5 : Int32)), .val (.ref w8), .val (.ref w8)]) rfl ?_
            refine XS.aloadN X2.here hx rfl (hb hby at_28) rfl rfl ?_
            refine XS.ifnonnullYes X2.here hx rfl (pc0 := 29) (pc' := 43) rfl (hb hby at_29) rfl (by decide) (by decide) ?_
            refine XS.aload X2.here hx rfl (hb hby at_43) rfl rfl ?_
            show Steps p.tables e below (T2.setTop (mkF m 45 #[.val (.int i0), .val (.int i1), .val (.int (5 : Int32)), .val (.ref w8), .val (.ref w8)] [(.ref w8)])) _
            refine XS.aloadN X2.here hx rfl (hb hby at_45) rfl rfl ?_
            refine Jvm.RoadKit.acmp (g := (mkF m 46 #[.val (.int i0), .val (.int i1), .val (.int (5 : Int32)), .val (.ref w8), .val (.ref w8)] [(.ref w8), (.ref w8)])) X2 hx rfl rfl rfl (pc0 := 46) (pc' := 49) (same := true) rfl (hb hby at_46) rfl (decide_eq_true rfl) (by decide) (by decide) ?_
            refine XS.aload X2.here hx rfl (hb hby at_49) rfl rfl ?_
            refine st3 _ ?_
            show Steps p.tables e below (T3.setTop (mkF m 54 #[.val (.int i0), .val (.int i1), .val (.int (5 : Int32)), .val (.ref w8), .val (.ref w8)] [(.int (5 : Int32))])) _
            refine XS.iloadN X3.here hx rfl (hb hby at_54) rfl ?_
            refine XS.icmpNo X3.here hx rfl (hb hby at_55) rfl (teq (by decide : (5 : Int32) = (5 : Int32))).2 ?_
            refine XS.iconst X3.here hx rfl (hb hby at_58) ?_
            refine XS.goto X3.here hx rfl (pc0 := 59) (pc' := 63) rfl (hb hby at_59) (by decide) (by decide) ?_
            show Steps p.tables e below (T3.setTop (mkF m 63 #[.val (.int i0), .val (.int i1), .val (.int (5 : Int32)), .val (.ref w8), .val (.ref w8)] [(.int (1 : Int32))])) _
            exact retN X3 hx (t := .boolean) Bd.returns (by simp) (hb hby at_63) hr
          · show QL n0 _ T3.heap _
            exact ⟨rfl, N3⟩
        · obtain ⟨_, T1, L1, hQ1, X1, st1⟩ := own_callS X0 hx hZ (W := 0) hown (hw _ m0) (hw _ m1) (hw _ m2) (hw _ m3) (by decide) (rm20 l Z a0 hw w0 w1 w2 w3 w4 w5 w6 w7 w8 w9 w10 w11 w12 w13 w14 w15 w16 kw16 hS [] h0 n0 O0) e0 (g := (mkF m 18 #[.val (.int i0), .val (.int i1), .val (.int (6 : Int32)), .unset, .unset] [(.int (6 : Int32))])) rfl (by rw [hml]; rfl) (argsL := [(.int (6 : Int32))]) (rest := []) (lenOf pd10 rfl) rfl rfl (by show 2 * 0 + _ ≤ _; exact Nat.le_of_eq rfl) (hb hby at_18) (by decide) (by decide) (by decide) (by decide)
          obtain ⟨rfl, N1q, Kq1⟩ := hQ1
          have N1 := Fr.app N0 N1q
          have O1 : Old Z n0 T1.heap := O0.keep Kq1 all0
          have K1 : Keep h0 T1.heap [] := (Keep.refl h0 []).trans Kq1 all0
          obtain ⟨_, T2, L2, hQ2, X2, st2⟩ := own_callS X1 hx hZ (W := 0) hown (hw _ m40) (hw _ m41) (hw _ m7) (hw _ m42) (by decide) (rm21 l Z a0 hw w0 w1 w2 w3 w4 w5 w6 w7 w8 w9 w10 w11 w12 w13 w14 w15 w16 kw16 hS [] T1.heap n0 O1) (rfl : T1.heap = T1.heap) (g := (mkF m 23 #[.val (.int i0), .val (.int i1), .val (.int (6 : Int32)), .val (.ref w15), .unset] [(.int (6 : Int32))])) rfl (by rw [hml]; rfl) (argsL := [(.int (6 : Int32))]) (rest := []) (lenOf pd10 rfl) rfl rfl (by show 2 * 0 + _ ≤ _; exact Nat.le_of_eq rfl) (hb hby at_23) (by decide) (by decide) (by decide) (by decide)
          obtain ⟨rfl, N2q, e2⟩ := hQ2
          have N2 := Fr.app N1 N2q
          have e2' : T2.heap = T1.heap := e2
          obtain ⟨_, T3, L3, hQ3, X3, st3⟩ := own_virtual X2 hx hZ (W := 0) hown (hw _ m45) (hw _ m46) (notFace_of_selects (args := #[]) (mvT hZ (hw _ m48))) (hw _ m48) (hw _ m47) (hw _ m7) (hw _ m49) (by decide) (rm22 l Z a0 hw w0 w1 w2 w3 w4 w5 w6 w7 w8 w9 w10 w11 w12 w13 w14 w15 w16 kw16 hS [] T1.heap n0 O1) e2' (hS.2.2.2.2.2.2.2.2.2.2.2.2.2.2.2.2.2.2.2.2.2.2.2.2.2.2.2.2.2.2.2.2.2.2.2.2.2.2.2.2.2.2.2.2.2.2.1.ext O1.2) (g := (mkF m 51 #[.val (.int i0), .val (.int i1), .val (.int (6 : Int32)), .val (.ref w15), .val (.ref w15)] [(.ref w15)])) rfl (by rw [hml]; rfl) (argsL := []) (rest := []) (lenOf pd137 rfl) rfl rfl (by show 2 * 0 + _ ≤ _; exact Nat.le_of_eq rfl) (hb hby at_51) (by decide) (by decide) (by decide) (by decide)
          obtain ⟨rfl, N3q, e3⟩ := hQ3
          have N3 := Fr.app N2 N3q
          have e3' : T3.heap = T1.heap := e3
          obtain ⟨fs, hr, hrun, hended, hW, hsame⟩ := X3.leave (v := some (.int (1 : Int32))) (fun h => by rw [Bd.returns] at h; cases h)
          refine ⟨_, _, pre2 _ ?_, hrun, hended, _, _, rfl, ?_, ⟨_, rfl⟩, hW, hsame.mono (by decide) (by decide)⟩
          · show Steps p.tables e below (s₁.setTop (mkF m 6 #[.val (.int i0), .val (.int i1), .unset, .unset, .unset] [])) _
            refine Own.iloadN X0.here hx rfl (hb hby at_6) rfl hp3 ?_
            refine XS.goto X0.here hx rfl (pc0 := 7) (pc' := 16) rfl (hb hby at_7) (by decide) (by decide) ?_
            refine XS.istoreN X0.here hx rfl (hb hby at_16) rfl (l' := #[.val (.int i0), .val (.int i1), .val (.int (6 : Int32)), .unset, .unset]) rfl ?_
            refine XS.iloadN X0.here hx rfl (hb hby at_17) rfl ?_
            show Steps p.tables e below (s₁.setTop (mkF m 18 #[.val (.int i0), .val (.int i1), .val (.int (6 : Int32)), .unset, .unset] [(.int (6 : Int32))])) _
            refine st1 _ ?_
            refine XS.astoreN X1.here hx rfl (hb hby at_21) rfl rfl (l' := #[.val (.int i0), .val (.int i1), .val (.int (6 : Int32)), .val (.ref w15), .unset]) rfl ?_
            refine XS.iloadN X1.here hx rfl (hb hby at_22) rfl ?_
            refine st2 _ ?_
            show Steps p.tables e below (T2.setTop (mkF m 26 #[.val (.int i0), .val (.int i1), .val (.int (6 : Int32)), .val (.ref w15), .unset] [(.ref w15)])) _
            refine XS.astore X2.here hx rfl (hb hby at_26) rfl rfl (l' := #[.val (.int i0), .val (.int i1), .val (.int (6 : Int32)), .val (.ref w15), .val (.ref w15)]) rfl ?_
            refine XS.aloadN X2.here hx rfl (hb hby at_28) rfl rfl ?_
            refine XS.ifnonnullYes X2.here hx rfl (pc0 := 29) (pc' := 43) rfl (hb hby at_29) rfl (by decide) (by decide) ?_
            refine XS.aload X2.here hx rfl (hb hby at_43) rfl rfl ?_
            show Steps p.tables e below (T2.setTop (mkF m 45 #[.val (.int i0), .val (.int i1), .val (.int (6 : Int32)), .val (.ref w15), .val (.ref w15)] [(.ref w15)])) _
            refine XS.aloadN X2.here hx rfl (hb hby at_45) rfl rfl ?_
            refine Jvm.RoadKit.acmp (g := (mkF m 46 #[.val (.int i0), .val (.int i1), .val (.int (6 : Int32)), .val (.ref w15), .val (.ref w15)] [(.ref w15), (.ref w15)])) X2 hx rfl rfl rfl (pc0 := 46) (pc' := 49) (same := true) rfl (hb hby at_46) rfl (decide_eq_true rfl) (by decide) (by decide) ?_
            refine XS.aload X2.here hx rfl (hb hby at_49) rfl rfl ?_
            refine st3 _ ?_
            show Steps p.tables e below (T3.setTop (mkF m 54 #[.val (.int i0), .val (.int i1), .val (.int (6 : Int32)), .val (.ref w15), .val (.ref w15)] [(.int (6 : Int32))])) _
            refine XS.iloadN X3.here hx rfl (hb hby at_54) rfl ?_
            refine XS.icmpNo X3.here hx rfl (hb hby at_55) rfl (teq (by decide : (6 : Int32) = (6 : Int32))).2 ?_
            refine XS.iconst X3.here hx rfl (hb hby at_58) ?_
            refine XS.goto X3.here hx rfl (pc0 := 59) (pc' := 63) rfl (hb hby at_59) (by decide) (by decide) ?_
            show Steps p.tables e below (T3.setTop (mkF m 63 #[.val (.int i0), .val (.int i1), .val (.int (6 : Int32)), .val (.ref w15), .val (.ref w15)] [(.int (1 : Int32))])) _
            exact retN X3 hx (t := .boolean) Bd.returns (by simp) (hb hby at_63) hr
          · show QL n0 _ T3.heap _
            exact ⟨rfl, N3⟩
        · obtain ⟨_, T1, L1, hQ1, X1, st1⟩ := own_callS X0 hx hZ (W := 0) hown (hw _ m0) (hw _ m1) (hw _ m2) (hw _ m3) (by decide) (rm23 l Z a0 hw w0 w1 w2 w3 w4 w5 w6 w7 w8 w9 w10 w11 w12 w13 w14 w15 w16 kw16 hS [] h0 n0 O0) e0 (g := (mkF m 18 #[.val (.int i0), .val (.int i1), .val (.int (7 : Int32)), .unset, .unset] [(.int (7 : Int32))])) rfl (by rw [hml]; rfl) (argsL := [(.int (7 : Int32))]) (rest := []) (lenOf pd10 rfl) rfl rfl (by show 2 * 0 + _ ≤ _; exact Nat.le_of_eq rfl) (hb hby at_18) (by decide) (by decide) (by decide) (by decide)
          obtain ⟨rfl, N1q, Kq1⟩ := hQ1
          have N1 := Fr.app N0 N1q
          have O1 : Old Z n0 T1.heap := O0.keep Kq1 all0
          have K1 : Keep h0 T1.heap [] := (Keep.refl h0 []).trans Kq1 all0
          obtain ⟨_, T2, L2, hQ2, X2, st2⟩ := own_callS X1 hx hZ (W := 0) hown (hw _ m40) (hw _ m41) (hw _ m7) (hw _ m42) (by decide) (rm24 l Z a0 hw w0 w1 w2 w3 w4 w5 w6 w7 w8 w9 w10 w11 w12 w13 w14 w15 w16 kw16 hS [] T1.heap n0 O1) (rfl : T1.heap = T1.heap) (g := (mkF m 23 #[.val (.int i0), .val (.int i1), .val (.int (7 : Int32)), .val (.ref w10), .unset] [(.int (7 : Int32))])) rfl (by rw [hml]; rfl) (argsL := [(.int (7 : Int32))]) (rest := []) (lenOf pd10 rfl) rfl rfl (by show 2 * 0 + _ ≤ _; exact Nat.le_of_eq rfl) (hb hby at_23) (by decide) (by decide) (by decide) (by decide)
          obtain ⟨rfl, N2q, e2⟩ := hQ2
          have N2 := Fr.app N1 N2q
          have e2' : T2.heap = T1.heap := e2
          obtain ⟨_, T3, L3, hQ3, X3, st3⟩ := own_virtual X2 hx hZ (W := 0) hown (hw _ m45) (hw _ m46) (notFace_of_selects (args := #[]) (mvT hZ (hw _ m48))) (hw _ m48) (hw _ m47) (hw _ m7) (hw _ m49) (by decide) (rm25 l Z a0 hw w0 w1 w2 w3 w4 w5 w6 w7 w8 w9 w10 w11 w12 w13 w14 w15 w16 kw16 hS [] T1.heap n0 O1) e2' (hS.2.2.2.2.2.2.2.2.2.2.2.2.2.2.2.2.2.2.2.2.2.2.2.2.2.2.2.2.2.2.2.1.ext O1.2) (g := (mkF m 51 #[.val (.int i0), .val (.int i1), .val (.int (7 : Int32)), .val (.ref w10), .val (.ref w10)] [(.ref w10)])) rfl (by rw [hml]; rfl) (argsL := []) (rest := []) (lenOf pd137 rfl) rfl rfl (by show 2 * 0 + _ ≤ _; exact Nat.le_of_eq rfl) (hb hby at_51) (by decide) (by decide) (by decide) (by decide)
          obtain ⟨rfl, N3q, e3⟩ := hQ3
          have N3 := Fr.app N2 N3q
          have e3' : T3.heap = T1.heap := e3
          obtain ⟨fs, hr, hrun, hended, hW, hsame⟩ := X3.leave (v := some (.int (1 : Int32))) (fun h => by rw [Bd.returns] at h; cases h)
          refine ⟨_, _, pre2 _ ?_, hrun, hended, _, _, rfl, ?_, ⟨_, rfl⟩, hW, hsame.mono (by decide) (by decide)⟩
          · show Steps p.tables e below (s₁.setTop (mkF m 6 #[.val (.int i0), .val (.int i1), .unset, .unset, .unset] [])) _
            refine Own.iloadN X0.here hx rfl (hb hby at_6) rfl hp3 ?_
            refine XS.goto X0.here hx rfl (pc0 := 7) (pc' := 16) rfl (hb hby at_7) (by decide) (by decide) ?_
            refine XS.istoreN X0.here hx rfl (hb hby at_16) rfl (l' := #[.val (.int i0), .val (.int i1), .val (.int (7 : Int32)), .unset, .unset]) rfl ?_
            refine XS.iloadN X0.here hx rfl (hb hby at_17) rfl ?_
            show Steps p.tables e below (s₁.setTop (mkF m 18 #[.val (.int i0), .val (.int i1), .val (.int (7 : Int32)), .unset, .unset] [(.int (7 : Int32))])) _
            refine st1 _ ?_
            refine XS.astoreN X1.here hx rfl (hb hby at_21) rfl rfl (l' := #[.val (.int i0), .val (.int i1), .val (.int (7 : Int32)), .val (.ref w10), .unset]) rfl ?_
            refine XS.iloadN X1.here hx rfl (hb hby at_22) rfl ?_
            refine st2 _ ?_
            show Steps p.tables e below (T2.setTop (mkF m 26 #[.val (.int i0), .val (.int i1), .val (.int (7 : Int32)), .val (.ref w10), .unset] [(.ref w10)])) _
            refine XS.astore X2.here hx rfl (hb hby at_26) rfl rfl (l' := #[.val (.int i0), .val (.int i1), .val (.int (7 : Int32)), .val (.ref w10), .val (.ref w10)]) rfl ?_
            refine XS.aloadN X2.here hx rfl (hb hby at_28) rfl rfl ?_
            refine XS.ifnonnullYes X2.here hx rfl (pc0 := 29) (pc' := 43) rfl (hb hby at_29) rfl (by decide) (by decide) ?_
            refine XS.aload X2.here hx rfl (hb hby at_43) rfl rfl ?_
            show Steps p.tables e below (T2.setTop (mkF m 45 #[.val (.int i0), .val (.int i1), .val (.int (7 : Int32)), .val (.ref w10), .val (.ref w10)] [(.ref w10)])) _
            refine XS.aloadN X2.here hx rfl (hb hby at_45) rfl rfl ?_
            refine Jvm.RoadKit.acmp (g := (mkF m 46 #[.val (.int i0), .val (.int i1), .val (.int (7 : Int32)), .val (.ref w10), .val (.ref w10)] [(.ref w10), (.ref w10)])) X2 hx rfl rfl rfl (pc0 := 46) (pc' := 49) (same := true) rfl (hb hby at_46) rfl (decide_eq_true rfl) (by decide) (by decide) ?_
            refine XS.aload X2.here hx rfl (hb hby at_49) rfl rfl ?_
            refine st3 _ ?_
            show Steps p.tables e below (T3.setTop (mkF m 54 #[.val (.int i0), .val (.int i1), .val (.int (7 : Int32)), .val (.ref w10), .val (.ref w10)] [(.int (7 : Int32))])) _
            refine XS.iloadN X3.here hx rfl (hb hby at_54) rfl ?_
            refine XS.icmpNo X3.here hx rfl (hb hby at_55) rfl (teq (by decide : (7 : Int32) = (7 : Int32))).2 ?_
            refine XS.iconst X3.here hx rfl (hb hby at_58) ?_
            refine XS.goto X3.here hx rfl (pc0 := 59) (pc' := 63) rfl (hb hby at_59) (by decide) (by decide) ?_
            show Steps p.tables e below (T3.setTop (mkF m 63 #[.val (.int i0), .val (.int i1), .val (.int (7 : Int32)), .val (.ref w10), .val (.ref w10)] [(.int (1 : Int32))])) _
            exact retN X3 hx (t := .boolean) Bd.returns (by simp) (hb hby at_63) hr
          · show QL n0 _ T3.heap _
            exact ⟨rfl, N3⟩
        · obtain ⟨_, T1, L1, hQ1, X1, st1⟩ := own_callS X0 hx hZ (W := 0) hown (hw _ m0) (hw _ m1) (hw _ m2) (hw _ m3) (by decide) (rm26 l Z a0 hw w0 w1 w2 w3 w4 w5 w6 w7 w8 w9 w10 w11 w12 w13 w14 w15 w16 kw16 hS [] h0 n0 O0) e0 (g := (mkF m 18 #[.val (.int i0), .val (.int i1), .val (.int (8 : Int32)), .unset, .unset] [(.int (8 : Int32))])) rfl (by rw [hml]; rfl) (argsL := [(.int (8 : Int32))]) (rest := []) (lenOf pd10 rfl) rfl rfl (by show 2 * 0 + _ ≤ _; exact Nat.le_of_eq rfl) (hb hby at_18) (by decide) (by decide) (by decide) (by decide)
          obtain ⟨rfl, N1q, Kq1⟩ := hQ1
          have N1 := Fr.app N0 N1q
          have O1 : Old Z n0 T1.heap := O0.keep Kq1 all0
          have K1 : Keep h0 T1.heap [] := (Keep.refl h0 []).trans Kq1 all0
          obtain ⟨_, T2, L2, hQ2, X2, st2⟩ := own_callS X1 hx hZ (W := 0) hown (hw _ m40) (hw _ m41) (hw _ m7) (hw _ m42) (by decide) (rm27 l Z a0 hw w0 w1 w2 w3 w4 w5 w6 w7 w8 w9 w10 w11 w12 w13 w14 w15 w16 kw16 hS [] T1.heap n0 O1) (rfl : T1.heap = T1.heap) (g := (mkF m 23 #[.val (.int i0), .val (.int i1), .val (.int (8 : Int32)), .val (.ref w13), .unset] [(.int (8 : Int32))])) rfl (by rw [hml]; rfl) (argsL := [(.int (8 : Int32))]) (rest := []) (lenOf pd10 rfl) rfl rfl (by show 2 * 0 + _ ≤ _; exact Nat.le_of_eq rfl) (hb hby at_23) (by decide) (by decide) (by decide) (by decide)
          obtain ⟨rfl, N2q, e2⟩ := hQ2
          have N2 := Fr.app N1 N2q
          have e2' : T2.heap = T1.heap := e2
          obtain ⟨_, T3, L3, hQ3, X3, st3⟩ := own_virtual X2 hx hZ (W := 0) hown (hw _ m45) (hw _ m46) (notFace_of_selects (args := #[]) (mvT hZ (hw _ m48))) (hw _ m48) (hw _ m47) (hw _ m7) (hw _ m49) (by decide) (rm28 l Z a0 hw w0 w1 w2 w3 w4 w5 w6 w7 w8 w9 w10 w11 w12 w13 w14 w15 w16 kw16 hS [] T1.heap n0 O1) e2' (hS.2.2.2.2.2.2.2.2.2.2.2.2.2.2.2.2.2.2.2.2.2.2.2.2.2.2.2.2.2.2.2.2.2.2.2.2.2.2.2.2.1.ext O1.2) (g := (mkF m 51 #[.val (.int i0), .val (.int i1), .val (.int (8 : Int32)), .val (.ref w13), .val (.ref w13)] [(.ref w13)])) rfl (by rw [hml]; rfl) (argsL := []) (rest := []) (lenOf pd137 rfl) rfl rfl (by show 2 * 0 + _ ≤ _; exact Nat.le_of_eq rfl) (hb hby at_51) (by decide) (by decide) (by decide) (by decide)
          obtain ⟨rfl, N3q, e3⟩ := hQ3
          have N3 := Fr.app N2 N3q
          have e3' : T3.heap = T1.heap := e3
          obtain ⟨fs, hr, hrun, hended, hW, hsame⟩ := X3.leave (v := some (.int (1 : Int32))) (fun h => by rw [Bd.returns] at h; cases h)
          refine ⟨_, _, pre2 _ ?_, hrun, hended, _, _, rfl, ?_, ⟨_, rfl⟩, hW, hsame.mono (by decide) (by decide)⟩
          · show Steps p.tables e below (s₁.setTop (mkF m 6 #[.val (.int i0), .val (.int i1), .unset, .unset, .unset] [])) _
            refine Own.iloadN X0.here hx rfl (hb hby at_6) rfl hp3 ?_
            refine XS.goto X0.here hx rfl (pc0 := 7) (pc' := 16) rfl (hb hby at_7) (by decide) (by decide) ?_
            refine XS.istoreN X0.here hx rfl (hb hby at_16) rfl (l' := #[.val (.int i0), .val (.int i1), .val (.int (8 : Int32)), .unset, .unset]) rfl ?_
            refine XS.iloadN X0.here hx rfl (hb hby at_17) rfl ?_
            show Steps p.tables e below (s₁.setTop (mkF m 18 #[.val (.int i0), .val (.int i1), .val (.int (8 : Int32)), .unset, .unset] [(.int (8 : Int32))])) _
            refine st1 _ ?_
            refine XS.astoreN X1.here hx rfl (hb hby at_21) rfl rfl (l' := #[.val (.int i0), .val (.int i1), .val (.int (8 : Int32)), .val (.ref w13), .unset]) rfl ?_
            refine XS.iloadN X1.here hx rfl (hb hby at_22) rfl ?_
            refine st2 _ ?_
            show Steps p.tables e below (T2.setTop (mkF m 26 #[.val (.int i0), .val (.int i1), .val (.int (8 : Int32)), .val (.ref w13), .unset] [(.ref w13)])) _
            refine XS.astore X2.here hx rfl (hb hby at_26) rfl rfl (l' := #[.val (.int i0), .val (.int i1), .val (.int (8 : Int32)), .val (.ref w13), .val (.ref w13)]) rfl ?_
            refine XS.aloadN X2.here hx rfl (hb hby at_28) rfl rfl ?_
            refine XS.ifnonnullYes X2.here hx rfl (pc0 := 29) (pc' := 43) rfl (hb hby at_29) rfl (by decide) (by decide) ?_
            refine XS.aload X2.here hx rfl (hb hby at_43) rfl rfl ?_
            show Steps p.tables e below (T2.setTop (mkF m 45 #[.val (.int i0), .val (.int i1), .val (.int (8 : Int32)), .val (.ref w13), .val (.ref w13)] [(.ref w13)])) _
            refine XS.aloadN X2.here hx rfl (hb hby at_45) rfl rfl ?_
            refine Jvm.RoadKit.acmp (g := (mkF m 46 #[.val (.int i0), .val (.int i1), .val (.int (8 : Int32)), .val (.ref w13), .val (.ref w13)] [(.ref w13), (.ref w13)])) X2 hx rfl rfl rfl (pc0 := 46) (pc' := 49) (same := true) rfl (hb hby at_46) rfl (decide_eq_true rfl) (by decide) (by decide) ?_
            refine XS.aload X2.here hx rfl (hb hby at_49) rfl rfl ?_
            refine st3 _ ?_
            show Steps p.tables e below (T3.setTop (mkF m 54 #[.val (.int i0), .val (.int i1), .val (.int (8 : Int32)), .val (.ref w13), .val (.ref w13)] [(.int (8 : Int32))])) _
            refine XS.iloadN X3.here hx rfl (hb hby at_54) rfl ?_
            refine XS.icmpNo X3.here hx rfl (hb hby at_55) rfl (teq (by decide : (8 : Int32) = (8 : Int32))).2 ?_
            refine XS.iconst X3.here hx rfl (hb hby at_58) ?_
            refine XS.goto X3.here hx rfl (pc0 := 59) (pc' := 63) rfl (hb hby at_59) (by decide) (by decide) ?_
            show Steps p.tables e below (T3.setTop (mkF m 63 #[.val (.int i0), .val (.int i1), .val (.int (8 : Int32)), .val (.ref w13), .val (.ref w13)] [(.int (1 : Int32))])) _
            exact retN X3 hx (t := .boolean) Bd.returns (by simp) (hb hby at_63) hr
          · show QL n0 _ T3.heap _
            exact ⟨rfl, N3⟩
        · obtain ⟨_, T1, L1, hQ1, X1, st1⟩ := own_callS X0 hx hZ (W := 0) hown (hw _ m0) (hw _ m1) (hw _ m2) (hw _ m3) (by decide) (rm29 l Z a0 hw w0 w1 w2 w3 w4 w5 w6 w7 w8 w9 w10 w11 w12 w13 w14 w15 w16 kw16 hS [] h0 n0 O0) e0 (g := (mkF m 18 #[.val (.int i0), .val (.int i1), .val (.int (9 : Int32)), .unset, .unset] [(.int (9 : Int32))])) rfl (by rw [hml]; rfl) (argsL := [(.int (9 : Int32))]) (rest := []) (lenOf pd10 rfl) rfl rfl (by show 2 * 0 + _ ≤ _; exact Nat.le_of_eq rfl) (hb hby at_18) (by decide) (by decide) (by decide) (by decide)
          obtain ⟨rfl, N1q, Kq1⟩ := hQ1
          have N1 := Fr.app N0 N1q
          have O1 : Old Z n0 T1.heap := O0.keep Kq1 all0
          have K1 : Keep h0 T1.heap [] := (Keep.refl h0 []).trans Kq1 all0
          obtain ⟨_, T2, L2, hQ2, X2, st2⟩ := own_callS X1 hx hZ (W := 0) hown (hw _ m40) (hw _ m41) (hw _ m7) (hw _ m42) (by decide) (rm30 l Z a0 hw w0 w1 w2 w3 w4 w5 w6 w7 w8 w9 w10 w11 w12 w13 w14 w15 w16 kw16 hS [] T1.heap n0 O1) (rfl : T1.heap = T1.heap) (g := (mkF m 23 #[.val (.int i0), .val (.int i1), .val (.int (9 : Int32)), .val (.ref w9), .unset] [(.int (9 : Int32))])) rfl (by rw [hml]; rfl) (argsL := [(.int (9 : Int32))]) (rest := []) (lenOf pd10 rfl) rfl rfl (by show 2 * 0 + _ ≤ _; exact Nat.le_of_eq rfl) (hb hby at_23) (by decide) (by decide) (by decide) (by decide)
          obtain ⟨rfl, N2q, e2⟩ := hQ2
          have N2 := Fr.app N1 N2q
          have e2' : T2.heap = T1.heap := e2
          obtain ⟨_, T3, L3, hQ3, X3, st3⟩ := own_virtual X2 hx hZ (W := 0) hown (hw _ m45) (hw _ m46) (notFace_of_selects (args := #[]) (mvT hZ (hw _ m48))) (hw _ m48) (hw _ m47) (hw _ m7) (hw _ m49) (by decide) (rm31 l Z a0 hw w0 w1 w2 w3 w4 w5 w6 w7 w8 w9 w10 w11 w12 w13 w14 w15 w16 kw16 hS [] T1.heap n0 O1) e2' (hS.2.2.2.2.2.2.2.2.2.2.2.2.2.2.2.2.2.2.2.2.2.2.2.2.2.2.2.2.1.ext O1.2) (g := (mkF m 51 #[.val (.int i0), .val (.int i1), .val (.int (9 : Int32)), .val (.ref w9), .val (.ref w9)] [(.ref w9)])) rfl (by rw [hml]; rfl) (argsL := []) (rest := []) (lenOf pd137 rfl) rfl rfl (by show 2 * 0 + _ ≤ _; exact Nat.le_of_eq rfl) (hb hby at_51) (by decide) (by decide) (by decide) (by decide)
          obtain ⟨rfl, N3q, e3⟩ := hQ3
          have N3 := Fr.app N2 N3q
          have e3' : T3.heap = T1.heap := e3
          obtain ⟨fs, hr, hrun, hended, hW, hsame⟩ := X3.leave (v := some (.int (1 : Int32))) (fun h => by rw [Bd.returns] at h; cases h)
          refine ⟨_, _, pre2 _ ?_, hrun, hended, _, _, rfl, ?_, ⟨_, rfl⟩, hW, hsame.mono (by decide) (by decide)⟩
          · show Steps p.tables e below (s₁.setTop (mkF m 6 #[.val (.int i0), .val (.int i1), .unset, .unset, .unset] [])) _
            refine Own.iloadN X0.here hx rfl (hb hby at_6) rfl hp3 ?_
            refine XS.goto X0.here hx rfl (pc0 := 7) (pc' := 16) rfl (hb hby at_7) (by decide) (by decide) ?_
            refine XS.istoreN X0.here hx rfl (hb hby at_16) rfl (l' := #[.val (.int i0), .val (.int i1), .val (.int (9 : Int32)), .unset, .unset]) rfl ?_
            refine XS.iloadN X0.here hx rfl (hb hby at_17) rfl ?_
            show Steps p.tables e below (s₁.setTop (mkF m 18 #[.val (.int i0), .val (.int i1), .val (.int (9 : Int32)), .unset, .unset] [(.int (9 : Int32))])) _
            refine st1 _ ?_
            refine XS.astoreN X1.here hx rfl (hb hby at_21) rfl rfl (l' := #[.val (.int i0), .val (.int i1), .val (.int (9 : Int32)), .val (.ref w9), .unset]) rfl ?_
            refine XS.iloadN X1.here hx rfl (hb hby at_22) rfl ?_
            refine st2 _ ?_
            show Steps p.tables e below (T2.setTop (mkF m 26 #[.val (.int i0), .val (.int i1), .val (.int (9 : Int32)), .val (.ref w9), .unset] [(.ref w9)])) _
            refine XS.astore X2.here hx rfl (hb hby at_26) rfl rfl (l' := #[.val (.int i0), .val (.int i1), .val (.int (9 : Int32)), .val (.ref w9), .val (.ref w9)]) rfl ?_
            refine XS.aloadN X2.here hx rfl (hb hby at_28) rfl rfl ?_
            refine XS.ifnonnullYes X2.here hx rfl (pc0 := 29) (pc' := 43) rfl (hb hby at_29) rfl (by decide) (by decide) ?_
            refine XS.aload X2.here hx rfl (hb hby at_43) rfl rfl ?_
            show Steps p.tables e below (T2.setTop (mkF m 45 #[.val (.int i0), .val (.int i1), .val (.int (9 : Int32)), .val (.ref w9), .val (.ref w9)] [(.ref w9)])) _
            refine XS.aloadN X2.here hx rfl (hb hby at_45) rfl rfl ?_
            refine Jvm.RoadKit.acmp (g := (mkF m 46 #[.val (.int i0), .val (.int i1), .val (.int (9 : Int32)), .val (.ref w9), .val (.ref w9)] [(.ref w9), (.ref w9)])) X2 hx rfl rfl rfl (pc0 := 46) (pc' := 49) (same := true) rfl (hb hby at_46) rfl (decide_eq_true rfl) (by decide) (by decide) ?_
            refine XS.aload X2.here hx rfl (hb hby at_49) rfl rfl ?_
            refine st3 _ ?_
            show Steps p.tables e below (T3.setTop (mkF m 54 #[.val (.int i0), .val (.int i1), .val (.int (9 : Int32)), .val (.ref w9), .val (.ref w9)] [(.int (9 : Int32))])) _
            refine XS.iloadN X3.here hx rfl (hb hby at_54) rfl ?_
            refine XS.icmpNo X3.here hx rfl (hb hby at_55) rfl (teq (by decide : (9 : Int32) = (9 : Int32))).2 ?_
            refine XS.iconst X3.here hx rfl (hb hby at_58) ?_
            refine XS.goto X3.here hx rfl (pc0 := 59) (pc' := 63) rfl (hb hby at_59) (by decide) (by decide) ?_
            show Steps p.tables e below (T3.setTop (mkF m 63 #[.val (.int i0), .val (.int i1), .val (.int (9 : Int32)), .val (.ref w9), .val (.ref w9)] [(.int (1 : Int32))])) _
            exact retN X3 hx (t := .boolean) Bd.returns (by simp) (hb hby at_63) hr
          · show QL n0 _ T3.heap _
            exact ⟨rfl, N3⟩
        · obtain ⟨_, T1, L1, hQ1, X1, st1⟩ := own_callS X0 hx hZ (W := 0) hown (hw _ m0) (hw _ m1) (hw _ m2) (hw _ m3) (by decide) (rm32 l Z a0 hw w0 w1 w2 w3 w4 w5 w6 w7 w8 w9 w10 w11 w12 w13 w14 w15 w16 kw16 hS [] h0 n0 O0) e0 (g := (mkF m 18 #[.val (.int i0), .val (.int i1), .val (.int (10 : Int32)), .unset, .unset] [(.int (10 : Int32))])) rfl (by rw [hml]; rfl) (argsL := [(.int (10 : Int32))]) (rest := []) (lenOf pd10 rfl) rfl rfl (by show 2 * 0 + _ ≤ _; exact Nat.le_of_eq rfl) (hb hby at_18) (by decide) (by decide) (by decide) (by decide)
          obtain ⟨rfl, N1q, Kq1⟩ := hQ1
          have N1 := Fr.app N0 N1q
          have O1 : Old Z n0 T1.heap := O0.keep Kq1 all0
          have K1 : Keep h0 T1.heap [] := (Keep.refl h0 []).trans Kq1 all0
          obtain ⟨_, T2, L2, hQ2, X2, st2⟩ := own_callS X1 hx hZ (W := 0) hown (hw _ m40) (hw _ m41) (hw _ m7) (hw _ m42) (by decide) (rm33 l Z a0 hw w0 w1 w2 w3 w4 w5 w6 w7 w8 w9 w10 w11 w12 w13 w14 w15 w16 kw16 hS [] T1.heap n0 O1) (rfl : T1.heap = T1.heap) (g := (mkF m 23 #[.val (.int i0), .val (.int i1), .val (.int (10 : Int32)), .val (.ref w7), .unset] [(.int (10 : Int32))])) rfl (by rw [hml]; rfl) (argsL := [(.int (10 : Int32))]) (rest := []) (lenOf pd10 rfl) rfl rfl (by show 2 * 0 + _ ≤ _; exact Nat.le_of_eq rfl) (hb hby at_23) (by decide) (by decide) (by decide) (by decide)
          obtain ⟨rfl, N2q, e2⟩ := hQ2
          have N2 := Fr.app N1 N2q
          have e2' : T2.heap = T1.heap := e2
          obtain ⟨_, T3, L3, hQ3, X3, st3⟩ := own_virtual X2 hx hZ (W := 0) hown (hw _ m45) (hw _ m46) (notFace_of_selects (args := #[]) (mvT hZ (hw _ m48))) (hw _ m48) (hw _ m47) (hw _ m7) (hw _ m49) (by decide) (rm34 l Z a0 hw w0 w1 w2 w3 w4 w5 w6 w7 w8 w9 w10 w11 w12 w13 w14 w15 w16 kw16 hS [] T1.heap n0 O1) e2' (hS.2.2.2.2.2.2.2.2.2.2.2.2.2.2.2.2.2.2.2.2.2.2.1.ext O1.2) (g := (mkF m 51 #[.val (.int i0), .val (.int i1), .val (.int (10 : Int32)), .val (.ref w7), .val (.ref w7)] [(.ref w7)])) rfl (by rw [hml]; rfl) (argsL := []) (rest := []) (lenOf pd137 rfl) rfl rfl (by show 2 * 0 + _ ≤ _; exact Nat.le_of_eq rfl) (hb hby at_51) (by decide) (by decide) (by decide) (by decide)
          obtain ⟨rfl, N3q, e3⟩ := hQ3
          have N3 := Fr.app N2 N3q
          have e3' : T3.heap = T1.heap := e3
          obtain ⟨fs, hr, hrun, hended, hW, hsame⟩ := X3.leave (v := some (.int (1 : Int32))) (fun h => by rw [Bd.returns] at h; cases h)
          refine ⟨_, _, pre2 _ ?_, hrun, hended, _, _, rfl, ?_, ⟨_, rfl⟩, hW, hsame.mono (by decide) (by decide)⟩
          · show Steps p.tables e below (s₁.setTop (mkF m 6 #[.val (.int i0), .val (.int i1), .unset, .unset, .unset] [])) _
            refine Own.iloadN X0.here hx rfl (hb hby at_6) rfl hp3 ?_
            refine XS.goto X0.here hx rfl (pc0 := 7) (pc' := 16) rfl (hb hby at_7) (by decide) (by decide) ?_
            refine XS.istoreN X0.here hx rfl (hb hby at_16) rfl (l' := #[.val (.int i0), .val (.int i1), .val (.int (10 : Int32)), .unset, .unset]) rfl ?_
            refine XS.iloadN X0.here hx rfl (hb hby at_17) rfl ?_
            show Steps p.tables e below (s₁.setTop (mkF m 18 #[.val (.int i0), .val (.int i1), .val (.int (10 : Int32)), .unset, .unset] [(.int (10 : Int32))])) _
            refine st1 _ ?_
            refine XS.astoreN X1.here hx rfl (hb hby at_21) rfl rfl (l' := #[.val (.int i0), .val (.int i1), .val (.int (10 : Int32)), .val (.ref w7), .unset]) rfl ?_
            refine XS.iloadN X1.here hx rfl (hb hby at_22) rfl ?_
            refine st2 _ ?_
            show Steps p.tables e below (T2.setTop (mkF m 26 #[.val (.int i0), .val (.int i1), .val (.int (10 : Int32)), .val (.ref w7), .unset] [(.ref w7)])) _
            refine XS.astore X2.here hx rfl (hb hby at_26) rfl rfl (l' := #[.val (.int i0), .val (.int i1), .val (.int (10 : Int32)), .val (.ref w7), .val (.ref w7)]) rfl ?_
            refine XS.aloadN X2.here hx rfl (hb hby at_28) rfl rfl ?_
            refine XS.ifnonnullYes X2.here hx rfl (pc0 := 29) (pc' := 43) rfl (hb hby at_29) rfl (by decide) (by decide) ?_
            refine XS.aload X2.here hx rfl (hb hby at_43) rfl rfl ?_
            show Steps p.tables e below (T2.setTop (mkF m 45 #[.val (.int i0), .val (.int i1), .val (.int (10 : Int32)), .val (.ref w7), .val (.ref w7)] [(.ref w7)])) _
            refine XS.aloadN X2.here hx rfl (hb hby at_45) rfl rfl ?_
            refine Jvm.RoadKit.acmp (g := (mkF m 46 #[.val (.int i0), .val (.int i1), .val (.int (10 : Int32)), .val (.ref w7), .val (.ref w7)] [(.ref w7), (.ref w7)])) X2 hx rfl rfl rfl (pc0 := 46) (pc' := 49) (same := true) rfl (hb hby at_46) rfl (decide_eq_true rfl) (by decide) (by decide) ?_
            refine XS.aload X2.here hx rfl (hb hby at_49) rfl rfl ?_
            refine st3 _ ?_
            show Steps p.tables e below (T3.setTop (mkF m 54 #[.val (.int i0), .val (.int i1), .val (.int (10 : Int32)), .val (.ref w7), .val (.ref w7)] [(.int (10 : Int32))])) _
            refine XS.iloadN X3.here hx rfl (hb hby at_54) rfl ?_
            refine XS.icmpNo X3.here hx rfl (hb hby at_55) rfl (teq (by decide : (10 : Int32) = (10 : Int32))).2 ?_
            refine XS.iconst X3.here hx rfl (hb hby at_58) ?_
            refine XS.goto X3.here hx rfl (pc0 := 59) (pc' := 63) rfl (hb hby at_59) (by decide) (by decide) ?_
            show Steps p.tables e below (T3.setTop (mkF m 63 #[.val (.int i0), .val (.int i1), .val (.int (10 : Int32)), .val (.ref w7), .val (.ref w7)] [(.int (1 : Int32))])) _
            exact retN X3 hx (t := .boolean) Bd.returns (by simp) (hb hby at_63) hr
          · show QL n0 _ T3.heap _
            exact ⟨rfl, N3⟩
        · obtain ⟨_, T1, L1, hQ1, X1, st1⟩ := own_callS X0 hx hZ (W := 0) hown (hw _ m0) (hw _ m1) (hw _ m2) (hw _ m3) (by decide) (rm35 l Z a0 hw w0 w1 w2 w3 w4 w5 w6 w7 w8 w9 w10 w11 w12 w13 w14 w15 w16 kw16 hS [] h0 n0 O0) e0 (g := (mkF m 18 #[.val (.int i0), .val (.int i1), .val (.int (11 : Int32)), .unset, .unset] [(.int (11 : Int32))])) rfl (by rw [hml]; rfl) (argsL := [(.int (11 : Int32))]) (rest := []) (lenOf pd10 rfl) rfl rfl (by show 2 * 0 + _ ≤ _; exact Nat.le_of_eq rfl) (hb hby at_18) (by decide) (by decide) (by decide) (by decide)
          obtain ⟨rfl, N1q, Kq1⟩ := hQ1
          have N1 := Fr.app N0 N1q
          have O1 : Old Z n0 T1.heap := O0.keep Kq1 all0
          have K1 : Keep h0 T1.heap [] := (Keep.refl h0 []).trans Kq1 all0
          obtain ⟨_, T2, L2, hQ2, X2, st2⟩ := own_callS X1 hx hZ (W := 0) hown (hw _ m40) (hw _ m41) (hw _ m7) (hw _ m42) (by decide) (rm36 l Z a0 hw w0 w1 w2 w3 w4 w5 w6 w7 w8 w9 w10 w11 w12 w13 w14 w15 w16 kw16 hS [] T1.heap n0 O1) (rfl : T1.heap = T1.heap) (g := (mkF m 23 #[.val (.int i0), .val (.int i1), .val (.int (11 : Int32)), .val (.ref w12), .unset] [(.int (11 : Int32))])) rfl (by rw [hml]; rfl) (argsL := [(.int (11 : Int32))]) (rest := []) (lenOf pd10 rfl) rfl rfl (by show 2 * 0 + _ ≤ _; exact Nat.le_of_eq rfl) (hb hby at_23) (by decide) (by decide) (by decide) (by decide)
          obtain ⟨rfl, N2q, e2⟩ := hQ2
          have N2 := Fr.app N1 N2q
          have e2' : T2.heap = T1.heap := e2
          obtain ⟨_, T3, L3, hQ3, X3, st3⟩ := own_virtual X2 hx hZ (W := 0) hown (hw _ m45) (hw _ m46) (notFace_of_selects (args := #[]) (mvT hZ (hw _ m48))) (hw _ m48) (hw _ m47) (hw _ m7) (hw _ m49) (by decide) (rm37 l Z a0 hw w0 w1 w2 w3 w4 w5 w6 w7 w8 w9 w10 w11 w12 w13 w14 w15 w16 kw16 hS [] T1.heap n0 O1) e2' (hS.2.2.2.2.2.2.2.2.2.2.2.2.2.2.2.2.2.2.2.2.2.2.2.2.2.2.2.2.2.2.2.2.2.2.2.2.2.1.ext O1.2) (g := (mkF m 51 #[.val (.int i0), .val (.int i1), .val (.int (11 : Int32)), .val (.ref w12), .val (.ref w12)] [(.ref w12)])) rfl (by rw [hml]; rfl) (argsL := []) (rest := []) (lenOf pd137 rfl) rfl rfl (by show 2 * 0 + _ ≤ _; exact Nat.le_of_eq rfl) (hb hby at_51) (by decide) (by decide) (by decide) (by decide)
          obtain ⟨rfl, N3q, e3⟩ := hQ3
          have N3 := Fr.app N2 N3q
          have e3' : T3.heap = T1.heap := e3
          obtain ⟨fs, hr, hrun, hended, hW, hsame⟩ := X3.leave (v := some (.int (1 : Int32))) (fun h => by rw [Bd.returns] at h; cases h)
          refine ⟨_, _, pre2 _ ?_, hrun, hended, _, _, rfl, ?_, ⟨_, rfl⟩, hW, hsame.mono (by decide) (by decide)⟩
          · show Steps p.tables e below (s₁.setTop (mkF m 6 #[.val (.int i0), .val (.int i1), .unset, .unset, .unset] [])) _
            refine Own.iloadN X0.here hx rfl (hb hby at_6) rfl hp3 ?_
            refine XS.goto X0.here hx rfl (pc0 := 7) (pc' := 16) rfl (hb hby at_7) (by decide) (by decide) ?_
            refine XS.istoreN X0.here hx rfl (hb hby at_16) rfl (l' := #[.val (.int i0), .val (.int i1), .val (.int (11 : Int32)), .unset, .unset]) rfl ?_
            refine XS.iloadN X0.here hx rfl (hb hby at_17) rfl ?_
            show Steps p.tables e below (s₁.setTop (mkF m 18 #[.val (.int i0), .val (.int i1), .val (.int (11 : Int32)), .unset, .unset] [(.int (11 : Int32))])) _
            refine st1 _ ?_
            refine XS.astoreN X1.here hx rfl (hb hby at_21) rfl rfl (l' := #[.val (.int i0), .val (.int i1), .val (.int (11 : Int32)), .val (.ref w12), .unset]) rfl ?_
            refine XS.iloadN X1.here hx rfl (hb hby at_22) rfl ?_
            refine st2 _ ?_
            show Steps p.tables e below (T2.setTop (mkF m 26 #[.val (.int i0), .val (.int i1), .val (.int (11 : Int32)), .val (.ref w12), .unset] [(.ref w12)])) _
            refine XS.astore X2.here hx rfl (hb hby at_26) rfl rfl (l' := #[.val (.int i0), .val (.int i1), .val (.int (11 : Int32)), .val (.ref w12), .val (.ref w12)]) rfl ?_
            refine XS.aloadN X2.here hx rfl (hb hby at_28) rfl rfl ?_
            refine XS.ifnonnullYes X2.here hx rfl (pc0 := 29) (pc' := 43) rfl (hb hby at_29) rfl (by decide) (by decide) ?_
            refine XS.aload X2.here hx rfl (hb hby at_43) rfl rfl ?_
            show Steps p.tables e below (T2.setTop (mkF m 45 #[.val (.int i0), .val (.int i1), .val (.int (11 : Int32)), .val (.ref w12), .val (.ref w12)] [(.ref w12)])) _
            refine XS.aloadN X2.here hx rfl (hb hby at_45) rfl rfl ?_
            refine Jvm.RoadKit.acmp (g := (mkF m 46 #[.val (.int i0), .val (.int i1), .val (.int (11 : Int32)), .val (.ref w12), .val (.ref w12)] [(.ref w12), (.ref w12)])) X2 hx rfl rfl rfl (pc0 := 46) (pc' := 49) (same := true) rfl (hb hby at_46) rfl (decide_eq_true rfl) (by decide) (by decide) ?_
            refine XS.aload X2.here hx rfl (hb hby at_49) rfl rfl ?_
            refine st3 _ ?_
            show Steps p.tables e below (T3.setTop (mkF m 54 #[.val (.int i0), .val (.int i1), .val (.int (11 : Int32)), .val (.ref w12), .val (.ref w12)] [(.int (11 : Int32))])) _
            refine XS.iloadN X3.here hx rfl (hb hby at_54) rfl ?_
            refine XS.icmpNo X3.here hx rfl (hb hby at_55) rfl (teq (by decide : (11 : Int32) = (11 : Int32))).2 ?_
            refine XS.iconst X3.here hx rfl (hb hby at_58) ?_
            refine XS.goto X3.here hx rfl (pc0 := 59) (pc' := 63) rfl (hb hby at_59) (by decide) (by decide) ?_
            show Steps p.tables e below (T3.setTop (mkF m 63 #[.val (.int i0), .val (.int i1), .val (.int (11 : Int32)), .val (.ref w12), .val (.ref w12)] [(.int (1 : Int32))])) _
            exact retN X3 hx (t := .boolean) Bd.returns (by simp) (hb hby at_63) hr
          · show QL n0 _ T3.heap _
            exact ⟨rfl, N3⟩
        · obtain ⟨_, T1, L1, hQ1, X1, st1⟩ := own_callS X0 hx hZ (W := 0) hown (hw _ m0) (hw _ m1) (hw _ m2) (hw _ m3) (by decide) (rm38 l Z a0 hw w0 w1 w2 w3 w4 w5 w6 w7 w8 w9 w10 w11 w12 w13 w14 w15 w16 kw16 hS [] h0 n0 O0) e0 (g := (mkF m 18 #[.val (.int i0), .val (.int i1), .val (.int (12 : Int32)), .unset, .unset] [(.int (12 : Int32))])) rfl (by rw [hml]; rfl) (argsL := [(.int (12 : Int32))]) (rest := []) (lenOf pd10 rfl) rfl rfl (by show 2 * 0 + _ ≤ _; exact Nat.le_of_eq rfl) (hb hby at_18) (by decide) (by decide) (by decide) (by decide)
          obtain ⟨rfl, N1q, Kq1⟩ := hQ1
          have N1 := Fr.app N0 N1q
          have O1 : Old Z n0 T1.heap := O0.keep Kq1 all0
          have K1 : Keep h0 T1.heap [] := (Keep.refl h0 []).trans Kq1 all0
          obtain ⟨_, T2, L2, hQ2, X2, st2⟩ := own_callS X1 hx hZ (W := 0) hown (hw _ m40) (hw _ m41) (hw _ m7) (hw _ m42) (by decide) (rm39 l Z a0 hw w0 w1 w2 w3 w4 w5 w6 w7 w8 w9 w10 w11 w12 w13 w14 w15 w16 kw16 hS [] T1.heap n0 O1) (rfl : T1.heap = T1.heap) (g := (mkF m 23 #[.val (.int i0), .val (.int i1), .val (.int (12 : Int32)), .val (.ref w6), .unset] [(.int (12 : Int32))])) rfl (by rw [hml]; rfl) (argsL := [(.int (12 : Int32))]) (rest := []) (lenOf pd10 rfl) rfl rfl (by show 2 * 0 + _ ≤ _; exact Nat.le_of_eq rfl) (hb hby at_23) (by decide) (by decide) (by decide) (by decide)
          obtain ⟨rfl, N2q, e2⟩ := hQ2
          have N2 := Fr.app N1 N2q
          have e2' : T2.heap = T1.heap := e2
          obtain ⟨_, T3, L3, hQ3, X3, st3⟩ := own_virtual X2 hx hZ (W := 0) hown (hw _ m45) (hw _ m46) (notFace_of_selects (args := #[]) (mvT hZ (hw _ m48))) (hw _ m48) (hw _ m47) (hw _ m7) (hw _ m49) (by decide) (rm40 l Z a0 hw w0 w1 w2 w3 w4 w5 w6 w7 w8 w9 w10 w11 w12 w13 w14 w15 w16 kw16 hS [] T1.heap n0 O1) e2' (hS.2.2.2.2.2.2.2.2.2.2.2.2.2.2.2.2.2.2.2.1.ext O1.2) (g := (mkF m 51 #[.val (.int i0), .val (.int i1), .val (.int (12 : Int32)), .val (.ref w6), .val (.ref w6)] [(.ref w6)])) rfl (by rw [hml]; rfl) (argsL := []) (rest := []) (lenOf pd137 rfl) rfl rfl (by show 2 * 0 + _ ≤ _; exact Nat.le_of_eq rfl) (hb hby at_51) (by decide) (by decide) (by decide) (by decide)
          obtain ⟨rfl, N3q, e3⟩ := hQ3
          have N3 := Fr.app N2 N3q
          have e3' : T3.heap = T1.heap := e3
          obtain ⟨fs, hr, hrun, hended, hW, hsame⟩ := X3.leave (v := some (.int (1 : Int32))) (fun h => by rw [Bd.returns] at h; cases h)
          refine ⟨_, _, pre2 _ ?_, hrun, hended, _, _, rfl, ?_, ⟨_, rfl⟩, hW, hsame.mono (by decide) (by decide)⟩
          · show Steps p.tables e below (s₁.setTop (mkF m 6 #[.val (.int i0), .val (.int i1), .unset, .unset, .unset] [])) _
            refine Own.iloadN X0.here hx rfl (hb hby at_6) rfl hp3 ?_
            refine XS.goto X0.here hx rfl (pc0 := 7) (pc' := 16) rfl (hb hby at_7) (by decide) (by decide) ?_
            refine XS.istoreN X0.here hx rfl (hb hby at_16) rfl (l' := #[.val (.int i0), .val (.int i1), .val (.int (12 : Int32)), .unset, .unset]) rfl ?_
            refine XS.iloadN X0.here hx rfl (hb hby at_17) rfl ?_
            show Steps p.tables e below (s₁.setTop (mkF m 18 #[.val (.int i0), .val (.int i1), .val (.int (12 : Int32)), .unset, .unset] [(.int (12 : Int32))])) _
            refine st1 _ ?_
            refine XS.astoreN X1.here hx rfl (hb hby at_21) rfl rfl (l' := #[.val (.int i0), .val (.int i1), .val (.int (12 : Int32)), .val (.ref w6), .unset]) rfl ?_
            refine XS.iloadN X1.here hx rfl (hb hby at_22) rfl ?_
            refine st2 _ ?_
            show Steps p.tables e below (T2.setTop (mkF m 26 #[.val (.int i0), .val (.int i1), .val (.int (12 : Int32)), .val (.ref w6), .unset] [(.ref w6)])) _
            refine XS.astore X2.here hx rfl (hb hby at_26) rfl rfl (l' := #[.val (.int i0), .val (.int i1), .val (.int (12 : Int32)), .val (.ref w6), .val (.ref w6)]) rfl ?_
            refine XS.aloadN X2.here hx rfl (hb hby at_28) rfl rfl ?_
            refine XS.ifnonnullYes X2.here hx rfl (pc0 := 29) (pc' := 43) rfl (hb hby at_29) rfl (by decide) (by decide) ?_
            refine XS.aload X2.here hx rfl (hb hby at_43) rfl rfl ?_
            show Steps p.tables e below (T2.setTop (mkF m 45 #[.val (.int i0), .val (.int i1), .val (.int (12 : Int32)), .val (.ref w6), .val (.ref w6)] [(.ref w6)])) _
            refine XS.aloadN X2.here hx rfl (hb hby at_45) rfl rfl ?_
            refine Jvm.RoadKit.acmp (g := (mkF m 46 #[.val (.int i0), .val (.int i1), .val (.int (12 : Int32)), .val (.ref w6), .val (.ref w6)] [(.ref w6), (.ref w6)])) X2 hx rfl rfl rfl (pc0 := 46) (pc' := 49) (same := true) rfl (hb hby at_46) rfl (decide_eq_true rfl) (by decide) (by decide) ?_
            refine XS.aload X2.here hx rfl (hb hby at_49) rfl rfl ?_
            refine st3 _ ?_
            show Steps p.tables e below (T3.setTop (mkF m 54 #[.val (.int i0), .val (.int i1), .val (.int (12 : Int32)), .val (.ref w6), .val (.ref w6)] [(.int (12 : Int32))])) _
            refine XS.iloadN X3.here hx rfl (hb hby at_54) rfl ?_
            refine XS.icmpNo X3.here hx rfl (hb hby at_55) rfl (teq (by decide : (12 : Int32) = (12 : Int32))).2 ?_
            refine XS.iconst X3.here hx rfl (hb hby at_58) ?_
            refine XS.goto X3.here hx rfl (pc0 := 59) (pc' := 63) rfl (hb hby at_59) (by decide) (by decide) ?_
            show Steps p.tables e below (T3.setTop (mkF m 63 #[.val (.int i0), .val (.int i1), .val (.int (12 : Int32)), .val (.ref w6), .val (.ref w6)] [(.int (1 : Int32))])) _
            exact retN X3 hx (t := .boolean) Bd.returns (by simp) (hb hby at_63) hr
          · show QL n0 _ T3.heap _
            exact ⟨rfl, N3⟩
        · obtain ⟨_, T1, L1, hQ1, X1, st1⟩ := own_callS X0 hx hZ (W := 0) hown (hw _ m0) (hw _ m1) (hw _ m2) (hw _ m3) (by decide) (rm41 l Z a0 hw w0 w1 w2 w3 w4 w5 w6 w7 w8 w9 w10 w11 w12 w13 w14 w15 w16 kw16 hS [] h0 n0 O0) e0 (g := (mkF m 18 #[.val (.int i0), .val (.int i1), .val (.int (13 : Int32)), .unset, .unset] [(.int (13 : Int32))])) rfl (by rw [hml]; rfl) (argsL := [(.int (13 : Int32))]) (rest := []) (lenOf pd10 rfl) rfl rfl (by show 2 * 0 + _ ≤ _; exact Nat.le_of_eq rfl) (hb hby at_18) (by decide) (by decide) (by decide) (by decide)
          obtain ⟨rfl, N1q, Kq1⟩ := hQ1
          have N1 := Fr.app N0 N1q
          have O1 : Old Z n0 T1.heap := O0.keep Kq1 all0
          have K1 : Keep h0 T1.heap [] := (Keep.refl h0 []).trans Kq1 all0
          obtain ⟨_, T2, L2, hQ2, X2, st2⟩ := own_callS X1 hx hZ (W := 0) hown (hw _ m40) (hw _ m41) (hw _ m7) (hw _ m42) (by decide) (rm42 l Z a0 hw w0 w1 w2 w3 w4 w5 w6 w7 w8 w9 w10 w11 w12 w13 w14 w15 w16 kw16 hS [] T1.heap n0 O1) (rfl : T1.heap = T1.heap) (g := (mkF m 23 #[.val (.int i0), .val (.int i1), .val (.int (13 : Int32)), .val (.ref w4), .unset] [(.int (13 : Int32))])) rfl (by rw [hml]; rfl) (argsL := [(.int (13 : Int32))]) (rest := []) (lenOf pd10 rfl) rfl rfl (by show 2 * 0 + _ ≤ _; exact Nat.le_of_eq rfl) (hb hby at_23) (by decide) (by decide) (by decide) (by decide)
          obtain ⟨rfl, N2q, e2⟩ := hQ2
          have N2 := Fr.app N1 N2q
          have e2' : T2.heap = T1.heap := e2
          obtain ⟨_, T3, L3, hQ3, X3, st3⟩ := own_virtual X2 hx hZ (W := 0) hown (hw _ m45) (hw _ m46) (notFace_of_selects (args := #[]) (mvT hZ (hw _ m48))) (hw _ m48) (hw _ m47) (hw _ m7) (hw _ m49) (by decide) (rm43 l Z a0 hw w0 w1 w2 w3 w4 w5 w6 w7 w8 w9 w10 w11 w12 w13 w14 w15 w16 kw16 hS [] T1.heap n0 O1) e2' (hS.2.2.2.2.2.2.2.2.2.2.2.2.2.1.ext O1.2) (g := (mkF m 51 #[.val (.int i0), .val (.int i1), .val (.int (13 : Int32)), .val (.ref w4), .val (.ref w4)] [(.ref w4)])) rfl (by rw [hml]; rfl) (argsL := []) (rest := []) (lenOf pd137 rfl) rfl rfl (by show 2 * 0 + _ ≤ _; exact Nat.le_of_eq rfl) (hb hby at_51) (by decide) (by decide) (by decide) (by decide)
          obtain ⟨rfl, N3q, e3⟩ := hQ3
          have N3 := Fr.app N2 N3q
          have e3' : T3.heap = T1.heap := e3
          obtain ⟨fs, hr, hrun, hended, hW, hsame⟩ := X3.leave (v := some (.int (1 : Int32))) (fun h => by rw [Bd.returns] at h; cases h)
          refine ⟨_, _, pre2 _ ?_, hrun, hended, _, _, rfl, ?_, ⟨_, rfl⟩, hW, hsame.mono (by decide) (by decide)⟩
          · show Steps p.tables e below (s₁.setTop (mkF m 6 #[.val (.int i0), .val (.int i1), .unset, .unset, .unset] [])) _
            refine Own.iloadN X0.here hx rfl (hb hby at_6) rfl hp3 ?_
            refine XS.goto X0.here hx rfl (pc0 := 7) (pc' := 16) rfl (hb hby at_7) (by decide) (by decide) ?_
            refine XS.istoreN X0.here hx rfl (hb hby at_16) rfl (l' := #[.val (.int i0), .val (.int i1), .val (.int (13 : Int32)), .unset, .unset]) rfl ?_
            refine XS.iloadN X0.here hx rfl (hb hby at_17) rfl ?_
            show Steps p.tables e below (s₁.setTop (mkF m 18 #[.val (.int i0), .val (.int i1), .val (.int (13 : Int32)), .unset, .unset] [(.int (13 : Int32))])) _
            refine st1 _ ?_
            refine XS.astoreN X1.here hx rfl (hb hby at_21) rfl rfl (l' := #[.val (.int i0), .val (.int i1), .val (.int (13 : Int32)), .val (.ref w4), .unset]) rfl ?_
            refine XS.iloadN X1.here hx rfl (hb hby at_22) rfl ?_
            refine st2 _ ?_
            show Steps p.tables e below (T2.setTop (mkF m 26 #[.val (.int i0), .val (.int i1), .val (.int (13 : Int32)), .val (.ref w4), .unset] [(.ref w4)])) _
            refine XS.astore X2.here hx rfl (hb hby at_26) rfl rfl (l' := #[.val (.int i0), .val (.int i1), .val (.int (13 : Int32)), .val (.ref w4), .val (.ref w4)]) rfl ?_
            refine XS.aloadN X2.here hx rfl (hb hby at_28) rfl rfl ?_
            refine XS.ifnonnullYes X2.here hx rfl (pc0 := 29) (pc' := 43) rfl (hb hby at_29) rfl (by decide) (by decide) ?_
            refine XS.aload X2.here hx rfl (hb hby at_43) rfl rfl ?_
            show Steps p.tables e below (T2.setTop (mkF m 45 #[.val (.int i0), .val (.int i1), .val (.int (13 : Int32)), .val (.ref w4), .val (.ref w4)] [(.ref w4)])) _
            refine XS.aloadN X2.here hx rfl (hb hby at_45) rfl rfl ?_
            refine Jvm.RoadKit.acmp (g := (mkF m 46 #[.val (.int i0), .val (.int i1), .val (.int (13 : Int32)), .val (.ref w4), .val (.ref w4)] [(.ref w4), (.ref w4)])) X2 hx rfl rfl rfl (pc0 := 46) (pc' := 49) (same := true) rfl (hb hby at_46) rfl (decide_eq_true rfl) (by decide) (by decide) ?_
            refine XS.aload X2.here hx rfl (hb hby at_49) rfl rfl ?_
            refine st3 _ ?_
            show Steps p.tables e below (T3.setTop (mkF m 54 #[.val (.int i0), .val (.int i1), .val (.int (13 : Int32)), .val (.ref w4), .val (.ref w4)] [(.int (13 : Int32))])) _
            refine XS.iloadN X3.here hx rfl (hb hby at_54) rfl ?_
            refine XS.icmpNo X3.here hx rfl (hb hby at_55) rfl (teq (by decide : (13 : Int32) = (13 : Int32))).2 ?_
            refine XS.iconst X3.here hx rfl (hb hby at_58) ?_
            refine XS.goto X3.here hx rfl (pc0 := 59) (pc' := 63) rfl (hb hby at_59) (by decide) (by decide) ?_
            show Steps p.tables e below (T3.setTop (mkF m 63 #[.val (.int i0), .val (.int i1), .val (.int (13 : Int32)), .val (.ref w4), .val (.ref w4)] [(.int (1 : Int32))])) _
            exact retN X3 hx (t := .boolean) Bd.returns (by simp) (hb hby at_63) hr
          · show QL n0 _ T3.heap _
            exact ⟨rfl, N3⟩
        · obtain ⟨_, T1, L1, hQ1, X1, st1⟩ := own_callS X0 hx hZ (W := 0) hown (hw _ m0) (hw _ m1) (hw _ m2) (hw _ m3) (by decide) (rm44 l Z a0 hw w0 w1 w2 w3 w4 w5 w6 w7 w8 w9 w10 w11 w12 w13 w14 w15 w16 kw16 hS [] h0 n0 O0) e0 (g := (mkF m 18 #[.val (.int i0), .val (.int i1), .val (.int (14 : Int32)), .unset, .unset] [(.int (14 : Int32))])) rfl (by rw [hml]; rfl) (argsL := [(.int (14 : Int32))]) (rest := []) (lenOf pd10 rfl) rfl rfl (by show 2 * 0 + _ ≤ _; exact Nat.le_of_eq rfl) (hb hby at_18) (by decide) (by decide) (by decide) (by decide)
          obtain ⟨rfl, N1q, Kq1⟩ := hQ1
          have N1 := Fr.app N0 N1q
          have O1 : Old Z n0 T1.heap := O0.keep Kq1 all0
          have K1 : Keep h0 T1.heap [] := (Keep.refl h0 []).trans Kq1 all0
          obtain ⟨_, T2, L2, hQ2, X2, st2⟩ := own_callS X1 hx hZ (W := 0) hown (hw _ m40) (hw _ m41) (hw _ m7) (hw _ m42) (by decide) (rm45 l Z a0 hw w0 w1 w2 w3 w4 w5 w6 w7 w8 w9 w10 w11 w12 w13 w14 w15 w16 kw16 hS [] T1.heap n0 O1) (rfl : T1.heap = T1.heap) (g := (mkF m 23 #[.val (.int i0), .val (.int i1), .val (.int (14 : Int32)), .val (.ref w1), .unset] [(.int (14 : Int32))])) rfl (by rw [hml]; rfl) (argsL := [(.int (14 : Int32))]) (rest := []) (lenOf pd10 rfl) rfl rfl (by show 2 * 0 + _ ≤ _; exact Nat.le_of_eq rfl) (hb hby at_23) (by decide) (by decide) (by decide) (by decide)
          obtain ⟨rfl, N2q, e2⟩ := hQ2
          have N2 := Fr.app N1 N2q
          have e2' : T2.heap = T1.heap := e2
          obtain ⟨_, T3, L3, hQ3, X3, st3⟩ := own_virtual X2 hx hZ (W := 0) hown (hw _ m45) (hw _ m46) (notFace_of_selects (args := #[]) (mvT hZ (hw _ m48))) (hw _ m48) (hw _ m47) (hw _ m7) (hw _ m49) (by decide) (rm46 l Z a0 hw w0 w1 w2 w3 w4 w5 w6 w7 w8 w9 w10 w11 w12 w13 w14 w15 w16 kw16 hS [] T1.heap n0 O1) e2' (hS.2.2.2.2.1.ext O1.2) (g := (mkF m 51 #[.val (.int i0), .val (.int i1), .val (.int (14 : Int32)), .val (.ref w1), .val (.ref w1)] [(.ref w1)])) rfl (by rw [hml]; rfl) (argsL := []) (rest := []) (lenOf pd137 rfl) rfl rfl (by show 2 * 0 + _ ≤ _; exact Nat.le_of_eq rfl) (hb hby at_51) (by decide) (by decide) (by decide) (by decide)
          obtain ⟨rfl, N3q, e3⟩ := hQ3
          have N3 := Fr.app N2 N3q
          have e3' : T3.heap = T1.heap := e3
          obtain ⟨fs, hr, hrun, hended, hW, hsame⟩ := X3.leave (v := some (.int (1 : Int32))) (fun h => by rw [Bd.returns] at h; cases h)
          refine ⟨_, _, pre2 _ ?_, hrun, hended, _, _, rfl, ?_, ⟨_, rfl⟩, hW, hsame.mono (by decide) (by decide)⟩
          · show Steps p.tables e below (s₁.setTop (mkF m 6 #[.val (.int i0), .val (.int i1), .unset, .unset, .unset] [])) _
            refine Own.iloadN X0.here hx rfl (hb hby at_6) rfl hp3 ?_
            refine XS.goto X0.here hx rfl (pc0 := 7) (pc' := 16) rfl (hb hby at_7) (by decide) (by decide) ?_
            refine XS.istoreN X0.here hx rfl (hb hby at_16) rfl (l' := #[.val (.int i0), .val (.int i1), .val (.int (14 : Int32)), .unset, .unset]) rfl ?_
            refine XS.iloadN X0.here hx rfl (hb hby at_17) rfl ?_
            show Steps p.tables e below (s₁.setTop (mkF m 18 #[.val (.int i0), .val (.int i1), .val (.int (14 : Int32)), .unset, .unset] [(.int (14 : Int32))])) _
            refine st1 _ ?_
            refine XS.astoreN X1.here hx rfl (hb hby at_21) rfl rfl (l' := #[.val (.int i0), .val (.int i1), .val (.int (14 : Int32)), .val (.ref w1), .unset]) rfl ?_
            refine XS.iloadN X1.here hx rfl (hb hby at_22) rfl ?_
            refine st2 _ ?_
            show Steps p.tables e below (T2.setTop (mkF m 26 #[.val (.int i0), .val (.int i1), .val (.int (14 : Int32)), .val (.ref w1), .unset] [(.ref w1)])) _
            refine XS.astore X2.here hx rfl (hb hby at_26) rfl rfl (l' := #[.val (.int i0), .val (.int i1), .val (.int (14 : Int32)), .val (.ref w1), .val (.ref w1)]) rfl ?_
            refine XS.aloadN X2.here hx rfl (hb hby at_28) rfl rfl ?_
            refine XS.ifnonnullYes X2.here hx rfl (pc0 := 29) (pc' := 43) rfl (hb hby at_29) rfl (by decide) (by decide) ?_
            refine XS.aload X2.here hx rfl (hb hby at_43) rfl rfl ?_
            show Steps p.tables e below (T2.setTop (mkF m 45 #[.val (.int i0), .val (.int i1), .val (.int (14 : Int32)), .val (.ref w1), .val (.ref w1)] [(.ref w1)])) _
            refine XS.aloadN X2.here hx rfl (hb hby at_45) rfl rfl ?_
            refine Jvm.RoadKit.acmp (g := (mkF m 46 #[.val (.int i0), .val (.int i1), .val (.int (14 : Int32)), .val (.ref w1), .val (.ref w1)] [(.ref w1), (.ref w1)])) X2 hx rfl rfl rfl (pc0 := 46) (pc' := 49) (same := true) rfl (hb hby at_46) rfl (decide_eq_true rfl) (by decide) (by decide) ?_
            refine XS.aload X2.here hx rfl (hb hby at_49) rfl rfl ?_
            refine st3 _ ?_
            show Steps p.tables e below (T3.setTop (mkF m 54 #[.val (.int i0), .val (.int i1), .val (.int (14 : Int32)), .val (.ref w1), .val (.ref w1)] [(.int (14 : Int32))])) _
            refine XS.iloadN X3.here hx rfl (hb hby at_54) rfl ?_
            refine XS.icmpNo X3.here hx rfl (hb hby at_55) rfl (teq (by decide : (14 : Int32) = (14 : Int32))).2 ?_
            refine XS.iconst X3.here hx rfl (hb hby at_58) ?_
            refine XS.goto X3.here hx rfl (pc0 := 59) (pc' := 63) rfl (hb hby at_59) (by decide) (by decide) ?_
            show Steps p.tables e below (T3.setTop (mkF m 63 #[.val (.int i0), .val (.int i1), .val (.int (14 : Int32)), .val (.ref w1), .val (.ref w1)] [(.int (1 : Int32))])) _
            exact retN X3 hx (t := .boolean) Bd.returns (by simp) (hb hby at_63) hr
          · show QL n0 _ T3.heap _
            exact ⟨rfl, N3⟩
        · obtain ⟨_, T1, L1, hQ1, X1, st1⟩ := own_callS X0 hx hZ (W := 0) hown (hw _ m0) (hw _ m1) (hw _ m2) (hw _ m3) (by decide) (rm47 l Z a0 hw w0 w1 w2 w3 w4 w5 w6 w7 w8 w9 w10 w11 w12 w13 w14 w15 w16 kw16 hS [] h0 n0 O0) e0 (g := (mkF m 18 #[.val (.int i0), .val (.int i1), .val (.int (15 : Int32)), .unset, .unset] [(.int (15 : Int32))])) rfl (by rw [hml]; rfl) (argsL := [(.int (15 : Int32))]) (rest := []) (lenOf pd10 rfl) rfl rfl (by show 2 * 0 + _ ≤ _; exact Nat.le_of_eq rfl) (hb hby at_18) (by decide) (by decide) (by decide) (by decide)
          obtain ⟨rfl, N1q, Kq1⟩ := hQ1
          have N1 := Fr.app N0 N1q
          have O1 : Old Z n0 T1.heap := O0.keep Kq1 all0
          have K1 : Keep h0 T1.heap [] := (Keep.refl h0 []).trans Kq1 all0
          obtain ⟨_, T2, L2, hQ2, X2, st2⟩ := own_callS X1 hx hZ (W := 0) hown (hw _ m40) (hw _ m41) (hw _ m7) (hw _ m42) (by decide) (rm48 l Z a0 hw w0 w1 w2 w3 w4 w5 w6 w7 w8 w9 w10 w11 w12 w13 w14 w15 w16 kw16 hS [] T1.heap n0 O1) (rfl : T1.heap = T1.heap) (g := (mkF m 23 #[.val (.int i0), .val (.int i1), .val (.int (15 : Int32)), .val (.ref w2), .unset] [(.int (15 : Int32))])) rfl (by rw [hml]; rfl) (argsL := [(.int (15 : Int32))]) (rest := []) (lenOf pd10 rfl) rfl rfl (by show 2 * 0 + _ ≤ _; exact Nat.le_of_eq rfl) (hb hby at_23) (by decide) (by decide) (by decide) (by decide)
          obtain ⟨rfl, N2q, e2⟩ := hQ2
          have N2 := Fr.app N1 N2q
          have e2' : T2.heap = T1.heap := e2
          obtain ⟨_, T3, L3, hQ3, X3, st3⟩ := own_virtual X2 hx hZ (W := 0) hown (hw _ m45) (hw _ m46) (notFace_of_selects (args := #[]) (mvT hZ (hw _ m48))) (hw _ m48) (hw _ m47) (hw _ m7) (hw _ m49) (by decide) (rm49 l Z a0 hw w0 w1 w2 w3 w4 w5 w6 w7 w8 w9 w10 w11 w12 w13 w14 w15 w16 kw16 hS [] T1.heap n0 O1) e2' (hS.2.2.2.2.2.2.2.1.ext O1.2) (g := (mkF m 51 #[.val (.int i0), .val (.int i1), .val (.int (15 : Int32)), .val (.ref w2), .val (.ref w2)] [(.ref w2)])) rfl (by rw [hml]; rfl) (argsL := []) (rest := []) (lenOf pd137 rfl) rfl rfl (by show 2 * 0 + _ ≤ _; exact Nat.le_of_eq rfl) (hb hby at_51) (by decide) (by decide) (by decide) (by decide)
          obtain ⟨rfl, N3q, e3⟩ := hQ3
          have N3 := Fr.app N2 N3q
          have e3' : T3.heap = T1.heap := e3
          obtain ⟨fs, hr, hrun, hended, hW, hsame⟩ := X3.leave (v := some (.int (1 : Int32))) (fun h => by rw [Bd.returns] at h; cases h)
          refine ⟨_, _, pre2 _ ?_, hrun, hended, _, _, rfl, ?_, ⟨_, rfl⟩, hW, hsame.mono (by decide) (by decide)⟩
          · show Steps p.tables e below (s₁.setTop (mkF m 6 #[.val (.int i0), .val (.int i1), .unset, .unset, .unset] [])) _
            refine Own.iloadN X0.here hx rfl (hb hby at_6) rfl hp3 ?_
            refine XS.goto X0.here hx rfl (pc0 := 7) (pc' := 16) rfl (hb hby at_7) (by decide) (by decide) ?_
            refine XS.istoreN X0.here hx rfl (hb hby at_16) rfl (l' := #[.val (.int i0), .val (.int i1), .val (.int (15 : Int32)), .unset, .unset]) rfl ?_
            refine XS.iloadN X0.here hx rfl (hb hby at_17) rfl ?_
            show Steps p.tables e below (s₁.setTop (mkF m 18 #[.val (.int i0), .val (.int i1), .val (.int (15 : Int32)), .unset, .unset] [(.int (15 : Int32))])) _
            refine st1 _ ?_
            refine XS.astoreN X1.here hx rfl (hb hby at_21) rfl rfl (l' := #[.val (.int i0), .val (.int i1), .val (.int (15 : Int32)), .val (.ref w2), .unset]) rfl ?_
            refine XS.iloadN X1.here hx rfl (hb hby at_22) rfl ?_
            refine st2 _ ?_
            show Steps p.tables e below (T2.setTop (mkF m 26 #[.val (.int i0), .val (.int i1), .val (.int (15 : Int32)), .val (.ref w2), .unset] [(.ref w2)])) _
            refine XS.astore X2.here hx rfl (hb hby at_26) rfl rfl (l' := #[.val (.int i0), .val (.int i1), .val (.int (15 : Int32)), .val (.ref w2), .val (.ref w2)]) rfl ?_
            refine XS.aloadN X2.here hx rfl (hb hby at_28) rfl rfl ?_
            refine XS.ifnonnullYes X2.here hx rfl (pc0 := 29) (pc' := 43) rfl (hb hby at_29) rfl (by decide) (by decide) ?_
            refine XS.aload X2.here hx rfl (hb hby at_43) rfl rfl ?_
            show Steps p.tables e below (T2.setTop (mkF m 45 #[.val (.int i0), .val (.int i1), .val (.int (15 : Int32)), .val (.ref w2), .val (.ref w2)] [(.ref w2)])) _
            refine XS.aloadN X2.here hx rfl (hb hby at_45) rfl rfl ?_
            refine Jvm.RoadKit.acmp (g := (mkF m 46 #[.val (.int i0), .val (.int i1), .val (.int (15 : Int32)), .val (.ref w2), .val (.ref w2)] [(.ref w2), (.ref w2)])) X2 hx rfl rfl rfl (pc0 := 46) (pc' := 49) (same := true) rfl (hb hby at_46) rfl (decide_eq_true rfl) (by decide) (by decide) ?_
            refine XS.aload X2.here hx rfl (hb hby at_49) rfl rfl ?_
            refine st3 _ ?_
            show Steps p.tables e below (T3.setTop (mkF m 54 #[.val (.int i0), .val (.int i1), .val (.int (15 : Int32)), .val (.ref w2), .val (.ref w2)] [(.int (15 : Int32))])) _
            refine XS.iloadN X3.here hx rfl (hb hby at_54) rfl ?_
            refine XS.icmpNo X3.here hx rfl (hb hby at_55) rfl (teq (by decide : (15 : Int32) = (15 : Int32))).2 ?_
            refine XS.iconst X3.here hx rfl (hb hby at_58) ?_
            refine XS.goto X3.here hx rfl (pc0 := 59) (pc' := 63) rfl (hb hby at_59) (by decide) (by decide) ?_
            show Steps p.tables e below (T3.setTop (mkF m 63 #[.val (.int i0), .val (.int i1), .val (.int (15 : Int32)), .val (.ref w2), .val (.ref w2)] [(.int (1 : Int32))])) _
            exact retN X3 hx (t := .boolean) Bd.returns (by simp) (hb hby at_63) hr
          · show QL n0 _ T3.heap _
            exact ⟨rfl, N3⟩
        · obtain ⟨_, T1, L1, hQ1, X1, st1⟩ := own_callS X0 hx hZ (W := 0) hown (hw _ m0) (hw _ m1) (hw _ m2) (hw _ m3) (by decide) (rm50 l Z a0 hw w0 w1 w2 w3 w4 w5 w6 w7 w8 w9 w10 w11 w12 w13 w14 w15 w16 kw16 hS [] h0 n0 O0) e0 (g := (mkF m 18 #[.val (.int i0), .val (.int i1), .val (.int (16 : Int32)), .unset, .unset] [(.int (16 : Int32))])) rfl (by rw [hml]; rfl) (argsL := [(.int (16 : Int32))]) (rest := []) (lenOf pd10 rfl) rfl rfl (by show 2 * 0 + _ ≤ _; exact Nat.le_of_eq rfl) (hb hby at_18) (by decide) (by decide) (by decide) (by decide)
          obtain ⟨rfl, N1q, Kq1⟩ := hQ1
          have N1 := Fr.app N0 N1q
          have O1 : Old Z n0 T1.heap := O0.keep Kq1 all0
          have K1 : Keep h0 T1.heap [] := (Keep.refl h0 []).trans Kq1 all0
          obtain ⟨_, T2, L2, hQ2, X2, st2⟩ := own_callS X1 hx hZ (W := 0) hown (hw _ m40) (hw _ m41) (hw _ m7) (hw _ m42) (by decide) (rm51 l Z a0 hw w0 w1 w2 w3 w4 w5 w6 w7 w8 w9 w10 w11 w12 w13 w14 w15 w16 kw16 hS [] T1.heap n0 O1) (rfl : T1.heap = T1.heap) (g := (mkF m 23 #[.val (.int i0), .val (.int i1), .val (.int (16 : Int32)), .val (.ref w3), .unset] [(.int (16 : Int32))])) rfl (by rw [hml]; rfl) (argsL := [(.int (16 : Int32))]) (rest := []) (lenOf pd10 rfl) rfl rfl (by show 2 * 0 + _ ≤ _; exact Nat.le_of_eq rfl) (hb hby at_23) (by decide) (by decide) (by decide) (by decide)
          obtain ⟨rfl, N2q, e2⟩ := hQ2
          have N2 := Fr.app N1 N2q
          have e2' : T2.heap = T1.heap := e2
          obtain ⟨_, T3, L3, hQ3, X3, st3⟩ := own_virtual X2 hx hZ (W := 0) hown (hw _ m45) (hw _ m46) (notFace_of_selects (args := #[]) (mvT hZ (hw _ m48))) (hw _ m48) (hw _ m47) (hw _ m7) (hw _ m49) (by decide) (rm52 l Z a0 hw w0 w1 w2 w3 w4 w5 w6 w7 w8 w9 w10 w11 w12 w13 w14 w15 w16 kw16 hS [] T1.heap n0 O1) e2' (hS.2.2.2.2.2.2.2.2.2.2.1.ext O1.2) (g := (mkF m 51 #[.val (.int i0), .val (.int i1), .val (.int (16 : Int32)), .val (.ref w3), .val (.ref w3)] [(.ref w3)])) rfl (by rw [hml]; rfl) (argsL := []) (rest := []) (lenOf pd137 rfl) rfl rfl (by show 2 * 0 + _ ≤ _; exact Nat.le_of_eq rfl) (hb hby at_51) (by decide) (by decide) (by decide) (by decide)
          obtain ⟨rfl, N3q, e3⟩ := hQ3
          have N3 := Fr.app N2 N3q
          have e3' : T3.heap = T1.heap := e3
          obtain ⟨fs, hr, hrun, hended, hW, hsame⟩ := X3.leave (v := some (.int (1 : Int32))) (fun h => by rw [Bd.returns] at h; cases h)
          refine ⟨_, _, pre2 _ ?_, hrun, hended, _, _, rfl, ?_, ⟨_, rfl⟩, hW, hsame.mono (by decide) (by decide)⟩
          · show Steps p.tables e below (s₁.setTop (mkF m 6 #[.val (.int i0), .val (.int i1), .unset, .unset, .unset] [])) _
            refine Own.iloadN X0.here hx rfl (hb hby at_6) rfl hp3 ?_
            refine XS.goto X0.here hx rfl (pc0 := 7) (pc' := 16) rfl (hb hby at_7) (by decide) (by decide) ?_
            refine XS.istoreN X0.here hx rfl (hb hby at_16) rfl (l' := #[.val (.int i0), .val (.int i1), .val (.int (16 : Int32)), .unset, .unset]) rfl ?_
            refine XS.iloadN X0.here hx rfl (hb hby at_17) rfl ?_
            show Steps p.tables e below (s₁.setTop (mkF m 18 #[.val (.int i0), .val (.int i1), .val (.int (16 : Int32)), .unset, .unset] [(.int (16 : Int32))])) _
            refine st1 _ ?_
            refine XS.astoreN X1.here hx rfl (hb hby at_21) rfl rfl (l' := #[.val (.int i0), .val (.int i1), .val (.int (16 : Int32)), .val (.ref w3), .unset]) rfl ?_
            refine XS.iloadN X1.here hx rfl (hb hby at_22) rfl ?_
            refine st2 _ ?_
            show Steps p.tables e below (T2.setTop (mkF m 26 #[.val (.int i0), .val (.int i1), .val (.int (16 : Int32)), .val (.ref w3), .unset] [(.ref w3)])) _
            refine XS.astore X2.here hx rfl (hb hby at_26) rfl rfl (l' := #[.val (.int i0), .val (.int i1), .val (.int (16 : Int32)), .val (.ref w3), .val (.ref w3)]) rfl ?_
            refine XS.aloadN X2.here hx rfl (hb hby at_28) rfl rfl ?_
            refine XS.ifnonnullYes X2.here hx rfl (pc0 := 29) (pc' := 43) rfl (hb hby at_29) rfl (by decide) (by decide) ?_
            refine XS.aload X2.here hx rfl (hb hby at_43) rfl rfl ?_
            show Steps p.tables e below (T2.setTop (mkF m 45 #[.val (.int i0), .val (.int i1), .val (.int (16 : Int32)), .val (.ref w3), .val (.ref w3)] [(.ref w3)])) _
            refine XS.aloadN X2.here hx rfl (hb hby at_45) rfl rfl ?_
            refine Jvm.RoadKit.acmp (g := (mkF m 46 #[.val (.int i0), .val (.int i1), .val (.int (16 : Int32)), .val (.ref w3), .val (.ref w3)] [(.ref w3), (.ref w3)])) X2 hx rfl rfl rfl (pc0 := 46) (pc' := 49) (same := true) rfl (hb hby at_46) rfl (decide_eq_true rfl) (by decide) (by decide) ?_
            refine XS.aload X2.here hx rfl (hb hby at_49) rfl rfl ?_
            refine st3 _ ?_
            show Steps p.tables e below (T3.setTop (mkF m 54 #[.val (.int i0), .val (.int i1), .val (.int (16 : Int32)), .val (.ref w3), .val (.ref w3)] [(.int (16 : Int32))])) _
            refine XS.iloadN X3.here hx rfl (hb hby at_54) rfl ?_
            refine XS.icmpNo X3.here hx rfl (hb hby at_55) rfl (teq (by decide : (16 : Int32) = (16 : Int32))).2 ?_
            refine XS.iconst X3.here hx rfl (hb hby at_58) ?_
            refine XS.goto X3.here hx rfl (pc0 := 59) (pc' := 63) rfl (hb hby at_59) (by decide) (by decide) ?_
            show Steps p.tables e below (T3.setTop (mkF m 63 #[.val (.int i0), .val (.int i1), .val (.int (16 : Int32)), .val (.ref w3), .val (.ref w3)] [(.int (1 : Int32))])) _
            exact retN X3 hx (t := .boolean) Bd.returns (by simp) (hb hby at_63) hr
          · show QL n0 _ T3.heap _
            exact ⟨rfl, N3⟩
set_option maxRecDepth 65536 in
set_option maxHeartbeats 40000000 in
theorem comes_1 {Post : Tables → Env → Array Value → State → Outcome → State → Prop} (hpost : ∀ tb e args s v u, (limb_1_1.after args s (.returned v) u = true ∧ limb_1_2.after args s (.returned v) u = true ∧ True) → FrameEnd s (.returned v) u (Jvm.fieldLocs frame_1_writes args s ++ Jvm.arrayLocs frame_1_arrays args s ++ Jvm.staticLocs frame_1_statics s) 16 128 → Post tb e args s (.returned v) u) :
    ArmFor flags0 classFile x code maxLocals ret World_1 tables_1 room_1 Calls_1 rest_1 Pre_1 Post := by
  intro l hfl _ _ p e ha hc hk s m args below hf hA hF happ hP
  obtain ⟨hcalls, hrest, hpre⟩ := hP
  obtain ⟨-, -, -, hnamed, -, -, -, hat⟩ := (Spec.applies_iff hf).mp happ
  obtain ⟨hg, hn⟩ := and_e (Cond.before_iff.mp (show (Jvm.Cond.and given_1 narrow_1).before args s = true from hpre))
  obtain ⟨g1a, g1b⟩ := and_e hg
  obtain ⟨g2a, g2b⟩ := and_e g1b
  obtain ⟨n3a, n3b⟩ := and_e hn
  obtain ⟨n4a, n4b⟩ := and_e n3b
  obtain ⟨n5a, n5b⟩ := and_e n4b
  obtain ⟨n6a, n6b⟩ := and_e n5b
  obtain ⟨n7a, n7b⟩ := and_e n6b
  obtain ⟨n8a, n8b⟩ := and_e n7b
  obtain ⟨n9a, n9b⟩ := and_e n8b
  obtain ⟨n10a, n10b⟩ := and_e n9b
  obtain ⟨n11a, n11b⟩ := and_e n10b
  obtain ⟨n12a, n12b⟩ := and_e n11b
  obtain ⟨n13a, n13b⟩ := and_e n12b
  obtain ⟨n14a, n14b⟩ := and_e n13b
  obtain ⟨n15a, n15b⟩ := and_e n14b
  obtain ⟨n16a, n16b⟩ := and_e n15b
  obtain ⟨n17a, n17b⟩ := and_e n16b
  obtain ⟨n18a, n18b⟩ := and_e n17b
  obtain ⟨n19a, n19b⟩ := and_e n18b
  obtain ⟨n20a, n20b⟩ := and_e n19b
  obtain ⟨n21a, n21b⟩ := and_e n20b
  obtain ⟨n22a, n22b⟩ := and_e n21b
  obtain ⟨n23a, n23b⟩ := and_e n22b
  obtain ⟨n24a, n24b⟩ := and_e n23b
  obtain ⟨n25a, n25b⟩ := and_e n24b
  obtain ⟨n26a, n26b⟩ := and_e n25b
  obtain ⟨n27a, n27b⟩ := and_e n26b
  obtain ⟨n28a, n28b⟩ := and_e n27b
  obtain ⟨n29a, n29b⟩ := and_e n28b
  obtain ⟨n30a, n30b⟩ := and_e n29b
  obtain ⟨n31a, n31b⟩ := and_e n30b
  obtain ⟨n32a, n32b⟩ := and_e n31b
  obtain ⟨n33a, n33b⟩ := and_e n32b
  obtain ⟨n34a, n34b⟩ := and_e n33b
  obtain ⟨n35a, n35b⟩ := and_e n34b
  obtain ⟨n36a, n36b⟩ := and_e n35b
  obtain ⟨n37a, n37b⟩ := and_e n36b
  obtain ⟨n38a, n38b⟩ := and_e n37b
  obtain ⟨n39a, n39b⟩ := and_e n38b
  obtain ⟨n40a, n40b⟩ := and_e n39b
  obtain ⟨n41a, n41b⟩ := and_e n40b
  obtain ⟨n42a, n42b⟩ := and_e n41b
  obtain ⟨n43a, n43b⟩ := and_e n42b
  obtain ⟨n44a, n44b⟩ := and_e n43b
  obtain ⟨n45a, n45b⟩ := and_e n44b
  obtain ⟨n46a, n46b⟩ := and_e n45b
  obtain ⟨n47a, n47b⟩ := and_e n46b
  obtain ⟨n48a, n48b⟩ := and_e n47b
  obtain ⟨n49a, n49b⟩ := and_e n48b
  obtain ⟨n50a, n50b⟩ := and_e n49b
  obtain ⟨n51a, n51b⟩ := and_e n50b
  obtain ⟨n52a, n52b⟩ := and_e n51b
  obtain ⟨v0, v1, rfl⟩ : ∃ v0 v1 : Value, args = #[v0, v1] := by
    have hs : args.size = 2 := by simpa [Cond.value, given_1] using g1a
    obtain ⟨L⟩ := args
    match L, hs with
    | [v0, v1], _ => exact ⟨v0, v1, rfl⟩
  have hw := fun d (hd : d ∈ tables_1) => atoms_spec (ws := Jvm.Cond.code x code maxLocals ret :: tables_1) hat d (List.mem_cons_of_mem _ hd)
  have hfit : Fit s := fun {y c} hc i hi => by
    obtain ⟨ha, rfl⟩ := Array.getElem?_eq_some_iff.mp hc
    have q := List.all_eq_true.mp ((Array.all_eq_true_iff_forall_mem.mp hF) _ (Array.getElem_mem ha)) i (List.mem_range.mpr hi)
    simpa [Array.getElem?_eq_getElem hi] using q
  obtain ⟨i0, ei0⟩ := is_v g2a
  obtain rfl : v0 = (.int i0) := Option.some.inj ei0
  obtain ⟨i1, ei1⟩ := is_v g2b
  obtain rfl : v1 = (.int i1) := Option.some.inj ei1
  obtain ⟨w0, evw0⟩ := exa_v n6a
  obtain ⟨w1, evw1⟩ := exa_v n16a
  obtain ⟨w2, evw2⟩ := exa_v n17a
  obtain ⟨w3, evw3⟩ := exa_v n18a
  obtain ⟨w4, evw4⟩ := exa_v n15a
  obtain ⟨w5, evw5⟩ := exa_v n3a
  obtain ⟨w6, evw6⟩ := exa_v n14a
  obtain ⟨w7, evw7⟩ := exa_v n12a
  obtain ⟨w8, evw8⟩ := exa_v n7a
  obtain ⟨w9, evw9⟩ := exa_v n11a
  obtain ⟨w10, evw10⟩ := exa_v n9a
  obtain ⟨w11, evw11⟩ := exa_v n5a
  obtain ⟨w12, evw12⟩ := exa_v n13a
  obtain ⟨w13, evw13⟩ := exa_v n10a
  obtain ⟨w14, evw14⟩ := exa_v n4a
  obtain ⟨w15, evw15⟩ := exa_v n8a
  obtain ⟨w16, evw16⟩ := arr_v n19a
  obtain ⟨clw16, Aw16⟩ := Arr.start evw16 n19a
  have lw16 := own_len evw16 Aw16 n20a
  obtain ⟨kw16, ekw16⟩ : ∃ z, z = clw16.cls := ⟨_, rfl⟩
  have Vw16 := Arv.start (dv := .null) hfit Aw16 lw16.1 lw16.2 (by decide) (vs := [(.ref w5), (.ref w14), (.ref w11), (.ref w0), .null, (.ref w8), (.ref w15), (.ref w10), (.ref w13), (.ref w9), (.ref w7), (.ref w12), (.ref w6), (.ref w4), (.ref w1), (.ref w2), (.ref w3)]) rfl ⟨own_el evw16 Aw16 evw5 rfl n21a, own_el evw16 Aw16 evw14 rfl n34a, own_el evw16 Aw16 evw11 rfl n40a, own_el evw16 Aw16 evw0 rfl n30a, own_el evw16 Aw16 null_at rfl n25a, own_el evw16 Aw16 evw8 rfl n38a, own_el evw16 Aw16 evw15 rfl n42a, own_el evw16 Aw16 evw10 rfl n48a, own_el evw16 Aw16 evw13 rfl n26a, own_el evw16 Aw16 evw9 rfl n36a, own_el evw16 Aw16 evw7 rfl n32a, own_el evw16 Aw16 evw12 rfl n52a, own_el evw16 Aw16 evw6 rfl n28a, own_el evw16 Aw16 evw4 rfl n44a, own_el evw16 Aw16 evw1 rfl n23a, own_el evw16 Aw16 evw2 rfl n50a, own_el evw16 Aw16 evw3 rfl n46a, trivial⟩
  rw [← ekw16] at Vw16
  have hS : SF s w0 w1 w2 w3 w4 w5 w6 w7 w8 w9 w10 w11 w12 w13 w14 w15 w16 kw16 := ⟨Sta.start evw0 (Or.inr ⟨(hw _ m7), (hw _ m15)⟩), Exa.start evw0 n6a, own_fld evw0 n31a, Sta.start evw1 (Or.inr ⟨(hw _ m7), (hw _ m35)⟩), Exa.start evw1 n16a, own_fld evw1 n24a, Sta.start evw2 (Or.inr ⟨(hw _ m7), (hw _ m37)⟩), Exa.start evw2 n17a, own_fld evw2 n51a, Sta.start evw3 (Or.inr ⟨(hw _ m7), (hw _ m39)⟩), Exa.start evw3 n18a, own_fld evw3 n47a, Sta.start evw4 (Or.inr ⟨(hw _ m7), (hw _ m33)⟩), Exa.start evw4 n15a, own_fld evw4 n45a, Sta.start evw5 (Or.inr ⟨(hw _ m7), (hw _ m8)⟩), Exa.start evw5 n3a, own_fld evw5 n22a, Sta.start evw6 (Or.inr ⟨(hw _ m7), (hw _ m31)⟩), Exa.start evw6 n14a, own_fld evw6 n29a, Sta.start evw7 (Or.inr ⟨(hw _ m7), (hw _ m27)⟩), Exa.start evw7 n12a, own_fld evw7 n33a, Sta.start evw8 (Or.inr ⟨(hw _ m7), (hw _ m17)⟩), Exa.start evw8 n7a, own_fld evw8 n39a, Sta.start evw9 (Or.inr ⟨(hw _ m7), (hw _ m25)⟩), Exa.start evw9 n11a, own_fld evw9 n37a, Sta.start evw10 (Or.inr ⟨(hw _ m7), (hw _ m21)⟩), Exa.start evw10 n9a, own_fld evw10 n49a, Sta.start evw11 (Or.inr ⟨(hw _ m7), (hw _ m13)⟩), Exa.start evw11 n5a, own_fld evw11 n41a, Sta.start evw12 (Or.inr ⟨(hw _ m7), (hw _ m29)⟩), Exa.start evw12 n13a, own_fld evw12 n52b, Sta.start evw13 (Or.inr ⟨(hw _ m7), (hw _ m23)⟩), Exa.start evw13 n10a, own_fld evw13 n27a, Sta.start evw14 (Or.inr ⟨(hw _ m7), (hw _ m11)⟩), Exa.start evw14 n4a, own_fld evw14 n35a, Sta.start evw15 (Or.inr ⟨(hw _ m7), (hw _ m19)⟩), Exa.start evw15 n8a, own_fld evw15 n43a, Sta.start evw16 (Or.inr ⟨(hw _ m7), (hw _ m44)⟩), Vw16⟩
  obtain ⟨n, o, h1, h2, h3, _, L, rfl, ⟨rfl, N⟩, hq⟩ := rm0 l s _ hw w0 w1 w2 w3 w4 w5 w6 w7 w8 w9 w10 w11 w12 w13 w14 w15 w16 kw16 hS tables_1 i0 i1 s.heap s.heap.size (Old.start s) p e ha hc hk s m _ below hf ((Spec.applies_iff_loose hf).mp happ).1 ⟨rfl, State.Warmed39.refl s, rfl⟩ trivial
  refine ⟨n, _, h1, h2, h3, hpost _ _ _ _ _ _ ⟨Cond.after_iff.mpr rfl, Cond.after_iff.mpr (eq_i res_at (Term.int_eval (1)) rfl), trivial⟩ ⟨hq.1, hq.2.1, (hq.2.2.sift fun y hy => Or.inr (N y hy)).mono (by decide) (by decide)⟩⟩
theorem main_1_1 : Claimed_1_1 := comes_1 fun _ _ _ _ _ _ h hF => ⟨h.1, hF⟩
theorem main_1_2 : Claimed_1_2 := comes_1 fun _ _ _ _ _ _ h hF => ⟨h.2.1, hF⟩
end Jvm.Pilot.@@N@@
namespace Jvm.Pilot.@@N@@
open Jvm Jvm.ClassFile Sem Op Lib Jvm.Free Jvm.Stand Jvm.Pilot.@@N@@.Jvm.D
/-! MADE BY PROGRAM (witnessworld.py) out of the Statement's table words and the real class files: 13 classes; the members and pool entries that the words name. The judged class is class 1, her method 1. -/
namespace start1
open Jvm.ClassFile
def u (s : String) : CpInfo := .utf8 (stringToUtf16 s)
/-- a pool by its gaps: so many unusable entries, then the entry; so many at the end -/
def gap : Nat → List CpInfo → List CpInfo
  | 0, r => r
  | n + 1, r => .unusable :: gap n r
def poolList (es : List (Nat × CpInfo)) (last : Nat) : List CpInfo := es.foldr (fun e r => gap e.1 (e.2 :: r)) (gap last [])
def pool (es : List (Nat × CpInfo)) (last : Nat) : Array CpInfo := ⟨poolList es last⟩
def fileOf (pool : Array CpInfo) (this : Nat) (attrs : Array Attribute := #[]) (ms : Array MethodInfo := #[]) (fl : Nat := 33) (sup : Nat := 0) (ifs : Array Nat := #[]) (fds : Array FieldInfo := #[]) : ClassFile where
  minorVersion := 0
  majorVersion := 65
  constantPool := pool
  accessFlags := fl
  thisClass := this
  superClass := sup
  interfaces := ifs
  fields := fds
  methods := ms
  attributes := attrs
def plain (name : String) (sup : Option ClassId) : Class where
  name := name
  kind := .ordinary
  loader := none
  accessFlags := 33
  super := sup
  interfaces := #[]
  cf := none
  fields := #[]
  methods := #[]
  instanceTypes := #[]
  staticTypes := #[]
  resolved := #[]
  callSites := []
  init := .initialized
  statics := none
  mirror := none

def pool0 : Array CpInfo := pool [(5, u "<init>"), (0, u "()V"), (1, .class_ 10), (1, u "java/lang/Object")] 113

def k0m0 : Method := { name := "<init>", desc := "()V", sig := { parameters := [], returnType := none }, accessFlags := 1, code := none }
/-- java/lang/Object -/
def k0 : Class := { plain "java/lang/Object" none with
  accessFlags := 33
  interfaces := #[]
  cf := some (fileOf pool0 8 #[] #[{ accessFlags := 1, nameIndex := 5, descriptorIndex := 6, attributes := #[] }] 33 0 #[] #[])
  fields := #[]
  methods := #[k0m0]
  instanceTypes := #[]
  staticTypes := #[]
  resolved := Array.replicate 124 none
  statics := none }

def pool1 : Array CpInfo := pool [(2, .class_ 4), (1, u "java/lang/Object"), (0, u "<init>"), (0, u "()V"), (0, .methodref 8 9), (0, .class_ 10), (0, .nameAndType 11 12), (0, u "com/example/key3/key3/server/protocol/OpcodeOfPinLaw"), (0, u "expected"), (0, u "(I)Lcom/example/key3/key3/server/protocol/Opcode;"), (0, .methodref 14 15), (0, .class_ 16), (0, .nameAndType 17 12), (0, u "com/example/key3/key3/server/protocol/Opcode"), (0, u "of"), (0, .methodref 14 19), (0, .nameAndType 20 21), (0, u "code"), (0, u "()I"), (0, .fieldref 14 23), (0, .nameAndType 24 25), (0, u "ERROR"), (0, u "Lcom/example/key3/key3/server/protocol/Opcode;"), (0, .fieldref 14 27), (0, .nameAndType 28 25), (0, u "STARTUP"), (0, .fieldref 14 30), (0, .nameAndType 31 25), (0, u "READY"), (0, .fieldref 14 33), (0, .nameAndType 34 25), (0, u "AUTHENTICATE"), (0, .fieldref 14 36), (0, .nameAndType 37 25), (0, u "OPTIONS"), (0, .fieldref 14 39), (0, .nameAndType 40 25), (0, u "SUPPORTED"), (0, .fieldref 14 42), (0, .nameAndType 43 25), (0, u "QUERY"), (0, .fieldref 14 45), (0, .nameAndType 46 25), (0, u "RESULT"), (0, .fieldref 14 48), (0, .nameAndType 49 25), (0, u "PREPARE"), (0, .fieldref 14 51), (0, .nameAndType 52 25), (0, u "EXECUTE"), (0, .fieldref 14 54), (0, .nameAndType 55 25), (0, u "REGISTER"), (0, .fieldref 14 57), (0, .nameAndType 58 25), (0, u "EVENT"), (0, .fieldref 14 60), (0, .nameAndType 61 25), (0, u "BATCH"), (0, .fieldref 14 63), (0, .nameAndType 64 25), (0, u "AUTH_CHALLENGE"), (0, .fieldref 14 66), (0, .nameAndType 67 25), (0, u "AUTH_RESPONSE"), (0, .fieldref 14 69), (0, .nameAndType 70 25), (0, u "AUTH_SUCCESS"), (2, u "law"), (0, u "(II)Z")] 3

def k1m0 : Method := { name := "<init>", desc := "()V", sig := { parameters := [], returnType := none }, accessFlags := 1, code := none }
def k1c1 : Code := { maxStack := 2, maxLocals := 5, code := code, exceptionTable := #[], attributes := #[] }
def k1m1 : Method := { name := "law", desc := "(II)Z", sig := { parameters := [.int, .int], returnType := some .boolean }, accessFlags := 9, code := some k1c1 }
def k1c2 : Code := { maxStack := 4, maxLocals := 2, code := method_3_code, exceptionTable := #[], attributes := #[] }
def k1m2 : Method := { name := "expected", desc := "(I)Lcom/example/key3/key3/server/protocol/Opcode;", sig := { parameters := [.int], returnType := some (.object "com/example/key3/key3/server/protocol/Opcode") }, accessFlags := 10, code := some k1c2 }
/-- com/example/key3/key3/server/protocol/OpcodeOfPinLaw -/
def k1 : Class := { plain "com/example/key3/key3/server/protocol/OpcodeOfPinLaw" (some 0) with
  accessFlags := 49
  interfaces := #[]
  cf := some (fileOf pool1 8 #[] #[{ accessFlags := 1, nameIndex := 5, descriptorIndex := 6, attributes := #[] }, { accessFlags := 9, nameIndex := 73, descriptorIndex := 74, attributes := #[] }, { accessFlags := 10, nameIndex := 11, descriptorIndex := 12, attributes := #[] }] 49 2 #[] #[])
  fields := #[]
  methods := #[k1m0, k1m1, k1m2]
  instanceTypes := #[]
  staticTypes := #[]
  resolved := Array.replicate 78 none
  statics := none }

def pool2 : Array CpInfo := pool [(1, .class_ 2), (0, u "java/lang/constant/Constable"), (0, .class_ 4), (0, u "java/lang/Object")] 6

/-- java/lang/constant/Constable -/
def k2 : Class := { plain "java/lang/constant/Constable" (some 0) with
  accessFlags := 1537
  interfaces := #[]
  cf := some (fileOf pool2 1 #[] #[] 1537 3 #[] #[])
  fields := #[]
  methods := #[]
  instanceTypes := #[]
  staticTypes := #[]
  resolved := Array.replicate 11 none
  statics := none }

def pool3 : Array CpInfo := pool [(1, .class_ 2), (0, u "java/lang/Comparable"), (0, .class_ 4), (0, u "java/lang/Object")] 7

/-- java/lang/Comparable -/
def k3 : Class := { plain "java/lang/Comparable" (some 0) with
  accessFlags := 1537
  interfaces := #[]
  cf := some (fileOf pool3 1 #[] #[] 1537 3 #[] #[])
  fields := #[]
  methods := #[]
  instanceTypes := #[]
  staticTypes := #[]
  resolved := Array.replicate 12 none
  statics := none }

def pool4 : Array CpInfo := pool [(1, .class_ 2), (0, u "java/io/Serializable"), (0, .class_ 4), (0, u "java/lang/Object")] 2

/-- java/io/Serializable -/
def k4 : Class := { plain "java/io/Serializable" (some 0) with
  accessFlags := 1537
  interfaces := #[]
  cf := some (fileOf pool4 1 #[] #[] 1537 3 #[] #[])
  fields := #[]
  methods := #[]
  instanceTypes := #[]
  staticTypes := #[]
  resolved := Array.replicate 7 none
  statics := none }

def pool5 : Array CpInfo := pool [(2, .class_ 4), (1, u "java/lang/Enum"), (0, u "name"), (0, u "Ljava/lang/String;"), (2, u "ordinal"), (0, u "I"), (1, .class_ 14), (1, u "java/lang/Object"), (4, u "hash"), (86, .class_ 108), (1, u "java/lang/Enum$EnumDesc"), (2, .class_ 112), (0, u "java/lang/constant/Constable"), (0, .class_ 114), (0, u "java/lang/Comparable"), (0, .class_ 116), (0, u "java/io/Serializable")] 87

/-- java/lang/Enum -/
def k5 : Class := { plain "java/lang/Enum" (some 0) with
  accessFlags := 1057
  interfaces := #[2, 3, 4]
  cf := some (fileOf pool5 2 #[.nestMembers #[106]] #[] 1057 12 #[111, 113, 115] #[{ accessFlags := 18, nameIndex := 5, descriptorIndex := 6, attributes := #[] }, { accessFlags := 18, nameIndex := 9, descriptorIndex := 10, attributes := #[] }, { accessFlags := 2, nameIndex := 19, descriptorIndex := 10, attributes := #[] }])
  fields := #[{ name := "name", type := (.object "java/lang/String"), accessFlags := 18, slot := 0, constantValue := 0 }, { name := "ordinal", type := .int, accessFlags := 18, slot := 1, constantValue := 0 }, { name := "hash", type := .int, accessFlags := 2, slot := 2, constantValue := 0 }]
  methods := #[]
  instanceTypes := #[(.object "java/lang/String"), .int, .int]
  staticTypes := #[]
  resolved := Array.replicate 204 none
  statics := none }

def pool6 : Array CpInfo := pool [(1, .class_ 2), (0, u "com/example/key3/key3/server/protocol/Opcode"), (2, u "ERROR"), (0, u "Lcom/example/key3/key3/server/protocol/Opcode;"), (2, u "STARTUP"), (2, u "READY"), (2, u "AUTHENTICATE"), (2, u "OPTIONS"), (2, u "SUPPORTED"), (2, u "QUERY"), (2, u "RESULT"), (2, u "PREPARE"), (2, u "EXECUTE"), (2, u "REGISTER"), (2, u "EVENT"), (2, u "BATCH"), (2, u "AUTH_CHALLENGE"), (2, u "AUTH_RESPONSE"), (2, u "AUTH_SUCCESS"), (2, u "$VALUES"), (0, u "[Lcom/example/key3/key3/server/protocol/Opcode;"), (6, .class_ 64), (1, u "java/lang/Enum"), (6, .fieldref 1 72), (0, .nameAndType 73 74), (0, u "code"), (0, u "I"), (2, u "request"), (0, u "Z"), (0, .fieldref 1 80), (0, .nameAndType 81 55), (0, u "BY_CODE"), (32, u "()I"), (0, u "of"), (0, u "(I)Lcom/example/key3/key3/server/protocol/Opcode;")] 6

def k6c0 : Code := { maxStack := 1, maxLocals := 1, code := prog_90_method_4_code, exceptionTable := #[], attributes := #[] }
def k6m0 : Method := { name := "code", desc := "()I", sig := { parameters := [], returnType := some .int }, accessFlags := 1, code := some k6c0 }
def k6c1 : Code := { maxStack := 2, maxLocals := 1, code := prog_90_method_5_code, exceptionTable := #[], attributes := #[] }
def k6m1 : Method := { name := "of", desc := "(I)Lcom/example/key3/key3/server/protocol/Opcode;", sig := { parameters := [.int], returnType := some (.object "com/example/key3/key3/server/protocol/Opcode") }, accessFlags := 9, code := some k6c1 }
/-- com/example/key3/key3/server/protocol/Opcode -/
def k6 : Class := { plain "com/example/key3/key3/server/protocol/Opcode" (some 5) with
  accessFlags := 16433
  interfaces := #[]
  cf := some (fileOf pool6 1 #[] #[{ accessFlags := 1, nameIndex := 73, descriptorIndex := 114, attributes := #[] }, { accessFlags := 9, nameIndex := 115, descriptorIndex := 116, attributes := #[] }] 16433 62 #[] #[{ accessFlags := 16409, nameIndex := 5, descriptorIndex := 6, attributes := #[] }, { accessFlags := 16409, nameIndex := 9, descriptorIndex := 6, attributes := #[] }, { accessFlags := 16409, nameIndex := 12, descriptorIndex := 6, attributes := #[] }, { accessFlags := 16409, nameIndex := 15, descriptorIndex := 6, attributes := #[] }, { accessFlags := 16409, nameIndex := 18, descriptorIndex := 6, attributes := #[] }, { accessFlags := 16409, nameIndex := 21, descriptorIndex := 6, attributes := #[] }, { accessFlags := 16409, nameIndex := 24, descriptorIndex := 6, attributes := #[] }, { accessFlags := 16409, nameIndex := 27, descriptorIndex := 6, attributes := #[] }, { accessFlags := 16409, nameIndex := 30, descriptorIndex := 6, attributes := #[] }, { accessFlags := 16409, nameIndex := 33, descriptorIndex := 6, attributes := #[] }, { accessFlags := 16409, nameIndex := 36, descriptorIndex := 6, attributes := #[] }, { accessFlags := 16409, nameIndex := 39, descriptorIndex := 6, attributes := #[] }, { accessFlags := 16409, nameIndex := 42, descriptorIndex := 6, attributes := #[] }, { accessFlags := 16409, nameIndex := 45, descriptorIndex := 6, attributes := #[] }, { accessFlags := 16409, nameIndex := 48, descriptorIndex := 6, attributes := #[] }, { accessFlags := 16409, nameIndex := 51, descriptorIndex := 6, attributes := #[] }, { accessFlags := 26, nameIndex := 81, descriptorIndex := 55, attributes := #[] }, { accessFlags := 16, nameIndex := 73, descriptorIndex := 74, attributes := #[] }, { accessFlags := 16, nameIndex := 77, descriptorIndex := 78, attributes := #[] }, { accessFlags := 4122, nameIndex := 54, descriptorIndex := 55, attributes := #[] }])
  fields := #[{ name := "ERROR", type := (.object "com/example/key3/key3/server/protocol/Opcode"), accessFlags := 16409, slot := 0, constantValue := 0 }, { name := "STARTUP", type := (.object "com/example/key3/key3/server/protocol/Opcode"), accessFlags := 16409, slot := 1, constantValue := 0 }, { name := "READY", type := (.object "com/example/key3/key3/server/protocol/Opcode"), accessFlags := 16409, slot := 2, constantValue := 0 }, { name := "AUTHENTICATE", type := (.object "com/example/key3/key3/server/protocol/Opcode"), accessFlags := 16409, slot := 3, constantValue := 0 }, { name := "OPTIONS", type := (.object "com/example/key3/key3/server/protocol/Opcode"), accessFlags := 16409, slot := 4, constantValue := 0 }, { name := "SUPPORTED", type := (.object "com/example/key3/key3/server/protocol/Opcode"), accessFlags := 16409, slot := 5, constantValue := 0 }, { name := "QUERY", type := (.object "com/example/key3/key3/server/protocol/Opcode"), accessFlags := 16409, slot := 6, constantValue := 0 }, { name := "RESULT", type := (.object "com/example/key3/key3/server/protocol/Opcode"), accessFlags := 16409, slot := 7, constantValue := 0 }, { name := "PREPARE", type := (.object "com/example/key3/key3/server/protocol/Opcode"), accessFlags := 16409, slot := 8, constantValue := 0 }, { name := "EXECUTE", type := (.object "com/example/key3/key3/server/protocol/Opcode"), accessFlags := 16409, slot := 9, constantValue := 0 }, { name := "REGISTER", type := (.object "com/example/key3/key3/server/protocol/Opcode"), accessFlags := 16409, slot := 10, constantValue := 0 }, { name := "EVENT", type := (.object "com/example/key3/key3/server/protocol/Opcode"), accessFlags := 16409, slot := 11, constantValue := 0 }, { name := "BATCH", type := (.object "com/example/key3/key3/server/protocol/Opcode"), accessFlags := 16409, slot := 12, constantValue := 0 }, { name := "AUTH_CHALLENGE", type := (.object "com/example/key3/key3/server/protocol/Opcode"), accessFlags := 16409, slot := 13, constantValue := 0 }, { name := "AUTH_RESPONSE", type := (.object "com/example/key3/key3/server/protocol/Opcode"), accessFlags := 16409, slot := 14, constantValue := 0 }, { name := "AUTH_SUCCESS", type := (.object "com/example/key3/key3/server/protocol/Opcode"), accessFlags := 16409, slot := 15, constantValue := 0 }, { name := "BY_CODE", type := (.array (.object "com/example/key3/key3/server/protocol/Opcode")), accessFlags := 26, slot := 16, constantValue := 0 }, { name := "code", type := .int, accessFlags := 16, slot := 3, constantValue := 0 }, { name := "request", type := .boolean, accessFlags := 16, slot := 4, constantValue := 0 }, { name := "$VALUES", type := (.array (.object "com/example/key3/key3/server/protocol/Opcode")), accessFlags := 4122, slot := 17, constantValue := 0 }]
  methods := #[k6m0, k6m1]
  instanceTypes := #[(.object "java/lang/String"), .int, .int, .int, .boolean]
  staticTypes := #[(.object "com/example/key3/key3/server/protocol/Opcode"), (.object "com/example/key3/key3/server/protocol/Opcode"), (.object "com/example/key3/key3/server/protocol/Opcode"), (.object "com/example/key3/key3/server/protocol/Opcode"), (.object "com/example/key3/key3/server/protocol/Opcode"), (.object "com/example/key3/key3/server/protocol/Opcode"), (.object "com/example/key3/key3/server/protocol/Opcode"), (.object "com/example/key3/key3/server/protocol/Opcode"), (.object "com/example/key3/key3/server/protocol/Opcode"), (.object "com/example/key3/key3/server/protocol/Opcode"), (.object "com/example/key3/key3/server/protocol/Opcode"), (.object "com/example/key3/key3/server/protocol/Opcode"), (.object "com/example/key3/key3/server/protocol/Opcode"), (.object "com/example/key3/key3/server/protocol/Opcode"), (.object "com/example/key3/key3/server/protocol/Opcode"), (.object "com/example/key3/key3/server/protocol/Opcode"), (.array (.object "com/example/key3/key3/server/protocol/Opcode")), (.array (.object "com/example/key3/key3/server/protocol/Opcode"))]
  resolved := Array.replicate 123 none
  statics := some 0 }

def pool7 : Array CpInfo := pool [(1, u "java/lang/Cloneable"), (0, .class_ 1), (0, u "java/lang/Object"), (0, .class_ 3)] 3

/-- java/lang/Cloneable -/
def k7 : Class := { plain "java/lang/Cloneable" (some 0) with
  accessFlags := 1537
  interfaces := #[]
  cf := some (fileOf pool7 2 #[] #[] 1537 4 #[] #[])
  fields := #[]
  methods := #[]
  instanceTypes := #[]
  staticTypes := #[]
  resolved := Array.replicate 8 none
  statics := none }

/-- the primitive byte -/
def k8 : Class := { plain "byte" none with kind := .primitive 'B', accessFlags := 0x411 }
/-- [B -/
def k9 : Class := { plain "[B" (some 0) with kind := .array 8 .byte, interfaces := #[7, 4], accessFlags := 1041 }

/-- the primitive int -/
def k10 : Class := { plain "int" none with kind := .primitive 'I', accessFlags := 0x411 }
/-- [I -/
def k11 : Class := { plain "[I" (some 0) with kind := .array 10 .int, interfaces := #[7, 4], accessFlags := 1041 }

/-- [Lcom/example/key3/key3/server/protocol/Opcode; -/
def k12 : Class := { plain "[Lcom/example/key3/key3/server/protocol/Opcode;" (some 0) with kind := .array 6 (.object "com/example/key3/key3/server/protocol/Opcode"), interfaces := #[7, 4], accessFlags := 1041 }

def heap : Heap := #[{ cls := 6, slots := #[.ref 7, .ref 16, .ref 13, .ref 2, .ref 10, .ref 17, .ref 12, .ref 15, .ref 11, .ref 9, .ref 14, .ref 8, .ref 6, .ref 3, .ref 4, .ref 5, .ref 1, .null], vm := .statics 6 },
  { cls := 12, slots := #[.ref 7, .ref 16, .ref 13, .ref 2, .null, .ref 10, .ref 17, .ref 12, .ref 15, .ref 11, .ref 9, .ref 14, .ref 8, .ref 6, .ref 3, .ref 4, .ref 5], vm := .none },
  { cls := 6, slots := #[.null, .int 0, .int 0, .int 3, .int 0], vm := .none },
  { cls := 6, slots := #[.null, .int 0, .int 0, .int 14, .int 0], vm := .none },
  { cls := 6, slots := #[.null, .int 0, .int 0, .int 15, .int 0], vm := .none },
  { cls := 6, slots := #[.null, .int 0, .int 0, .int 16, .int 0], vm := .none },
  { cls := 6, slots := #[.null, .int 0, .int 0, .int 13, .int 0], vm := .none },
  { cls := 6, slots := #[.null, .int 0, .int 0, .int 0, .int 0], vm := .none },
  { cls := 6, slots := #[.null, .int 0, .int 0, .int 12, .int 0], vm := .none },
  { cls := 6, slots := #[.null, .int 0, .int 0, .int 10, .int 0], vm := .none },
  { cls := 6, slots := #[.null, .int 0, .int 0, .int 5, .int 0], vm := .none },
  { cls := 6, slots := #[.null, .int 0, .int 0, .int 9, .int 0], vm := .none },
  { cls := 6, slots := #[.null, .int 0, .int 0, .int 7, .int 0], vm := .none },
  { cls := 6, slots := #[.null, .int 0, .int 0, .int 2, .int 0], vm := .none },
  { cls := 6, slots := #[.null, .int 0, .int 0, .int 11, .int 0], vm := .none },
  { cls := 6, slots := #[.null, .int 0, .int 0, .int 8, .int 0], vm := .none },
  { cls := 6, slots := #[.null, .int 0, .int 0, .int 1, .int 0], vm := .none },
  { cls := 6, slots := #[.null, .int 0, .int 0, .int 6, .int 0], vm := .none }]
def classes : Array Class := #[k0, k1, k2, k3, k4, k5, k6, k7, k8, k9, k10, k11, k12]
def interned : List (Array UInt16 × Addr) := []
def slotsUsed : Nat := 115
def theMethod : MethodId := ⟨1, 1⟩
def args0 : Array Value := #[.int 5, .int 5]
def aboutOver (below : List Frame) : State where
  vm := { classes := classes, interned := interned.toArray }
  heap := heap
  slotsUsed := slotsUsed
  threads := #[{ frames := .invoking theMethod args0 :: below }]
def below0 : List Frame := [.native { method := ⟨0, 0⟩, args := #[] }]
def about1 : State := aboutOver below0
def p0 : Program := .bare "" "" ""
def e0 : Env := launch0.env 0 0 0
theorem w_frames : about1.frames = Frame.invoking theMethod args0 :: below0 := rfl
set_option maxRecDepth 65536 in
theorem w_args : argsFit about1.vm theMethod args0 = true := by decide +kernel
set_option maxRecDepth 65536 in
theorem w_heap : heapFits about1 = true := by decide +kernel
set_option maxRecDepth 65536 in
theorem w_runnable : about1.curStatus? = some .runnable := by decide +kernel
set_option maxRecDepth 65536 in
theorem w_alone : about1.alone = true := by decide +kernel
set_option maxRecDepth 65536 in
theorem w_named : about1.methodNamed? x = some theMethod := by decide +kernel
set_option maxRecDepth 65536 in
theorem w_hears : about1.hears theMethod below0 = true := by decide +kernel
set_option maxRecDepth 65536 in
theorem w_ripe : about1.ripe theMethod args0 below0 = true := by decide +kernel
theorem w_running : about1.status = .running := rfl
set_option maxRecDepth 65536 in
theorem w_room : about1.hasRoom e0.platform room_1 = true :=
  launch0.hasRoom_least _ room_1 (by decide +kernel) (by decide +kernel) (by decide +kernel) (by decide +kernel) (by decide +kernel) (by decide +kernel)
theorem allAtoms_all (ts : List Jvm.Cond) (a : Array Jvm.Value) (st : Jvm.State) : (allAtoms ts).before a st = ts.all (fun c => c.before a st) := by
  induction ts with
  | nil => rfl
  | cons c t ih =>
    show (Jvm.Cond.and c (allAtoms t)).before a st = _
    rw [Jvm.Cond.before_and, ih, List.all_cons]
def words1 : List Jvm.Cond := Jvm.Cond.code x code maxLocals ret :: tables_1
/-- a 'code' word, met by the world's own term for the bytes: nothing is compared byte by byte -/
theorem code_word {y : MethodName} {bytes : ByteArray} {mx : Nat} {rt : Option FieldType} {a : Array Value} {s : State} {m : MethodId} {meth : Method} {c : Code} (h1 : s.methodNamed? y = some m) (h2 : s.vm.method? m = some meth) (h3 : meth.code = some c) (h4 : c.code = bytes)
    (h5 : (c.maxLocals == mx && c.exceptionTable.isEmpty && decide (c.maxStack ≤ mostOperands) && decide (meth.sig.returnType = rt) && !meth.locks && decide (parseMethodDescriptor y.desc = some meth.sig)) = true) : (Jvm.Cond.code y bytes mx rt).before a s = true := by
  simp only [Bool.and_eq_true, beq_iff_eq, Bool.not_eq_true', decide_eq_true_eq] at h5
  obtain ⟨⟨⟨⟨⟨g1, g2⟩, g3⟩, g4⟩, g5⟩, g6⟩ := h5
  simp [Cond.before, Cond.holds, Cond.value, h1, h2, h3, h4, g1, g2, g3, g4, g5, g6]
def isCode : Jvm.Cond → Bool
  | .code _ _ _ _ => true
  | _ => false
theorem all_split {L : List Jvm.Cond} {P : Jvm.Cond → Bool} (h1 : L.all (fun c => isCode c || P c) = true) (h2 : ∀ c ∈ L.filter isCode, P c = true) : L.all P = true := by
  refine List.all_eq_true.mpr fun c hc => ?_
  have h := List.all_eq_true.mp h1 c hc
  rcases Bool.eq_false_or_eq_true (isCode c) with hi | hi
  · exact h2 c (List.mem_filter.mpr ⟨hc, hi⟩)
  · simpa [hi] using h
set_option maxRecDepth 65536 in
theorem w_c0 : (Jvm.Cond.code x code maxLocals ret).before args0 about1 = true := code_word (m := ⟨1, 1⟩) (meth := k1m1) (c := k1c1) (by decide +kernel) rfl rfl rfl (by decide +kernel)
set_option maxRecDepth 65536 in
theorem w_c1 : (Jvm.Cond.code ({ cls := "com/example/key3/key3/server/protocol/OpcodeOfPinLaw", name := "expected", desc := "(I)Lcom/example/key3/key3/server/protocol/Opcode;" } : Jvm.MethodName) method_3_code (2 : Nat) (Option.some (Jvm.ClassFile.FieldType.object "com/example/key3/key3/server/protocol/Opcode"))).before args0 about1 = true := code_word (m := ⟨1, 2⟩) (meth := k1m2) (c := k1c2) (by decide +kernel) rfl rfl rfl (by decide +kernel)
set_option maxRecDepth 65536 in
theorem w_c2 : (Jvm.Cond.code ({ cls := "com/example/key3/key3/server/protocol/Opcode", name := "of", desc := "(I)Lcom/example/key3/key3/server/protocol/Opcode;" } : Jvm.MethodName) prog_90_method_5_code (1 : Nat) (Option.some (Jvm.ClassFile.FieldType.object "com/example/key3/key3/server/protocol/Opcode"))).before args0 about1 = true := code_word (m := ⟨6, 1⟩) (meth := k6m1) (c := k6c1) (by decide +kernel) rfl rfl rfl (by decide +kernel)
set_option maxRecDepth 65536 in
theorem w_c3 : (Jvm.Cond.code ({ cls := "com/example/key3/key3/server/protocol/Opcode", name := "code", desc := "()I" } : Jvm.MethodName) prog_90_method_4_code (1 : Nat) (Option.some Jvm.ClassFile.FieldType.int)).before args0 about1 = true := code_word (m := ⟨6, 0⟩) (meth := k6m0) (c := k6c0) (by decide +kernel) rfl rfl rfl (by decide +kernel)
def codes1 : List Jvm.Cond := [Jvm.Cond.code x code maxLocals ret, Jvm.Cond.code ({ cls := "com/example/key3/key3/server/protocol/OpcodeOfPinLaw", name := "expected", desc := "(I)Lcom/example/key3/key3/server/protocol/Opcode;" } : Jvm.MethodName) method_3_code (2 : Nat) (Option.some (Jvm.ClassFile.FieldType.object "com/example/key3/key3/server/protocol/Opcode")), Jvm.Cond.code ({ cls := "com/example/key3/key3/server/protocol/Opcode", name := "of", desc := "(I)Lcom/example/key3/key3/server/protocol/Opcode;" } : Jvm.MethodName) prog_90_method_5_code (1 : Nat) (Option.some (Jvm.ClassFile.FieldType.object "com/example/key3/key3/server/protocol/Opcode")), Jvm.Cond.code ({ cls := "com/example/key3/key3/server/protocol/Opcode", name := "code", desc := "()I" } : Jvm.MethodName) prog_90_method_4_code (1 : Nat) (Option.some Jvm.ClassFile.FieldType.int)]
set_option maxRecDepth 65536 in
theorem codes_eq : words1.filter isCode = codes1 := rfl
theorem w_codes : ∀ c ∈ words1.filter isCode, c.before args0 about1 = true := by
  rw [codes_eq]
  intro c hc
  simp only [codes1, List.mem_cons, List.not_mem_nil, or_false] at hc
  rcases hc with rfl | rfl | rfl | rfl
  · exact w_c0
  · exact w_c1
  · exact w_c2
  · exact w_c3
set_option maxRecDepth 65536 in
theorem w_t1 : (words1.take 24).all (fun c => isCode c || c.before args0 about1) = true := by decide +kernel
set_option maxRecDepth 65536 in
theorem w_t2 : ((words1.drop 24).take 24).all (fun c => isCode c || c.before args0 about1) = true := by decide +kernel
set_option maxRecDepth 65536 in
theorem w_t3 : ((words1.drop 24).drop 24).all (fun c => isCode c || c.before args0 about1) = true := by decide +kernel
theorem w_tables : (allAtoms (Jvm.Cond.code x code maxLocals ret :: tables_1)).before args0 about1 = true := by
  rw [allAtoms_all]
  show words1.all (fun c => c.before args0 about1) = true
  refine all_split ?_ w_codes
  rw [← List.take_append_drop 24 words1, List.all_append, w_t1, ← List.take_append_drop 24 (words1.drop 24), List.all_append, w_t2, w_t3]
  rfl
set_option maxRecDepth 65536 in
theorem w_case : (Jvm.Cond.and given_1 narrow_1).before args0 about1 = true := by decide +kernel
theorem w_applies : (headSpec (Jvm.Cond.code x code maxLocals ret :: tables_1) room_1).applies x e0.platform about1 = true :=
  (Spec.applies_iff w_frames).mpr ⟨w_running, w_runnable, w_alone, w_named, w_hears, w_ripe, w_room, w_tables⟩
theorem atStart : AtStart classFile x code maxLocals ret World_1 tables_1 room_1 Calls_1 rest_1 Pre_1 launch0 p0 e0 about1 theMethod args0 below0 :=
  ⟨lists_1, trivial, launch0.admits_env _ _ _, launch0.least_env, fairChoices_fair.cas, fairChoices_fair.clock, w_frames, w_args, w_heap, w_applies, trivial, trivial, w_case⟩
end start1
theorem witness_1 : WitnessClaimed_1 := ⟨start1.p0, start1.e0, start1.about1, start1.theMethod, start1.args0, start1.below0, start1.atStart⟩
end Jvm.Pilot.@@N@@
