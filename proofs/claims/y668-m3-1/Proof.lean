import JvmDerived
import JvmDerived.Pilot.@@N@@Statement
import JvmDerived.Pilot.@@N@@Code
set_option linter.unusedVariables false
set_option linter.unusedSimpArgs false
namespace Jvm.Pilot.@@N@@
open Jvm Jvm.ClassFile Sem Op Lib Jvm.Free Jvm.Stand Jvm.LawKit Jvm.RoadKit Bundle Jvm.Pilot.@@N@@.Jvm.D
section OwnSteps
variable {tb : Tables} [Ours tb] {e : Env} {below : List Frame} {T target : State} {m : MethodId} {c : Code} {g : JFrame} {rest : List Value}
theorem Own.iadd (h : At T m c below) (hx : tb.exec = Jvm.exec) (hg : g.method = m) {x : Int32} {y : Int32} {z : Int32} (hd : decode c.code g.pc = .ok (.iadd, 1)) (hs : g.stack = .int y :: .int x :: rest) (hz : (x + y) = z)
    (hr : Steps tb e below (T.setTop { g with pc := g.pc + 1, stack := .int z :: rest }) target) : Steps tb e below (T.setTop g) target := XS.iadd h hx hg hd hs (by rw [show (x + y) = z from hz]; exact hr)
theorem Own.isub (h : At T m c below) (hx : tb.exec = Jvm.exec) (hg : g.method = m) {x : Int32} {y : Int32} {z : Int32} (hd : decode c.code g.pc = .ok (.isub, 1)) (hs : g.stack = .int y :: .int x :: rest) (hz : (x - y) = z)
    (hr : Steps tb e below (T.setTop { g with pc := g.pc + 1, stack := .int z :: rest }) target) : Steps tb e below (T.setTop g) target := XS.isub h hx hg hd hs (by rw [show (x - y) = z from hz]; exact hr)
theorem Own.imul (h : At T m c below) (hx : tb.exec = Jvm.exec) (hg : g.method = m) {x : Int32} {y : Int32} {z : Int32} (hd : decode c.code g.pc = .ok (.imul, 1)) (hs : g.stack = .int y :: .int x :: rest) (hz : (x * y) = z)
    (hr : Steps tb e below (T.setTop { g with pc := g.pc + 1, stack := .int z :: rest }) target) : Steps tb e below (T.setTop g) target := XS.imul h hx hg hd hs (by rw [show (x * y) = z from hz]; exact hr)
theorem Own.iand (h : At T m c below) (hx : tb.exec = Jvm.exec) (hg : g.method = m) {x : Int32} {y : Int32} {z : Int32} (hd : decode c.code g.pc = .ok (.iand, 1)) (hs : g.stack = .int y :: .int x :: rest) (hz : (x &&& y) = z)
    (hr : Steps tb e below (T.setTop { g with pc := g.pc + 1, stack := .int z :: rest }) target) : Steps tb e below (T.setTop g) target := XS.iand h hx hg hd hs (by rw [show (x &&& y) = z from hz]; exact hr)
theorem Own.ior (h : At T m c below) (hx : tb.exec = Jvm.exec) (hg : g.method = m) {x : Int32} {y : Int32} {z : Int32} (hd : decode c.code g.pc = .ok (.ior, 1)) (hs : g.stack = .int y :: .int x :: rest) (hz : (x ||| y) = z)
    (hr : Steps tb e below (T.setTop { g with pc := g.pc + 1, stack := .int z :: rest }) target) : Steps tb e below (T.setTop g) target := XS.ior h hx hg hd hs (by rw [show (x ||| y) = z from hz]; exact hr)
theorem Own.ixor (h : At T m c below) (hx : tb.exec = Jvm.exec) (hg : g.method = m) {x : Int32} {y : Int32} {z : Int32} (hd : decode c.code g.pc = .ok (.ixor, 1)) (hs : g.stack = .int y :: .int x :: rest) (hz : (x ^^^ y) = z)
    (hr : Steps tb e below (T.setTop { g with pc := g.pc + 1, stack := .int z :: rest }) target) : Steps tb e below (T.setTop g) target := XS.ixor h hx hg hd hs (by rw [show (x ^^^ y) = z from hz]; exact hr)
theorem Own.ishl (h : At T m c below) (hx : tb.exec = Jvm.exec) (hg : g.method = m) {x : Int32} {y : Int32} {z : Int32} (hd : decode c.code g.pc = .ok (.ishl, 1)) (hs : g.stack = .int y :: .int x :: rest) (hz : (x <<< (y &&& 31)) = z)
    (hr : Steps tb e below (T.setTop { g with pc := g.pc + 1, stack := .int z :: rest }) target) : Steps tb e below (T.setTop g) target := XS.ishl h hx hg hd hs (by rw [show (x <<< (y &&& 31)) = z from hz]; exact hr)
theorem Own.ishr (h : At T m c below) (hx : tb.exec = Jvm.exec) (hg : g.method = m) {x : Int32} {y : Int32} {z : Int32} (hd : decode c.code g.pc = .ok (.ishr, 1)) (hs : g.stack = .int y :: .int x :: rest) (hz : (x >>> (y &&& 31)) = z)
    (hr : Steps tb e below (T.setTop { g with pc := g.pc + 1, stack := .int z :: rest }) target) : Steps tb e below (T.setTop g) target := XS.ishr h hx hg hd hs (by rw [show (x >>> (y &&& 31)) = z from hz]; exact hr)
theorem Own.iushr (h : At T m c below) (hx : tb.exec = Jvm.exec) (hg : g.method = m) {x : Int32} {y : Int32} {z : Int32} (hd : decode c.code g.pc = .ok (.iushr, 1)) (hs : g.stack = .int y :: .int x :: rest) (hz : ((x.toUInt32 >>> (y &&& 31).toUInt32).toInt32) = z)
    (hr : Steps tb e below (T.setTop { g with pc := g.pc + 1, stack := .int z :: rest }) target) : Steps tb e below (T.setTop g) target := XS.iushr h hx hg hd hs (by rw [show ((x.toUInt32 >>> (y &&& 31).toUInt32).toInt32) = z from hz]; exact hr)
theorem Own.ladd (h : At T m c below) (hx : tb.exec = Jvm.exec) (hg : g.method = m) {x : Int64} {y : Int64} {z : Int64} (hd : decode c.code g.pc = .ok (.ladd, 1)) (hs : g.stack = .long y :: .long x :: rest) (hz : (x + y) = z)
    (hr : Steps tb e below (T.setTop { g with pc := g.pc + 1, stack := .long z :: rest }) target) : Steps tb e below (T.setTop g) target := XS.ladd h hx hg hd hs (by rw [show (x + y) = z from hz]; exact hr)
theorem Own.lsub (h : At T m c below) (hx : tb.exec = Jvm.exec) (hg : g.method = m) {x : Int64} {y : Int64} {z : Int64} (hd : decode c.code g.pc = .ok (.lsub, 1)) (hs : g.stack = .long y :: .long x :: rest) (hz : (x - y) = z)
    (hr : Steps tb e below (T.setTop { g with pc := g.pc + 1, stack := .long z :: rest }) target) : Steps tb e below (T.setTop g) target := XS.lsub h hx hg hd hs (by rw [show (x - y) = z from hz]; exact hr)
theorem Own.lmul (h : At T m c below) (hx : tb.exec = Jvm.exec) (hg : g.method = m) {x : Int64} {y : Int64} {z : Int64} (hd : decode c.code g.pc = .ok (.lmul, 1)) (hs : g.stack = .long y :: .long x :: rest) (hz : (x * y) = z)
    (hr : Steps tb e below (T.setTop { g with pc := g.pc + 1, stack := .long z :: rest }) target) : Steps tb e below (T.setTop g) target := XS.lmul h hx hg hd hs (by rw [show (x * y) = z from hz]; exact hr)
theorem Own.land (h : At T m c below) (hx : tb.exec = Jvm.exec) (hg : g.method = m) {x : Int64} {y : Int64} {z : Int64} (hd : decode c.code g.pc = .ok (.land, 1)) (hs : g.stack = .long y :: .long x :: rest) (hz : (x &&& y) = z)
    (hr : Steps tb e below (T.setTop { g with pc := g.pc + 1, stack := .long z :: rest }) target) : Steps tb e below (T.setTop g) target := XS.land h hx hg hd hs (by rw [show (x &&& y) = z from hz]; exact hr)
theorem Own.lor (h : At T m c below) (hx : tb.exec = Jvm.exec) (hg : g.method = m) {x : Int64} {y : Int64} {z : Int64} (hd : decode c.code g.pc = .ok (.lor, 1)) (hs : g.stack = .long y :: .long x :: rest) (hz : (x ||| y) = z)
    (hr : Steps tb e below (T.setTop { g with pc := g.pc + 1, stack := .long z :: rest }) target) : Steps tb e below (T.setTop g) target := XS.lor h hx hg hd hs (by rw [show (x ||| y) = z from hz]; exact hr)
theorem Own.lxor (h : At T m c below) (hx : tb.exec = Jvm.exec) (hg : g.method = m) {x : Int64} {y : Int64} {z : Int64} (hd : decode c.code g.pc = .ok (.lxor, 1)) (hs : g.stack = .long y :: .long x :: rest) (hz : (x ^^^ y) = z)
    (hr : Steps tb e below (T.setTop { g with pc := g.pc + 1, stack := .long z :: rest }) target) : Steps tb e below (T.setTop g) target := XS.lxor h hx hg hd hs (by rw [show (x ^^^ y) = z from hz]; exact hr)
theorem Own.lshl (h : At T m c below) (hx : tb.exec = Jvm.exec) (hg : g.method = m) {x : Int64} {y : Int32} {z : Int64} (hd : decode c.code g.pc = .ok (.lshl, 1)) (hs : g.stack = .int y :: .long x :: rest) (hz : (x <<< (y &&& 63).toInt64) = z)
    (hr : Steps tb e below (T.setTop { g with pc := g.pc + 1, stack := .long z :: rest }) target) : Steps tb e below (T.setTop g) target := XS.lshl h hx hg hd hs (by rw [show (x <<< (y &&& 63).toInt64) = z from hz]; exact hr)
theorem Own.lshr (h : At T m c below) (hx : tb.exec = Jvm.exec) (hg : g.method = m) {x : Int64} {y : Int32} {z : Int64} (hd : decode c.code g.pc = .ok (.lshr, 1)) (hs : g.stack = .int y :: .long x :: rest) (hz : (x >>> (y &&& 63).toInt64) = z)
    (hr : Steps tb e below (T.setTop { g with pc := g.pc + 1, stack := .long z :: rest }) target) : Steps tb e below (T.setTop g) target := XS.lshr h hx hg hd hs (by rw [show (x >>> (y &&& 63).toInt64) = z from hz]; exact hr)
theorem Own.lushr (h : At T m c below) (hx : tb.exec = Jvm.exec) (hg : g.method = m) {x : Int64} {y : Int32} {z : Int64} (hd : decode c.code g.pc = .ok (.lushr, 1)) (hs : g.stack = .int y :: .long x :: rest) (hz : ((x.toUInt64 >>> (y &&& 63).toInt64.toUInt64).toInt64) = z)
    (hr : Steps tb e below (T.setTop { g with pc := g.pc + 1, stack := .long z :: rest }) target) : Steps tb e below (T.setTop g) target := XS.lushr h hx hg hd hs (by rw [show ((x.toUInt64 >>> (y &&& 63).toInt64.toUInt64).toInt64) = z from hz]; exact hr)
theorem Own.lcmp (h : At T m c below) (hx : tb.exec = Jvm.exec) (hg : g.method = m) {x : Int64} {y : Int64} {z : Int32} (hd : decode c.code g.pc = .ok (.lcmp, 1)) (hs : g.stack = .long y :: .long x :: rest) (hz : lcmpW x y = z)
    (hr : Steps tb e below (T.setTop { g with pc := g.pc + 1, stack := .int z :: rest }) target) : Steps tb e below (T.setTop g) target := XS.lcmp h hx hg hd hs (by rw [show (if x > y then (1 : Int32) else if x = y then 0 else -1) = z from hz]; exact hr)
theorem Own.ineg (h : At T m c below) (hx : tb.exec = Jvm.exec) (hg : g.method = m) {x : Int32} {z : Int32} (hd : decode c.code g.pc = .ok (.ineg, 1)) (hs : g.stack = .int x :: rest) (hz : (-x) = z)
    (hr : Steps tb e below (T.setTop { g with pc := g.pc + 1, stack := .int z :: rest }) target) : Steps tb e below (T.setTop g) target := XS.ineg h hx hg hd hs (by rw [show (-x) = z from hz]; exact hr)
theorem Own.i2l (h : At T m c below) (hx : tb.exec = Jvm.exec) (hg : g.method = m) {x : Int32} {z : Int64} (hd : decode c.code g.pc = .ok (.i2l, 1)) (hs : g.stack = .int x :: rest) (hz : (x.toInt64) = z)
    (hr : Steps tb e below (T.setTop { g with pc := g.pc + 1, stack := .long z :: rest }) target) : Steps tb e below (T.setTop g) target := XS.i2l h hx hg hd hs (by rw [show (x.toInt64) = z from hz]; exact hr)
theorem Own.i2b (h : At T m c below) (hx : tb.exec = Jvm.exec) (hg : g.method = m) {x : Int32} {z : Int32} (hd : decode c.code g.pc = .ok (.i2b, 1)) (hs : g.stack = .int x :: rest) (hz : (x.toInt8.toInt32) = z)
    (hr : Steps tb e below (T.setTop { g with pc := g.pc + 1, stack := .int z :: rest }) target) : Steps tb e below (T.setTop g) target := XS.i2b h hx hg hd hs (by rw [show (x.toInt8.toInt32) = z from hz]; exact hr)
theorem Own.i2c (h : At T m c below) (hx : tb.exec = Jvm.exec) (hg : g.method = m) {x : Int32} {z : Int32} (hd : decode c.code g.pc = .ok (.i2c, 1)) (hs : g.stack = .int x :: rest) (hz : (x.toUInt32.toUInt16.toUInt32.toInt32) = z)
    (hr : Steps tb e below (T.setTop { g with pc := g.pc + 1, stack := .int z :: rest }) target) : Steps tb e below (T.setTop g) target := XS.i2c h hx hg hd hs (by rw [show (x.toUInt32.toUInt16.toUInt32.toInt32) = z from hz]; exact hr)
theorem Own.i2s (h : At T m c below) (hx : tb.exec = Jvm.exec) (hg : g.method = m) {x : Int32} {z : Int32} (hd : decode c.code g.pc = .ok (.i2s, 1)) (hs : g.stack = .int x :: rest) (hz : (x.toInt16.toInt32) = z)
    (hr : Steps tb e below (T.setTop { g with pc := g.pc + 1, stack := .int z :: rest }) target) : Steps tb e below (T.setTop g) target := XS.i2s h hx hg hd hs (by rw [show (x.toInt16.toInt32) = z from hz]; exact hr)
theorem Own.lneg (h : At T m c below) (hx : tb.exec = Jvm.exec) (hg : g.method = m) {x : Int64} {z : Int64} (hd : decode c.code g.pc = .ok (.lneg, 1)) (hs : g.stack = .long x :: rest) (hz : (-x) = z)
    (hr : Steps tb e below (T.setTop { g with pc := g.pc + 1, stack := .long z :: rest }) target) : Steps tb e below (T.setTop g) target := XS.lneg h hx hg hd hs (by rw [show (-x) = z from hz]; exact hr)
theorem Own.l2i (h : At T m c below) (hx : tb.exec = Jvm.exec) (hg : g.method = m) {x : Int64} {z : Int32} (hd : decode c.code g.pc = .ok (.l2i, 1)) (hs : g.stack = .long x :: rest) (hz : (x.toInt32) = z)
    (hr : Steps tb e below (T.setTop { g with pc := g.pc + 1, stack := .int z :: rest }) target) : Steps tb e below (T.setTop g) target := XS.l2i h hx hg hd hs (by rw [show (x.toInt32) = z from hz]; exact hr)
theorem Own.idiv (h : At T m c below) (hx : tb.exec = Jvm.exec) (hg : g.method = m) {x y z : Int32} (hd : decode c.code g.pc = .ok (.idiv, 1)) (hs : g.stack = .int y :: .int x :: rest) (hy : y ≠ 0) (hz : x / y = z)
    (hr : Steps tb e below (T.setTop { g with pc := g.pc + 1, stack := .int z :: rest }) target) : Steps tb e below (T.setTop g) target := XS.idiv h hx hg hd hs hy (by rw [hz]; exact hr)
theorem Own.iinc (h : At T m c below) (hx : tb.exec = Jvm.exec) (hg : g.method = m) {k : Nat} {cst : Int} {x z : Int32} {l' : Array Slot} (hd : decode c.code g.pc = .ok (.iinc k cst, 3)) (hl : g.locals[k]? = some (.val (.int x))) (hz : x + Int32.ofInt cst = z) (hl' : storeLocals g.locals k (.int z) = some l')
    (hr : Steps tb e below (T.setTop { g with pc := g.pc + 3, locals := l' }) target) : Steps tb e below (T.setTop g) target := XS.iinc h hx hg hd hl (by rw [hz]; exact hl') hr
theorem Own.iload (h : At T m c below) (hx : tb.exec = Jvm.exec) (hg : g.method = m) {k : Nat} {v z : Int32} (hd : decode c.code g.pc = .ok (.iload k, 2)) (hl : g.locals[k]? = some (.val (.int v))) (hz : v = z)
    (hr : Steps tb e below (T.setTop { g with pc := g.pc + 2, stack := .int z :: g.stack }) target) : Steps tb e below (T.setTop g) target := XS.iload h hx hg hd hl (by rw [hz]; exact hr)
theorem Own.iloadN (h : At T m c below) (hx : tb.exec = Jvm.exec) (hg : g.method = m) {k : Fin 4} {v z : Int32} (hd : decode c.code g.pc = .ok (.iload_n k, 1)) (hl : g.locals[k.val]? = some (.val (.int v))) (hz : v = z)
    (hr : Steps tb e below (T.setTop { g with pc := g.pc + 1, stack := .int z :: g.stack }) target) : Steps tb e below (T.setTop g) target := XS.iloadN h hx hg hd hl (by rw [hz]; exact hr)
end OwnSteps
theorem own_irem {p : Program} {l : Launch} {e : Env} {R : Room} {s : State} {m : MethodId} {args : Array Value} {below : List Frame} {meth : Method} {c : Code} {T : State} {locs : List Loc} {cells slots : Nat} {g : JFrame} {target : State} (X : Stand p l e R s m args below meth c T locs cells slots) (hx : p.tables.exec = Jvm.exec) (hg : g.method = m) {x y z : Int32} {rest : List Value} (hd : decode c.code g.pc = .ok (.irem, 1)) (hs : g.stack = .int y :: .int x :: rest) (hy : y ≠ 0) (hz : x % y = z)
    (hr : Steps p.tables e below (T.setTop { g with pc := g.pc + 1, stack := .int z :: rest }) target) : Steps p.tables e below (T.setTop g) target := iremM X hx hg hd hs hy (by rw [hz]; exact hr)
section OwnCalls
variable {p : Program} {l : Launch} {e : Env} {R : Room} {s : State} {m : MethodId} {args : Array Value} {below : List Frame} {meth : Method} {c : Code} {T : State} {locs : List Loc} {cells slots : Nat} {Z : State} {a0 : Array Value} {h : Heap}
theorem own_callS (X : Stand p l e R s m args below meth c T locs cells slots) (hx : p.tables.exec = Jvm.exec) (hZ : Z.Warmed39 s.vm) {own : String} {index W maxL : Nat} {y : MethodName} {bytes : ByteArray} {ret : Option FieldType} {rm : Room} {as' : Array Value} {Q : Option Value → Heap → List Loc → Prop}
    (hown : s.vm.findClass own = some m.cls) (w1 : (Jvm.Cond.methodLink own index y).before a0 Z = true) (w2 : (Jvm.Cond.static y).before a0 Z = true) (w3 : (Jvm.Cond.initialized y.cls).before a0 Z = true) (w4 : (Jvm.Cond.code y bytes maxL ret).before a0 Z = true) (hy : y.cls ≠ "java/lang/invoke/MethodHandle" ∧ y.cls ≠ "java/lang/invoke/VarHandle")
    (hM : MetFree l y (head1 [Jvm.Cond.code y bytes maxL ret] rm) (fun a U => a = as' ∧ Z.Warmed39 U.vm ∧ U.heap = h) (fun _ _ _ _ _ => True) (fun _ U o U' => ∃ v L, o = .returned v ∧ Q v U'.heap L ∧ FrameEnd U o U' L rm.cells rm.slots)) (eT : T.heap = h)
    {g : JFrame} (hg : g.method = m) (hsize : g.locals.size = c.maxLocals) {argsL rest : List Value} (hlen : ∀ sig, parseMethodDescriptor y.desc = some sig → argsL.length = sig.parameters.length) (hstack : g.stack = argsL.reverse ++ rest) (has : argsL.toArray = as') (hW : 2 * g.monitorRoom + (rest.map fun v => v.category).sum ≤ W)
    (hdg : decode c.code g.pc = .ok (.invokestatic index, 3)) (hf : rm.frames + 1 ≤ R.frames) (hl : W + (maxL + 11) + rm.locals ≤ R.locals) (hc : cells + rm.cells ≤ R.cells) (hs : slots + rm.slots ≤ R.slots) :
    ∃ (v : Option Value) (T' : State) (L : List Loc), Q v T'.heap L ∧ Stand p l e R s m args below meth c T' (locs ++ L) (cells + rm.cells) (slots + rm.slots) ∧ ∀ target, Steps p.tables e below (T'.setTop { g with pc := g.pc + 3, stack := v.toList ++ rest }) target → Steps p.tables e below (T.setTop g) target := by
  obtain ⟨v, _, ⟨T', L', c', s'⟩, -, X', ⟨L, hq, e1, e2, e3⟩, st⟩ := Jvm.LawKit.callS X hx hown (mvT hZ w1) (mvT hZ w2) (mvT hZ w3) (mvT hZ w4) hy (backOf (W := W) hM hZ w4 w3 hf hl) hg hsize hlen hstack hW hdg (fun _ _ => ⟨has, eT, hc, hs⟩)
  subst e1 e2 e3
  exact ⟨v, T', L, hq, X', st⟩
theorem own_special (X : Stand p l e R s m args below meth c T locs cells slots) (hx : p.tables.exec = Jvm.exec) (hZ : Z.Warmed39 s.vm) {own : String} {index W maxL : Nat} {y : MethodName} {bytes : ByteArray} {rm : Room} {as' : Array Value} {Q : Option Value → Heap → List Loc → Prop} (hy1 : y.name = "<init>")
    (hown : s.vm.findClass own = some m.cls) (w1 : (Jvm.Cond.methodLink own index y).before a0 Z = true) (w2 : (Jvm.Cond.instanceMethod y).before a0 Z = true) (w3 : (Jvm.Cond.initialized y.cls).before a0 Z = true) (w4 : (Jvm.Cond.code y bytes maxL none).before a0 Z = true) (hy : y.cls ≠ "java/lang/invoke/MethodHandle" ∧ y.cls ≠ "java/lang/invoke/VarHandle")
    (hM : MetFree l y (head1 [Jvm.Cond.code y bytes maxL none] rm) (fun a U => a = as' ∧ Z.Warmed39 U.vm ∧ U.heap = h) (fun _ _ _ _ _ => True) (fun _ U o U' => ∃ v L, o = .returned v ∧ Q v U'.heap L ∧ FrameEnd U o U' L rm.cells rm.slots)) (eT : T.heap = h)
    {g : JFrame} (hg : g.method = m) (hsize : g.locals.size = c.maxLocals) {a : Addr} {argsL rest : List Value} (hlen : ∀ sig, parseMethodDescriptor y.desc = some sig → argsL.length = sig.parameters.length) (hstack : g.stack = argsL.reverse ++ .ref a :: rest) (has : (.ref a :: argsL).toArray = as') (hW : 2 * g.monitorRoom + (rest.map fun v => v.category).sum ≤ W)
    (hdg : decode c.code g.pc = .ok (.invokespecial index, 3)) (hf : rm.frames + 1 ≤ R.frames) (hl : W + (maxL + 11) + rm.locals ≤ R.locals) (hc : cells + rm.cells ≤ R.cells) (hs : slots + rm.slots ≤ R.slots) :
    ∃ (v : Option Value) (T' : State) (L : List Loc), Q v T'.heap L ∧ Stand p l e R s m args below meth c T' (locs ++ L) (cells + rm.cells) (slots + rm.slots) ∧ ∀ target, Steps p.tables e below (T'.setTop { g with pc := g.pc + 3, stack := v.toList ++ rest }) target → Steps p.tables e below (T.setTop g) target := by
  obtain ⟨v, _, ⟨T', L', c', s'⟩, -, X', ⟨L, hq, e1, e2, e3⟩, st⟩ := X.specialBack hx hy1 hown (mvT hZ w1) (mvT hZ w2) (mvT hZ w4) hy (backOf (W := W) hM hZ w4 w3 hf hl) hg hsize (Steps.refl _) hlen hstack hW hdg (fun _ _ => ⟨has, eT, hc, hs⟩)
  subst e1 e2 e3
  exact ⟨v, T', L, hq, X', fun _ k => st.trans k⟩
theorem own_virtual (X : Stand p l e R s m args below meth c T locs cells slots) (hx : p.tables.exec = Jvm.exec) (hZ : Z.Warmed39 s.vm) {own C : String} {index W maxL : Nat} {y z : MethodName} {bytes : ByteArray} {ret : Option FieldType} {rm : Room} {as' : Array Value} {Q : Option Value → Heap → List Loc → Prop}
    (hown : s.vm.findClass own = some m.cls) (w1 : (Jvm.Cond.methodLink own index y).before a0 Z = true) (w2 : (Jvm.Cond.declares y).before a0 Z = true) (nf : NotFace s y) (w5 : (Jvm.Cond.selects C y z).before a0 Z = true) (w6 : (Jvm.Cond.instanceMethod z).before a0 Z = true) (w3 : (Jvm.Cond.initialized z.cls).before a0 Z = true) (w4 : (Jvm.Cond.code z bytes maxL ret).before a0 Z = true) (hy : y.cls ≠ "java/lang/invoke/MethodHandle" ∧ y.cls ≠ "java/lang/invoke/VarHandle")
    (hM : MetFree l z (head1 [Jvm.Cond.code z bytes maxL ret] rm) (fun a U => a = as' ∧ Z.Warmed39 U.vm ∧ U.heap = h) (fun _ _ _ _ _ => True) (fun _ U o U' => ∃ v L, o = .returned v ∧ Q v U'.heap L ∧ FrameEnd U o U' L rm.cells rm.slots)) (eT : T.heap = h) {b : Addr} (E : Exa Z h b C)
    {g : JFrame} (hg : g.method = m) (hsize : g.locals.size = c.maxLocals) {argsL rest : List Value} (hlen : ∀ sig, parseMethodDescriptor y.desc = some sig → argsL.length = sig.parameters.length) (hstack : g.stack = argsL.reverse ++ .ref b :: rest) (has : (.ref b :: argsL).toArray = as') (hW : 2 * g.monitorRoom + (rest.map fun v => v.category).sum ≤ W)
    (hdg : decode c.code g.pc = .ok (.invokevirtual index, 3)) (hf : rm.frames + 1 ≤ R.frames) (hl : W + (maxL + 11) + rm.locals ≤ R.locals) (hc : cells + rm.cells ≤ R.cells) (hs : slots + rm.slots ≤ R.slots) :
    ∃ (v : Option Value) (T' : State) (L : List Loc), Q v T'.heap L ∧ Stand p l e R s m args below meth c T' (locs ++ L) (cells + rm.cells) (slots + rm.slots) ∧ ∀ target, Steps p.tables e below (T'.setTop { g with pc := g.pc + 3, stack := v.toList ++ rest }) target → Steps p.tables e below (T.setTop g) target := by
  obtain ⟨cB, kB, qa, qb, qc⟩ := isOf hZ eT E
  obtain ⟨v, _, ⟨T', L', c', s'⟩, -, X', ⟨L, hq, e1, e2, e3⟩, st⟩ := X.virtualBack hx hown (mvT hZ w1) (mvT hZ w2) nf (mvT hZ w5) (mvT hZ w6) hy (backOf (W := W) hM hZ w4 w3 hf hl) qa qc hg hsize (Steps.refl _) hlen hstack hW hdg (fun _ _ => ⟨has, eT, hc, hs⟩)
  subst e1 e2 e3
  exact ⟨v, T', L, hq, X', fun _ k => st.trans k⟩
theorem own_virtualUp (X : Stand p l e R s m args below meth c T locs cells slots) (hx : p.tables.exec = Jvm.exec) (hZ : Z.Warmed39 s.vm) {own C owner : String} {index W maxL : Nat} {y z : MethodName} {bytes : ByteArray} {ret : Option FieldType} {rm : Room} {as' : Array Value} {Q : Option Value → Heap → List Loc → Prop}
    (hown : s.vm.findClass own = some m.cls) (w1 : (Jvm.Cond.methodLink own index y).before a0 Z = true) (w7 : (Jvm.Cond.sameMethod y.cls owner y.name y.desc).before a0 Z = true) (w2 : (Jvm.Cond.declares ⟨owner, y.name, y.desc⟩).before a0 Z = true) (hy : owner ≠ "java/lang/invoke/MethodHandle" ∧ owner ≠ "java/lang/invoke/VarHandle") (w5 : (Jvm.Cond.selects C y z).before a0 Z = true) (w6 : (Jvm.Cond.instanceMethod z).before a0 Z = true) (w3 : (Jvm.Cond.initialized z.cls).before a0 Z = true) (w4 : (Jvm.Cond.code z bytes maxL ret).before a0 Z = true)
    (hM : MetFree l z (head1 [Jvm.Cond.code z bytes maxL ret] rm) (fun a U => a = as' ∧ Z.Warmed39 U.vm ∧ U.heap = h) (fun _ _ _ _ _ => True) (fun _ U o U' => ∃ v L, o = .returned v ∧ Q v U'.heap L ∧ FrameEnd U o U' L rm.cells rm.slots)) (eT : T.heap = h) {b : Addr} (E : Exa Z h b C)
    {g : JFrame} (hg : g.method = m) (hsize : g.locals.size = c.maxLocals) {argsL rest : List Value} (hlen : ∀ sig, parseMethodDescriptor y.desc = some sig → argsL.length = sig.parameters.length) (hstack : g.stack = argsL.reverse ++ .ref b :: rest) (has : (.ref b :: argsL).toArray = as') (hW : 2 * g.monitorRoom + (rest.map fun v => v.category).sum ≤ W)
    (hdg : decode c.code g.pc = .ok (.invokevirtual index, 3)) (hf : rm.frames + 1 ≤ R.frames) (hl : W + (maxL + 11) + rm.locals ≤ R.locals) (hc : cells + rm.cells ≤ R.cells) (hs : slots + rm.slots ≤ R.slots) :
    ∃ (v : Option Value) (T' : State) (L : List Loc), Q v T'.heap L ∧ Stand p l e R s m args below meth c T' (locs ++ L) (cells + rm.cells) (slots + rm.slots) ∧ ∀ target, Steps p.tables e below (T'.setTop { g with pc := g.pc + 3, stack := v.toList ++ rest }) target → Steps p.tables e below (T.setTop g) target := by
  obtain ⟨cB, kB, qa, qb, qc⟩ := isOf hZ eT E
  obtain ⟨v, _, ⟨T', L', c', s'⟩, -, X', ⟨L, hq, e1, e2, e3⟩, st⟩ := X.virtualBackUp hx (owner := owner) hown (mvT hZ w1) (mvT hZ w7) (mvT hZ w2) hy (mvT hZ w5) (mvT hZ w6) (backOf (W := W) hM hZ w4 w3 hf hl) qa qc hg hsize (Steps.refl _) hlen hstack hW hdg (fun _ _ => ⟨has, eT, hc, hs⟩)
  subst e1 e2 e3
  exact ⟨v, T', L, hq, X', fun _ k => st.trans k⟩
theorem own_iface (X : Stand p l e R s m args below meth c T locs cells slots) (hx : p.tables.exec = Jvm.exec) (hZ : Z.Warmed39 s.vm) {own C : String} {index count W maxL : Nat} {y z : MethodName} {bytes : ByteArray} {ret : Option FieldType} {rm : Room} {as' : Array Value} {Q : Option Value → Heap → List Loc → Prop}
    (hown : s.vm.findClass own = some m.cls) (w1 : (Jvm.Cond.methodLink own index y).before a0 Z = true) (w2 : (Jvm.Cond.declares y).before a0 Z = true) (w7 : (Jvm.Cond.interfaceMethod y.cls y.cls y.name y.desc).before args s = true) (w5 : (Jvm.Cond.selects C y z).before a0 Z = true) (w6 : (Jvm.Cond.instanceMethod z).before a0 Z = true) (w8 : (Jvm.Cond.publicMethod z).before args s = true) (w9 : (Jvm.Cond.unhidden C y.name y.desc).before args s = true) (w10 : (Jvm.Cond.castable C y.cls).before a0 Z = true) (w3 : (Jvm.Cond.initialized z.cls).before a0 Z = true) (w4 : (Jvm.Cond.code z bytes maxL ret).before a0 Z = true) (hy : y.cls ≠ "java/lang/invoke/MethodHandle" ∧ y.cls ≠ "java/lang/invoke/VarHandle")
    (hM : MetFree l z (head1 [Jvm.Cond.code z bytes maxL ret] rm) (fun a U => a = as' ∧ Z.Warmed39 U.vm ∧ U.heap = h) (fun _ _ _ _ _ => True) (fun _ U o U' => ∃ v L, o = .returned v ∧ Q v U'.heap L ∧ FrameEnd U o U' L rm.cells rm.slots)) (eT : T.heap = h) {b : Addr} (E : Exa Z h b C)
    {g : JFrame} (hg : g.method = m) (hsize : g.locals.size = c.maxLocals) {argsL rest : List Value} (hlen : ∀ sig, parseMethodDescriptor y.desc = some sig → argsL.length = sig.parameters.length) (hstack : g.stack = argsL.reverse ++ .ref b :: rest) (has : (.ref b :: argsL).toArray = as') (hW : 2 * g.monitorRoom + (rest.map fun v => v.category).sum ≤ W)
    (hdg : decode c.code g.pc = .ok (.invokeinterface index count, 5)) (hf : rm.frames + 1 ≤ R.frames) (hl : W + (maxL + 11) + rm.locals ≤ R.locals) (hc : cells + rm.cells ≤ R.cells) (hs : slots + rm.slots ≤ R.slots) :
    ∃ (v : Option Value) (T' : State) (L : List Loc), Q v T'.heap L ∧ Stand p l e R s m args below meth c T' (locs ++ L) (cells + rm.cells) (slots + rm.slots) ∧ ∀ target, Steps p.tables e below (T'.setTop { g with pc := g.pc + 5, stack := v.toList ++ rest }) target → Steps p.tables e below (T.setTop g) target := by
  obtain ⟨cB, kB, qa, qb, qc⟩ := isOf hZ eT E
  obtain ⟨v, _, ⟨T', L', c', s'⟩, -, X', ⟨L, hq, e1, e2, e3⟩, st⟩ := X.interfaceBack hx hown (mvT hZ w1) (mvT hZ w2) w7 (mvT hZ w5) (mvT hZ w6) w8 w9 (mvT hZ w10) hy (backOf (W := W) hM hZ w4 w3 hf hl) qa qb qc hg hsize (Steps.refl _) hlen hstack hW hdg (fun _ _ => ⟨has, eT, hc, hs⟩)
  subst e1 e2 e3
  exact ⟨v, T', L, hq, X', fun _ k => st.trans k⟩
theorem own_private (X : Stand p l e R s m args below meth c T locs cells slots) (hx : p.tables.exec = Jvm.exec) (hZ : Z.Warmed39 s.vm) {own K : String} {index W maxL : Nat} {y : MethodName} {bytes : ByteArray} {ret : Option FieldType} {rm : Room} {as' : Array Value} {Q : Option Value → Heap → List Loc → Prop}
    (hown : s.vm.findClass own = some m.cls) (w1 : (Jvm.Cond.methodLink own index y).before a0 Z = true) (w2 : (Jvm.Cond.instanceMethod y).before a0 Z = true) (hsel : (Jvm.Cond.selects y.cls y y).before args s = true) (w6 : (Jvm.Cond.privateMethod y).before a0 Z = true) (w3 : (Jvm.Cond.initialized y.cls).before a0 Z = true) (w4 : (Jvm.Cond.code y bytes maxL ret).before a0 Z = true) (hy : y.cls ≠ "java/lang/invoke/MethodHandle" ∧ y.cls ≠ "java/lang/invoke/VarHandle")
    (hM : MetFree l y (head1 [Jvm.Cond.code y bytes maxL ret] rm) (fun a U => a = as' ∧ Z.Warmed39 U.vm ∧ U.heap = h) (fun _ _ _ _ _ => True) (fun _ U o U' => ∃ v L, o = .returned v ∧ Q v U'.heap L ∧ FrameEnd U o U' L rm.cells rm.slots)) (eT : T.heap = h) {b : Addr} (E : Exa Z h b K)
    {g : JFrame} (hg : g.method = m) (hsize : g.locals.size = c.maxLocals) {argsL rest : List Value} (hlen : ∀ sig, parseMethodDescriptor y.desc = some sig → argsL.length = sig.parameters.length) (hstack : g.stack = argsL.reverse ++ .ref b :: rest) (has : (.ref b :: argsL).toArray = as') (hW : 2 * g.monitorRoom + (rest.map fun v => v.category).sum ≤ W)
    (hdg : decode c.code g.pc = .ok (.invokevirtual index, 3)) (hf : rm.frames + 1 ≤ R.frames) (hl : W + (maxL + 11) + rm.locals ≤ R.locals) (hc : cells + rm.cells ≤ R.cells) (hs : slots + rm.slots ≤ R.slots) :
    ∃ (v : Option Value) (T' : State) (L : List Loc), Q v T'.heap L ∧ Stand p l e R s m args below meth c T' (locs ++ L) (cells + rm.cells) (slots + rm.slots) ∧ ∀ target, Steps p.tables e below (T'.setTop { g with pc := g.pc + 3, stack := v.toList ++ rest }) target → Steps p.tables e below (T.setTop g) target := by
  obtain ⟨cq, q, q'⟩ := E.cell
  obtain ⟨v, _, ⟨T', L', c', s'⟩, -, X', ⟨L, hq, e1, e2, e3⟩, st⟩ := X.privateBack hx hown (mvT hZ w1) (mvT hZ w2) hsel (Cond.privateMethod_at (mvP hZ w6 (args := #[]))) (mvT hZ w4) hy (backOf (W := W) hM hZ w4 w3 hf hl) hg hsize (Steps.refl _) (by rw [eT]; exact q) q' hlen hstack hW hdg (fun _ _ => ⟨has, eT, hc, hs⟩)
  subst e1 e2 e3
  exact ⟨v, T', L, hq, X', fun _ k => st.trans k⟩
theorem own_super (X : Stand p l e R s m args below meth c T locs cells slots) (hx : p.tables.exec = Jvm.exec) (hZ : Z.Warmed39 s.vm) {own K : String} {index W maxL : Nat} {y : MethodName} {bytes : ByteArray} {ret : Option FieldType} {rm : Room} {as' : Array Value} {Q : Option Value → Heap → List Loc → Prop}
    (hown : s.vm.findClass own = some m.cls) (w1 : (Jvm.Cond.methodLink own index y).before a0 Z = true) (w2 : (Jvm.Cond.sameMethod y.cls y.cls y.name y.desc).before a0 Z = true) (w5 : (Jvm.Cond.instanceMethod y).before a0 Z = true) (w6 : (Jvm.Cond.superclass own y.cls).before a0 Z = true) (hn : y.name ≠ "<init>") (w3 : (Jvm.Cond.initialized y.cls).before a0 Z = true) (w4 : (Jvm.Cond.code y bytes maxL ret).before a0 Z = true)
    (hM : MetFree l y (head1 [Jvm.Cond.code y bytes maxL ret] rm) (fun a U => a = as' ∧ Z.Warmed39 U.vm ∧ U.heap = h) (fun _ _ _ _ _ => True) (fun _ U o U' => ∃ v L, o = .returned v ∧ Q v U'.heap L ∧ FrameEnd U o U' L rm.cells rm.slots)) (eT : T.heap = h) {b : Addr} (E : Exa Z h b K)
    {g : JFrame} (hg : g.method = m) (hsize : g.locals.size = c.maxLocals) {argsL rest : List Value} (hlen : ∀ sig, parseMethodDescriptor y.desc = some sig → argsL.length = sig.parameters.length) (hstack : g.stack = argsL.reverse ++ .ref b :: rest) (has : (.ref b :: argsL).toArray = as') (hW : 2 * g.monitorRoom + (rest.map fun v => v.category).sum ≤ W)
    (hdg : decode c.code g.pc = .ok (.invokespecial index, 3)) (hf : rm.frames + 1 ≤ R.frames) (hl : W + (maxL + 11) + rm.locals ≤ R.locals) (hc : cells + rm.cells ≤ R.cells) (hs : slots + rm.slots ≤ R.slots) :
    ∃ (v : Option Value) (T' : State) (L : List Loc), Q v T'.heap L ∧ Stand p l e R s m args below meth c T' (locs ++ L) (cells + rm.cells) (slots + rm.slots) ∧ ∀ target, Steps p.tables e below (T'.setTop { g with pc := g.pc + 3, stack := v.toList ++ rest }) target → Steps p.tables e below (T.setTop g) target := by
  obtain ⟨v, _, ⟨T', L', c', s'⟩, -, X', ⟨L, hq, e1, e2, e3⟩, st⟩ := superBack X hx hZ hown w1 w2 w5 w6 hn (backOf (W := W) hM hZ w4 w3 hf hl) eT (Ins.self E) hg hsize w4 hlen hstack hW hdg (fun _ _ => ⟨has, eT, hc, hs⟩)
  subst e1 e2 e3
  exact ⟨v, T', L, hq, X', fun _ k => st.trans k⟩
end OwnCalls
section OwnHeap
variable {p : Program} {l : Launch} {e : Env} {R : Room} {s : State} {m : MethodId} {args : Array Value} {below : List Frame} {meth : Method} {c : Code} {T : State} {locs : List Loc} {cells slots : Nat} {Z : State} {a0 : Array Value} {h h0 : Heap} {n0 : Nat} {ws : List Addr}
theorem own_newO (X : Stand p l e R s m args below meth c T locs cells slots) (hx : p.tables.exec = Jvm.exec) (hZ : Z.Warmed39 s.vm) {own C : String} {index n : Nat} (hown : s.vm.findClass own = some m.cls) (w : (Jvm.Cond.classLink own index C).before a0 Z = true) (wi : (Jvm.Cond.instantiable C n).before a0 Z = true) (wz : (Jvm.Cond.initialized C).before a0 Z = true) (eT : T.heap = h) (O : Old Z n0 h) (K : Keep h0 h ws)
    {g : JFrame} (hg : g.method = m) (hd : decode c.code g.pc = .ok (.new index, 3)) (hc : cells + 1 ≤ R.cells) (hl : slots + n ≤ R.slots) :
    ∃ (T' : State) (h' : Heap) (b : Addr), Stand p l e R s m args below meth c T' locs (cells + 1) (slots + n) ∧ T'.heap = h' ∧ Ext h h' ∧ Exa Z h' b C ∧ (∀ {O nm d : String} {ty : FieldType}, Laid Z a0 C O nm d → parseFieldDescriptor d = some ty → Fld Z h' b O nm d (defaultValue ty)) ∧ h.size ≤ b ∧ Old Z n0 h' ∧ Keep h0 h' ws ∧
      ∀ target, Steps p.tables e below (T'.setTop { g with pc := g.pc + 3, stack := .ref b :: g.stack }) target → Steps p.tables e below (T.setTop g) target := by
  obtain ⟨T', h', X', e', E', A', D', -, st⟩ := newO X hx hZ hown w wi wz eT hg hd hc hl
  exact ⟨T', h', h.size, X', e', E', A', D', Nat.le_refl _, O.ext E', K.ext E', st⟩
theorem own_newP (X : Stand p l e R s m args below meth c T locs cells slots) (hx : p.tables.exec = Jvm.exec) (hZ : Z.Warmed39 s.vm) {aty : ArrayType} {ty : FieldType} {dv : Value} {vs : List Value} {cap : Nat} (hty : newarray.typeOf aty = ty) (hdv : defaultValue ty = dv) (hvs : List.replicate cap dv = vs) (w : (Jvm.Cond.arrayClass ty).before a0 Z = true) (eT : T.heap = h) (O : Old Z n0 h) (K : Keep h0 h ws) {g : JFrame} (hg : g.method = m) (hd : decode c.code g.pc = .ok (.newarray aty, 2)) {n : Int32} {rest : List Value} (hs : g.stack = .int n :: rest)
    (hn : ¬ n < 0) (hcap : n.toNatClampNeg ≤ cap) (hb : cap * 8 ≤ 536870912) (hc : cells + 1 ≤ R.cells) (hl : slots + cap ≤ R.slots) :
    ∃ (T' : State) (h' : Heap) (k : ClassId) (b : Addr), Stand p l e R s m args below meth c T' locs (cells + 1) (slots + cap) ∧ T'.heap = h' ∧ Ext h h' ∧ Arv Z h' b k ty n vs dv ∧ h.size ≤ b ∧ Old Z n0 h' ∧ Keep h0 h' ws ∧
      ∀ target, Steps p.tables e below (T'.setTop { g with pc := g.pc + 2, stack := .ref b :: rest }) target → Steps p.tables e below (T.setTop g) target := by
  subst hty hdv hvs
  obtain ⟨T', h', k, X', e', E', A', st⟩ := newP X hx hZ w eT hg hd hs hn hcap hb hc hl
  exact ⟨T', h', k, h.size, X', e', E', (Arv.new A' hn).pad (pad_rep [] _ cap), Nat.le_refl _, O.ext E', K.ext E', st⟩
theorem own_newR (X : Stand p l e R s m args below meth c T locs cells slots) (hx : p.tables.exec = Jvm.exec) (hZ : Z.Warmed39 s.vm) {own C : String} {index cap : Nat} {vs : List Value} (hvs : List.replicate cap .null = vs) (hown : s.vm.findClass own = some m.cls) (w1 : (Jvm.Cond.classLink own index C).before a0 Z = true) (w2 : (Jvm.Cond.arrayOver (.object C)).before a0 Z = true) (eT : T.heap = h) (O : Old Z n0 h) (K : Keep h0 h ws) {g : JFrame} (hg : g.method = m) (hd : decode c.code g.pc = .ok (.anewarray index, 3)) {n : Int32} {rest : List Value} (hs : g.stack = .int n :: rest)
    (hn : ¬ n < 0) (hcap : n.toNatClampNeg ≤ cap) (hb : cap * 8 ≤ 536870912) (hc : cells + 1 ≤ R.cells) (hl : slots + cap ≤ R.slots) :
    ∃ (T' : State) (h' : Heap) (k : ClassId) (b : Addr), Stand p l e R s m args below meth c T' locs (cells + 1) (slots + cap) ∧ T'.heap = h' ∧ Ext h h' ∧ Arv Z h' b k (.object C) n vs .null ∧ Ovr Z k C ∧ h.size ≤ b ∧ Old Z n0 h' ∧ Keep h0 h' ws ∧
      ∀ target, Steps p.tables e below (T'.setTop { g with pc := g.pc + 3, stack := .ref b :: rest }) target → Steps p.tables e below (T.setTop g) target := by
  subst hvs
  obtain ⟨T', h', k, X', e', E', A', O', st⟩ := newR X hx hZ hown w1 w2 eT hg hd hs hn hcap hb hc hl
  exact ⟨T', h', k, h.size, X', e', E', (Arv.new A' hn).pad (pad_rep [] _ cap), O', Nat.le_refl _, O.ext E', K.ext E', st⟩
theorem own_put (X : Stand p l e R s m args below meth c T locs cells slots) (hx : p.tables.exec = Jvm.exec) (hZ : Z.Warmed39 s.vm) {own R0 Ow n d host C : String} {index kk : Nat} {ty : FieldType} (hown : s.vm.findClass own = some m.cls) (w : (Jvm.Cond.fieldLink own index R0 n d).before a0 Z = true ∨ (Jvm.Cond.fieldLinkNest own index R0 n d host).before a0 Z = true) (via : Via Z R0 Ow n d)
    (eT : T.heap = h) (O : Old Z n0 h) (K : Keep h0 h ws) (N : Fr n0 locs) {a : Addr} (qn : n0 ≤ a) (qk : a ∈ ws ∨ h0.size ≤ a) {v old : Value} (F : Fld Z h a Ow n d old) (E : Exa Z h a C) (L : (Jvm.Cond.lays C Ow n d).before a0 Z = true ∨ ((Jvm.Cond.laysFinal C Ow n d).before a0 Z = true ∧ own = Ow ∧ meth.name = "<init>")) (wi : (Jvm.Cond.instantiable C kk).before a0 Z = true)
    (hty : parseFieldDescriptor d = some ty) (hn : narrow ty v = v) (hf : fits ty v = true) {g : JFrame} (hg : g.method = m) {rest : List Value} (hs : g.stack = v :: .ref a :: rest) (hd : decode c.code g.pc = .ok (.putfield index, 3)) :
    ∃ (T' : State) (h' : Heap) (L' : List Loc), Stand p l e R s m args below meth c T' L' cells slots ∧ T'.heap = h' ∧ Wr h h' a (Jvm.RoadKit.slotOf Z Ow n d) v ∧ Fld Z h' a Ow n d v ∧ Old Z n0 h' ∧ Keep h0 h' ws ∧ Fr n0 L' ∧ ∀ target, Steps p.tables e below (T'.setTop { g with pc := g.pc + 3, stack := rest }) target → Steps p.tables e below (T.setTop g) target := by
  obtain ⟨T', h', X', e', W', st⟩ := putF X hx hZ hown w via eT F E L wi hty hn hf hg hs hd
  exact ⟨T', h', _, X', e', W', F.same W', O.wr W' qn, K.wr W' qk, Fr.snoc X' N qn, st⟩
theorem own_putN (X : Stand p l e R s m args below meth c T locs cells slots) (hx : p.tables.exec = Jvm.exec) (hZ : Z.Warmed39 s.vm) {own R0 Ow n d C : String} {index kk : Nat} {ty : FieldType} (hown : s.vm.findClass own = some m.cls) (w : (Jvm.Cond.fieldLink own index R0 n d).before a0 Z = true) (via : Via Z R0 Ow n d)
    (eT : T.heap = h) (O : Old Z n0 h) (K : Keep h0 h ws) (N : Fr n0 locs) {a : Addr} (qn : n0 ≤ a) (qk : a ∈ ws ∨ h0.size ≤ a) {v v' old : Value} (F : Fld Z h a Ow n d old) (E : Exa Z h a C) (L : (Jvm.Cond.lays C Ow n d).before a0 Z = true ∨ ((Jvm.Cond.laysFinal C Ow n d).before a0 Z = true ∧ own = Ow ∧ meth.name = "<init>")) (wi : (Jvm.Cond.instantiable C kk).before a0 Z = true)
    (hty : parseFieldDescriptor d = some ty) (hn : narrow ty v = v') (hf : fits ty v' = true) {g : JFrame} (hg : g.method = m) {rest : List Value} (hs : g.stack = v :: .ref a :: rest) (hd : decode c.code g.pc = .ok (.putfield index, 3)) :
    ∃ (T' : State) (h' : Heap) (L' : List Loc), Stand p l e R s m args below meth c T' L' cells slots ∧ T'.heap = h' ∧ Wr h h' a (Jvm.RoadKit.slotOf Z Ow n d) v' ∧ Fld Z h' a Ow n d v' ∧ Old Z n0 h' ∧ Keep h0 h' ws ∧ Fr n0 L' ∧ ∀ target, Steps p.tables e below (T'.setTop { g with pc := g.pc + 3, stack := rest }) target → Steps p.tables e below (T.setTop g) target := by
  obtain ⟨T', h', X', e', W', st⟩ := putFN X hx hZ hown w via eT F E L wi hty hn hf hg hs hd
  exact ⟨T', h', _, X', e', W', F.same W', O.wr W' qn, K.wr W' qk, Fr.snoc X' N qn, st⟩
theorem own_stR (X : Stand p l e R s m args below meth c T locs cells slots) (hx : p.tables.exec = Jvm.exec) (hZ : Z.Warmed39 s.vm) (eT : T.heap = h) {a : Addr} {k : ClassId} {ty : FieldType} {n : Int32} {vs vs' : List Value} {dv : Value} (V : Arv Z h a k ty n vs dv) (O : Old Z n0 h) (K : Keep h0 h ws) (N : Fr n0 locs) (qn : n0 ≤ a) (qk : a ∈ ws ∨ h0.size ≤ a) {j : Int32} (i : Nat) (hj : ((¬ j < 0 ∧ j < n) ∧ j.toNatClampNeg = i)) (hi : i < vs.length) {v : Value} (hvs : vs.set i v = vs') (hty : ty.isReference = true) (hfv : fits ty v = true)
    (sto : v = .null ∨ ∃ (y : Addr) (C : String), v = .ref y ∧ Ovr Z k C ∧ Ins Z h y C true) {g : JFrame} (hg : g.method = m) {rest : List Value} (hs : g.stack = v :: .int j :: .ref a :: rest) (hd : decode c.code g.pc = .ok (.aastore, 1)) :
    ∃ (T' : State) (h' : Heap) (L' : List Loc), Stand p l e R s m args below meth c T' L' cells slots ∧ T'.heap = h' ∧ Wr h h' a j.toNatClampNeg v ∧ Arv Z h' a k ty n vs' dv ∧ Old Z n0 h' ∧ Keep h0 h' ws ∧ Fr n0 L' ∧ ∀ target, Steps p.tables e below (T'.setTop { g with pc := g.pc + 1, stack := rest }) target → Steps p.tables e below (T.setTop g) target := by
  subst hvs
  obtain ⟨cl, Ar, q, Sz, Ng, Hs, Gt⟩ := V
  obtain ⟨T', h', X', e', W', st⟩ := stR X hx hZ eT Ar (j := j) (inb_of Sz hj.1) hty (sto.elim Or.inl fun ⟨y, C, e1, e2, e3⟩ => e1 ▸ Sto.ofV Ar q e2 e3) hg hs hd
  exact ⟨T', h', _, X', e', W', Arv.set Ar q Sz Ng Hs Gt hfv W' i hj.2 hi, O.wr W' qn, K.wr W' qk, Fr.snoc X' N qn, st⟩
theorem own_stI (X : Stand p l e R s m args below meth c T locs cells slots) (hx : p.tables.exec = Jvm.exec) (hZ : Z.Warmed39 s.vm) (eT : T.heap = h) {a : Addr} {k : ClassId} {n : Int32} {vs vs' : List Value} {dv : Value} (V : Arv Z h a k .int n vs dv) (O : Old Z n0 h) (K : Keep h0 h ws) (N : Fr n0 locs) (qn : n0 ≤ a) (qk : a ∈ ws ∨ h0.size ≤ a) {j : Int32} (i : Nat) (hj : ((¬ j < 0 ∧ j < n) ∧ j.toNatClampNeg = i)) (hi : i < vs.length) {x : Int32} {v : Value} (hv : (.int x : Value) = v) (hvs : vs.set i v = vs')
    {g : JFrame} (hg : g.method = m) {rest : List Value} (hs : g.stack = .int x :: .int j :: .ref a :: rest) (hd : decode c.code g.pc = .ok (.iastore, 1)) :
    ∃ (T' : State) (h' : Heap) (L' : List Loc), Stand p l e R s m args below meth c T' L' cells slots ∧ T'.heap = h' ∧ Wr h h' a j.toNatClampNeg v ∧ Arv Z h' a k .int n vs' dv ∧ Old Z n0 h' ∧ Keep h0 h' ws ∧ Fr n0 L' ∧ ∀ target, Steps p.tables e below (T'.setTop { g with pc := g.pc + 1, stack := rest }) target → Steps p.tables e below (T.setTop g) target := by
  subst hv hvs
  obtain ⟨cl, Ar, q, Sz, Ng, Hs, Gt⟩ := V
  obtain ⟨T', h', X', e', W', st⟩ := stI X hx hZ eT Ar (j := j) (inb_of Sz hj.1) hg hs hd
  exact ⟨T', h', _, X', e', W', Arv.set Ar q Sz Ng Hs Gt rfl W' i hj.2 hi, O.wr W' qn, K.wr W' qk, Fr.snoc X' N qn, st⟩
theorem own_stJ (X : Stand p l e R s m args below meth c T locs cells slots) (hx : p.tables.exec = Jvm.exec) (hZ : Z.Warmed39 s.vm) (eT : T.heap = h) {a : Addr} {k : ClassId} {n : Int32} {vs vs' : List Value} {dv : Value} (V : Arv Z h a k .long n vs dv) (O : Old Z n0 h) (K : Keep h0 h ws) (N : Fr n0 locs) (qn : n0 ≤ a) (qk : a ∈ ws ∨ h0.size ≤ a) {j : Int32} (i : Nat) (hj : ((¬ j < 0 ∧ j < n) ∧ j.toNatClampNeg = i)) (hi : i < vs.length) {x : Int64} {v : Value} (hv : (.long x : Value) = v) (hvs : vs.set i v = vs')
    {g : JFrame} (hg : g.method = m) {rest : List Value} (hs : g.stack = .long x :: .int j :: .ref a :: rest) (hd : decode c.code g.pc = .ok (.lastore, 1)) :
    ∃ (T' : State) (h' : Heap) (L' : List Loc), Stand p l e R s m args below meth c T' L' cells slots ∧ T'.heap = h' ∧ Wr h h' a j.toNatClampNeg v ∧ Arv Z h' a k .long n vs' dv ∧ Old Z n0 h' ∧ Keep h0 h' ws ∧ Fr n0 L' ∧ ∀ target, Steps p.tables e below (T'.setTop { g with pc := g.pc + 1, stack := rest }) target → Steps p.tables e below (T.setTop g) target := by
  subst hv hvs
  obtain ⟨cl, Ar, q, Sz, Ng, Hs, Gt⟩ := V
  obtain ⟨T', h', X', e', W', st⟩ := stJ X hx hZ eT Ar (j := j) (inb_of Sz hj.1) hg hs hd
  exact ⟨T', h', _, X', e', W', Arv.set Ar q Sz Ng Hs Gt rfl W' i hj.2 hi, O.wr W' qn, K.wr W' qk, Fr.snoc X' N qn, st⟩
theorem own_stC (X : Stand p l e R s m args below meth c T locs cells slots) (hx : p.tables.exec = Jvm.exec) (hZ : Z.Warmed39 s.vm) (eT : T.heap = h) {a : Addr} {k : ClassId} {n : Int32} {vs vs' : List Value} {dv : Value} (V : Arv Z h a k .char n vs dv) (O : Old Z n0 h) (K : Keep h0 h ws) (N : Fr n0 locs) (qn : n0 ≤ a) (qk : a ∈ ws ∨ h0.size ≤ a) {j : Int32} (i : Nat) (hj : ((¬ j < 0 ∧ j < n) ∧ j.toNatClampNeg = i)) (hi : i < vs.length) {x : Int32} {v : Value} (hv : (.int (nar .char x) : Value) = v) (hvs : vs.set i v = vs')
    {g : JFrame} (hg : g.method = m) {rest : List Value} (hs : g.stack = .int x :: .int j :: .ref a :: rest) (hd : decode c.code g.pc = .ok (.castore, 1)) :
    ∃ (T' : State) (h' : Heap) (L' : List Loc), Stand p l e R s m args below meth c T' L' cells slots ∧ T'.heap = h' ∧ Wr h h' a j.toNatClampNeg v ∧ Arv Z h' a k .char n vs' dv ∧ Old Z n0 h' ∧ Keep h0 h' ws ∧ Fr n0 L' ∧ ∀ target, Steps p.tables e below (T'.setTop { g with pc := g.pc + 1, stack := rest }) target → Steps p.tables e below (T.setTop g) target := by
  subst hv hvs
  obtain ⟨cl, Ar, q, Sz, Ng, Hs, Gt⟩ := V
  obtain ⟨T', h', X', e', W', st⟩ := stC X hx hZ eT Ar (j := j) (inb_of Sz hj.1) hg hs hd
  exact ⟨T', h', _, X', e', W', Arv.set Ar q Sz Ng Hs Gt (fits_nar_char _) W' i hj.2 hi, O.wr W' qn, K.wr W' qk, Fr.snoc X' N qn, st⟩
theorem own_stS (X : Stand p l e R s m args below meth c T locs cells slots) (hx : p.tables.exec = Jvm.exec) (hZ : Z.Warmed39 s.vm) (eT : T.heap = h) {a : Addr} {k : ClassId} {n : Int32} {vs vs' : List Value} {dv : Value} (V : Arv Z h a k .short n vs dv) (O : Old Z n0 h) (K : Keep h0 h ws) (N : Fr n0 locs) (qn : n0 ≤ a) (qk : a ∈ ws ∨ h0.size ≤ a) {j : Int32} (i : Nat) (hj : ((¬ j < 0 ∧ j < n) ∧ j.toNatClampNeg = i)) (hi : i < vs.length) {x : Int32} {v : Value} (hv : (.int (nar .short x) : Value) = v) (hvs : vs.set i v = vs')
    {g : JFrame} (hg : g.method = m) {rest : List Value} (hs : g.stack = .int x :: .int j :: .ref a :: rest) (hd : decode c.code g.pc = .ok (.sastore, 1)) :
    ∃ (T' : State) (h' : Heap) (L' : List Loc), Stand p l e R s m args below meth c T' L' cells slots ∧ T'.heap = h' ∧ Wr h h' a j.toNatClampNeg v ∧ Arv Z h' a k .short n vs' dv ∧ Old Z n0 h' ∧ Keep h0 h' ws ∧ Fr n0 L' ∧ ∀ target, Steps p.tables e below (T'.setTop { g with pc := g.pc + 1, stack := rest }) target → Steps p.tables e below (T.setTop g) target := by
  subst hv hvs
  obtain ⟨cl, Ar, q, Sz, Ng, Hs, Gt⟩ := V
  obtain ⟨T', h', X', e', W', st⟩ := stS X hx hZ eT Ar (j := j) (inb_of Sz hj.1) hg hs hd
  exact ⟨T', h', _, X', e', W', Arv.set Ar q Sz Ng Hs Gt (fits_nar_short _) W' i hj.2 hi, O.wr W' qn, K.wr W' qk, Fr.snoc X' N qn, st⟩
theorem own_stB (X : Stand p l e R s m args below meth c T locs cells slots) (hx : p.tables.exec = Jvm.exec) (hZ : Z.Warmed39 s.vm) (eT : T.heap = h) {a : Addr} {k : ClassId} {n : Int32} {vs vs' : List Value} {dv : Value} (V : Arv Z h a k .byte n vs dv) (O : Old Z n0 h) (K : Keep h0 h ws) (N : Fr n0 locs) (qn : n0 ≤ a) (qk : a ∈ ws ∨ h0.size ≤ a) {j : Int32} (i : Nat) (hj : ((¬ j < 0 ∧ j < n) ∧ j.toNatClampNeg = i)) (hi : i < vs.length) {x : Int32} {v : Value} (hv : (.int (nar .byte x) : Value) = v) (hvs : vs.set i v = vs')
    {g : JFrame} (hg : g.method = m) {rest : List Value} (hs : g.stack = .int x :: .int j :: .ref a :: rest) (hd : decode c.code g.pc = .ok (.bastore, 1)) :
    ∃ (T' : State) (h' : Heap) (L' : List Loc), Stand p l e R s m args below meth c T' L' cells slots ∧ T'.heap = h' ∧ Wr h h' a j.toNatClampNeg v ∧ Arv Z h' a k .byte n vs' dv ∧ Old Z n0 h' ∧ Keep h0 h' ws ∧ Fr n0 L' ∧ ∀ target, Steps p.tables e below (T'.setTop { g with pc := g.pc + 1, stack := rest }) target → Steps p.tables e below (T.setTop g) target := by
  subst hv hvs
  obtain ⟨cl, Ar, q, Sz, Ng, Hs, Gt⟩ := V
  obtain ⟨T', h', X', e', W', st⟩ := stB X hx hZ eT Ar (j := j) (inb_of Sz hj.1) hg hs hd
  exact ⟨T', h', _, X', e', W', Arv.set Ar q Sz Ng Hs Gt (fits_nar_byte _) W' i hj.2 hi, O.wr W' qn, K.wr W' qk, Fr.snoc X' N qn, st⟩
theorem own_stZ (X : Stand p l e R s m args below meth c T locs cells slots) (hx : p.tables.exec = Jvm.exec) (hZ : Z.Warmed39 s.vm) (eT : T.heap = h) {a : Addr} {k : ClassId} {n : Int32} {vs vs' : List Value} {dv : Value} (V : Arv Z h a k .boolean n vs dv) (O : Old Z n0 h) (K : Keep h0 h ws) (N : Fr n0 locs) (qn : n0 ≤ a) (qk : a ∈ ws ∨ h0.size ≤ a) {j : Int32} (i : Nat) (hj : ((¬ j < 0 ∧ j < n) ∧ j.toNatClampNeg = i)) (hi : i < vs.length) {x : Int32} {v : Value} (hv : (.int (nar .boolean x) : Value) = v) (hvs : vs.set i v = vs')
    {g : JFrame} (hg : g.method = m) {rest : List Value} (hs : g.stack = .int x :: .int j :: .ref a :: rest) (hd : decode c.code g.pc = .ok (.bastore, 1)) :
    ∃ (T' : State) (h' : Heap) (L' : List Loc), Stand p l e R s m args below meth c T' L' cells slots ∧ T'.heap = h' ∧ Wr h h' a j.toNatClampNeg v ∧ Arv Z h' a k .boolean n vs' dv ∧ Old Z n0 h' ∧ Keep h0 h' ws ∧ Fr n0 L' ∧ ∀ target, Steps p.tables e below (T'.setTop { g with pc := g.pc + 1, stack := rest }) target → Steps p.tables e below (T.setTop g) target := by
  subst hv hvs
  obtain ⟨cl, Ar, q, Sz, Ng, Hs, Gt⟩ := V
  obtain ⟨T', h', X', e', W', st⟩ := stZ X hx hZ eT Ar (j := j) (inb_of Sz hj.1) hg hs hd
  exact ⟨T', h', _, X', e', W', Arv.set Ar q Sz Ng Hs Gt (fits_nar_bool _) W' i hj.2 hi, O.wr W' qn, K.wr W' qk, Fr.snoc X' N qn, st⟩
theorem own_iaload (X : Stand p l e R s m args below meth c T locs cells slots) (hx : p.tables.exec = Jvm.exec) (hZ : Z.Warmed39 s.vm) (eT : T.heap = h) {a : Addr} {k : ClassId} {n : Int32} {vs : List Value} {dv : Value} (V : Arv Z h a k .int n vs dv) {j : Int32} (hj : ¬ j < 0 ∧ j < n) {v : Value} (hv : vs.getD j.toNatClampNeg dv = v)
    {g : JFrame} (hg : g.method = m) {rest : List Value} (hs : g.stack = .int j :: .ref a :: rest) (hd : decode c.code g.pc = .ok (.iaload, 1)) {target : State} (hr : Steps p.tables e below (T.setTop { g with pc := g.pc + 1, stack := v :: rest }) target) : Steps p.tables e below (T.setTop g) target := by
  obtain ⟨cl, Ar, q, Sz, Ng, Hs, Gt⟩ := V
  exact X.iaload hx (by rw [eT]; exact Ar.1) (State.isArrayOf_alike hZ.alike Ar.2.1) Ar.2.2 (inb_of Sz hj) (Hs.at (inb_of Sz hj) hv) hg hs hd _ hr
theorem own_laload (X : Stand p l e R s m args below meth c T locs cells slots) (hx : p.tables.exec = Jvm.exec) (hZ : Z.Warmed39 s.vm) (eT : T.heap = h) {a : Addr} {k : ClassId} {n : Int32} {vs : List Value} {dv : Value} (V : Arv Z h a k .long n vs dv) {j : Int32} (hj : ¬ j < 0 ∧ j < n) {v : Value} (hv : vs.getD j.toNatClampNeg dv = v)
    {g : JFrame} (hg : g.method = m) {rest : List Value} (hs : g.stack = .int j :: .ref a :: rest) (hd : decode c.code g.pc = .ok (.laload, 1)) {target : State} (hr : Steps p.tables e below (T.setTop { g with pc := g.pc + 1, stack := v :: rest }) target) : Steps p.tables e below (T.setTop g) target := by
  obtain ⟨cl, Ar, q, Sz, Ng, Hs, Gt⟩ := V
  exact X.laload hx (by rw [eT]; exact Ar.1) (State.isArrayOf_alike hZ.alike Ar.2.1) Ar.2.2 (inb_of Sz hj) (Hs.at (inb_of Sz hj) hv) hg hs hd _ hr
theorem own_caload (X : Stand p l e R s m args below meth c T locs cells slots) (hx : p.tables.exec = Jvm.exec) (hZ : Z.Warmed39 s.vm) (eT : T.heap = h) {a : Addr} {k : ClassId} {n : Int32} {vs : List Value} {dv : Value} (V : Arv Z h a k .char n vs dv) {j : Int32} (hj : ¬ j < 0 ∧ j < n) {v : Value} (hv : vs.getD j.toNatClampNeg dv = v)
    {g : JFrame} (hg : g.method = m) {rest : List Value} (hs : g.stack = .int j :: .ref a :: rest) (hd : decode c.code g.pc = .ok (.caload, 1)) {target : State} (hr : Steps p.tables e below (T.setTop { g with pc := g.pc + 1, stack := v :: rest }) target) : Steps p.tables e below (T.setTop g) target := by
  obtain ⟨cl, Ar, q, Sz, Ng, Hs, Gt⟩ := V
  exact X.caload hx (by rw [eT]; exact Ar.1) (State.isArrayOf_alike hZ.alike Ar.2.1) Ar.2.2 (inb_of Sz hj) (Hs.at (inb_of Sz hj) hv) hg hs hd _ hr
theorem own_saload (X : Stand p l e R s m args below meth c T locs cells slots) (hx : p.tables.exec = Jvm.exec) (hZ : Z.Warmed39 s.vm) (eT : T.heap = h) {a : Addr} {k : ClassId} {n : Int32} {vs : List Value} {dv : Value} (V : Arv Z h a k .short n vs dv) {j : Int32} (hj : ¬ j < 0 ∧ j < n) {v : Value} (hv : vs.getD j.toNatClampNeg dv = v)
    {g : JFrame} (hg : g.method = m) {rest : List Value} (hs : g.stack = .int j :: .ref a :: rest) (hd : decode c.code g.pc = .ok (.saload, 1)) {target : State} (hr : Steps p.tables e below (T.setTop { g with pc := g.pc + 1, stack := v :: rest }) target) : Steps p.tables e below (T.setTop g) target := by
  obtain ⟨cl, Ar, q, Sz, Ng, Hs, Gt⟩ := V
  exact X.saload hx (by rw [eT]; exact Ar.1) (State.isArrayOf_alike hZ.alike Ar.2.1) Ar.2.2 (inb_of Sz hj) (Hs.at (inb_of Sz hj) hv) hg hs hd _ hr
theorem own_baloadB (X : Stand p l e R s m args below meth c T locs cells slots) (hx : p.tables.exec = Jvm.exec) (hZ : Z.Warmed39 s.vm) (eT : T.heap = h) {a : Addr} {k : ClassId} {n : Int32} {vs : List Value} {dv : Value} (V : Arv Z h a k .byte n vs dv) {j : Int32} (hj : ¬ j < 0 ∧ j < n) {v : Value} (hv : vs.getD j.toNatClampNeg dv = v)
    {g : JFrame} (hg : g.method = m) {rest : List Value} (hs : g.stack = .int j :: .ref a :: rest) (hd : decode c.code g.pc = .ok (.baload, 1)) {target : State} (hr : Steps p.tables e below (T.setTop { g with pc := g.pc + 1, stack := v :: rest }) target) : Steps p.tables e below (T.setTop g) target := by
  obtain ⟨cl, Ar, q, Sz, Ng, Hs, Gt⟩ := V
  exact X.baloadBytes hx (by rw [eT]; exact Ar.1) (State.isArrayOf_alike hZ.alike Ar.2.1) Ar.2.2 (inb_of Sz hj) (Hs.at (inb_of Sz hj) hv) hg hs hd _ hr
theorem own_baloadZ (X : Stand p l e R s m args below meth c T locs cells slots) (hx : p.tables.exec = Jvm.exec) (hZ : Z.Warmed39 s.vm) (eT : T.heap = h) {a : Addr} {k : ClassId} {n : Int32} {vs : List Value} {dv : Value} (V : Arv Z h a k .boolean n vs dv) {j : Int32} (hj : ¬ j < 0 ∧ j < n) {v : Value} (hv : vs.getD j.toNatClampNeg dv = v)
    {g : JFrame} (hg : g.method = m) {rest : List Value} (hs : g.stack = .int j :: .ref a :: rest) (hd : decode c.code g.pc = .ok (.baload, 1)) {target : State} (hr : Steps p.tables e below (T.setTop { g with pc := g.pc + 1, stack := v :: rest }) target) : Steps p.tables e below (T.setTop g) target := by
  obtain ⟨cl, Ar, q, Sz, Ng, Hs, Gt⟩ := V
  exact X.baloadBooleans hx (by rw [eT]; exact Ar.1) (State.isArrayOf_alike hZ.alike Ar.2.1) Ar.2.2 (inb_of Sz hj) (Hs.at (inb_of Sz hj) hv) hg hs hd _ hr
theorem own_aaload (X : Stand p l e R s m args below meth c T locs cells slots) (hx : p.tables.exec = Jvm.exec) (hZ : Z.Warmed39 s.vm) (eT : T.heap = h) {a : Addr} {k : ClassId} {ty : FieldType} {n : Int32} {vs : List Value} {dv : Value} (V : Arv Z h a k ty n vs dv) {j : Int32} (hj : ¬ j < 0 ∧ j < n) {v : Value} (hv : vs.getD j.toNatClampNeg dv = v) (hty : ty.isReference = true)
    {g : JFrame} (hg : g.method = m) {rest : List Value} (hs : g.stack = .int j :: .ref a :: rest) (hd : decode c.code g.pc = .ok (.aaload, 1)) {target : State} (hr : Steps p.tables e below (T.setTop { g with pc := g.pc + 1, stack := v :: rest }) target) : Steps p.tables e below (T.setTop g) target := by
  obtain ⟨cl, Ar, q, Sz, Ng, Hs, Gt⟩ := V
  exact X.aaload hx (by rw [eT]; exact Ar.1) (State.isArrayOf_alike hZ.alike Ar.2.1) hty Ar.2.2 (inb_of Sz hj) (Hs.at (inb_of Sz hj) hv) hg hs hd _ hr
theorem own_alen (X : Stand p l e R s m args below meth c T locs cells slots) (hx : p.tables.exec = Jvm.exec) (hZ : Z.Warmed39 s.vm) (eT : T.heap = h) {a : Addr} {k : ClassId} {ty : FieldType} {n : Int32} {vs : List Value} {dv : Value} (V : Arv Z h a k ty n vs dv)
    {g : JFrame} (hg : g.method = m) {rest : List Value} (hs : g.stack = .ref a :: rest) (hd : decode c.code g.pc = .ok (.arraylength, 1)) {target : State} (hr : Steps p.tables e below (T.setTop { g with pc := g.pc + 1, stack := .int n :: rest }) target) : Steps p.tables e below (T.setTop g) target := by
  obtain ⟨cl, Ar, q, Sz, Ng, Hs, Gt⟩ := V
  exact X.arraylength hx (by rw [eT]; exact Ar.1) (State.isArrayOf_alike hZ.alike Ar.2.1) hg hs hd _ (by rw [len_of Sz Ng]; exact hr)
end OwnHeap
section OwnWide
variable {p : Program} {l : Launch} {e : Env} {R : Room} {s : State} {m : MethodId} {args : Array Value} {below : List Frame} {meth : Method} {c : Code} {T : State} {locs : List Loc} {cells slots : Nat} {Z : State} {a0 : Array Value} {h : Heap} {vm0 : Vm} {EL : List (String × Nat)} {sx : List Addr}
theorem own_backS {y : MethodName} {bytes : ByteArray} {maxL : Nat} {ret : Option FieldType} {rm : Room} {len W : Nat} {as' : Array Value} {Q : Option Value → Heap → List Loc → Prop}
    (hM : MetFree l y (head1 [Jvm.Cond.code y bytes maxL ret] rm) (fun a U => a = as' ∧ Z.Warmed39 U.vm ∧ U.heap = h ∧ CHv Z EL U.vm h ∧ ∀ x ∈ sx, Safe Z EL U.vm h x) (fun _ _ _ _ _ => True) (fun _ U o U' => ∃ v L, o = .returned v ∧ Q v U'.heap L ∧ CHr Z EL U.vm U.heap U'.vm U'.heap ∧ ReturnedEndW U o U' L rm.cells rm.slots))
    (hZ : Z.Warmed39 (s.setVm vm0).vm) (wc : (Jvm.Cond.code y bytes maxL ret).before a0 Z = true) (wz : (Jvm.Cond.initialized y.cls).before a0 Z = true) (hf : rm.frames + 1 ≤ R.frames) (hl : W + (maxL + 11) + rm.locals ≤ R.locals) (hEL : EW Z a0 EL) (H : CHv Z EL vm0 h) (hsx : ∀ x ∈ sx, x < h.size ∧ Safe Z EL vm0 h x) :
    BackS l R p e below (s.setVm vm0) args y len W (fun A a => a = as' ∧ A.U.heap = h ∧ A.cells + rm.cells ≤ R.cells ∧ A.slots + rm.slots ≤ R.slots)
      (fun A _ v B => ∃ L, Q v B.U.heap L ∧ B.locs = A.locs ++ L ∧ B.cells = A.cells + rm.cells ∧ B.slots = A.slots + rm.slots ∧ CHr Z EL vm0 h B.U.vm B.U.heap) :=
  BackS.of_freeW (bytes := bytes) (maxL := maxL) (ret := ret) (E := fun _ first o t L k n => k = rm.cells ∧ n = rm.slots ∧ (∃ v, o = .returned v ∧ Q v t.heap L) ∧ CHr Z EL first.vm first.heap t.vm t.heap) hM hf hl
    (fun m meth c A a Y hp => have hU : Z.Warmed39 A.U.vm := wtrans (s := s.setVm vm0) hZ Y.warmed
      ⟨by show (Jvm.Cond.and _ .tt).before a A.U = true; rw [Cond.before_and, mv hU wc]; rfl, mv hU wc, mv hU wz, hp.2.2.1, hp.2.2.2⟩)
    (fun m meth c A a g mk Y hp => ⟨hp.1, wtrans (s := s.setVm vm0) hZ Y.warmed, hp.2.1, (CHv.at Y hZ hEL H).1, fun x hx => (CHv.at Y hZ hEL H).safe (hsx x hx).1 (hsx x hx).2⟩) (fun _ _ _ _ _ _ _ _ _ => trivial)
    (fun _ _ _ _ ⟨v, L, h1, h2, h3, h4⟩ => ⟨L, _, _, h4, rfl, rfl, ⟨v, h1, h2⟩, h3⟩)
    (fun m meth c A a g mk v t L k n Y hp _ _ ⟨e1, e2, ⟨v', e3, e4⟩, e5⟩ => by
      cases e3; subst e1 e2
      refine ⟨L, e4, rfl, rfl, rfl, (CHv.at Y hZ hEL H).trans ?_⟩
      rw [← hp.2.1]; exact e5)
theorem own_callSW (X : Stand p l e R (s.setVm vm0) m args below meth c T locs cells slots) (hx : p.tables.exec = Jvm.exec) (hZ : Z.Warmed39 (s.setVm vm0).vm) {own : String} {index W maxL : Nat} {y : MethodName} {bytes : ByteArray} {ret : Option FieldType} {rm : Room} {as' : Array Value} {Q : Option Value → Heap → List Loc → Prop}
    (hown : (s.setVm vm0).vm.findClass own = some m.cls) (w1 : (Jvm.Cond.methodLink own index y).before a0 Z = true) (w2 : (Jvm.Cond.static y).before a0 Z = true) (w3 : (Jvm.Cond.initialized y.cls).before a0 Z = true) (w4 : (Jvm.Cond.code y bytes maxL ret).before a0 Z = true) (hy : y.cls ≠ "java/lang/invoke/MethodHandle" ∧ y.cls ≠ "java/lang/invoke/VarHandle")
    (hM : MetFree l y (head1 [Jvm.Cond.code y bytes maxL ret] rm) (fun a U => a = as' ∧ Z.Warmed39 U.vm ∧ U.heap = h ∧ CHv Z EL U.vm h ∧ ∀ x ∈ sx, Safe Z EL U.vm h x) (fun _ _ _ _ _ => True) (fun _ U o U' => ∃ v L, o = .returned v ∧ Q v U'.heap L ∧ CHr Z EL U.vm U.heap U'.vm U'.heap ∧ ReturnedEndW U o U' L rm.cells rm.slots)) (eT : T.heap = h) {k0 : Nat} (hS : s.Since vm0 k0) (hk : k0 ≤ h.size) (hEL : EW Z a0 EL) (H : CHv Z EL vm0 h) (hsx : ∀ x ∈ sx, x < h.size ∧ Safe Z EL vm0 h x)
    {g : JFrame} (hg : g.method = m) (hsize : g.locals.size = c.maxLocals) {argsL rest : List Value} (hlen : ∀ sig, parseMethodDescriptor y.desc = some sig → argsL.length = sig.parameters.length) (hstack : g.stack = argsL.reverse ++ rest) (has : argsL.toArray = as') (hW : 2 * g.monitorRoom + (rest.map fun v => v.category).sum ≤ W)
    (hdg : decode c.code g.pc = .ok (.invokestatic index, 3)) (hf : rm.frames + 1 ≤ R.frames) (hl : W + (maxL + 11) + rm.locals ≤ R.locals) (hc : cells + rm.cells ≤ R.cells) (hs : slots + rm.slots ≤ R.slots) :
    ∃ (v : Option Value) (T' : State) (L : List Loc), Q v T'.heap L ∧ s.Since T'.vm T'.heap.size ∧ Z.Warmed39 (s.setVm T'.vm).vm ∧ (s.setVm T'.vm).vm.findClass own = some m.cls ∧ CHr Z EL vm0 h T'.vm T'.heap ∧ Stand p l e R (s.setVm T'.vm) m args below meth c T' (locs ++ L) (cells + rm.cells) (slots + rm.slots) ∧ ∀ target, Steps p.tables e below (T'.setTop { g with pc := g.pc + 3, stack := v.toList ++ rest }) target → Steps p.tables e below (T.setTop g) target := by
  obtain ⟨v, _, ⟨T', L', c', s'⟩, -, X', hS2, hgr, ⟨L, hq, e1, e2, e3, hC⟩, st⟩ := callSS X hx hown (mvT hZ w1) (mvT hZ w2) (mvT hZ w3) (mvT hZ w4) hy (own_backS (W := W) hM hZ w4 w3 hf hl hEL H hsx) hg hsize hlen hstack hW hdg (fun _ _ => ⟨has, eT, hc, hs⟩)
  subst e1 e2 e3
  have hr := rebS (n1 := T.heap.size) hS (by rw [eT]; exact hk) X' hS2 hgr hZ hown
  exact ⟨v, T', L, hq, hr.2.1, hr.2.2.1, hr.2.2.2, hC, hr.1, fun _ k => st.trans k⟩
theorem own_specialW (X : Stand p l e R (s.setVm vm0) m args below meth c T locs cells slots) (hx : p.tables.exec = Jvm.exec) (hZ : Z.Warmed39 (s.setVm vm0).vm) {own : String} {index W maxL : Nat} {y : MethodName} {bytes : ByteArray} {rm : Room} {as' : Array Value} {Q : Option Value → Heap → List Loc → Prop} (hy1 : y.name = "<init>")
    (hown : (s.setVm vm0).vm.findClass own = some m.cls) (w1 : (Jvm.Cond.methodLink own index y).before a0 Z = true) (w2 : (Jvm.Cond.instanceMethod y).before a0 Z = true) (w3 : (Jvm.Cond.initialized y.cls).before a0 Z = true) (w4 : (Jvm.Cond.code y bytes maxL none).before a0 Z = true) (hy : y.cls ≠ "java/lang/invoke/MethodHandle" ∧ y.cls ≠ "java/lang/invoke/VarHandle")
    (hM : MetFree l y (head1 [Jvm.Cond.code y bytes maxL none] rm) (fun a U => a = as' ∧ Z.Warmed39 U.vm ∧ U.heap = h ∧ CHv Z EL U.vm h ∧ ∀ x ∈ sx, Safe Z EL U.vm h x) (fun _ _ _ _ _ => True) (fun _ U o U' => ∃ v L, o = .returned v ∧ Q v U'.heap L ∧ CHr Z EL U.vm U.heap U'.vm U'.heap ∧ ReturnedEndW U o U' L rm.cells rm.slots)) (eT : T.heap = h) {k0 : Nat} (hS : s.Since vm0 k0) (hk : k0 ≤ h.size) (hEL : EW Z a0 EL) (H : CHv Z EL vm0 h) (hsx : ∀ x ∈ sx, x < h.size ∧ Safe Z EL vm0 h x)
    {g : JFrame} (hg : g.method = m) (hsize : g.locals.size = c.maxLocals) {a : Addr} {argsL rest : List Value} (hlen : ∀ sig, parseMethodDescriptor y.desc = some sig → argsL.length = sig.parameters.length) (hstack : g.stack = argsL.reverse ++ .ref a :: rest) (has : (.ref a :: argsL).toArray = as') (hW : 2 * g.monitorRoom + (rest.map fun v => v.category).sum ≤ W)
    (hdg : decode c.code g.pc = .ok (.invokespecial index, 3)) (hf : rm.frames + 1 ≤ R.frames) (hl : W + (maxL + 11) + rm.locals ≤ R.locals) (hc : cells + rm.cells ≤ R.cells) (hs : slots + rm.slots ≤ R.slots) :
    ∃ (v : Option Value) (T' : State) (L : List Loc), Q v T'.heap L ∧ s.Since T'.vm T'.heap.size ∧ Z.Warmed39 (s.setVm T'.vm).vm ∧ (s.setVm T'.vm).vm.findClass own = some m.cls ∧ CHr Z EL vm0 h T'.vm T'.heap ∧ Stand p l e R (s.setVm T'.vm) m args below meth c T' (locs ++ L) (cells + rm.cells) (slots + rm.slots) ∧ ∀ target, Steps p.tables e below (T'.setTop { g with pc := g.pc + 3, stack := v.toList ++ rest }) target → Steps p.tables e below (T.setTop g) target := by
  obtain ⟨v, _, ⟨T', L', c', s'⟩, -, X', hS2, hgr, ⟨L, hq, e1, e2, e3, hC⟩, st⟩ := X.specialBackS hx hy1 hown (mvT hZ w1) (mvT hZ w2) (mvT hZ w4) hy (own_backS (W := W) hM hZ w4 w3 hf hl hEL H hsx) hg hsize (Steps.refl _) hlen hstack hW hdg (fun _ _ => ⟨has, eT, hc, hs⟩)
  subst e1 e2 e3
  have hr := rebS (n1 := T.heap.size) hS (by rw [eT]; exact hk) X' hS2 hgr hZ hown
  exact ⟨v, T', L, hq, hr.2.1, hr.2.2.1, hr.2.2.2, hC, hr.1, fun _ k => st.trans k⟩
theorem own_virtualW (X : Stand p l e R (s.setVm vm0) m args below meth c T locs cells slots) (hx : p.tables.exec = Jvm.exec) (hZ : Z.Warmed39 (s.setVm vm0).vm) {own C : String} {index W maxL : Nat} {y z : MethodName} {bytes : ByteArray} {ret : Option FieldType} {rm : Room} {as' : Array Value} {Q : Option Value → Heap → List Loc → Prop}
    (hown : (s.setVm vm0).vm.findClass own = some m.cls) (w1 : (Jvm.Cond.methodLink own index y).before a0 Z = true) (w2 : (Jvm.Cond.declares y).before a0 Z = true) (nf : NotFace (s.setVm vm0) y) (w5 : (Jvm.Cond.selects C y z).before a0 Z = true) (w6 : (Jvm.Cond.instanceMethod z).before a0 Z = true) (w3 : (Jvm.Cond.initialized z.cls).before a0 Z = true) (w4 : (Jvm.Cond.code z bytes maxL ret).before a0 Z = true) (hy : y.cls ≠ "java/lang/invoke/MethodHandle" ∧ y.cls ≠ "java/lang/invoke/VarHandle")
    (hM : MetFree l z (head1 [Jvm.Cond.code z bytes maxL ret] rm) (fun a U => a = as' ∧ Z.Warmed39 U.vm ∧ U.heap = h ∧ CHv Z EL U.vm h ∧ ∀ x ∈ sx, Safe Z EL U.vm h x) (fun _ _ _ _ _ => True) (fun _ U o U' => ∃ v L, o = .returned v ∧ Q v U'.heap L ∧ CHr Z EL U.vm U.heap U'.vm U'.heap ∧ ReturnedEndW U o U' L rm.cells rm.slots)) (eT : T.heap = h) {k0 : Nat} (hS : s.Since vm0 k0) (hk : k0 ≤ h.size) (hEL : EW Z a0 EL) (H : CHv Z EL vm0 h) (hsx : ∀ x ∈ sx, x < h.size ∧ Safe Z EL vm0 h x) {b : Addr} (E : Exa Z h b C)
    {g : JFrame} (hg : g.method = m) (hsize : g.locals.size = c.maxLocals) {argsL rest : List Value} (hlen : ∀ sig, parseMethodDescriptor y.desc = some sig → argsL.length = sig.parameters.length) (hstack : g.stack = argsL.reverse ++ .ref b :: rest) (has : (.ref b :: argsL).toArray = as') (hW : 2 * g.monitorRoom + (rest.map fun v => v.category).sum ≤ W)
    (hdg : decode c.code g.pc = .ok (.invokevirtual index, 3)) (hf : rm.frames + 1 ≤ R.frames) (hl : W + (maxL + 11) + rm.locals ≤ R.locals) (hc : cells + rm.cells ≤ R.cells) (hs : slots + rm.slots ≤ R.slots) :
    ∃ (v : Option Value) (T' : State) (L : List Loc), Q v T'.heap L ∧ s.Since T'.vm T'.heap.size ∧ Z.Warmed39 (s.setVm T'.vm).vm ∧ (s.setVm T'.vm).vm.findClass own = some m.cls ∧ CHr Z EL vm0 h T'.vm T'.heap ∧ Stand p l e R (s.setVm T'.vm) m args below meth c T' (locs ++ L) (cells + rm.cells) (slots + rm.slots) ∧ ∀ target, Steps p.tables e below (T'.setTop { g with pc := g.pc + 3, stack := v.toList ++ rest }) target → Steps p.tables e below (T.setTop g) target := by
  obtain ⟨cB, kB, qa, qb, qc⟩ := isOf hZ eT E
  obtain ⟨v, _, ⟨T', L', c', s'⟩, -, X', hS2, hgr, ⟨L, hq, e1, e2, e3, hC⟩, st⟩ := X.virtualBackS hx hown (mvT hZ w1) (mvT hZ w2) nf (mvT hZ w5) (mvT hZ w6) hy (own_backS (W := W) hM hZ w4 w3 hf hl hEL H hsx) qa qc hg hsize (Steps.refl _) hlen hstack hW hdg (fun _ _ => ⟨has, eT, hc, hs⟩)
  subst e1 e2 e3
  have hr := rebS (n1 := T.heap.size) hS (by rw [eT]; exact hk) X' hS2 hgr hZ hown
  exact ⟨v, T', L, hq, hr.2.1, hr.2.2.1, hr.2.2.2, hC, hr.1, fun _ k => st.trans k⟩
theorem own_virtualUpW (X : Stand p l e R (s.setVm vm0) m args below meth c T locs cells slots) (hx : p.tables.exec = Jvm.exec) (hZ : Z.Warmed39 (s.setVm vm0).vm) {own C owner : String} {index W maxL : Nat} {y z : MethodName} {bytes : ByteArray} {ret : Option FieldType} {rm : Room} {as' : Array Value} {Q : Option Value → Heap → List Loc → Prop}
    (hown : (s.setVm vm0).vm.findClass own = some m.cls) (w1 : (Jvm.Cond.methodLink own index y).before a0 Z = true) (w7 : (Jvm.Cond.sameMethod y.cls owner y.name y.desc).before a0 Z = true) (w2 : (Jvm.Cond.declares ⟨owner, y.name, y.desc⟩).before a0 Z = true) (hy : owner ≠ "java/lang/invoke/MethodHandle" ∧ owner ≠ "java/lang/invoke/VarHandle") (w5 : (Jvm.Cond.selects C y z).before a0 Z = true) (w6 : (Jvm.Cond.instanceMethod z).before a0 Z = true) (w3 : (Jvm.Cond.initialized z.cls).before a0 Z = true) (w4 : (Jvm.Cond.code z bytes maxL ret).before a0 Z = true)
    (hM : MetFree l z (head1 [Jvm.Cond.code z bytes maxL ret] rm) (fun a U => a = as' ∧ Z.Warmed39 U.vm ∧ U.heap = h ∧ CHv Z EL U.vm h ∧ ∀ x ∈ sx, Safe Z EL U.vm h x) (fun _ _ _ _ _ => True) (fun _ U o U' => ∃ v L, o = .returned v ∧ Q v U'.heap L ∧ CHr Z EL U.vm U.heap U'.vm U'.heap ∧ ReturnedEndW U o U' L rm.cells rm.slots)) (eT : T.heap = h) {k0 : Nat} (hS : s.Since vm0 k0) (hk : k0 ≤ h.size) (hEL : EW Z a0 EL) (H : CHv Z EL vm0 h) (hsx : ∀ x ∈ sx, x < h.size ∧ Safe Z EL vm0 h x) {b : Addr} (E : Exa Z h b C)
    {g : JFrame} (hg : g.method = m) (hsize : g.locals.size = c.maxLocals) {argsL rest : List Value} (hlen : ∀ sig, parseMethodDescriptor y.desc = some sig → argsL.length = sig.parameters.length) (hstack : g.stack = argsL.reverse ++ .ref b :: rest) (has : (.ref b :: argsL).toArray = as') (hW : 2 * g.monitorRoom + (rest.map fun v => v.category).sum ≤ W)
    (hdg : decode c.code g.pc = .ok (.invokevirtual index, 3)) (hf : rm.frames + 1 ≤ R.frames) (hl : W + (maxL + 11) + rm.locals ≤ R.locals) (hc : cells + rm.cells ≤ R.cells) (hs : slots + rm.slots ≤ R.slots) :
    ∃ (v : Option Value) (T' : State) (L : List Loc), Q v T'.heap L ∧ s.Since T'.vm T'.heap.size ∧ Z.Warmed39 (s.setVm T'.vm).vm ∧ (s.setVm T'.vm).vm.findClass own = some m.cls ∧ CHr Z EL vm0 h T'.vm T'.heap ∧ Stand p l e R (s.setVm T'.vm) m args below meth c T' (locs ++ L) (cells + rm.cells) (slots + rm.slots) ∧ ∀ target, Steps p.tables e below (T'.setTop { g with pc := g.pc + 3, stack := v.toList ++ rest }) target → Steps p.tables e below (T.setTop g) target := by
  obtain ⟨cB, kB, qa, qb, qc⟩ := isOf hZ eT E
  obtain ⟨v, _, ⟨T', L', c', s'⟩, -, X', hS2, hgr, ⟨L, hq, e1, e2, e3, hC⟩, st⟩ := X.virtualBackUpS hx (owner := owner) hown (mvT hZ w1) (mvT hZ w7) (mvT hZ w2) hy (mvT hZ w5) (mvT hZ w6) (own_backS (W := W) hM hZ w4 w3 hf hl hEL H hsx) qa qc hg hsize (Steps.refl _) hlen hstack hW hdg (fun _ _ => ⟨has, eT, hc, hs⟩)
  subst e1 e2 e3
  have hr := rebS (n1 := T.heap.size) hS (by rw [eT]; exact hk) X' hS2 hgr hZ hown
  exact ⟨v, T', L, hq, hr.2.1, hr.2.2.1, hr.2.2.2, hC, hr.1, fun _ k => st.trans k⟩
theorem own_ifaceW (X : Stand p l e R (s.setVm vm0) m args below meth c T locs cells slots) (hx : p.tables.exec = Jvm.exec) (hZ : Z.Warmed39 (s.setVm vm0).vm) {own C : String} {index count W maxL : Nat} {y z : MethodName} {bytes : ByteArray} {ret : Option FieldType} {rm : Room} {as' : Array Value} {Q : Option Value → Heap → List Loc → Prop}
    (hown : (s.setVm vm0).vm.findClass own = some m.cls) (w1 : (Jvm.Cond.methodLink own index y).before a0 Z = true) (w2 : (Jvm.Cond.declares y).before a0 Z = true) (w7 : (Jvm.Cond.interfaceMethod y.cls y.cls y.name y.desc).before args (s.setVm vm0) = true) (w5 : (Jvm.Cond.selects C y z).before a0 Z = true) (w6 : (Jvm.Cond.instanceMethod z).before a0 Z = true) (w8 : (Jvm.Cond.publicMethod z).before args (s.setVm vm0) = true) (w9 : (Jvm.Cond.unhidden C y.name y.desc).before args (s.setVm vm0) = true) (w10 : (Jvm.Cond.castable C y.cls).before a0 Z = true) (w3 : (Jvm.Cond.initialized z.cls).before a0 Z = true) (w4 : (Jvm.Cond.code z bytes maxL ret).before a0 Z = true) (hy : y.cls ≠ "java/lang/invoke/MethodHandle" ∧ y.cls ≠ "java/lang/invoke/VarHandle")
    (hM : MetFree l z (head1 [Jvm.Cond.code z bytes maxL ret] rm) (fun a U => a = as' ∧ Z.Warmed39 U.vm ∧ U.heap = h ∧ CHv Z EL U.vm h ∧ ∀ x ∈ sx, Safe Z EL U.vm h x) (fun _ _ _ _ _ => True) (fun _ U o U' => ∃ v L, o = .returned v ∧ Q v U'.heap L ∧ CHr Z EL U.vm U.heap U'.vm U'.heap ∧ ReturnedEndW U o U' L rm.cells rm.slots)) (eT : T.heap = h) {k0 : Nat} (hS : s.Since vm0 k0) (hk : k0 ≤ h.size) (hEL : EW Z a0 EL) (H : CHv Z EL vm0 h) (hsx : ∀ x ∈ sx, x < h.size ∧ Safe Z EL vm0 h x) {b : Addr} (E : Exa Z h b C)
    {g : JFrame} (hg : g.method = m) (hsize : g.locals.size = c.maxLocals) {argsL rest : List Value} (hlen : ∀ sig, parseMethodDescriptor y.desc = some sig → argsL.length = sig.parameters.length) (hstack : g.stack = argsL.reverse ++ .ref b :: rest) (has : (.ref b :: argsL).toArray = as') (hW : 2 * g.monitorRoom + (rest.map fun v => v.category).sum ≤ W)
    (hdg : decode c.code g.pc = .ok (.invokeinterface index count, 5)) (hf : rm.frames + 1 ≤ R.frames) (hl : W + (maxL + 11) + rm.locals ≤ R.locals) (hc : cells + rm.cells ≤ R.cells) (hs : slots + rm.slots ≤ R.slots) :
    ∃ (v : Option Value) (T' : State) (L : List Loc), Q v T'.heap L ∧ s.Since T'.vm T'.heap.size ∧ Z.Warmed39 (s.setVm T'.vm).vm ∧ (s.setVm T'.vm).vm.findClass own = some m.cls ∧ CHr Z EL vm0 h T'.vm T'.heap ∧ Stand p l e R (s.setVm T'.vm) m args below meth c T' (locs ++ L) (cells + rm.cells) (slots + rm.slots) ∧ ∀ target, Steps p.tables e below (T'.setTop { g with pc := g.pc + 5, stack := v.toList ++ rest }) target → Steps p.tables e below (T.setTop g) target := by
  obtain ⟨cB, kB, qa, qb, qc⟩ := isOf hZ eT E
  obtain ⟨v, _, ⟨T', L', c', s'⟩, -, X', hS2, hgr, ⟨L, hq, e1, e2, e3, hC⟩, st⟩ := X.interfaceBackS hx hown (mvT hZ w1) (mvT hZ w2) w7 (mvT hZ w5) (mvT hZ w6) w8 w9 (mvT hZ w10) hy (own_backS (W := W) hM hZ w4 w3 hf hl hEL H hsx) qa qb qc hg hsize (Steps.refl _) hlen hstack hW hdg (fun _ _ => ⟨has, eT, hc, hs⟩)
  subst e1 e2 e3
  have hr := rebS (n1 := T.heap.size) hS (by rw [eT]; exact hk) X' hS2 hgr hZ hown
  exact ⟨v, T', L, hq, hr.2.1, hr.2.2.1, hr.2.2.2, hC, hr.1, fun _ k => st.trans k⟩
theorem own_privateW (X : Stand p l e R (s.setVm vm0) m args below meth c T locs cells slots) (hx : p.tables.exec = Jvm.exec) (hZ : Z.Warmed39 (s.setVm vm0).vm) {own K : String} {index W maxL : Nat} {y : MethodName} {bytes : ByteArray} {ret : Option FieldType} {rm : Room} {as' : Array Value} {Q : Option Value → Heap → List Loc → Prop}
    (hown : (s.setVm vm0).vm.findClass own = some m.cls) (w1 : (Jvm.Cond.methodLink own index y).before a0 Z = true) (w2 : (Jvm.Cond.instanceMethod y).before a0 Z = true) (hsel : (Jvm.Cond.selects y.cls y y).before args (s.setVm vm0) = true) (w6 : (Jvm.Cond.privateMethod y).before a0 Z = true) (w3 : (Jvm.Cond.initialized y.cls).before a0 Z = true) (w4 : (Jvm.Cond.code y bytes maxL ret).before a0 Z = true) (hy : y.cls ≠ "java/lang/invoke/MethodHandle" ∧ y.cls ≠ "java/lang/invoke/VarHandle")
    (hM : MetFree l y (head1 [Jvm.Cond.code y bytes maxL ret] rm) (fun a U => a = as' ∧ Z.Warmed39 U.vm ∧ U.heap = h ∧ CHv Z EL U.vm h ∧ ∀ x ∈ sx, Safe Z EL U.vm h x) (fun _ _ _ _ _ => True) (fun _ U o U' => ∃ v L, o = .returned v ∧ Q v U'.heap L ∧ CHr Z EL U.vm U.heap U'.vm U'.heap ∧ ReturnedEndW U o U' L rm.cells rm.slots)) (eT : T.heap = h) {k0 : Nat} (hS : s.Since vm0 k0) (hk : k0 ≤ h.size) (hEL : EW Z a0 EL) (H : CHv Z EL vm0 h) (hsx : ∀ x ∈ sx, x < h.size ∧ Safe Z EL vm0 h x) {b : Addr} (E : Exa Z h b K)
    {g : JFrame} (hg : g.method = m) (hsize : g.locals.size = c.maxLocals) {argsL rest : List Value} (hlen : ∀ sig, parseMethodDescriptor y.desc = some sig → argsL.length = sig.parameters.length) (hstack : g.stack = argsL.reverse ++ .ref b :: rest) (has : (.ref b :: argsL).toArray = as') (hW : 2 * g.monitorRoom + (rest.map fun v => v.category).sum ≤ W)
    (hdg : decode c.code g.pc = .ok (.invokevirtual index, 3)) (hf : rm.frames + 1 ≤ R.frames) (hl : W + (maxL + 11) + rm.locals ≤ R.locals) (hc : cells + rm.cells ≤ R.cells) (hs : slots + rm.slots ≤ R.slots) :
    ∃ (v : Option Value) (T' : State) (L : List Loc), Q v T'.heap L ∧ s.Since T'.vm T'.heap.size ∧ Z.Warmed39 (s.setVm T'.vm).vm ∧ (s.setVm T'.vm).vm.findClass own = some m.cls ∧ CHr Z EL vm0 h T'.vm T'.heap ∧ Stand p l e R (s.setVm T'.vm) m args below meth c T' (locs ++ L) (cells + rm.cells) (slots + rm.slots) ∧ ∀ target, Steps p.tables e below (T'.setTop { g with pc := g.pc + 3, stack := v.toList ++ rest }) target → Steps p.tables e below (T.setTop g) target := by
  obtain ⟨cq, q, q'⟩ := E.cell
  obtain ⟨v, _, ⟨T', L', c', s'⟩, -, X', hS2, hgr, ⟨L, hq, e1, e2, e3, hC⟩, st⟩ := X.privateBackS hx hown (mvT hZ w1) (mvT hZ w2) hsel (Cond.privateMethod_at (mvP hZ w6 (args := #[]))) (mvT hZ w4) hy (own_backS (W := W) hM hZ w4 w3 hf hl hEL H hsx) hg hsize (Steps.refl _) (by rw [eT]; exact q) q' hlen hstack hW hdg (fun _ _ => ⟨has, eT, hc, hs⟩)
  subst e1 e2 e3
  have hr := rebS (n1 := T.heap.size) hS (by rw [eT]; exact hk) X' hS2 hgr hZ hown
  exact ⟨v, T', L, hq, hr.2.1, hr.2.2.1, hr.2.2.2, hC, hr.1, fun _ k => st.trans k⟩
theorem own_superW (X : Stand p l e R (s.setVm vm0) m args below meth c T locs cells slots) (hx : p.tables.exec = Jvm.exec) (hZ : Z.Warmed39 (s.setVm vm0).vm) {own K : String} {index W maxL : Nat} {y : MethodName} {bytes : ByteArray} {ret : Option FieldType} {rm : Room} {as' : Array Value} {Q : Option Value → Heap → List Loc → Prop}
    (hown : (s.setVm vm0).vm.findClass own = some m.cls) (w1 : (Jvm.Cond.methodLink own index y).before a0 Z = true) (w2 : (Jvm.Cond.sameMethod y.cls y.cls y.name y.desc).before a0 Z = true) (w5 : (Jvm.Cond.instanceMethod y).before a0 Z = true) (w6 : (Jvm.Cond.superclass own y.cls).before a0 Z = true) (hn : y.name ≠ "<init>") (w3 : (Jvm.Cond.initialized y.cls).before a0 Z = true) (w4 : (Jvm.Cond.code y bytes maxL ret).before a0 Z = true)
    (hM : MetFree l y (head1 [Jvm.Cond.code y bytes maxL ret] rm) (fun a U => a = as' ∧ Z.Warmed39 U.vm ∧ U.heap = h ∧ CHv Z EL U.vm h ∧ ∀ x ∈ sx, Safe Z EL U.vm h x) (fun _ _ _ _ _ => True) (fun _ U o U' => ∃ v L, o = .returned v ∧ Q v U'.heap L ∧ CHr Z EL U.vm U.heap U'.vm U'.heap ∧ ReturnedEndW U o U' L rm.cells rm.slots)) (eT : T.heap = h) {k0 : Nat} (hS : s.Since vm0 k0) (hk : k0 ≤ h.size) (hEL : EW Z a0 EL) (H : CHv Z EL vm0 h) (hsx : ∀ x ∈ sx, x < h.size ∧ Safe Z EL vm0 h x) {b : Addr} (E : Exa Z h b K)
    {g : JFrame} (hg : g.method = m) (hsize : g.locals.size = c.maxLocals) {argsL rest : List Value} (hlen : ∀ sig, parseMethodDescriptor y.desc = some sig → argsL.length = sig.parameters.length) (hstack : g.stack = argsL.reverse ++ .ref b :: rest) (has : (.ref b :: argsL).toArray = as') (hW : 2 * g.monitorRoom + (rest.map fun v => v.category).sum ≤ W)
    (hdg : decode c.code g.pc = .ok (.invokespecial index, 3)) (hf : rm.frames + 1 ≤ R.frames) (hl : W + (maxL + 11) + rm.locals ≤ R.locals) (hc : cells + rm.cells ≤ R.cells) (hs : slots + rm.slots ≤ R.slots) :
    ∃ (v : Option Value) (T' : State) (L : List Loc), Q v T'.heap L ∧ s.Since T'.vm T'.heap.size ∧ Z.Warmed39 (s.setVm T'.vm).vm ∧ (s.setVm T'.vm).vm.findClass own = some m.cls ∧ CHr Z EL vm0 h T'.vm T'.heap ∧ Stand p l e R (s.setVm T'.vm) m args below meth c T' (locs ++ L) (cells + rm.cells) (slots + rm.slots) ∧ ∀ target, Steps p.tables e below (T'.setTop { g with pc := g.pc + 3, stack := v.toList ++ rest }) target → Steps p.tables e below (T.setTop g) target := by
  obtain ⟨v, _, ⟨T', L', c', s'⟩, -, X', hS2, hgr, ⟨L, hq, e1, e2, e3, hC⟩, st⟩ := superBackS X hx hZ hown w1 w2 w5 w6 hn (own_backS (W := W) hM hZ w4 w3 hf hl hEL H hsx) eT (Ins.self E) hg hsize w4 hlen hstack hW hdg (fun _ _ => ⟨has, eT, hc, hs⟩)
  subst e1 e2 e3
  have hr := rebS (n1 := T.heap.size) hS (by rw [eT]; exact hk) X' hS2 hgr hZ hown
  exact ⟨v, T', L, hq, hr.2.1, hr.2.2.1, hr.2.2.2, hC, hr.1, fun _ k => st.trans k⟩
theorem own_chr {vm vm1 : Vm} {h0 h1 h2 : Heap} (e0 : h1 = h0) (eT : h2 = h) (C : CHr Z EL vm h0 vm1 h) : CHr Z EL vm h1 vm1 h2 := by subst e0 eT; exact C
theorem own_rwm {t : State} {o : Outcome} {L : List Loc} {k n k' n' : Nat} (hR : ReturnedEndW s o t L k n) (hk : k ≤ k') (hn : n ≤ n') : ReturnedEndW s o t L k' n' := ⟨hR.1, hR.2.1, hR.2.2.1, hR.2.2.2.mono hk hn⟩
theorem own_sx0 : ∀ x ∈ ([] : List Addr), x < h.size ∧ Safe Z EL vm0 h x := fun _ q => nomatch q
theorem own_sxS {y : Addr} {L : List Addr} (q : y < h.size) (r : Safe Z EL vm0 h y) (n : ∀ x ∈ L, x < h.size ∧ Safe Z EL vm0 h x) : ∀ x ∈ y :: L, x < h.size ∧ Safe Z EL vm0 h x := fun x z => (List.mem_cons.mp z).elim (fun u => u ▸ ⟨q, r⟩) (n x)
end OwnWide
theorem own_irr (x : Int32) : ¬ (x < x) := Int32.lt_irrefl
theorem own_irrL (x : Int64) : ¬ (x < x) := Int64.lt_irrefl
theorem own_lc_lt {x y : Int64} (h : x < y) : lcmpW x y = (-1 : Int32) := Int32.toInt_inj.mp ((c_lcmp x y).1 (Int64.lt_iff_toInt_lt.mp h))
theorem own_lc_eq {x y : Int64} (h : x = y) : lcmpW x y = (0 : Int32) := Int32.toInt_inj.mp ((c_lcmp x y).2.1 (congrArg _ h))
theorem own_lc_gt {x y : Int64} (h : ¬ (x < y)) (h' : ¬ (x = y)) : lcmpW x y = (1 : Int32) := Int32.toInt_inj.mp ((c_lcmp x y).2.2 (by
  have h1 : ¬ (x.toInt < y.toInt) := fun q => h (Int64.lt_iff_toInt_lt.mpr q)
  have h2 : ¬ (x.toInt = y.toInt) := fun q => h' (Int64.toInt_inj.mp q)
  omega))
theorem own_old_le {Z : State} {n0 : Nat} {h : Heap} (O : Old Z n0 h) : n0 ≤ h.size := O.1 ▸ O.2.1
theorem own_fld {Z : State} {args : Array Value} {t : Term} {a : Addr} {C n d : String} {z : Int32} (ev : t.eval args Z none [] Z = some (.ref a)) (h : (Jvm.Cond.eq (Term.field t C n d) (Term.int z)).value args Z none Z [] = some true) : Fld Z Z.heap a C n d (.int z) := by
  refine Fld.start ?_
  obtain ⟨x, y, e1, e2, k1, -⟩ := cmp_v (Or.inl h)
  rw [fld_at ev] at e1
  cases (Term.int_eval z).symm.trans e2
  have hx : ∃ q, x = .int q := by cases x <;> simp [Kin, Value.isRef] at k1 ⊢
  obtain ⟨q, rfl⟩ := hx
  have := gotT (P := q = z) (by simp [Cond.value, fld_at ev, e1, Term.int_eval]) h
  rw [e1, this]
theorem own_sta {Z : State} {args : Array Value} {C n d : String} {z : Int32} (h : (Jvm.Cond.eq (Term.static C n d) (Term.int z)).value args Z none Z [] = some true) : (Term.static C n d).eval args Z none [] Z = some (.int z) := by
  obtain ⟨x, y, e1, e2, k1, -⟩ := cmp_v (Or.inl h)
  cases (Term.int_eval z).symm.trans e2
  have hx : ∃ q, x = .int q := by cases x <;> simp [Kin, Value.isRef] at k1 ⊢
  obtain ⟨q, rfl⟩ := hx
  have := gotT (P := q = z) (by simp [Cond.value, e1, Term.int_eval]) h
  rw [e1, this]
theorem own_fldL {Z : State} {args : Array Value} {t : Term} {a : Addr} {C n d : String} {z : Int64} (ev : t.eval args Z none [] Z = some (.ref a)) (h : (Jvm.Cond.eq (Term.field t C n d) (Term.long z)).value args Z none Z [] = some true) : Fld Z Z.heap a C n d (.long z) := by
  refine Fld.start ?_
  obtain ⟨x, y, e1, e2, k1, -⟩ := cmp_v (Or.inl h)
  rw [fld_at ev] at e1
  cases (long_at z).symm.trans e2
  have hx : ∃ q, x = .long q := by cases x <;> simp [Kin, Value.isRef] at k1 ⊢
  obtain ⟨q, rfl⟩ := hx
  have := gotT (P := q = z) (eq_L (by rw [fld_at ev]; exact e1) (long_at z)) h
  rw [e1, this]
theorem own_len {Z : State} {args : Array Value} {t : Term} {a : Addr} {cl : Cell} {ty : FieldType} {z : Int32} (ev : t.eval args Z none [] Z = some (.ref a)) (A : Arr Z Z.heap a cl ty) (h : (Jvm.Cond.eq (Term.length t) (Term.int z)).value args Z none Z [] = some true) : cl.slots.size < 2 ^ 31 ∧ cl.slots.size.toInt32 = z := by
  obtain ⟨x, y, e1, e2, k1, -⟩ := cmp_v (Or.inl h)
  cases (Term.int_eval z).symm.trans e2
  have harr := A.fin (Vm.Alike.refl _)
  have h31 := SBG.length_lt ev harr e1
  refine ⟨h31, ?_⟩
  rw [len_f ev harr h31] at e1
  cases Option.some.inj e1
  exact gotT (P := cl.slots.size.toInt32 = z) (by simp [Cond.value, len_f ev harr h31, Term.int_eval]) h
theorem own_el {Z : State} {args : Array Value} {t u : Term} {a : Addr} {cl : Cell} {ty : FieldType} {j : Int32} {v : Value} (ev : t.eval args Z none [] Z = some (.ref a)) (A : Arr Z Z.heap a cl ty) (hu : u.eval args Z none [] Z = some v) (hr : v.isRef = true) (h : (Jvm.Cond.eq (Term.elem t (Term.int j)) u).value args Z none Z [] = some true) : cl.slots[j.toNatClampNeg]? = some v := by
  obtain ⟨x, y, e1, e2, k1, k2⟩ := cmp_v (Or.inl h)
  cases hu.symm.trans e2
  have hx : x.isRef = true := by rcases ref_cases hr with rfl | ⟨q, rfl⟩ <;> simp [Kin] at k2 <;> exact k2.2
  have := gotT (eq_R e1 hu hx hr) h
  subst this
  exact (elem_in e1 ev (Term.int_eval j) A.1).2
theorem own_rng (x : Int32) : -2147483648 ≤ x.toInt ∧ x.toInt ≤ 2147483647 := by have := rng32 x; omega
theorem own_mask (x m : Int32) {n : Int} (h : m.toInt = n ∧ 0 ≤ n) : 0 ≤ (x &&& m).toInt ∧ (x &&& m).toInt ≤ n := by have := c_and x m (by omega); omega
theorem own_rem (x y : Int32) (d : Int) {lo hi l h : Int} (hy : y.toInt = d ∧ 0 < d) (hx : lo ≤ x.toInt ∧ x.toInt ≤ hi) (q : (0 ≤ lo ∧ l = 0 ∧ d - 1 ≤ h) ∨ (l = -(d - 1) ∧ h = d - 1)) : l ≤ (x % y).toInt ∧ (x % y).toInt ≤ h := by
  have := c_iremV x y
  rcases Int.lt_or_le x.toInt 0 with g | g
  · have := this.2 g (by omega); omega
  · have := this.1 g (by omega); omega
theorem own_isub (x y : Int32) (d : Int) {lo hi l h : Int} (hy : y.toInt = d) (hx : lo ≤ x.toInt ∧ x.toInt ≤ hi) (q : l = lo - d ∧ h = hi - d ∧ -2147483648 ≤ l ∧ h ≤ 2147483647) : l ≤ (x - y).toInt ∧ (x - y).toInt ≤ h := by have := c_isub x y; have := rng32 (x - y); omega
theorem own_iadd (x y : Int32) (d : Int) {lo hi l h : Int} (hy : y.toInt = d) (hx : lo ≤ x.toInt ∧ x.toInt ≤ hi) (q : l = lo + d ∧ h = hi + d ∧ -2147483648 ≤ l ∧ h ≤ 2147483647) : l ≤ (x + y).toInt ∧ (x + y).toInt ≤ h := by have := c_iadd x y; have := rng32 (x + y); omega
theorem own_ltT {x y : Int32} (h : x.toInt < y.toInt) : x < y := Int32.lt_iff_toInt_lt.mpr h
theorem own_ltF {x y : Int32} (h : ¬ (x.toInt < y.toInt)) : ¬ (x < y) := fun q => h (Int32.lt_iff_toInt_lt.mp q)
theorem own_eqF {x y : Int32} (h : ¬ (x.toInt = y.toInt)) : ¬ (x = y) := fun q => h (q ▸ rfl)
theorem own_rngL (x : Int64) : -9223372036854775808 ≤ x.toInt ∧ x.toInt ≤ 9223372036854775807 := by have := rng64 x; omega
theorem own_ltTL {x y : Int64} (h : x.toInt < y.toInt) : x < y := Int64.lt_iff_toInt_lt.mpr h
theorem own_ltFL {x y : Int64} (h : ¬ (x.toInt < y.toInt)) : ¬ (x < y) := fun q => h (Int64.lt_iff_toInt_lt.mp q)
theorem own_eqFL {x y : Int64} (h : ¬ (x.toInt = y.toInt)) : ¬ (x = y) := fun q => h (q ▸ rfl)
theorem own_eqTL {x y : Int64} (h : x.toInt = y.toInt) : x = y := Int64.toInt_inj.mp h
theorem own_ltT'L {x y : Int64} (h : x < y) : x.toInt < y.toInt := Int64.lt_iff_toInt_lt.mp h
theorem own_ltF'L {x y : Int64} (h : ¬ (x < y)) : ¬ (x.toInt < y.toInt) := fun q => h (Int64.lt_iff_toInt_lt.mpr q)
theorem own_eqF'L {x y : Int64} (h : ¬ (x = y)) : ¬ (x.toInt = y.toInt) := fun q => h (Int64.toInt_inj.mp q)
theorem own_eqT'L {x y : Int64} (h : x = y) : x.toInt = y.toInt := h ▸ rfl
theorem own_sub {Z : State} {args : Array Value} {a b : Term} {idx : List Nat} {x y : Int32} (ha : a.eval args Z none idx Z = some (.int x)) (hb : b.eval args Z none idx Z = some (.int y)) : (Term.sub a b).eval args Z none idx Z = some (.int (x - y)) := by simp [Term.eval, ha, hb]
theorem own_box {Z : State} {a : Addr} {c : Cell} {K d : String} {z : Int32} {val : Int32 → Value} (B : Bxs Z a c K d z val) {j : Int32} (h1 : ¬ (j < 0)) (h2 : j < z) : ∃ b : Addr, c.slots[j.toNatClampNeg]? = some (.ref b) ∧ Exa Z Z.heap b K ∧ Fld Z Z.heap b K "value" d (val j) := B.2.2.2 j (inb_of B.2.1 ⟨h1, h2⟩)
theorem own_boxload {p : Program} {l : Launch} {e : Env} {R : Room} {s : State} {m : MethodId} {args : Array Value} {below : List Frame} {meth : Method} {c : Code} {T : State} {locs : List Loc} {cells slots : Nat} {Z : State} {h : Heap} {n0 : Nat} (X : Stand p l e R s m args below meth c T locs cells slots) (hx : p.tables.exec = Jvm.exec) (hZ : Z.Warmed39 s.vm) (eT : T.heap = h) (O : Old Z n0 h)
    {a b : Addr} {cl : Cell} {K d : String} {z : Int32} {val : Int32 → Value} (B : Bxs Z a cl K d z val) {j : Int32} (h1 : ¬ (j < 0)) (h2 : j < z) (el : cl.slots[j.toNatClampNeg]? = some (.ref b))
    {g : JFrame} (hg : g.method = m) {rest : List Value} (hs : g.stack = .int j :: .ref a :: rest) (hd : decode c.code g.pc = .ok (.aaload, 1)) {target : State} (hr : Steps p.tables e below (T.setTop { g with pc := g.pc + 1, stack := .ref b :: rest }) target) : Steps p.tables e below (T.setTop g) target := by
  have Ar := (B.ext O.2).1
  exact X.aaload hx (by rw [eT]; exact Ar.1) (State.isArrayOf_alike hZ.alike Ar.2.1) rfl Ar.2.2 (inb_of B.2.1 ⟨h1, h2⟩) el hg hs hd _ hr
theorem own_narC {x : Int32} (h1 : ¬ (x < (0 : Int32))) (h2 : ¬ ((65535 : Int32) < x)) : nar .char x = x := Int32.toInt_inj.mp (by
  have a1 := fun q => h1 (Int32.lt_iff_toInt_lt.mpr q); have a2 := fun q => h2 (Int32.lt_iff_toInt_lt.mpr q); have c1 : (0 : Int32).toInt = 0 := by decide
  have c2 : (65535 : Int32).toInt = 65535 := by decide
  rw [c1] at a1; rw [c2] at a2
  have b1 : ¬ (x.toInt < 0) := a1
  have b2 : ¬ (65535 < x.toInt) := a2
  have := c_i2c x; show x.toUInt32.toUInt16.toUInt32.toInt32.toInt = x.toInt; omega)
theorem own_narB {x : Int32} (h1 : ¬ (x < (-128 : Int32))) (h2 : ¬ ((127 : Int32) < x)) : nar .byte x = x := Int32.toInt_inj.mp (by
  have a1 := fun q => h1 (Int32.lt_iff_toInt_lt.mpr q); have a2 := fun q => h2 (Int32.lt_iff_toInt_lt.mpr q); have c1 : (-128 : Int32).toInt = -128 := by decide
  have c2 : (127 : Int32).toInt = 127 := by decide
  rw [c1] at a1; rw [c2] at a2
  have b1 : ¬ (x.toInt < -128) := a1
  have b2 : ¬ (127 < x.toInt) := a2
  have := c_i2b x; show x.toInt8.toInt32.toInt = x.toInt; omega)
theorem own_narS {x : Int32} (h1 : ¬ (x < (-32768 : Int32))) (h2 : ¬ ((32767 : Int32) < x)) : nar .short x = x := Int32.toInt_inj.mp (by
  have a1 := fun q => h1 (Int32.lt_iff_toInt_lt.mpr q); have a2 := fun q => h2 (Int32.lt_iff_toInt_lt.mpr q); have c1 : (-32768 : Int32).toInt = -32768 := by decide
  have c2 : (32767 : Int32).toInt = 32767 := by decide
  rw [c1] at a1; rw [c2] at a2
  have b1 : ¬ (x.toInt < -32768) := a1
  have b2 : ¬ (32767 < x.toInt) := a2
  have := c_i2s x; show x.toInt16.toInt32.toInt = x.toInt; omega)
theorem own_i2c {x : Int32} (h1 : ¬ (x < (0 : Int32))) (h2 : ¬ ((65535 : Int32) < x)) : x.toUInt32.toUInt16.toUInt32.toInt32 = x := own_narC h1 h2
theorem own_i2b {x : Int32} (h1 : ¬ (x < (-128 : Int32))) (h2 : ¬ ((127 : Int32) < x)) : x.toInt8.toInt32 = x := own_narB h1 h2
theorem own_i2s {x : Int32} (h1 : ¬ (x < (-32768 : Int32))) (h2 : ¬ ((32767 : Int32) < x)) : x.toInt16.toInt32 = x := own_narS h1 h2
theorem own_fitC {x : Int32} (h1 : ¬ (x < (0 : Int32))) (h2 : ¬ ((65535 : Int32) < x)) : fits .char (.int x) = true := by have := fits_nar_char x; rw [own_narC h1 h2] at this; exact this
theorem own_fitB {x : Int32} (h1 : ¬ (x < (-128 : Int32))) (h2 : ¬ ((127 : Int32) < x)) : fits .byte (.int x) = true := by have := fits_nar_byte x; rw [own_i2b h1 h2] at this; exact this
theorem own_rg {x : Int32} {lo hi : Int32} {l h : Int} (h1 : ¬ (x < lo)) (h2 : ¬ (hi < x)) (e : lo.toInt = l ∧ hi.toInt = h) : l ≤ x.toInt ∧ x.toInt ≤ h := by
  have a1 : ¬ (x.toInt < lo.toInt) := fun q => h1 (Int32.lt_iff_toInt_lt.mpr q)
  have a2 : ¬ (hi.toInt < x.toInt) := fun q => h2 (Int32.lt_iff_toInt_lt.mpr q)
  omega
theorem own_b255 {x : Int32} (h1 : ¬ (x < (0 : Int32))) (h2 : ¬ ((255 : Int32) < x)) : x.toInt8.toInt32 &&& (255 : Int32) = x := Int32.toInt_inj.mp (by
  have a := own_rg h1 h2 (l := 0) (h := 255) (by decide)
  have b := c_i2b x
  have c : (x.toInt8.toInt32 &&& (255 : Int32)).toInt = x.toInt8.toInt32.toInt % ((2 ^ 8 : Nat) : Int) := c_mask _ _ 8 (by decide) (by decide)
  rw [c]; omega)
theorem own_andid {x m : Int32} (h1 : ¬ (x < (0 : Int32))) (h2 : ¬ (m < x)) (k : Nat) (hk : k ≤ 31) (hm : m.toBitVec.toNat = 2 ^ k - 1 ∧ m.toInt = ((2 ^ k : Nat) : Int) - 1) : x &&& m = x := Int32.toInt_inj.mp (by
  have a1 : ¬ (x.toInt < (0 : Int32).toInt) := fun q => h1 (Int32.lt_iff_toInt_lt.mpr q)
  have a2 : ¬ (m.toInt < x.toInt) := fun q => h2 (Int32.lt_iff_toInt_lt.mpr q)
  have a3 : (0 : Int32).toInt = 0 := by decide
  rw [c_mask x m k hk hm.1]
  exact Int.emod_eq_of_lt (by omega) (by omega))
theorem own_binj {x y : Int32} (h1 : ¬ (x < (0 : Int32))) (h2 : ¬ ((255 : Int32) < x)) (h3 : ¬ (y < (0 : Int32))) (h4 : ¬ ((255 : Int32) < y)) : x.toInt8.toInt32 = y.toInt8.toInt32 ↔ x = y := by
  refine ⟨fun q => ?_, fun q => q ▸ rfl⟩
  have a := own_b255 h1 h2
  have b := own_b255 h3 h4
  rw [q] at a
  exact a.symm.trans b
theorem own_blit {x z w : Int32} (h1 : ¬ (x < (0 : Int32))) (h2 : ¬ ((255 : Int32) < x)) (e : w.toInt8.toInt32 = z ∧ ¬ (w < (0 : Int32)) ∧ ¬ ((255 : Int32) < w)) : x.toInt8.toInt32 = z ↔ x = w := by rw [← e.1]; exact own_binj h1 h2 e.2.1 e.2.2
theorem own_xor (x y : Int32) (k : Nat) (hk : k ≤ 31) (hx : 0 ≤ x.toInt ∧ x.toInt < ((2 ^ k : Nat) : Int)) (hy : 0 ≤ y.toInt ∧ y.toInt < ((2 ^ k : Nat) : Int)) : 0 ≤ (x ^^^ y).toInt ∧ (x ^^^ y).toInt < ((2 ^ k : Nat) : Int) := by
  have hp : (2 : Nat) ^ k ≤ 2 ^ 31 := Nat.pow_le_pow_right (by decide) hk
  have hp' : (2 : Nat) ^ 31 = 2147483648 := by decide
  have nx : x.toBitVec.toNat < 2 ^ k ∧ y.toBitVec.toNat < 2 ^ k := by
    have e1 : x.toInt = x.toBitVec.toInt := rfl
    have e2 : y.toInt = y.toBitVec.toInt := rfl
    rw [e1] at hx; rw [e2] at hy
    rw [BitVec.toInt_eq_toNat_cond] at hx hy
    have l1 := x.toBitVec.isLt
    have l2 := y.toBitVec.isLt
    split at hx <;> split at hy <;> omega
  have hz : (x ^^^ y).toBitVec.toNat < 2 ^ k := by
    show (x.toBitVec ^^^ y.toBitVec).toNat < 2 ^ k
    rw [BitVec.toNat_xor]; exact Nat.xor_lt_two_pow nx.1 nx.2
  have e3 : (x ^^^ y).toInt = (x ^^^ y).toBitVec.toInt := rfl
  rw [e3, BitVec.toInt_eq_toNat_cond]
  split <;> omega
theorem own_not {Z : State} {args : Array Value} {t : Term} {x z : Int32} (ev : t.eval args Z none [] Z = some (.int x)) (h : (Jvm.Cond.not (Jvm.Cond.eq t (Term.int z))).value args Z none Z [] = some true) : ¬ (x = z) := gotF (Cond.eq_ints ev (Term.int_eval z)) (not_v h)
theorem own_ltT' {x y : Int32} (h : x < y) : x.toInt < y.toInt := Int32.lt_iff_toInt_lt.mp h
theorem own_ltF' {x y : Int32} (h : ¬ (x < y)) : ¬ (x.toInt < y.toInt) := fun q => h (Int32.lt_iff_toInt_lt.mpr q)
theorem own_eqF' {x y : Int32} (h : ¬ (x = y)) : ¬ (x.toInt = y.toInt) := fun q => h (Int32.toInt_inj.mp q)
theorem own_eqT' {x y : Int32} (h : x = y) : x.toInt = y.toInt := h ▸ rfl
theorem own_eqT {x y : Int32} (h : x.toInt = y.toInt) : x = y := Int32.toInt_inj.mp h
abbrev z0 : String := "java/lang/String"
abbrev z1 : String := "com/example/key3/key3/cql/Token"
abbrev z2 : String := "com/example/key3/key3/cql/Token$Type"
abbrev z3 : String := "Lcom/example/key3/key3/cql/Token$Type;"
abbrev z4 : String := "com/example/key3/key3/cql/TokenIsSymbolPinLaw"
abbrev z5 : String := "java/lang/StringLatin1"
abbrev z6 : String := "(Ljava/lang/String;)Z"
abbrev z7 : String := "(Ljava/lang/Object;)Z"
abbrev z8 : String := "Ljava/lang/String;"
abbrev z9 : String := "java/lang/StringUTF16"
abbrev z10 : String := "(ICC)Ljava/lang/String;"
abbrev z11 : String := "java/lang/Record"
abbrev z12 : String := "java/lang/Enum"
def SF (Z : State) (w0 : Addr) (w1 : Addr) (w2 : Addr) (w3 : Addr) (w4 : Addr) (w5 : Addr) (w6 : Addr) (w7 : Addr) (w8 : Addr) (w9 : Addr) (w10 : Int32) (w11 : Value) : Prop := Sta Z Z.heap z2 "DURATION" z3 (.ref w0) ∧ Exa Z Z.heap w0 z2 ∧ Fld Z Z.heap w0 z12 "ordinal" "I" (.int (7 : Int32)) ∧ Sta Z Z.heap z2 "END" z3 (.ref w1) ∧ Exa Z Z.heap w1 z2 ∧ Fld Z Z.heap w1 z12 "ordinal" "I" (.int (9 : Int32)) ∧ Sta Z Z.heap z2 "FLOAT" z3 (.ref w2) ∧ Exa Z Z.heap w2 z2 ∧ Fld Z Z.heap w2 z12 "ordinal" "I" (.int (4 : Int32)) ∧ Sta Z Z.heap z2 "HEX" z3 (.ref w3) ∧ Exa Z Z.heap w3 z2 ∧ Fld Z Z.heap w3 z12 "ordinal" "I" (.int (6 : Int32)) ∧ Sta Z Z.heap z2 "IDENTIFIER" z3 (.ref w4) ∧ Exa Z Z.heap w4 z2 ∧ Fld Z Z.heap w4 z12 "ordinal" "I" (.int (0 : Int32)) ∧ Sta Z Z.heap z2 "INTEGER" z3 (.ref w5) ∧ Exa Z Z.heap w5 z2 ∧ Fld Z Z.heap w5 z12 "ordinal" "I" (.int (3 : Int32)) ∧ Sta Z Z.heap z2 "QUOTED_NAME" z3 (.ref w6) ∧ Exa Z Z.heap w6 z2 ∧ Fld Z Z.heap w6 z12 "ordinal" "I" (.int (1 : Int32)) ∧ Sta Z Z.heap z2 "STRING" z3 (.ref w7) ∧ Exa Z Z.heap w7 z2 ∧ Fld Z Z.heap w7 z12 "ordinal" "I" (.int (2 : Int32)) ∧ Sta Z Z.heap z2 "SYMBOL" z3 (.ref w8) ∧ Exa Z Z.heap w8 z2 ∧ Fld Z Z.heap w8 z12 "ordinal" "I" (.int (8 : Int32)) ∧ Sta Z Z.heap z2 "UUID" z3 (.ref w9) ∧ Exa Z Z.heap w9 z2 ∧ Fld Z Z.heap w9 z12 "ordinal" "I" (.int (5 : Int32)) ∧ Sta Z Z.heap z0 "COMPACT_STRINGS" "Z" (.int w10) ∧ ¬ (w10 = (0 : Int32)) ∧ Sta Z Z.heap "jdk/internal/util/Preconditions" "SIOOBE_FORMATTER" "Ljava/util/function/BiFunction;" w11 ∧ w11.isRef = true
theorem d9_0 : decode method_2_code 0 = .ok (.iload_n 0, 1) := by decide +kernel
theorem d9_1 : decode method_2_code 1 = .ok (.ifCond .ne 7, 3) := by decide +kernel
theorem en_2 (t : Int32) (q : (0 ≤ t.toInt ∧ t.toInt ≤ 9) ∧ ¬ (t.toInt = 8)) : t = (0 : Int32) ∨ t = (1 : Int32) ∨ t = (2 : Int32) ∨ t = (3 : Int32) ∨ t = (4 : Int32) ∨ t = (5 : Int32) ∨ t = (6 : Int32) ∨ t = (7 : Int32) ∨ t = (9 : Int32) := by
  have q' : t.toInt = 0 ∨ t.toInt = 1 ∨ t.toInt = 2 ∨ t.toInt = 3 ∨ t.toInt = 4 ∨ t.toInt = 5 ∨ t.toInt = 6 ∨ t.toInt = 7 ∨ t.toInt = 9 := by omega
  rcases q' with r | r | r | r | r | r | r | r | r
  · exact Or.inl (Int32.toInt_inj.mp (r.trans (by decide)))
  · exact Or.inr (Or.inl (Int32.toInt_inj.mp (r.trans (by decide))))
  · exact Or.inr (Or.inr (Or.inl (Int32.toInt_inj.mp (r.trans (by decide)))))
  · exact Or.inr (Or.inr (Or.inr (Or.inl (Int32.toInt_inj.mp (r.trans (by decide))))))
  · exact Or.inr (Or.inr (Or.inr (Or.inr (Or.inl (Int32.toInt_inj.mp (r.trans (by decide)))))))
  · exact Or.inr (Or.inr (Or.inr (Or.inr (Or.inr (Or.inl (Int32.toInt_inj.mp (r.trans (by decide))))))))
  · exact Or.inr (Or.inr (Or.inr (Or.inr (Or.inr (Or.inr (Or.inl (Int32.toInt_inj.mp (r.trans (by decide)))))))))
  · exact Or.inr (Or.inr (Or.inr (Or.inr (Or.inr (Or.inr (Or.inr (Or.inl (Int32.toInt_inj.mp (r.trans (by decide))))))))))
  · exact Or.inr (Or.inr (Or.inr (Or.inr (Or.inr (Or.inr (Or.inr (Or.inr ((Int32.toInt_inj.mp (r.trans (by decide)))))))))))
theorem d9_4 : decode method_2_code 4 = .ok (.getstatic 7, 3) := by decide +kernel
theorem m48 : (Jvm.Cond.fieldLink z4 (7 : Nat) z2 "IDENTIFIER" z3) ∈ tables_1 := List.mem_of_getElem? (i := 48) rfl
theorem d9_7 : decode method_2_code 7 = .ok (.areturn, 1) := by decide +kernel
theorem d9_8 : decode method_2_code 8 = .ok (.iload_n 0, 1) := by decide +kernel
theorem d9_9 : decode method_2_code 9 = .ok (.iconst 1, 1) := by decide +kernel
theorem d9_10 : decode method_2_code 10 = .ok (.if_icmp .ne 7, 3) := by decide +kernel
theorem d9_13 : decode method_2_code 13 = .ok (.getstatic 13, 3) := by decide +kernel
theorem m99 : (Jvm.Cond.fieldLink z4 (13 : Nat) z2 "QUOTED_NAME" z3) ∈ tables_1 := List.mem_of_getElem? (i := 99) rfl
theorem d9_16 : decode method_2_code 16 = .ok (.areturn, 1) := by decide +kernel
theorem d9_17 : decode method_2_code 17 = .ok (.iload_n 0, 1) := by decide +kernel
theorem d9_18 : decode method_2_code 18 = .ok (.iconst 2, 1) := by decide +kernel
theorem d9_19 : decode method_2_code 19 = .ok (.if_icmp .ne 7, 3) := by decide +kernel
theorem d9_22 : decode method_2_code 22 = .ok (.getstatic 16, 3) := by decide +kernel
theorem m97 : (Jvm.Cond.fieldLink z4 (16 : Nat) z2 "STRING" z3) ∈ tables_1 := List.mem_of_getElem? (i := 97) rfl
theorem d9_25 : decode method_2_code 25 = .ok (.areturn, 1) := by decide +kernel
theorem d9_26 : decode method_2_code 26 = .ok (.iload_n 0, 1) := by decide +kernel
theorem d9_27 : decode method_2_code 27 = .ok (.iconst 3, 1) := by decide +kernel
theorem d9_28 : decode method_2_code 28 = .ok (.if_icmp .ne 7, 3) := by decide +kernel
theorem d9_31 : decode method_2_code 31 = .ok (.getstatic 19, 3) := by decide +kernel
theorem m77 : (Jvm.Cond.fieldLink z4 (19 : Nat) z2 "INTEGER" z3) ∈ tables_1 := List.mem_of_getElem? (i := 77) rfl
theorem d9_34 : decode method_2_code 34 = .ok (.areturn, 1) := by decide +kernel
theorem d9_35 : decode method_2_code 35 = .ok (.iload_n 0, 1) := by decide +kernel
theorem d9_36 : decode method_2_code 36 = .ok (.iconst 4, 1) := by decide +kernel
theorem d9_37 : decode method_2_code 37 = .ok (.if_icmp .ne 7, 3) := by decide +kernel
theorem d9_40 : decode method_2_code 40 = .ok (.getstatic 22, 3) := by decide +kernel
theorem m75 : (Jvm.Cond.fieldLink z4 (22 : Nat) z2 "FLOAT" z3) ∈ tables_1 := List.mem_of_getElem? (i := 75) rfl
theorem d9_43 : decode method_2_code 43 = .ok (.areturn, 1) := by decide +kernel
theorem d9_44 : decode method_2_code 44 = .ok (.iload_n 0, 1) := by decide +kernel
theorem d9_45 : decode method_2_code 45 = .ok (.iconst 5, 1) := by decide +kernel
theorem d9_46 : decode method_2_code 46 = .ok (.if_icmp .ne 7, 3) := by decide +kernel
theorem d9_49 : decode method_2_code 49 = .ok (.getstatic 25, 3) := by decide +kernel
theorem m95 : (Jvm.Cond.fieldLink z4 (25 : Nat) z2 "UUID" z3) ∈ tables_1 := List.mem_of_getElem? (i := 95) rfl
theorem d9_52 : decode method_2_code 52 = .ok (.areturn, 1) := by decide +kernel
theorem d9_53 : decode method_2_code 53 = .ok (.iload_n 0, 1) := by decide +kernel
theorem d9_54 : decode method_2_code 54 = .ok (.bipush 6, 2) := by decide +kernel
theorem d9_56 : decode method_2_code 56 = .ok (.if_icmp .ne 7, 3) := by decide +kernel
theorem d9_59 : decode method_2_code 59 = .ok (.getstatic 28, 3) := by decide +kernel
theorem m101 : (Jvm.Cond.fieldLink z4 (28 : Nat) z2 "HEX" z3) ∈ tables_1 := List.mem_of_getElem? (i := 101) rfl
theorem d9_62 : decode method_2_code 62 = .ok (.areturn, 1) := by decide +kernel
theorem d9_63 : decode method_2_code 63 = .ok (.iload_n 0, 1) := by decide +kernel
theorem d9_64 : decode method_2_code 64 = .ok (.bipush 7, 2) := by decide +kernel
theorem d9_66 : decode method_2_code 66 = .ok (.if_icmp .ne 7, 3) := by decide +kernel
theorem d9_69 : decode method_2_code 69 = .ok (.getstatic 31, 3) := by decide +kernel
theorem m103 : (Jvm.Cond.fieldLink z4 (31 : Nat) z2 "DURATION" z3) ∈ tables_1 := List.mem_of_getElem? (i := 103) rfl
theorem d9_72 : decode method_2_code 72 = .ok (.areturn, 1) := by decide +kernel
theorem d9_73 : decode method_2_code 73 = .ok (.iload_n 0, 1) := by decide +kernel
theorem d9_74 : decode method_2_code 74 = .ok (.bipush 8, 2) := by decide +kernel
theorem d9_76 : decode method_2_code 76 = .ok (.if_icmp .ne 7, 3) := by decide +kernel
theorem d9_83 : decode method_2_code 83 = .ok (.getstatic 37, 3) := by decide +kernel
theorem m108 : (Jvm.Cond.fieldLink z4 (37 : Nat) z2 "END" z3) ∈ tables_1 := List.mem_of_getElem? (i := 108) rfl
theorem d9_86 : decode method_2_code 86 = .ok (.areturn, 1) := by decide +kernel
theorem pn54 : plainName z4 = true := by first | (simp [plainName, overriddenIn]; done) | decide +kernel
theorem ef55 (m : MethodId) (x0 : Int32) : entryFrame m #[(.int x0)] 1 = mkF m 0 #[.val (.int x0)] [] := by first | (simp [entryFrame, mkF, argsToLocals, Value.category]; done) | rfl
theorem m0 : (Jvm.Cond.constant z4 (49 : Nat) (2147483647 : Int32)) ∈ tables_1 := List.mem_of_getElem? (i := 0) rfl
theorem m1 : (Jvm.Cond.methodLink z4 (50 : Nat) (⟨z4, "make", z10⟩ : MethodName)) ∈ tables_1 := List.mem_of_getElem? (i := 1) rfl
theorem d1_0 : decode method_3_code 0 = .ok (.iload_n 0, 1) := by decide +kernel
theorem d1_1 : decode method_3_code 1 = .ok (.ifCond .ne 14, 3) := by decide +kernel
theorem en_60 (t : Int32) (q : (0 ≤ t.toInt ∧ t.toInt ≤ 2)) : t = (0 : Int32) ∨ t = (1 : Int32) ∨ t = (2 : Int32) := by
  have q' : t.toInt = 0 ∨ t.toInt = 1 ∨ t.toInt = 2 := by omega
  rcases q' with r | r | r
  · exact Or.inl (Int32.toInt_inj.mp (r.trans (by decide)))
  · exact Or.inr (Or.inl (Int32.toInt_inj.mp (r.trans (by decide))))
  · exact Or.inr (Or.inr ((Int32.toInt_inj.mp (r.trans (by decide)))))
theorem d1_4 : decode method_3_code 4 = .ok (.new 40, 3) := by decide +kernel
theorem m31 : (Jvm.Cond.classLink z4 (40 : Nat) z0) ∈ tables_1 := List.mem_of_getElem? (i := 31) rfl
theorem m15 : (Jvm.Cond.instantiable z0 (4 : Nat)) ∈ tables_1 := List.mem_of_getElem? (i := 15) rfl
theorem m7 : (Jvm.Cond.initialized z0) ∈ tables_1 := List.mem_of_getElem? (i := 7) rfl
theorem m28 : (Jvm.Cond.laysFinal z0 z0 "value" "[B") ∈ tables_1 := List.mem_of_getElem? (i := 28) rfl
theorem m30 : (Jvm.Cond.laysFinal z0 z0 "coder" "B") ∈ tables_1 := List.mem_of_getElem? (i := 30) rfl
theorem d1_7 : decode method_3_code 7 = .ok (.dup, 1) := by decide +kernel
theorem d1_8 : decode method_3_code 8 = .ok (.iconst 0, 1) := by decide +kernel
theorem d1_9 : decode method_3_code 9 = .ok (.newarray .char, 2) := by decide +kernel
theorem m32 : (Jvm.Cond.arrayClass FieldType.char) ∈ tables_1 := List.mem_of_getElem? (i := 32) rfl
theorem d1_11 : decode method_3_code 11 = .ok (.invokespecial 42, 3) := by decide +kernel
theorem m33 : (Jvm.Cond.methodLink z4 (42 : Nat) (⟨z0, "<init>", "([C)V"⟩ : MethodName)) ∈ tables_1 := List.mem_of_getElem? (i := 33) rfl
theorem d7_0 : decode jdk_42_method_3_code 0 = .ok (.aload_n 0, 1) := by decide +kernel
theorem d7_1 : decode jdk_42_method_3_code 1 = .ok (.aload_n 1, 1) := by decide +kernel
theorem d7_2 : decode jdk_42_method_3_code 2 = .ok (.iconst 0, 1) := by decide +kernel
theorem d7_3 : decode jdk_42_method_3_code 3 = .ok (.aload_n 1, 1) := by decide +kernel
theorem d7_4 : decode jdk_42_method_3_code 4 = .ok (.arraylength, 1) := by decide +kernel
theorem d7_5 : decode jdk_42_method_3_code 5 = .ok (.aconst_null, 1) := by decide +kernel
theorem d7_6 : decode jdk_42_method_3_code 6 = .ok (.invokespecial 27, 3) := by decide +kernel
theorem m36 : (Jvm.Cond.methodLink z0 (27 : Nat) (⟨z0, "<init>", "([CIILjava/lang/Void;)V"⟩ : MethodName)) ∈ tables_1 := List.mem_of_getElem? (i := 36) rfl
theorem d8_0 : decode jdk_42_method_149_code 0 = .ok (.aload_n 0, 1) := by decide +kernel
theorem d8_1 : decode jdk_42_method_149_code 1 = .ok (.invokespecial 1, 3) := by decide +kernel
theorem m24 : (Jvm.Cond.methodLink z0 (1 : Nat) (⟨"java/lang/Object", "<init>", "()V"⟩ : MethodName)) ∈ tables_1 := List.mem_of_getElem? (i := 24) rfl
theorem m26 : (Jvm.Cond.code (⟨"java/lang/Object", "<init>", "()V"⟩ : MethodName) object_method_1_code (1 : Nat) (Option.none : Option Jvm.ClassFile.FieldType)) ∈ tables_1 := List.mem_of_getElem? (i := 26) rfl
theorem m25 : (Jvm.Cond.instanceMethod (⟨"java/lang/Object", "<init>", "()V"⟩ : MethodName)) ∈ tables_1 := List.mem_of_getElem? (i := 25) rfl
theorem d8_4 : decode jdk_42_method_149_code 4 = .ok (.iload_n 3, 1) := by decide +kernel
theorem d8_5 : decode jdk_42_method_149_code 5 = .ok (.ifCond .ne 22, 3) := by decide +kernel
theorem d8_8 : decode jdk_42_method_149_code 8 = .ok (.aload_n 0, 1) := by decide +kernel
theorem d8_9 : decode jdk_42_method_149_code 9 = .ok (.ldc 7, 2) := by decide +kernel
theorem m39 : (Jvm.Cond.stringLink z0 (7 : Nat) "") ∈ tables_1 := List.mem_of_getElem? (i := 39) rfl
theorem d8_11 : decode jdk_42_method_149_code 11 = .ok (.getfield 9, 3) := by decide +kernel
theorem m27 : (Jvm.Cond.fieldLink z0 (9 : Nat) z0 "value" "[B") ∈ tables_1 := List.mem_of_getElem? (i := 27) rfl
theorem d8_14 : decode jdk_42_method_149_code 14 = .ok (.putfield 9, 3) := by decide +kernel
theorem d8_17 : decode jdk_42_method_149_code 17 = .ok (.aload_n 0, 1) := by decide +kernel
theorem d8_18 : decode jdk_42_method_149_code 18 = .ok (.ldc 7, 2) := by decide +kernel
theorem d8_20 : decode jdk_42_method_149_code 20 = .ok (.getfield 15, 3) := by decide +kernel
theorem m29 : (Jvm.Cond.fieldLink z0 (15 : Nat) z0 "coder" "B") ∈ tables_1 := List.mem_of_getElem? (i := 29) rfl
theorem d8_23 : decode jdk_42_method_149_code 23 = .ok (.putfield 15, 3) := by decide +kernel
theorem d8_26 : decode jdk_42_method_149_code 26 = .ok (.return_, 1) := by decide +kernel
theorem ef100 (m : MethodId) (x0 : Addr) (x1 : Addr) (x2 : Int32) (x3 : Int32) : entryFrame m #[(.ref x0), (.ref x1), (.int x2), (.int x3), .null] 6 = mkF m 0 #[.val (.ref x0), .val (.ref x1), .val (.int x2), .val (.int x3), .val .null, .unset] [] := by first | (simp [entryFrame, mkF, argsToLocals, Value.category]; done) | rfl
theorem pn101 : plainName z0 = true := by first | (simp [plainName, overriddenIn]; done) | decide +kernel
theorem m38 : (Jvm.Cond.code (⟨z0, "<init>", "([CIILjava/lang/Void;)V"⟩ : MethodName) jdk_42_method_149_code (6 : Nat) (Option.none : Option Jvm.ClassFile.FieldType)) ∈ tables_1 := List.mem_of_getElem? (i := 38) rfl
theorem pd103 : parseMethodDescriptor "([CIILjava/lang/Void;)V" = some ⟨[(.array .char), .int, .int, (.object "java/lang/Void")], none⟩ := by decide +kernel
theorem m37 : (Jvm.Cond.instanceMethod (⟨z0, "<init>", "([CIILjava/lang/Void;)V"⟩ : MethodName)) ∈ tables_1 := List.mem_of_getElem? (i := 37) rfl
theorem d7_9 : decode jdk_42_method_3_code 9 = .ok (.return_, 1) := by decide +kernel
theorem ef106 (m : MethodId) (x0 : Addr) (x1 : Addr) : entryFrame m #[(.ref x0), (.ref x1)] 2 = mkF m 0 #[.val (.ref x0), .val (.ref x1)] [] := by first | (simp [entryFrame, mkF, argsToLocals, Value.category]; done) | rfl
theorem m35 : (Jvm.Cond.code (⟨z0, "<init>", "([C)V"⟩ : MethodName) jdk_42_method_3_code (2 : Nat) (Option.none : Option Jvm.ClassFile.FieldType)) ∈ tables_1 := List.mem_of_getElem? (i := 35) rfl
theorem pd108 : parseMethodDescriptor "([C)V" = some ⟨[(.array .char)], none⟩ := by decide +kernel
theorem m34 : (Jvm.Cond.instanceMethod (⟨z0, "<init>", "([C)V"⟩ : MethodName)) ∈ tables_1 := List.mem_of_getElem? (i := 34) rfl
theorem d1_14 : decode method_3_code 14 = .ok (.areturn, 1) := by decide +kernel
theorem ef111 (m : MethodId) (x0 : Int32) (x1 : Int32) (x2 : Int32) : entryFrame m #[(.int x0), (.int x1), (.int x2)] 4 = mkF m 0 #[.val (.int x0), .val (.int x1), .val (.int x2), .unset] [] := by first | (simp [entryFrame, mkF, argsToLocals, Value.category]; done) | rfl
theorem m4 : (Jvm.Cond.code (⟨z4, "make", z10⟩ : MethodName) method_3_code (4 : Nat) (Option.some (FieldType.object z0))) ∈ tables_1 := List.mem_of_getElem? (i := 4) rfl
theorem m3 : (Jvm.Cond.initialized z4) ∈ tables_1 := List.mem_of_getElem? (i := 3) rfl
theorem pd114 : parseMethodDescriptor z10 = some ⟨[.int, .char, .char], some (.object z0)⟩ := by decide +kernel
theorem m2 : (Jvm.Cond.static (⟨z4, "make", z10⟩ : MethodName)) ∈ tables_1 := List.mem_of_getElem? (i := 2) rfl
theorem m42 : (Jvm.Cond.classLink z4 (56 : Nat) z1) ∈ tables_1 := List.mem_of_getElem? (i := 42) rfl
theorem m43 : (Jvm.Cond.instantiable z1 (4 : Nat)) ∈ tables_1 := List.mem_of_getElem? (i := 43) rfl
theorem m44 : (Jvm.Cond.initialized z1) ∈ tables_1 := List.mem_of_getElem? (i := 44) rfl
theorem m61 : (Jvm.Cond.laysFinal z1 z1 "type" z3) ∈ tables_1 := List.mem_of_getElem? (i := 61) rfl
theorem m63 : (Jvm.Cond.laysFinal z1 z1 "text" z8) ∈ tables_1 := List.mem_of_getElem? (i := 63) rfl
theorem m65 : (Jvm.Cond.laysFinal z1 z1 "line" "I") ∈ tables_1 := List.mem_of_getElem? (i := 65) rfl
theorem m67 : (Jvm.Cond.laysFinal z1 z1 "column" "I") ∈ tables_1 := List.mem_of_getElem? (i := 67) rfl
theorem m45 : (Jvm.Cond.methodLink z4 (58 : Nat) (⟨z4, "typeOf", "(I)Lcom/example/key3/key3/cql/Token$Type;"⟩ : MethodName)) ∈ tables_1 := List.mem_of_getElem? (i := 45) rfl
theorem d9_79 : decode method_2_code 79 = .ok (.getstatic 34, 3) := by decide +kernel
theorem m79 : (Jvm.Cond.fieldLink z4 (34 : Nat) z2 "SYMBOL" z3) ∈ tables_1 := List.mem_of_getElem? (i := 79) rfl
theorem d9_82 : decode method_2_code 82 = .ok (.areturn, 1) := by decide +kernel
theorem m47 : (Jvm.Cond.code (⟨z4, "typeOf", "(I)Lcom/example/key3/key3/cql/Token$Type;"⟩ : MethodName) method_2_code (1 : Nat) (Option.some (FieldType.object z2))) ∈ tables_1 := List.mem_of_getElem? (i := 47) rfl
theorem pd128 : parseMethodDescriptor "(I)Lcom/example/key3/key3/cql/Token$Type;" = some ⟨[.int], some (.object z2)⟩ := by decide +kernel
theorem m46 : (Jvm.Cond.static (⟨z4, "typeOf", "(I)Lcom/example/key3/key3/cql/Token$Type;"⟩ : MethodName)) ∈ tables_1 := List.mem_of_getElem? (i := 46) rfl
theorem m51 : (Jvm.Cond.methodLink z4 (62 : Nat) (⟨z1, "<init>", "(Lcom/example/key3/key3/cql/Token$Type;Ljava/lang/String;II)V"⟩ : MethodName)) ∈ tables_1 := List.mem_of_getElem? (i := 51) rfl
theorem d10_0 : decode prog_65_method_1_code 0 = .ok (.aload_n 0, 1) := by decide +kernel
theorem d10_1 : decode prog_65_method_1_code 1 = .ok (.invokespecial 1, 3) := by decide +kernel
theorem m54 : (Jvm.Cond.methodLink z1 (1 : Nat) (⟨z11, "<init>", "()V"⟩ : MethodName)) ∈ tables_1 := List.mem_of_getElem? (i := 54) rfl
theorem d11_0 : decode jdk_30_method_1_code 0 = .ok (.aload_n 0, 1) := by decide +kernel
theorem d11_1 : decode jdk_30_method_1_code 1 = .ok (.invokespecial 1, 3) := by decide +kernel
theorem m59 : (Jvm.Cond.methodLink z11 (1 : Nat) (⟨"java/lang/Object", "<init>", "()V"⟩ : MethodName)) ∈ tables_1 := List.mem_of_getElem? (i := 59) rfl
theorem d11_4 : decode jdk_30_method_1_code 4 = .ok (.return_, 1) := by decide +kernel
theorem ef138 (m : MethodId) (x0 : Addr) : entryFrame m #[(.ref x0)] 1 = mkF m 0 #[.val (.ref x0)] [] := by first | (simp [entryFrame, mkF, argsToLocals, Value.category]; done) | rfl
theorem pn139 : plainName z11 = true := by first | (simp [plainName, overriddenIn]; done) | decide +kernel
theorem m58 : (Jvm.Cond.code (⟨z11, "<init>", "()V"⟩ : MethodName) jdk_30_method_1_code (1 : Nat) (Option.none : Option Jvm.ClassFile.FieldType)) ∈ tables_1 := List.mem_of_getElem? (i := 58) rfl
theorem m57 : (Jvm.Cond.initialized z11) ∈ tables_1 := List.mem_of_getElem? (i := 57) rfl
theorem pd142 : parseMethodDescriptor "()V" = some ⟨[], none⟩ := by decide +kernel
theorem m55 : (Jvm.Cond.instanceMethod (⟨z11, "<init>", "()V"⟩ : MethodName)) ∈ tables_1 := List.mem_of_getElem? (i := 55) rfl
theorem d10_4 : decode prog_65_method_1_code 4 = .ok (.aload_n 0, 1) := by decide +kernel
theorem d10_5 : decode prog_65_method_1_code 5 = .ok (.aload_n 1, 1) := by decide +kernel
theorem d10_6 : decode prog_65_method_1_code 6 = .ok (.putfield 7, 3) := by decide +kernel
theorem m60 : (Jvm.Cond.fieldLink z1 (7 : Nat) z1 "type" z3) ∈ tables_1 := List.mem_of_getElem? (i := 60) rfl
theorem d10_9 : decode prog_65_method_1_code 9 = .ok (.aload_n 0, 1) := by decide +kernel
theorem d10_10 : decode prog_65_method_1_code 10 = .ok (.aload_n 2, 1) := by decide +kernel
theorem d10_11 : decode prog_65_method_1_code 11 = .ok (.putfield 13, 3) := by decide +kernel
theorem m62 : (Jvm.Cond.fieldLink z1 (13 : Nat) z1 "text" z8) ∈ tables_1 := List.mem_of_getElem? (i := 62) rfl
theorem d10_14 : decode prog_65_method_1_code 14 = .ok (.aload_n 0, 1) := by decide +kernel
theorem d10_15 : decode prog_65_method_1_code 15 = .ok (.iload_n 3, 1) := by decide +kernel
theorem d10_16 : decode prog_65_method_1_code 16 = .ok (.putfield 17, 3) := by decide +kernel
theorem m64 : (Jvm.Cond.fieldLink z1 (17 : Nat) z1 "line" "I") ∈ tables_1 := List.mem_of_getElem? (i := 64) rfl
theorem d10_19 : decode prog_65_method_1_code 19 = .ok (.aload_n 0, 1) := by decide +kernel
theorem d10_20 : decode prog_65_method_1_code 20 = .ok (.iload 4, 2) := by decide +kernel
theorem d10_22 : decode prog_65_method_1_code 22 = .ok (.putfield 21, 3) := by decide +kernel
theorem m66 : (Jvm.Cond.fieldLink z1 (21 : Nat) z1 "column" "I") ∈ tables_1 := List.mem_of_getElem? (i := 66) rfl
theorem d10_25 : decode prog_65_method_1_code 25 = .ok (.return_, 1) := by decide +kernel
theorem ef161 (m : MethodId) (x0 : Addr) (x1 : Addr) (x2 : Addr) (x3 : Int32) (x4 : Int32) : entryFrame m #[(.ref x0), (.ref x1), (.ref x2), (.int x3), (.int x4)] 5 = mkF m 0 #[.val (.ref x0), .val (.ref x1), .val (.ref x2), .val (.int x3), .val (.int x4)] [] := by first | (simp [entryFrame, mkF, argsToLocals, Value.category]; done) | rfl
theorem pn162 : plainName z1 = true := by first | (simp [plainName, overriddenIn]; done) | decide +kernel
theorem m53 : (Jvm.Cond.code (⟨z1, "<init>", "(Lcom/example/key3/key3/cql/Token$Type;Ljava/lang/String;II)V"⟩ : MethodName) prog_65_method_1_code (5 : Nat) (Option.none : Option Jvm.ClassFile.FieldType)) ∈ tables_1 := List.mem_of_getElem? (i := 53) rfl
theorem pd164 : parseMethodDescriptor "(Lcom/example/key3/key3/cql/Token$Type;Ljava/lang/String;II)V" = some ⟨[(.object z2), (.object z0), .int, .int], none⟩ := by decide +kernel
theorem m52 : (Jvm.Cond.instanceMethod (⟨z1, "<init>", "(Lcom/example/key3/key3/cql/Token$Type;Ljava/lang/String;II)V"⟩ : MethodName)) ∈ tables_1 := List.mem_of_getElem? (i := 52) rfl
theorem m68 : (Jvm.Cond.methodLink z4 (65 : Nat) (⟨z1, "isSymbol", z6⟩ : MethodName)) ∈ tables_1 := List.mem_of_getElem? (i := 68) rfl
theorem m71 : (Jvm.Cond.selects z1 (⟨z1, "isSymbol", z6⟩ : MethodName) (⟨z1, "isSymbol", z6⟩ : MethodName)) ∈ tables_1 := List.mem_of_getElem? (i := 71) rfl
theorem d12_0 : decode prog_65_method_3_code 0 = .ok (.aload_n 0, 1) := by decide +kernel
theorem d12_1 : decode prog_65_method_3_code 1 = .ok (.getfield 7, 3) := by decide +kernel
theorem d12_4 : decode prog_65_method_3_code 4 = .ok (.getstatic 35, 3) := by decide +kernel
theorem m73 : (Jvm.Cond.fieldLink z1 (35 : Nat) z2 "SYMBOL" z3) ∈ tables_1 := List.mem_of_getElem? (i := 73) rfl
theorem d12_7 : decode prog_65_method_3_code 7 = .ok (.if_acmp .ne 18, 3) := by decide +kernel
theorem d12_10 : decode prog_65_method_3_code 10 = .ok (.aload_n 0, 1) := by decide +kernel
theorem d12_11 : decode prog_65_method_3_code 11 = .ok (.getfield 13, 3) := by decide +kernel
theorem d12_14 : decode prog_65_method_3_code 14 = .ok (.aload_n 1, 1) := by decide +kernel
theorem d12_15 : decode prog_65_method_3_code 15 = .ok (.invokevirtual 38, 3) := by decide +kernel
theorem m80 : (Jvm.Cond.methodLink z1 (38 : Nat) (⟨z0, "equals", z7⟩ : MethodName)) ∈ tables_1 := List.mem_of_getElem? (i := 80) rfl
theorem m83 : (Jvm.Cond.selects z0 (⟨z0, "equals", z7⟩ : MethodName) (⟨z0, "equals", z7⟩ : MethodName)) ∈ tables_1 := List.mem_of_getElem? (i := 83) rfl
theorem d13_0 : decode jdk_42_method_66_code 0 = .ok (.aload_n 0, 1) := by decide +kernel
theorem d13_1 : decode jdk_42_method_66_code 1 = .ok (.aload_n 1, 1) := by decide +kernel
theorem d13_2 : decode jdk_42_method_66_code 2 = .ok (.if_acmp .ne 5, 3) := by decide +kernel
theorem d13_7 : decode jdk_42_method_66_code 7 = .ok (.aload_n 1, 1) := by decide +kernel
theorem d13_8 : decode jdk_42_method_66_code 8 = .ok (.instanceof 10, 3) := by decide +kernel
theorem m14 : (Jvm.Cond.classLink z0 (10 : Nat) z0) ∈ tables_1 := List.mem_of_getElem? (i := 14) rfl
theorem d13_11 : decode jdk_42_method_66_code 11 = .ok (.ifCond .eq 43, 3) := by decide +kernel
theorem d13_14 : decode jdk_42_method_66_code 14 = .ok (.aload_n 1, 1) := by decide +kernel
theorem d13_15 : decode jdk_42_method_66_code 15 = .ok (.checkcast 10, 3) := by decide +kernel
theorem d13_18 : decode jdk_42_method_66_code 18 = .ok (.astore_n 2, 1) := by decide +kernel
theorem d13_19 : decode jdk_42_method_66_code 19 = .ok (.getstatic 38, 3) := by decide +kernel
theorem m9 : (Jvm.Cond.fieldLink z0 (38 : Nat) z0 "COMPACT_STRINGS" "Z") ∈ tables_1 := List.mem_of_getElem? (i := 9) rfl
theorem d13_22 : decode jdk_42_method_66_code 22 = .ok (.ifCond .eq 14, 3) := by decide +kernel
theorem d13_25 : decode jdk_42_method_66_code 25 = .ok (.aload_n 0, 1) := by decide +kernel
theorem d13_26 : decode jdk_42_method_66_code 26 = .ok (.getfield 15, 3) := by decide +kernel
theorem d13_29 : decode jdk_42_method_66_code 29 = .ok (.aload_n 2, 1) := by decide +kernel
theorem d13_30 : decode jdk_42_method_66_code 30 = .ok (.getfield 15, 3) := by decide +kernel
theorem d13_33 : decode jdk_42_method_66_code 33 = .ok (.if_icmp .ne 21, 3) := by decide +kernel
theorem d13_36 : decode jdk_42_method_66_code 36 = .ok (.aload_n 0, 1) := by decide +kernel
theorem d13_37 : decode jdk_42_method_66_code 37 = .ok (.getfield 9, 3) := by decide +kernel
theorem d13_40 : decode jdk_42_method_66_code 40 = .ok (.aload_n 2, 1) := by decide +kernel
theorem d13_41 : decode jdk_42_method_66_code 41 = .ok (.getfield 9, 3) := by decide +kernel
theorem d13_44 : decode jdk_42_method_66_code 44 = .ok (.invokestatic 541, 3) := by decide +kernel
theorem m105 : (Jvm.Cond.methodLink z0 (541 : Nat) (⟨z5, "equals", "([B[B)Z"⟩ : MethodName)) ∈ tables_1 := List.mem_of_getElem? (i := 105) rfl
theorem d17_0 : decode jdk_43_method_13_code 0 = .ok (.aload_n 0, 1) := by decide +kernel
theorem d17_1 : decode jdk_43_method_13_code 1 = .ok (.arraylength, 1) := by decide +kernel
theorem d17_2 : decode jdk_43_method_13_code 2 = .ok (.aload_n 1, 1) := by decide +kernel
theorem d17_3 : decode jdk_43_method_13_code 3 = .ok (.arraylength, 1) := by decide +kernel
theorem d17_4 : decode jdk_43_method_13_code 4 = .ok (.if_icmp .ne 30, 3) := by decide +kernel
theorem d17_7 : decode jdk_43_method_13_code 7 = .ok (.iconst 0, 1) := by decide +kernel
theorem d17_8 : decode jdk_43_method_13_code 8 = .ok (.istore_n 2, 1) := by decide +kernel
theorem d17_9 : decode jdk_43_method_13_code 9 = .ok (.iload_n 2, 1) := by decide +kernel
theorem d17_10 : decode jdk_43_method_13_code 10 = .ok (.aload_n 0, 1) := by decide +kernel
theorem d17_11 : decode jdk_43_method_13_code 11 = .ok (.arraylength, 1) := by decide +kernel
theorem d17_12 : decode jdk_43_method_13_code 12 = .ok (.if_icmp .ge 20, 3) := by decide +kernel
theorem d17_32 : decode jdk_43_method_13_code 32 = .ok (.iconst 1, 1) := by decide +kernel
theorem d17_33 : decode jdk_43_method_13_code 33 = .ok (.ireturn, 1) := by decide +kernel
theorem ef216 (m : MethodId) (x0 : Addr) (x1 : Addr) : entryFrame m #[(.ref x0), (.ref x1)] 3 = mkF m 0 #[.val (.ref x0), .val (.ref x1), .unset] [] := by first | (simp [entryFrame, mkF, argsToLocals, Value.category]; done) | rfl
theorem pn217 : plainName z5 = true := by first | (simp [plainName, overriddenIn]; done) | decide +kernel
theorem m107 : (Jvm.Cond.code (⟨z5, "equals", "([B[B)Z"⟩ : MethodName) jdk_43_method_13_code (3 : Nat) (Option.some FieldType.boolean)) ∈ tables_1 := List.mem_of_getElem? (i := 107) rfl
theorem m12 : (Jvm.Cond.initialized z5) ∈ tables_1 := List.mem_of_getElem? (i := 12) rfl
theorem pd220 : parseMethodDescriptor "([B[B)Z" = some ⟨[(.array .byte), (.array .byte)], some .boolean⟩ := by decide +kernel
theorem m106 : (Jvm.Cond.static (⟨z5, "equals", "([B[B)Z"⟩ : MethodName)) ∈ tables_1 := List.mem_of_getElem? (i := 106) rfl
theorem d13_47 : decode jdk_42_method_66_code 47 = .ok (.ifCond .eq 7, 3) := by decide +kernel
theorem d13_50 : decode jdk_42_method_66_code 50 = .ok (.iconst 1, 1) := by decide +kernel
theorem d13_51 : decode jdk_42_method_66_code 51 = .ok (.goto 4, 3) := by decide +kernel
theorem d13_55 : decode jdk_42_method_66_code 55 = .ok (.ireturn, 1) := by decide +kernel
theorem m84 : (Jvm.Cond.code (⟨z0, "equals", z7⟩ : MethodName) jdk_42_method_66_code (3 : Nat) (Option.some FieldType.boolean)) ∈ tables_1 := List.mem_of_getElem? (i := 84) rfl
theorem pd227 : parseMethodDescriptor z7 = some ⟨[(.object "java/lang/Object")], some .boolean⟩ := by decide +kernel
theorem m81 : (Jvm.Cond.declares (⟨z0, "equals", z7⟩ : MethodName)) ∈ tables_1 := List.mem_of_getElem? (i := 81) rfl
theorem m82 : (Jvm.Cond.instanceMethod (⟨z0, "equals", z7⟩ : MethodName)) ∈ tables_1 := List.mem_of_getElem? (i := 82) rfl
theorem d12_18 : decode prog_65_method_3_code 18 = .ok (.ifCond .eq 7, 3) := by decide +kernel
theorem d12_21 : decode prog_65_method_3_code 21 = .ok (.iconst 1, 1) := by decide +kernel
theorem d12_22 : decode prog_65_method_3_code 22 = .ok (.goto 4, 3) := by decide +kernel
theorem d12_26 : decode prog_65_method_3_code 26 = .ok (.ireturn, 1) := by decide +kernel
theorem m72 : (Jvm.Cond.code (⟨z1, "isSymbol", z6⟩ : MethodName) prog_65_method_3_code (2 : Nat) (Option.some FieldType.boolean)) ∈ tables_1 := List.mem_of_getElem? (i := 72) rfl
theorem pd235 : parseMethodDescriptor z6 = some ⟨[(.object z0)], some .boolean⟩ := by decide +kernel
theorem m69 : (Jvm.Cond.declares (⟨z1, "isSymbol", z6⟩ : MethodName)) ∈ tables_1 := List.mem_of_getElem? (i := 69) rfl
theorem m70 : (Jvm.Cond.instanceMethod (⟨z1, "isSymbol", z6⟩ : MethodName)) ∈ tables_1 := List.mem_of_getElem? (i := 70) rfl
theorem ef238 (m : MethodId) (x0 : Int32) (x1 : Int32) (x2 : Int32) (x3 : Int32) (x4 : Int32) (x5 : Int32) : entryFrame m #[(.int x0), (.int x1), (.int x2), (.int x3), (.int x4), (.int x5)] maxLocals = mkF m 0 #[.val (.int x0), .val (.int x1), .val (.int x2), .val (.int x3), .val (.int x4), .val (.int x5), .unset, .unset, .unset, .unset, .unset, .unset, .unset, .unset, .unset, .unset, .unset, .unset, .unset] [] := by first | (simp [entryFrame, mkF, argsToLocals, Value.category, maxLocals]; done) | rfl
theorem d12_25 : decode prog_65_method_3_code 25 = .ok (.iconst 0, 1) := by decide +kernel
theorem d1_15 : decode method_3_code 15 = .ok (.iload_n 0, 1) := by decide +kernel
theorem d1_16 : decode method_3_code 16 = .ok (.iconst 1, 1) := by decide +kernel
theorem d1_17 : decode method_3_code 17 = .ok (.if_icmp .ne 8, 3) := by decide +kernel
theorem d1_20 : decode method_3_code 20 = .ok (.iload_n 1, 1) := by decide +kernel
theorem d1_21 : decode method_3_code 21 = .ok (.invokestatic 45, 3) := by decide +kernel
theorem m5 : (Jvm.Cond.methodLink z4 (45 : Nat) (⟨z0, "valueOf", "(C)Ljava/lang/String;"⟩ : MethodName)) ∈ tables_1 := List.mem_of_getElem? (i := 5) rfl
theorem d2_0 : decode jdk_42_method_139_code 0 = .ok (.getstatic 38, 3) := by decide +kernel
theorem d2_3 : decode jdk_42_method_139_code 3 = .ok (.ifCond .eq 23, 3) := by decide +kernel
theorem d2_6 : decode jdk_42_method_139_code 6 = .ok (.iload_n 0, 1) := by decide +kernel
theorem d2_7 : decode jdk_42_method_139_code 7 = .ok (.invokestatic 1015, 3) := by decide +kernel
theorem m10 : (Jvm.Cond.methodLink z0 (1015 : Nat) (⟨z5, "canEncode", "(C)Z"⟩ : MethodName)) ∈ tables_1 := List.mem_of_getElem? (i := 10) rfl
theorem d3_0 : decode jdk_43_method_3_code 0 = .ok (.iload_n 0, 1) := by decide +kernel
theorem d3_1 : decode jdk_43_method_3_code 1 = .ok (.sipush 255, 3) := by decide +kernel
theorem d3_4 : decode jdk_43_method_3_code 4 = .ok (.if_icmp .gt 7, 3) := by decide +kernel
theorem d3_7 : decode jdk_43_method_3_code 7 = .ok (.iconst 1, 1) := by decide +kernel
theorem d3_8 : decode jdk_43_method_3_code 8 = .ok (.goto 4, 3) := by decide +kernel
theorem d3_12 : decode jdk_43_method_3_code 12 = .ok (.ireturn, 1) := by decide +kernel
theorem m13 : (Jvm.Cond.code (⟨z5, "canEncode", "(C)Z"⟩ : MethodName) jdk_43_method_3_code (1 : Nat) (Option.some FieldType.boolean)) ∈ tables_1 := List.mem_of_getElem? (i := 13) rfl
theorem pd258 : parseMethodDescriptor "(C)Z" = some ⟨[.char], some .boolean⟩ := by decide +kernel
theorem m11 : (Jvm.Cond.static (⟨z5, "canEncode", "(C)Z"⟩ : MethodName)) ∈ tables_1 := List.mem_of_getElem? (i := 11) rfl
theorem d2_10 : decode jdk_42_method_139_code 10 = .ok (.ifCond .eq 16, 3) := by decide +kernel
theorem d2_13 : decode jdk_42_method_139_code 13 = .ok (.new 10, 3) := by decide +kernel
theorem d2_16 : decode jdk_42_method_139_code 16 = .ok (.dup, 1) := by decide +kernel
theorem d2_17 : decode jdk_42_method_139_code 17 = .ok (.iload_n 0, 1) := by decide +kernel
theorem d2_18 : decode jdk_42_method_139_code 18 = .ok (.invokestatic 1018, 3) := by decide +kernel
theorem m16 : (Jvm.Cond.methodLink z0 (1018 : Nat) (⟨z5, "toBytes", "(C)[B"⟩ : MethodName)) ∈ tables_1 := List.mem_of_getElem? (i := 16) rfl
theorem d4_0 : decode jdk_43_method_46_code 0 = .ok (.iconst 1, 1) := by decide +kernel
theorem d4_1 : decode jdk_43_method_46_code 1 = .ok (.newarray .byte, 2) := by decide +kernel
theorem m19 : (Jvm.Cond.arrayClass FieldType.byte) ∈ tables_1 := List.mem_of_getElem? (i := 19) rfl
theorem d4_3 : decode jdk_43_method_46_code 3 = .ok (.dup, 1) := by decide +kernel
theorem d4_4 : decode jdk_43_method_46_code 4 = .ok (.iconst 0, 1) := by decide +kernel
theorem d4_5 : decode jdk_43_method_46_code 5 = .ok (.iload_n 0, 1) := by decide +kernel
theorem d4_6 : decode jdk_43_method_46_code 6 = .ok (.i2b, 1) := by decide +kernel
theorem d4_7 : decode jdk_43_method_46_code 7 = .ok (.bastore, 1) := by decide +kernel
theorem d4_8 : decode jdk_43_method_46_code 8 = .ok (.areturn, 1) := by decide +kernel
theorem m18 : (Jvm.Cond.code (⟨z5, "toBytes", "(C)[B"⟩ : MethodName) jdk_43_method_46_code (1 : Nat) (Option.some (FieldType.array FieldType.byte))) ∈ tables_1 := List.mem_of_getElem? (i := 18) rfl
theorem pd276 : parseMethodDescriptor "(C)[B" = some ⟨[.char], some (.array .byte)⟩ := by decide +kernel
theorem m17 : (Jvm.Cond.static (⟨z5, "toBytes", "(C)[B"⟩ : MethodName)) ∈ tables_1 := List.mem_of_getElem? (i := 17) rfl
theorem d2_21 : decode jdk_42_method_139_code 21 = .ok (.iconst 0, 1) := by decide +kernel
theorem d2_22 : decode jdk_42_method_139_code 22 = .ok (.invokespecial 209, 3) := by decide +kernel
theorem m20 : (Jvm.Cond.methodLink z0 (209 : Nat) (⟨z0, "<init>", "([BB)V"⟩ : MethodName)) ∈ tables_1 := List.mem_of_getElem? (i := 20) rfl
theorem d5_0 : decode jdk_42_method_151_code 0 = .ok (.aload_n 0, 1) := by decide +kernel
theorem d5_1 : decode jdk_42_method_151_code 1 = .ok (.invokespecial 1, 3) := by decide +kernel
theorem d5_4 : decode jdk_42_method_151_code 4 = .ok (.aload_n 0, 1) := by decide +kernel
theorem d5_5 : decode jdk_42_method_151_code 5 = .ok (.aload_n 1, 1) := by decide +kernel
theorem d5_6 : decode jdk_42_method_151_code 6 = .ok (.putfield 9, 3) := by decide +kernel
theorem d5_9 : decode jdk_42_method_151_code 9 = .ok (.aload_n 0, 1) := by decide +kernel
theorem d5_10 : decode jdk_42_method_151_code 10 = .ok (.iload_n 2, 1) := by decide +kernel
theorem d5_11 : decode jdk_42_method_151_code 11 = .ok (.putfield 15, 3) := by decide +kernel
theorem d5_14 : decode jdk_42_method_151_code 14 = .ok (.return_, 1) := by decide +kernel
theorem ef290 (m : MethodId) (x0 : Addr) (x1 : Addr) (x2 : Int32) : entryFrame m #[(.ref x0), (.ref x1), (.int x2)] 3 = mkF m 0 #[.val (.ref x0), .val (.ref x1), .val (.int x2)] [] := by first | (simp [entryFrame, mkF, argsToLocals, Value.category]; done) | rfl
theorem m23 : (Jvm.Cond.code (⟨z0, "<init>", "([BB)V"⟩ : MethodName) jdk_42_method_151_code (3 : Nat) (Option.none : Option Jvm.ClassFile.FieldType)) ∈ tables_1 := List.mem_of_getElem? (i := 23) rfl
theorem pd292 : parseMethodDescriptor "([BB)V" = some ⟨[(.array .byte), .byte], none⟩ := by decide +kernel
theorem m21 : (Jvm.Cond.instanceMethod (⟨z0, "<init>", "([BB)V"⟩ : MethodName)) ∈ tables_1 := List.mem_of_getElem? (i := 21) rfl
theorem d2_25 : decode jdk_42_method_139_code 25 = .ok (.areturn, 1) := by decide +kernel
theorem m8 : (Jvm.Cond.code (⟨z0, "valueOf", "(C)Ljava/lang/String;"⟩ : MethodName) jdk_42_method_139_code (1 : Nat) (Option.some (FieldType.object z0))) ∈ tables_1 := List.mem_of_getElem? (i := 8) rfl
theorem pd296 : parseMethodDescriptor "(C)Ljava/lang/String;" = some ⟨[.char], some (.object z0)⟩ := by decide +kernel
theorem m6 : (Jvm.Cond.static (⟨z0, "valueOf", "(C)Ljava/lang/String;"⟩ : MethodName)) ∈ tables_1 := List.mem_of_getElem? (i := 6) rfl
theorem d1_24 : decode method_3_code 24 = .ok (.areturn, 1) := by decide +kernel
theorem d17_34 : decode jdk_43_method_13_code 34 = .ok (.iconst 0, 1) := by decide +kernel
theorem d17_35 : decode jdk_43_method_13_code 35 = .ok (.ireturn, 1) := by decide +kernel
theorem d13_54 : decode jdk_42_method_66_code 54 = .ok (.iconst 0, 1) := by decide +kernel
theorem d1_25 : decode method_3_code 25 = .ok (.iconst 2, 1) := by decide +kernel
theorem d1_26 : decode method_3_code 26 = .ok (.newarray .char, 2) := by decide +kernel
theorem d1_28 : decode method_3_code 28 = .ok (.astore_n 3, 1) := by decide +kernel
theorem d1_29 : decode method_3_code 29 = .ok (.aload_n 3, 1) := by decide +kernel
theorem d1_30 : decode method_3_code 30 = .ok (.iconst 0, 1) := by decide +kernel
theorem d1_31 : decode method_3_code 31 = .ok (.iload_n 1, 1) := by decide +kernel
theorem d1_32 : decode method_3_code 32 = .ok (.castore, 1) := by decide +kernel
theorem d1_33 : decode method_3_code 33 = .ok (.aload_n 3, 1) := by decide +kernel
theorem d1_34 : decode method_3_code 34 = .ok (.iconst 1, 1) := by decide +kernel
theorem d1_35 : decode method_3_code 35 = .ok (.iload_n 2, 1) := by decide +kernel
theorem d1_36 : decode method_3_code 36 = .ok (.castore, 1) := by decide +kernel
theorem d1_37 : decode method_3_code 37 = .ok (.new 40, 3) := by decide +kernel
theorem d1_40 : decode method_3_code 40 = .ok (.dup, 1) := by decide +kernel
theorem d1_41 : decode method_3_code 41 = .ok (.aload_n 3, 1) := by decide +kernel
theorem d1_42 : decode method_3_code 42 = .ok (.invokespecial 42, 3) := by decide +kernel
theorem d8_27 : decode jdk_42_method_149_code 27 = .ok (.getstatic 38, 3) := by decide +kernel
theorem d8_30 : decode jdk_42_method_149_code 30 = .ok (.ifCond .eq 28, 3) := by decide +kernel
theorem d8_33 : decode jdk_42_method_149_code 33 = .ok (.aload_n 1, 1) := by decide +kernel
theorem d8_34 : decode jdk_42_method_149_code 34 = .ok (.iload_n 2, 1) := by decide +kernel
theorem d8_35 : decode jdk_42_method_149_code 35 = .ok (.iload_n 3, 1) := by decide +kernel
theorem d8_36 : decode jdk_42_method_149_code 36 = .ok (.invokestatic 177, 3) := by decide +kernel
theorem m85 : (Jvm.Cond.methodLink z0 (177 : Nat) (⟨z9, "compress", "([CII)[B"⟩ : MethodName)) ∈ tables_1 := List.mem_of_getElem? (i := 85) rfl
theorem d14_0 : decode jdk_52_method_16_code 0 = .ok (.iload_n 2, 1) := by decide +kernel
theorem d14_1 : decode jdk_52_method_16_code 1 = .ok (.newarray .byte, 2) := by decide +kernel
theorem d14_3 : decode jdk_52_method_16_code 3 = .ok (.astore_n 3, 1) := by decide +kernel
theorem d14_4 : decode jdk_52_method_16_code 4 = .ok (.aload_n 0, 1) := by decide +kernel
theorem d14_5 : decode jdk_52_method_16_code 5 = .ok (.iload_n 1, 1) := by decide +kernel
theorem d14_6 : decode jdk_52_method_16_code 6 = .ok (.aload_n 3, 1) := by decide +kernel
theorem d14_7 : decode jdk_52_method_16_code 7 = .ok (.iconst 0, 1) := by decide +kernel
theorem d14_8 : decode jdk_52_method_16_code 8 = .ok (.iload_n 2, 1) := by decide +kernel
theorem d14_9 : decode jdk_52_method_16_code 9 = .ok (.invokestatic 115, 3) := by decide +kernel
theorem m89 : (Jvm.Cond.methodLink z9 (115 : Nat) (⟨z9, "compress", "([CI[BII)I"⟩ : MethodName)) ∈ tables_1 := List.mem_of_getElem? (i := 89) rfl
theorem d15_0 : decode jdk_52_method_21_code 0 = .ok (.iconst 0, 1) := by decide +kernel
theorem d15_1 : decode jdk_52_method_21_code 1 = .ok (.istore 5, 2) := by decide +kernel
theorem d15_3 : decode jdk_52_method_21_code 3 = .ok (.iload 5, 2) := by decide +kernel
theorem d15_5 : decode jdk_52_method_21_code 5 = .ok (.iload 4, 2) := by decide +kernel
theorem d15_7 : decode jdk_52_method_21_code 7 = .ok (.if_icmp .ge 37, 3) := by decide +kernel
theorem d15_10 : decode jdk_52_method_21_code 10 = .ok (.aload_n 0, 1) := by decide +kernel
theorem d15_11 : decode jdk_52_method_21_code 11 = .ok (.iload_n 1, 1) := by decide +kernel
theorem d15_12 : decode jdk_52_method_21_code 12 = .ok (.caload, 1) := by decide +kernel
theorem d15_13 : decode jdk_52_method_21_code 13 = .ok (.istore 6, 2) := by decide +kernel
theorem d15_15 : decode jdk_52_method_21_code 15 = .ok (.iload 6, 2) := by decide +kernel
theorem d15_17 : decode jdk_52_method_21_code 17 = .ok (.sipush 255, 3) := by decide +kernel
theorem d15_20 : decode jdk_52_method_21_code 20 = .ok (.if_icmp .le 6, 3) := by decide +kernel
theorem d15_26 : decode jdk_52_method_21_code 26 = .ok (.aload_n 2, 1) := by decide +kernel
theorem d15_27 : decode jdk_52_method_21_code 27 = .ok (.iload_n 3, 1) := by decide +kernel
theorem d15_28 : decode jdk_52_method_21_code 28 = .ok (.iload 6, 2) := by decide +kernel
theorem d15_30 : decode jdk_52_method_21_code 30 = .ok (.i2b, 1) := by decide +kernel
theorem d15_31 : decode jdk_52_method_21_code 31 = .ok (.bastore, 1) := by decide +kernel
theorem d15_32 : decode jdk_52_method_21_code 32 = .ok (.iinc 1 1, 3) := by decide +kernel
theorem d15_35 : decode jdk_52_method_21_code 35 = .ok (.iinc 3 1, 3) := by decide +kernel
theorem d15_38 : decode jdk_52_method_21_code 38 = .ok (.iinc 5 1, 3) := by decide +kernel
theorem d15_41 : decode jdk_52_method_21_code 41 = .ok (.goto (-38), 3) := by decide +kernel
theorem d15_44 : decode jdk_52_method_21_code 44 = .ok (.iload 4, 2) := by decide +kernel
theorem d15_46 : decode jdk_52_method_21_code 46 = .ok (.ireturn, 1) := by decide +kernel
theorem ef357 (m : MethodId) (x0 : Addr) (x1 : Int32) (x2 : Addr) (x3 : Int32) (x4 : Int32) : entryFrame m #[(.ref x0), (.int x1), (.ref x2), (.int x3), (.int x4)] 7 = mkF m 0 #[.val (.ref x0), .val (.int x1), .val (.ref x2), .val (.int x3), .val (.int x4), .unset, .unset] [] := by first | (simp [entryFrame, mkF, argsToLocals, Value.category]; done) | rfl
theorem pn358 : plainName z9 = true := by first | (simp [plainName, overriddenIn]; done) | decide +kernel
theorem m91 : (Jvm.Cond.code (⟨z9, "compress", "([CI[BII)I"⟩ : MethodName) jdk_52_method_21_code (7 : Nat) (Option.some FieldType.int)) ∈ tables_1 := List.mem_of_getElem? (i := 91) rfl
theorem m87 : (Jvm.Cond.initialized z9) ∈ tables_1 := List.mem_of_getElem? (i := 87) rfl
theorem pd361 : parseMethodDescriptor "([CI[BII)I" = some ⟨[(.array .char), .int, (.array .byte), .int, .int], some .int⟩ := by decide +kernel
theorem m90 : (Jvm.Cond.static (⟨z9, "compress", "([CI[BII)I"⟩ : MethodName)) ∈ tables_1 := List.mem_of_getElem? (i := 90) rfl
theorem d14_12 : decode jdk_52_method_16_code 12 = .ok (.istore 4, 2) := by decide +kernel
theorem d14_14 : decode jdk_52_method_16_code 14 = .ok (.iload 4, 2) := by decide +kernel
theorem d14_16 : decode jdk_52_method_16_code 16 = .ok (.iload_n 2, 1) := by decide +kernel
theorem d14_17 : decode jdk_52_method_16_code 17 = .ok (.if_icmp .eq 40, 3) := by decide +kernel
theorem d14_57 : decode jdk_52_method_16_code 57 = .ok (.aload_n 3, 1) := by decide +kernel
theorem d14_58 : decode jdk_52_method_16_code 58 = .ok (.areturn, 1) := by decide +kernel
theorem ef369 (m : MethodId) (x0 : Addr) (x1 : Int32) (x2 : Int32) : entryFrame m #[(.ref x0), (.int x1), (.int x2)] 6 = mkF m 0 #[.val (.ref x0), .val (.int x1), .val (.int x2), .unset, .unset, .unset] [] := by first | (simp [entryFrame, mkF, argsToLocals, Value.category]; done) | rfl
theorem m88 : (Jvm.Cond.code (⟨z9, "compress", "([CII)[B"⟩ : MethodName) jdk_52_method_16_code (6 : Nat) (Option.some (FieldType.array FieldType.byte))) ∈ tables_1 := List.mem_of_getElem? (i := 88) rfl
theorem pd371 : parseMethodDescriptor "([CII)[B" = some ⟨[(.array .char), .int, .int], some (.array .byte)⟩ := by decide +kernel
theorem m86 : (Jvm.Cond.static (⟨z9, "compress", "([CII)[B"⟩ : MethodName)) ∈ tables_1 := List.mem_of_getElem? (i := 86) rfl
theorem d8_39 : decode jdk_42_method_149_code 39 = .ok (.astore 5, 2) := by decide +kernel
theorem d8_41 : decode jdk_42_method_149_code 41 = .ok (.aload_n 0, 1) := by decide +kernel
theorem d8_42 : decode jdk_42_method_149_code 42 = .ok (.aload 5, 2) := by decide +kernel
theorem d8_44 : decode jdk_42_method_149_code 44 = .ok (.iload_n 3, 1) := by decide +kernel
theorem d8_45 : decode jdk_42_method_149_code 45 = .ok (.invokestatic 47, 3) := by decide +kernel
theorem m92 : (Jvm.Cond.methodLink z0 (47 : Nat) (⟨z9, "coderFromArrayLen", "([BI)B"⟩ : MethodName)) ∈ tables_1 := List.mem_of_getElem? (i := 92) rfl
theorem d16_0 : decode jdk_52_method_15_code 0 = .ok (.iload_n 1, 1) := by decide +kernel
theorem d16_1 : decode jdk_52_method_15_code 1 = .ok (.aload_n 0, 1) := by decide +kernel
theorem d16_2 : decode jdk_52_method_15_code 2 = .ok (.arraylength, 1) := by decide +kernel
theorem d16_3 : decode jdk_52_method_15_code 3 = .ok (.isub, 1) := by decide +kernel
theorem d16_4 : decode jdk_52_method_15_code 4 = .ok (.bipush 31, 2) := by decide +kernel
theorem d16_6 : decode jdk_52_method_15_code 6 = .ok (.iushr, 1) := by decide +kernel
theorem d16_7 : decode jdk_52_method_15_code 7 = .ok (.i2b, 1) := by decide +kernel
theorem d16_8 : decode jdk_52_method_15_code 8 = .ok (.ireturn, 1) := by decide +kernel
theorem ef387 (m : MethodId) (x0 : Addr) (x1 : Int32) : entryFrame m #[(.ref x0), (.int x1)] 2 = mkF m 0 #[.val (.ref x0), .val (.int x1)] [] := by first | (simp [entryFrame, mkF, argsToLocals, Value.category]; done) | rfl
theorem m94 : (Jvm.Cond.code (⟨z9, "coderFromArrayLen", "([BI)B"⟩ : MethodName) jdk_52_method_15_code (2 : Nat) (Option.some FieldType.byte)) ∈ tables_1 := List.mem_of_getElem? (i := 94) rfl
theorem pd389 : parseMethodDescriptor "([BI)B" = some ⟨[(.array .byte), .int], some .byte⟩ := by decide +kernel
theorem m93 : (Jvm.Cond.static (⟨z9, "coderFromArrayLen", "([BI)B"⟩ : MethodName)) ∈ tables_1 := List.mem_of_getElem? (i := 93) rfl
theorem d8_48 : decode jdk_42_method_149_code 48 = .ok (.putfield 15, 3) := by decide +kernel
theorem d8_51 : decode jdk_42_method_149_code 51 = .ok (.aload_n 0, 1) := by decide +kernel
theorem d8_52 : decode jdk_42_method_149_code 52 = .ok (.aload 5, 2) := by decide +kernel
theorem d8_54 : decode jdk_42_method_149_code 54 = .ok (.putfield 9, 3) := by decide +kernel
theorem d8_57 : decode jdk_42_method_149_code 57 = .ok (.return_, 1) := by decide +kernel
theorem d1_45 : decode method_3_code 45 = .ok (.areturn, 1) := by decide +kernel
theorem d17_15 : decode jdk_43_method_13_code 15 = .ok (.aload_n 0, 1) := by decide +kernel
theorem d17_16 : decode jdk_43_method_13_code 16 = .ok (.iload_n 2, 1) := by decide +kernel
theorem d17_17 : decode jdk_43_method_13_code 17 = .ok (.baload, 1) := by decide +kernel
theorem d17_18 : decode jdk_43_method_13_code 18 = .ok (.aload_n 1, 1) := by decide +kernel
theorem d17_19 : decode jdk_43_method_13_code 19 = .ok (.iload_n 2, 1) := by decide +kernel
theorem d17_20 : decode jdk_43_method_13_code 20 = .ok (.baload, 1) := by decide +kernel
theorem d17_21 : decode jdk_43_method_13_code 21 = .ok (.if_icmp .eq 5, 3) := by decide +kernel
theorem d17_26 : decode jdk_43_method_13_code 26 = .ok (.iinc 2 1, 3) := by decide +kernel
theorem d17_29 : decode jdk_43_method_13_code 29 = .ok (.goto (-20), 3) := by decide +kernel
theorem d17_24 : decode jdk_43_method_13_code 24 = .ok (.iconst 0, 1) := by decide +kernel
theorem d17_25 : decode jdk_43_method_13_code 25 = .ok (.ireturn, 1) := by decide +kernel
theorem ef408 (m : MethodId) (x0 : Addr) : entryFrame m #[(.ref x0), .null] 3 = mkF m 0 #[.val (.ref x0), .val .null, .unset] [] := by first | (simp [entryFrame, mkF, argsToLocals, Value.category]; done) | rfl
theorem ef409 (m : MethodId) (x0 : Addr) : entryFrame m #[(.ref x0), .null] 2 = mkF m 0 #[.val (.ref x0), .val .null] [] := by first | (simp [entryFrame, mkF, argsToLocals, Value.category]; done) | rfl
theorem m49 : (Jvm.Cond.initialized z2) ∈ tables_1 := List.mem_of_getElem? (i := 49) rfl
theorem m104 : (Jvm.Cond.laysStatic z2 "DURATION" z3) ∈ tables_1 := List.mem_of_getElem? (i := 104) rfl
theorem m109 : (Jvm.Cond.laysStatic z2 "END" z3) ∈ tables_1 := List.mem_of_getElem? (i := 109) rfl
theorem m76 : (Jvm.Cond.laysStatic z2 "FLOAT" z3) ∈ tables_1 := List.mem_of_getElem? (i := 76) rfl
theorem m102 : (Jvm.Cond.laysStatic z2 "HEX" z3) ∈ tables_1 := List.mem_of_getElem? (i := 102) rfl
theorem m50 : (Jvm.Cond.laysStatic z2 "IDENTIFIER" z3) ∈ tables_1 := List.mem_of_getElem? (i := 50) rfl
theorem m78 : (Jvm.Cond.laysStatic z2 "INTEGER" z3) ∈ tables_1 := List.mem_of_getElem? (i := 78) rfl
theorem m100 : (Jvm.Cond.laysStatic z2 "QUOTED_NAME" z3) ∈ tables_1 := List.mem_of_getElem? (i := 100) rfl
theorem m98 : (Jvm.Cond.laysStatic z2 "STRING" z3) ∈ tables_1 := List.mem_of_getElem? (i := 98) rfl
theorem m74 : (Jvm.Cond.laysStatic z2 "SYMBOL" z3) ∈ tables_1 := List.mem_of_getElem? (i := 74) rfl
theorem m96 : (Jvm.Cond.laysStatic z2 "UUID" z3) ∈ tables_1 := List.mem_of_getElem? (i := 96) rfl
theorem j0 : (Jvm.Cond.initializedFor z0 "COMPACT_STRINGS" "Z") ∈ jdkStatics_1 := List.mem_of_getElem? (i := 0) rfl
theorem j7 : (Jvm.Cond.initializedFor "jdk/internal/util/Preconditions" "SIOOBE_FORMATTER" "Ljava/util/function/BiFunction;") ∈ jdkStatics_1 := List.mem_of_getElem? (i := 7) rfl
theorem j2 : (Jvm.Cond.not (Jvm.Cond.eq (Jvm.Term.static z0 "COMPACT_STRINGS" "Z") (Jvm.Term.int (0 : Int32)))) ∈ jdkStatics_1 := List.mem_of_getElem? (i := 2) rfl
theorem m40 : (Jvm.Cond.soleField z0 "value") ∈ tables_1 := List.mem_of_getElem? (i := 40) rfl
theorem m41 : (Jvm.Cond.soleField z0 "coder") ∈ tables_1 := List.mem_of_getElem? (i := 41) rfl
def EL : List (String × Nat) := consts_1
theorem own_str {Z : State} {a0 : Array Value} (hw : ∀ d ∈ tables_1, d.before a0 Z = true) (hj : ∀ d ∈ jdkStatics_1, d.before a0 Z = true) : ∀ a ∈ Bundle.stringAtoms, a.before a0 Z = true := fun d hd => by
  simp only [Bundle.stringAtoms, List.mem_cons, List.not_mem_nil, or_false] at hd
  rcases hd with rfl | rfl | rfl | rfl | rfl | rfl | rfl
  · exact (hw _ m7)
  · exact (hw _ m15)
  · exact (hw _ m19)
  · exact (hw _ m28)
  · exact (hw _ m30)
  · exact (hw _ m40)
  · exact (hw _ m41)
theorem own_EW {Z : State} {a0 : Array Value} (hw : ∀ d ∈ tables_1, d.before a0 Z = true) (hj : ∀ d ∈ jdkStatics_1, d.before a0 Z = true) : EW Z a0 EL := (EW.cons (hw _ m39) (by decide) EW.nil)
def Qjm0 (Z : State) (w0 : Addr) (w1 : Addr) (w2 : Addr) (w3 : Addr) (w4 : Addr) (w5 : Addr) (w6 : Addr) (w7 : Addr) (w8 : Addr) (w9 : Addr) (w10 : Int32) (w11 : Value) (p0 : Int32) (h0 : Heap) (n0 : Nat) (v : Option Value) (h : Heap) (L : List Loc) : Prop := ∃ z : Addr, v = some (.ref z) ∧ Fr n0 L ∧ Exa Z Z.heap z z2 ∧ z ≠ w8 ∧ h = h0
set_option maxRecDepth 65536 in
set_option maxHeartbeats 40000000 in
theorem jm0 (l : Launch) (Z : State) (a0 : Array Value) (hw : ∀ d ∈ tables_1, d.before a0 Z = true) (hj : ∀ d ∈ jdkStatics_1, d.before a0 Z = true) (w0 : Addr) (w1 : Addr) (w2 : Addr) (w3 : Addr) (w4 : Addr) (w5 : Addr) (w6 : Addr) (w7 : Addr) (w8 : Addr) (w9 : Addr) (w10 : Int32) (w11 : Value) (hS : SF Z w0 w1 w2 w3 w4 w5 w6 w7 w8 w9 w10 w11) (ws : List Jvm.Cond) (p0 : Int32) (h0 : Heap) (n0 : Nat) (O0 : Old Z n0 h0) (hq0 : ¬ (p0 < (0 : Int32))) (hq1 : ¬ ((9 : Int32) < p0)) (hq2 : ¬ (p0 = (8 : Int32))) :
    MetFree l (⟨z4, "typeOf", "(I)Lcom/example/key3/key3/cql/Token$Type;"⟩ : MethodName) (head1 (Jvm.Cond.code (⟨z4, "typeOf", "(I)Lcom/example/key3/key3/cql/Token$Type;"⟩ : MethodName) method_2_code 1 (some (.object z2)) :: ws) ({ frames := 0, cells := 0, slots := 0, locals := 0 } : Room)) (fun a U => a = #[(.int p0)] ∧ Z.Warmed39 U.vm ∧ U.heap = h0) (fun _ _ _ _ _ => True) (fun _ U o U' => ∃ v L, o = .returned v ∧ Qjm0 Z w0 w1 w2 w3 w4 w5 w6 w7 w8 w9 w10 w11 p0 h0 n0 v U'.heap L ∧ FrameEnd U o U' L ({ frames := 0, cells := 0, slots := 0, locals := 0 } : Room).cells ({ frames := 0, cells := 0, slots := 0, locals := 0 } : Room).slots) := by
  refine MetFree.of_bodySF (plainFor_of_name pn54) hisR ?_
  intro p e s m args below meth c s₁ Bd hml0 hP hK
  obtain ⟨rfl, hZ, hh⟩ := hP
  have hx := Bd.exec
  have hby := Bd.bytes
  have hml : c.maxLocals = 1 := hml0
  have hown : s.vm.findClass z4 = some m.cls := findClass_of_methodNamed Bd.named
  have hnm := (name_of_methodNamed Bd.named Bd.method).1
  have X0 : Stand p l e ({ frames := 0, cells := 0, slots := 0, locals := 0 } : Room) s m #[(.int p0)] below meth c s₁ [] 0 0 := Stand.of_body Bd
  have e0 : s₁.heap = h0 := by rw [← hh, Bd.state]; rfl
  have N0 := Fr.nil n0
  have pre0 : ∀ t, Steps p.tables e below (s₁.setTop (mkF m 0 #[.val (.int p0)] [])) t → Steps p.tables e below (s₁.setTop (entryFrame m #[(.int p0)] 1)) t := fun t k => castTop (ef55 m p0) k
  rcases en_2 p0 (by have q0 := own_rng p0; have q1 := (by decide : ((0 : Int32)).toInt = 0); have q2 := own_ltF' hq0; have q3 := (by decide : ((9 : Int32)).toInt = 9); have q4 := own_ltF' hq1; have q5 := (by decide : ((8 : Int32)).toInt = 8); have q6 := own_eqF' hq2; omega) with hp0 | hp0 | hp0 | hp0 | hp0 | hp0 | hp0 | hp0 | hp0
  · obtain ⟨T1, X1, e1, st1⟩ := getS2 X0 hx hZ hown (host := "") (Or.inl (hw _ m48)) Via.refl e0 (hS.2.2.2.2.2.2.2.2.2.2.2.2.1.ext O0.2) (g := (mkF m 4 #[.val (.int p0)] [])) rfl (hb hby d9_4)
    have ne2 : w4 ≠ w8 := (Fld.ne hS.2.2.2.2.2.2.2.2.2.2.2.2.2.2.1 hS.2.2.2.2.2.2.2.2.2.2.2.2.2.2.2.2.2.2.2.2.2.2.2.2.2.2.1 (fun q => absurd (Value.int.inj q) (by decide)))
    obtain ⟨fs, hr, hrun, hended, hW, hsame⟩ := X1.leave (v := some (.ref w4)) (fun h => by rw [Bd.returns] at h; cases h)
    refine ⟨_, _, pre0 _ ?_, hrun, hended, _, _, rfl, ?_, ⟨_, rfl⟩, hW, hsame.mono (by decide) (by decide)⟩
    · show Steps p.tables e below (s₁.setTop (mkF m 0 #[.val (.int p0)] [])) _
      refine Own.iloadN X0.here hx rfl (hb hby d9_0) rfl hp0 ?_
      refine XS.ifNo X0.here hx rfl (hb hby d9_1) rfl ((if0 _ _).trans (teq (by decide : (0 : Int32) = (0 : Int32))).2) ?_
      refine st1 _ ?_
      exact retOut X1 hx Bd.returns rfl (Or.inr (Or.inr (Or.inr (Or.inr ⟨rfl, rfl, rfl⟩)))) (hb hby d9_7) hr
    · show Qjm0 Z w0 w1 w2 w3 w4 w5 w6 w7 w8 w9 w10 w11 p0 h0 n0 _ T1.heap _
      rw [e1]
      exact ⟨_, rfl, N0, hS.2.2.2.2.2.2.2.2.2.2.2.2.2.1, ne2, rfl⟩
  · obtain ⟨T1, X1, e1, st1⟩ := getS2 X0 hx hZ hown (host := "") (Or.inl (hw _ m99)) Via.refl e0 (hS.2.2.2.2.2.2.2.2.2.2.2.2.2.2.2.2.2.2.1.ext O0.2) (g := (mkF m 13 #[.val (.int p0)] [])) rfl (hb hby d9_13)
    have ne2 : w6 ≠ w8 := (Fld.ne hS.2.2.2.2.2.2.2.2.2.2.2.2.2.2.2.2.2.2.2.2.1 hS.2.2.2.2.2.2.2.2.2.2.2.2.2.2.2.2.2.2.2.2.2.2.2.2.2.2.1 (fun q => absurd (Value.int.inj q) (by decide)))
    obtain ⟨fs, hr, hrun, hended, hW, hsame⟩ := X1.leave (v := some (.ref w6)) (fun h => by rw [Bd.returns] at h; cases h)
    refine ⟨_, _, pre0 _ ?_, hrun, hended, _, _, rfl, ?_, ⟨_, rfl⟩, hW, hsame.mono (by decide) (by decide)⟩
    · show Steps p.tables e below (s₁.setTop (mkF m 0 #[.val (.int p0)] [])) _
      refine Own.iloadN X0.here hx rfl (hb hby d9_0) rfl hp0 ?_
      refine XS.ifYes X0.here hx rfl (pc0 := 1) (pc' := 8) rfl (hb hby d9_1) rfl ((if0 _ _).trans (feq (by decide : ¬ ((1 : Int32) = (0 : Int32)))).2) (by decide) (by decide) ?_
      refine Own.iloadN X0.here hx rfl (hb hby d9_8) rfl hp0 ?_
      refine XS.iconst X0.here hx rfl (hb hby d9_9) ?_
      show Steps p.tables e below (s₁.setTop (mkF m 10 #[.val (.int p0)] [(.int (1 : Int32)), (.int (1 : Int32))])) _
      refine XS.icmpNo X0.here hx rfl (hb hby d9_10) rfl (teq (by decide : (1 : Int32) = (1 : Int32))).2 ?_
      refine st1 _ ?_
      exact retOut X1 hx Bd.returns rfl (Or.inr (Or.inr (Or.inr (Or.inr ⟨rfl, rfl, rfl⟩)))) (hb hby d9_16) hr
    · show Qjm0 Z w0 w1 w2 w3 w4 w5 w6 w7 w8 w9 w10 w11 p0 h0 n0 _ T1.heap _
      rw [e1]
      exact ⟨_, rfl, N0, hS.2.2.2.2.2.2.2.2.2.2.2.2.2.2.2.2.2.2.2.1, ne2, rfl⟩
  · obtain ⟨T1, X1, e1, st1⟩ := getS2 X0 hx hZ hown (host := "") (Or.inl (hw _ m97)) Via.refl e0 (hS.2.2.2.2.2.2.2.2.2.2.2.2.2.2.2.2.2.2.2.2.2.1.ext O0.2) (g := (mkF m 22 #[.val (.int p0)] [])) rfl (hb hby d9_22)
    have ne2 : w7 ≠ w8 := (Fld.ne hS.2.2.2.2.2.2.2.2.2.2.2.2.2.2.2.2.2.2.2.2.2.2.2.1 hS.2.2.2.2.2.2.2.2.2.2.2.2.2.2.2.2.2.2.2.2.2.2.2.2.2.2.1 (fun q => absurd (Value.int.inj q) (by decide)))
    obtain ⟨fs, hr, hrun, hended, hW, hsame⟩ := X1.leave (v := some (.ref w7)) (fun h => by rw [Bd.returns] at h; cases h)
    refine ⟨_, _, pre0 _ ?_, hrun, hended, _, _, rfl, ?_, ⟨_, rfl⟩, hW, hsame.mono (by decide) (by decide)⟩
    · show Steps p.tables e below (s₁.setTop (mkF m 0 #[.val (.int p0)] [])) _
      refine Own.iloadN X0.here hx rfl (hb hby d9_0) rfl hp0 ?_
      refine XS.ifYes X0.here hx rfl (pc0 := 1) (pc' := 8) rfl (hb hby d9_1) rfl ((if0 _ _).trans (feq (by decide : ¬ ((2 : Int32) = (0 : Int32)))).2) (by decide) (by decide) ?_
      refine Own.iloadN X0.here hx rfl (hb hby d9_8) rfl hp0 ?_
      refine XS.iconst X0.here hx rfl (hb hby d9_9) ?_
      show Steps p.tables e below (s₁.setTop (mkF m 10 #[.val (.int p0)] [(.int (1 : Int32)), (.int (2 : Int32))])) _
      refine XS.icmpYes X0.here hx rfl (pc0 := 10) (pc' := 17) rfl (hb hby d9_10) rfl (feq (by decide : ¬ ((2 : Int32) = (1 : Int32)))).2 (by decide) (by decide) ?_
      refine Own.iloadN X0.here hx rfl (hb hby d9_17) rfl hp0 ?_
      refine XS.iconst X0.here hx rfl (hb hby d9_18) ?_
      refine XS.icmpNo X0.here hx rfl (hb hby d9_19) rfl (teq (by decide : (2 : Int32) = (2 : Int32))).2 ?_
      show Steps p.tables e below (s₁.setTop (mkF m 22 #[.val (.int p0)] [])) _
      refine st1 _ ?_
      exact retOut X1 hx Bd.returns rfl (Or.inr (Or.inr (Or.inr (Or.inr ⟨rfl, rfl, rfl⟩)))) (hb hby d9_25) hr
    · show Qjm0 Z w0 w1 w2 w3 w4 w5 w6 w7 w8 w9 w10 w11 p0 h0 n0 _ T1.heap _
      rw [e1]
      exact ⟨_, rfl, N0, hS.2.2.2.2.2.2.2.2.2.2.2.2.2.2.2.2.2.2.2.2.2.2.1, ne2, rfl⟩
  · obtain ⟨T1, X1, e1, st1⟩ := getS2 X0 hx hZ hown (host := "") (Or.inl (hw _ m77)) Via.refl e0 (hS.2.2.2.2.2.2.2.2.2.2.2.2.2.2.2.1.ext O0.2) (g := (mkF m 31 #[.val (.int p0)] [])) rfl (hb hby d9_31)
    have ne2 : w5 ≠ w8 := (Fld.ne hS.2.2.2.2.2.2.2.2.2.2.2.2.2.2.2.2.2.1 hS.2.2.2.2.2.2.2.2.2.2.2.2.2.2.2.2.2.2.2.2.2.2.2.2.2.2.1 (fun q => absurd (Value.int.inj q) (by decide)))
    obtain ⟨fs, hr, hrun, hended, hW, hsame⟩ := X1.leave (v := some (.ref w5)) (fun h => by rw [Bd.returns] at h; cases h)
    refine ⟨_, _, pre0 _ ?_, hrun, hended, _, _, rfl, ?_, ⟨_, rfl⟩, hW, hsame.mono (by decide) (by decide)⟩
    · show Steps p.tables e below (s₁.setTop (mkF m 0 #[.val (.int p0)] [])) _
      refine Own.iloadN X0.here hx rfl (hb hby d9_0) rfl hp0 ?_
      refine XS.ifYes X0.here hx rfl (pc0 := 1) (pc' := 8) rfl (hb hby d9_1) rfl ((if0 _ _).trans (feq (by decide : ¬ ((3 : Int32) = (0 : Int32)))).2) (by decide) (by decide) ?_
      refine Own.iloadN X0.here hx rfl (hb hby d9_8) rfl hp0 ?_
      refine XS.iconst X0.here hx rfl (hb hby d9_9) ?_
      show Steps p.tables e below (s₁.setTop (mkF m 10 #[.val (.int p0)] [(.int (1 : Int32)), (.int (3 : Int32))])) _
      refine XS.icmpYes X0.here hx rfl (pc0 := 10) (pc' := 17) rfl (hb hby d9_10) rfl (feq (by decide : ¬ ((3 : Int32) = (1 : Int32)))).2 (by decide) (by decide) ?_
      refine Own.iloadN X0.here hx rfl (hb hby d9_17) rfl hp0 ?_
      refine XS.iconst X0.here hx rfl (hb hby d9_18) ?_
      refine XS.icmpYes X0.here hx rfl (pc0 := 19) (pc' := 26) rfl (hb hby d9_19) rfl (feq (by decide : ¬ ((3 : Int32) = (2 : Int32)))).2 (by decide) (by decide) ?_
      show Steps p.tables e below (s₁.setTop (mkF m 26 #[.val (.int p0)] [])) _
      refine Own.iloadN X0.here hx rfl (hb hby d9_26) rfl hp0 ?_
      refine XS.iconst X0.here hx rfl (hb hby d9_27) ?_
      refine XS.icmpNo X0.here hx rfl (hb hby d9_28) rfl (teq (by decide : (3 : Int32) = (3 : Int32))).2 ?_
      refine st1 _ ?_
      show Steps p.tables e below (T1.setTop (mkF m 34 #[.val (.int p0)] [(.ref w5)])) _
      exact retOut X1 hx Bd.returns rfl (Or.inr (Or.inr (Or.inr (Or.inr ⟨rfl, rfl, rfl⟩)))) (hb hby d9_34) hr
    · show Qjm0 Z w0 w1 w2 w3 w4 w5 w6 w7 w8 w9 w10 w11 p0 h0 n0 _ T1.heap _
      rw [e1]
      exact ⟨_, rfl, N0, hS.2.2.2.2.2.2.2.2.2.2.2.2.2.2.2.2.1, ne2, rfl⟩
  · obtain ⟨T1, X1, e1, st1⟩ := getS2 X0 hx hZ hown (host := "") (Or.inl (hw _ m75)) Via.refl e0 (hS.2.2.2.2.2.2.1.ext O0.2) (g := (mkF m 40 #[.val (.int p0)] [])) rfl (hb hby d9_40)
    have ne2 : w2 ≠ w8 := (Fld.ne hS.2.2.2.2.2.2.2.2.1 hS.2.2.2.2.2.2.2.2.2.2.2.2.2.2.2.2.2.2.2.2.2.2.2.2.2.2.1 (fun q => absurd (Value.int.inj q) (by decide)))
    obtain ⟨fs, hr, hrun, hended, hW, hsame⟩ := X1.leave (v := some (.ref w2)) (fun h => by rw [Bd.returns] at h; cases h)
    refine ⟨_, _, pre0 _ ?_, hrun, hended, _, _, rfl, ?_, ⟨_, rfl⟩, hW, hsame.mono (by decide) (by decide)⟩
    · show Steps p.tables e below (s₁.setTop (mkF m 0 #[.val (.int p0)] [])) _
      refine Own.iloadN X0.here hx rfl (hb hby d9_0) rfl hp0 ?_
      refine XS.ifYes X0.here hx rfl (pc0 := 1) (pc' := 8) rfl (hb hby d9_1) rfl ((if0 _ _).trans (feq (by decide : ¬ ((4 : Int32) = (0 : Int32)))).2) (by decide) (by decide) ?_
      refine Own.iloadN X0.here hx rfl (hb hby d9_8) rfl hp0 ?_
      refine XS.iconst X0.here hx rfl (hb hby d9_9) ?_
      show Steps p.tables e below (s₁.setTop (mkF m 10 #[.val (.int p0)] [(.int (1 : Int32)), (.int (4 : Int32))])) _
      refine XS.icmpYes X0.here hx rfl (pc0 := 10) (pc' := 17) rfl (hb hby d9_10) rfl (feq (by decide : ¬ ((4 : Int32) = (1 : Int32)))).2 (by decide) (by decide) ?_
      refine Own.iloadN X0.here hx rfl (hb hby d9_17) rfl hp0 ?_
      refine XS.iconst X0.here hx rfl (hb hby d9_18) ?_
      refine XS.icmpYes X0.here hx rfl (pc0 := 19) (pc' := 26) rfl (hb hby d9_19) rfl (feq (by decide : ¬ ((4 : Int32) = (2 : Int32)))).2 (by decide) (by decide) ?_
      show Steps p.tables e below (s₁.setTop (mkF m 26 #[.val (.int p0)] [])) _
      refine Own.iloadN X0.here hx rfl (hb hby d9_26) rfl hp0 ?_
      refine XS.iconst X0.here hx rfl (hb hby d9_27) ?_
      refine XS.icmpYes X0.here hx rfl (pc0 := 28) (pc' := 35) rfl (hb hby d9_28) rfl (feq (by decide : ¬ ((4 : Int32) = (3 : Int32)))).2 (by decide) (by decide) ?_
      refine Own.iloadN X0.here hx rfl (hb hby d9_35) rfl hp0 ?_
      show Steps p.tables e below (s₁.setTop (mkF m 36 #[.val (.int p0)] [(.int (4 : Int32))])) _
      refine XS.iconst X0.here hx rfl (hb hby d9_36) ?_
      refine XS.icmpNo X0.here hx rfl (hb hby d9_37) rfl (teq (by decide : (4 : Int32) = (4 : Int32))).2 ?_
      refine st1 _ ?_
      exact retOut X1 hx Bd.returns rfl (Or.inr (Or.inr (Or.inr (Or.inr ⟨rfl, rfl, rfl⟩)))) (hb hby d9_43) hr
    · show Qjm0 Z w0 w1 w2 w3 w4 w5 w6 w7 w8 w9 w10 w11 p0 h0 n0 _ T1.heap _
      rw [e1]
      exact ⟨_, rfl, N0, hS.2.2.2.2.2.2.2.1, ne2, rfl⟩
  · obtain ⟨T1, X1, e1, st1⟩ := getS2 X0 hx hZ hown (host := "") (Or.inl (hw _ m95)) Via.refl e0 (hS.2.2.2.2.2.2.2.2.2.2.2.2.2.2.2.2.2.2.2.2.2.2.2.2.2.2.2.1.ext O0.2) (g := (mkF m 49 #[.val (.int p0)] [])) rfl (hb hby d9_49)
    have ne2 : w9 ≠ w8 := (Fld.ne hS.2.2.2.2.2.2.2.2.2.2.2.2.2.2.2.2.2.2.2.2.2.2.2.2.2.2.2.2.2.1 hS.2.2.2.2.2.2.2.2.2.2.2.2.2.2.2.2.2.2.2.2.2.2.2.2.2.2.1 (fun q => absurd (Value.int.inj q) (by decide)))
    obtain ⟨fs, hr, hrun, hended, hW, hsame⟩ := X1.leave (v := some (.ref w9)) (fun h => by rw [Bd.returns] at h; cases h)
    refine ⟨_, _, pre0 _ ?_, hrun, hended, _, _, rfl, ?_, ⟨_, rfl⟩, hW, hsame.mono (by decide) (by decide)⟩
    · show Steps p.tables e below (s₁.setTop (mkF m 0 #[.val (.int p0)] [])) _
      refine Own.iloadN X0.here hx rfl (hb hby d9_0) rfl hp0 ?_
      refine XS.ifYes X0.here hx rfl (pc0 := 1) (pc' := 8) rfl (hb hby d9_1) rfl ((if0 _ _).trans (feq (by decide : ¬ ((5 : Int32) = (0 : Int32)))).2) (by decide) (by decide) ?_
      refine Own.iloadN X0.here hx rfl (hb hby d9_8) rfl hp0 ?_
      refine XS.iconst X0.here hx rfl (hb hby d9_9) ?_
      show Steps p.tables e below (s₁.setTop (mkF m 10 #[.val (.int p0)] [(.int (1 : Int32)), (.int (5 : Int32))])) _
      refine XS.icmpYes X0.here hx rfl (pc0 := 10) (pc' := 17) rfl (hb hby d9_10) rfl (feq (by decide : ¬ ((5 : Int32) = (1 : Int32)))).2 (by decide) (by decide) ?_
      refine Own.iloadN X0.here hx rfl (hb hby d9_17) rfl hp0 ?_
      refine XS.iconst X0.here hx rfl (hb hby d9_18) ?_
      refine XS.icmpYes X0.here hx rfl (pc0 := 19) (pc' := 26) rfl (hb hby d9_19) rfl (feq (by decide : ¬ ((5 : Int32) = (2 : Int32)))).2 (by decide) (by decide) ?_
      show Steps p.tables e below (s₁.setTop (mkF m 26 #[.val (.int p0)] [])) _
      refine Own.iloadN X0.here hx rfl (hb hby d9_26) rfl hp0 ?_
      refine XS.iconst X0.here hx rfl (hb hby d9_27) ?_
      refine XS.icmpYes X0.here hx rfl (pc0 := 28) (pc' := 35) rfl (hb hby d9_28) rfl (feq (by decide : ¬ ((5 : Int32) = (3 : Int32)))).2 (by decide) (by decide) ?_
      refine Own.iloadN X0.here hx rfl (hb hby d9_35) rfl hp0 ?_
      show Steps p.tables e below (s₁.setTop (mkF m 36 #[.val (.int p0)] [(.int (5 : Int32))])) _
      refine XS.iconst X0.here hx rfl (hb hby d9_36) ?_
      refine XS.icmpYes X0.here hx rfl (pc0 := 37) (pc' := 44) rfl (hb hby d9_37) rfl (feq (by decide : ¬ ((5 : Int32) = (4 : Int32)))).2 (by decide) (by decide) ?_
      refine Own.iloadN X0.here hx rfl (hb hby d9_44) rfl hp0 ?_
      refine XS.iconst X0.here hx rfl (hb hby d9_45) ?_
      show Steps p.tables e below (s₁.setTop (mkF m 46 #[.val (.int p0)] [(.int (5 : Int32)), (.int (5 : Int32))])) _
      refine XS.icmpNo X0.here hx rfl (hb hby d9_46) rfl (teq (by decide : (5 : Int32) = (5 : Int32))).2 ?_
      refine st1 _ ?_
      exact retOut X1 hx Bd.returns rfl (Or.inr (Or.inr (Or.inr (Or.inr ⟨rfl, rfl, rfl⟩)))) (hb hby d9_52) hr
    · show Qjm0 Z w0 w1 w2 w3 w4 w5 w6 w7 w8 w9 w10 w11 p0 h0 n0 _ T1.heap _
      rw [e1]
      exact ⟨_, rfl, N0, hS.2.2.2.2.2.2.2.2.2.2.2.2.2.2.2.2.2.2.2.2.2.2.2.2.2.2.2.2.1, ne2, rfl⟩
  · obtain ⟨T1, X1, e1, st1⟩ := getS2 X0 hx hZ hown (host := "") (Or.inl (hw _ m101)) Via.refl e0 (hS.2.2.2.2.2.2.2.2.2.1.ext O0.2) (g := (mkF m 59 #[.val (.int p0)] [])) rfl (hb hby d9_59)
    have ne2 : w3 ≠ w8 := (Fld.ne hS.2.2.2.2.2.2.2.2.2.2.2.1 hS.2.2.2.2.2.2.2.2.2.2.2.2.2.2.2.2.2.2.2.2.2.2.2.2.2.2.1 (fun q => absurd (Value.int.inj q) (by decide)))
    obtain ⟨fs, hr, hrun, hended, hW, hsame⟩ := X1.leave (v := some (.ref w3)) (fun h => by rw [Bd.returns] at h; cases h)
    refine ⟨_, _, pre0 _ ?_, hrun, hended, _, _, rfl, ?_, ⟨_, rfl⟩, hW, hsame.mono (by decide) (by decide)⟩
    · show Steps p.tables e below (s₁.setTop (mkF m 0 #[.val (.int p0)] [])) _
      refine Own.iloadN X0.here hx rfl (hb hby d9_0) rfl hp0 ?_
      refine XS.ifYes X0.here hx rfl (pc0 := 1) (pc' := 8) rfl (hb hby d9_1) rfl ((if0 _ _).trans (feq (by decide : ¬ ((6 : Int32) = (0 : Int32)))).2) (by decide) (by decide) ?_
      refine Own.iloadN X0.here hx rfl (hb hby d9_8) rfl hp0 ?_
      refine XS.iconst X0.here hx rfl (hb hby d9_9) ?_
      show Steps p.tables e below (s₁.setTop (mkF m 10 #[.val (.int p0)] [(.int (1 : Int32)), (.int (6 : Int32))])) _
      refine XS.icmpYes X0.here hx rfl (pc0 := 10) (pc' := 17) rfl (hb hby d9_10) rfl (feq (by decide : ¬ ((6 : Int32) = (1 : Int32)))).2 (by decide) (by decide) ?_
      refine Own.iloadN X0.here hx rfl (hb hby d9_17) rfl hp0 ?_
      refine XS.iconst X0.here hx rfl (hb hby d9_18) ?_
      refine XS.icmpYes X0.here hx rfl (pc0 := 19) (pc' := 26) rfl (hb hby d9_19) rfl (feq (by decide : ¬ ((6 : Int32) = (2 : Int32)))).2 (by decide) (by decide) ?_
      show Steps p.tables e below (s₁.setTop (mkF m 26 #[.val (.int p0)] [])) _
      refine Own.iloadN X0.here hx rfl (hb hby d9_26) rfl hp0 ?_
      refine XS.iconst X0.here hx rfl (hb hby d9_27) ?_
      refine XS.icmpYes X0.here hx rfl (pc0 := 28) (pc' := 35) rfl (hb hby d9_28) rfl (feq (by decide : ¬ ((6 : Int32) = (3 : Int32)))).2 (by decide) (by decide) ?_
      refine Own.iloadN X0.here hx rfl (hb hby d9_35) rfl hp0 ?_
      show Steps p.tables e below (s₁.setTop (mkF m 36 #[.val (.int p0)] [(.int (6 : Int32))])) _
      refine XS.iconst X0.here hx rfl (hb hby d9_36) ?_
      refine XS.icmpYes X0.here hx rfl (pc0 := 37) (pc' := 44) rfl (hb hby d9_37) rfl (feq (by decide : ¬ ((6 : Int32) = (4 : Int32)))).2 (by decide) (by decide) ?_
      refine Own.iloadN X0.here hx rfl (hb hby d9_44) rfl hp0 ?_
      refine XS.iconst X0.here hx rfl (hb hby d9_45) ?_
      show Steps p.tables e below (s₁.setTop (mkF m 46 #[.val (.int p0)] [(.int (5 : Int32)), (.int (6 : Int32))])) _
      refine XS.icmpYes X0.here hx rfl (pc0 := 46) (pc' := 53) rfl (hb hby d9_46) rfl (feq (by decide : ¬ ((6 : Int32) = (5 : Int32)))).2 (by decide) (by decide) ?_
      refine Own.iloadN X0.here hx rfl (hb hby d9_53) rfl hp0 ?_
      refine XS.bipush X0.here hx rfl (hb hby d9_54) ?_
      refine XS.icmpNo X0.here hx rfl (hb hby d9_56) rfl (teq (by decide : (6 : Int32) = (6 : Int32))).2 ?_
      show Steps p.tables e below (s₁.setTop (mkF m 59 #[.val (.int p0)] [])) _
      refine st1 _ ?_
      exact retOut X1 hx Bd.returns rfl (Or.inr (Or.inr (Or.inr (Or.inr ⟨rfl, rfl, rfl⟩)))) (hb hby d9_62) hr
    · show Qjm0 Z w0 w1 w2 w3 w4 w5 w6 w7 w8 w9 w10 w11 p0 h0 n0 _ T1.heap _
      rw [e1]
      exact ⟨_, rfl, N0, hS.2.2.2.2.2.2.2.2.2.2.1, ne2, rfl⟩
  · obtain ⟨T1, X1, e1, st1⟩ := getS2 X0 hx hZ hown (host := "") (Or.inl (hw _ m103)) Via.refl e0 (hS.1.ext O0.2) (g := (mkF m 69 #[.val (.int p0)] [])) rfl (hb hby d9_69)
    have ne2 : w0 ≠ w8 := (Fld.ne hS.2.2.1 hS.2.2.2.2.2.2.2.2.2.2.2.2.2.2.2.2.2.2.2.2.2.2.2.2.2.2.1 (fun q => absurd (Value.int.inj q) (by decide)))
    obtain ⟨fs, hr, hrun, hended, hW, hsame⟩ := X1.leave (v := some (.ref w0)) (fun h => by rw [Bd.returns] at h; cases h)
    refine ⟨_, _, pre0 _ ?_, hrun, hended, _, _, rfl, ?_, ⟨_, rfl⟩, hW, hsame.mono (by decide) (by decide)⟩
    · show Steps p.tables e below (s₁.setTop (mkF m 0 #[.val (.int p0)] [])) _
      refine Own.iloadN X0.here hx rfl (hb hby d9_0) rfl hp0 ?_
      refine XS.ifYes X0.here hx rfl (pc0 := 1) (pc' := 8) rfl (hb hby d9_1) rfl ((if0 _ _).trans (feq (by decide : ¬ ((7 : Int32) = (0 : Int32)))).2) (by decide) (by decide) ?_
      refine Own.iloadN X0.here hx rfl (hb hby d9_8) rfl hp0 ?_
      refine XS.iconst X0.here hx rfl (hb hby d9_9) ?_
      show Steps p.tables e below (s₁.setTop (mkF m 10 #[.val (.int p0)] [(.int (1 : Int32)), (.int (7 : Int32))])) _
      refine XS.icmpYes X0.here hx rfl (pc0 := 10) (pc' := 17) rfl (hb hby d9_10) rfl (feq (by decide : ¬ ((7 : Int32) = (1 : Int32)))).2 (by decide) (by decide) ?_
      refine Own.iloadN X0.here hx rfl (hb hby d9_17) rfl hp0 ?_
      refine XS.iconst X0.here hx rfl (hb hby d9_18) ?_
      refine XS.icmpYes X0.here hx rfl (pc0 := 19) (pc' := 26) rfl (hb hby d9_19) rfl (feq (by decide : ¬ ((7 : Int32) = (2 : Int32)))).2 (by decide) (by decide) ?_
      show Steps p.tables e below (s₁.setTop (mkF m 26 #[.val (.int p0)] [])) _
      refine Own.iloadN X0.here hx rfl (hb hby d9_26) rfl hp0 ?_
      refine XS.iconst X0.here hx rfl (hb hby d9_27) ?_
      refine XS.icmpYes X0.here hx rfl (pc0 := 28) (pc' := 35) rfl (hb hby d9_28) rfl (feq (by decide : ¬ ((7 : Int32) = (3 : Int32)))).2 (by decide) (by decide) ?_
      refine Own.iloadN X0.here hx rfl (hb hby d9_35) rfl hp0 ?_
      show Steps p.tables e below (s₁.setTop (mkF m 36 #[.val (.int p0)] [(.int (7 : Int32))])) _
      refine XS.iconst X0.here hx rfl (hb hby d9_36) ?_
      refine XS.icmpYes X0.here hx rfl (pc0 := 37) (pc' := 44) rfl (hb hby d9_37) rfl (feq (by decide : ¬ ((7 : Int32) = (4 : Int32)))).2 (by decide) (by decide) ?_
      refine Own.iloadN X0.here hx rfl (hb hby d9_44) rfl hp0 ?_
      refine XS.iconst X0.here hx rfl (hb hby d9_45) ?_
      show Steps p.tables e below (s₁.setTop (mkF m 46 #[.val (.int p0)] [(.int (5 : Int32)), (.int (7 : Int32))])) _
      refine XS.icmpYes X0.here hx rfl (pc0 := 46) (pc' := 53) rfl (hb hby d9_46) rfl (feq (by decide : ¬ ((7 : Int32) = (5 : Int32)))).2 (by decide) (by decide) ?_
      refine Own.iloadN X0.here hx rfl (hb hby d9_53) rfl hp0 ?_
      refine XS.bipush X0.here hx rfl (hb hby d9_54) ?_
      refine XS.icmpYes X0.here hx rfl (pc0 := 56) (pc' := 63) rfl (hb hby d9_56) rfl (feq (by decide : ¬ ((7 : Int32) = (6 : Int32)))).2 (by decide) (by decide) ?_
      show Steps p.tables e below (s₁.setTop (mkF m 63 #[.val (.int p0)] [])) _
      refine Own.iloadN X0.here hx rfl (hb hby d9_63) rfl hp0 ?_
      refine XS.bipush X0.here hx rfl (hb hby d9_64) ?_
      refine XS.icmpNo X0.here hx rfl (hb hby d9_66) rfl (teq (by decide : (7 : Int32) = (7 : Int32))).2 ?_
      refine st1 _ ?_
      show Steps p.tables e below (T1.setTop (mkF m 72 #[.val (.int p0)] [(.ref w0)])) _
      exact retOut X1 hx Bd.returns rfl (Or.inr (Or.inr (Or.inr (Or.inr ⟨rfl, rfl, rfl⟩)))) (hb hby d9_72) hr
    · show Qjm0 Z w0 w1 w2 w3 w4 w5 w6 w7 w8 w9 w10 w11 p0 h0 n0 _ T1.heap _
      rw [e1]
      exact ⟨_, rfl, N0, hS.2.1, ne2, rfl⟩
  · obtain ⟨T1, X1, e1, st1⟩ := getS2 X0 hx hZ hown (host := "") (Or.inl (hw _ m108)) Via.refl e0 (hS.2.2.2.1.ext O0.2) (g := (mkF m 83 #[.val (.int p0)] [])) rfl (hb hby d9_83)
    have ne2 : w1 ≠ w8 := (Fld.ne hS.2.2.2.2.2.1 hS.2.2.2.2.2.2.2.2.2.2.2.2.2.2.2.2.2.2.2.2.2.2.2.2.2.2.1 (fun q => absurd (Value.int.inj q) (by decide)))
    obtain ⟨fs, hr, hrun, hended, hW, hsame⟩ := X1.leave (v := some (.ref w1)) (fun h => by rw [Bd.returns] at h; cases h)
    refine ⟨_, _, pre0 _ ?_, hrun, hended, _, _, rfl, ?_, ⟨_, rfl⟩, hW, hsame.mono (by decide) (by decide)⟩
    · show Steps p.tables e below (s₁.setTop (mkF m 0 #[.val (.int p0)] [])) _
      refine Own.iloadN X0.here hx rfl (hb hby d9_0) rfl hp0 ?_
      refine XS.ifYes X0.here hx rfl (pc0 := 1) (pc' := 8) rfl (hb hby d9_1) rfl ((if0 _ _).trans (feq (by decide : ¬ ((9 : Int32) = (0 : Int32)))).2) (by decide) (by decide) ?_
      refine Own.iloadN X0.here hx rfl (hb hby d9_8) rfl hp0 ?_
      refine XS.iconst X0.here hx rfl (hb hby d9_9) ?_
      show Steps p.tables e below (s₁.setTop (mkF m 10 #[.val (.int p0)] [(.int (1 : Int32)), (.int (9 : Int32))])) _
      refine XS.icmpYes X0.here hx rfl (pc0 := 10) (pc' := 17) rfl (hb hby d9_10) rfl (feq (by decide : ¬ ((9 : Int32) = (1 : Int32)))).2 (by decide) (by decide) ?_
      refine Own.iloadN X0.here hx rfl (hb hby d9_17) rfl hp0 ?_
      refine XS.iconst X0.here hx rfl (hb hby d9_18) ?_
      refine XS.icmpYes X0.here hx rfl (pc0 := 19) (pc' := 26) rfl (hb hby d9_19) rfl (feq (by decide : ¬ ((9 : Int32) = (2 : Int32)))).2 (by decide) (by decide) ?_
      show Steps p.tables e below (s₁.setTop (mkF m 26 #[.val (.int p0)] [])) _
      refine Own.iloadN X0.here hx rfl (hb hby d9_26) rfl hp0 ?_
      refine XS.iconst X0.here hx rfl (hb hby d9_27) ?_
      refine XS.icmpYes X0.here hx rfl (pc0 := 28) (pc' := 35) rfl (hb hby d9_28) rfl (feq (by decide : ¬ ((9 : Int32) = (3 : Int32)))).2 (by decide) (by decide) ?_
      refine Own.iloadN X0.here hx rfl (hb hby d9_35) rfl hp0 ?_
      show Steps p.tables e below (s₁.setTop (mkF m 36 #[.val (.int p0)] [(.int (9 : Int32))])) _
      refine XS.iconst X0.here hx rfl (hb hby d9_36) ?_
      refine XS.icmpYes X0.here hx rfl (pc0 := 37) (pc' := 44) rfl (hb hby d9_37) rfl (feq (by decide : ¬ ((9 : Int32) = (4 : Int32)))).2 (by decide) (by decide) ?_
      refine Own.iloadN X0.here hx rfl (hb hby d9_44) rfl hp0 ?_
      refine XS.iconst X0.here hx rfl (hb hby d9_45) ?_
      show Steps p.tables e below (s₁.setTop (mkF m 46 #[.val (.int p0)] [(.int (5 : Int32)), (.int (9 : Int32))])) _
      refine XS.icmpYes X0.here hx rfl (pc0 := 46) (pc' := 53) rfl (hb hby d9_46) rfl (feq (by decide : ¬ ((9 : Int32) = (5 : Int32)))).2 (by decide) (by decide) ?_
      refine Own.iloadN X0.here hx rfl (hb hby d9_53) rfl hp0 ?_
      refine XS.bipush X0.here hx rfl (hb hby d9_54) ?_
      refine XS.icmpYes X0.here hx rfl (pc0 := 56) (pc' := 63) rfl (hb hby d9_56) rfl (feq (by decide : ¬ ((9 : Int32) = (6 : Int32)))).2 (by decide) (by decide) ?_
      show Steps p.tables e below (s₁.setTop (mkF m 63 #[.val (.int p0)] [])) _
      refine Own.iloadN X0.here hx rfl (hb hby d9_63) rfl hp0 ?_
      refine XS.bipush X0.here hx rfl (hb hby d9_64) ?_
      refine XS.icmpYes X0.here hx rfl (pc0 := 66) (pc' := 73) rfl (hb hby d9_66) rfl (feq (by decide : ¬ ((9 : Int32) = (7 : Int32)))).2 (by decide) (by decide) ?_
      refine Own.iloadN X0.here hx rfl (hb hby d9_73) rfl hp0 ?_
      show Steps p.tables e below (s₁.setTop (mkF m 74 #[.val (.int p0)] [(.int (9 : Int32))])) _
      refine XS.bipush X0.here hx rfl (hb hby d9_74) ?_
      refine XS.icmpYes X0.here hx rfl (pc0 := 76) (pc' := 83) rfl (hb hby d9_76) rfl (feq (by decide : ¬ ((9 : Int32) = (8 : Int32)))).2 (by decide) (by decide) ?_
      refine st1 _ ?_
      exact retOut X1 hx Bd.returns rfl (Or.inr (Or.inr (Or.inr (Or.inr ⟨rfl, rfl, rfl⟩)))) (hb hby d9_86) hr
    · show Qjm0 Z w0 w1 w2 w3 w4 w5 w6 w7 w8 w9 w10 w11 p0 h0 n0 _ T1.heap _
      rw [e1]
      exact ⟨_, rfl, N0, hS.2.2.2.2.1, ne2, rfl⟩
def Qrm1 (Z : State) (w0 : Addr) (w1 : Addr) (w2 : Addr) (w3 : Addr) (w4 : Addr) (w5 : Addr) (w6 : Addr) (w7 : Addr) (w8 : Addr) (w9 : Addr) (w10 : Int32) (w11 : Value) (a1 : Addr) (a2 : Addr) (h0 : Heap) (n0 : Nat) (v : Option Value) (h : Heap) (L : List Loc) : Prop := ∃ x0 : Addr, ∃ xk0 : ClassId, v = none ∧ Fr n0 L ∧ Keep h0 h [a1] ∧ Arv Z h x0 xk0 .byte (0 : Int32) [] (.int (0 : Int32)) ∧ Fld Z h a1 z0 "value" "[B" (.ref x0) ∧ Fld Z h a1 z0 "coder" "B" (.int (0 : Int32))
set_option maxRecDepth 65536 in
set_option maxHeartbeats 40000000 in
theorem rm1 (l : Launch) (Z : State) (a0 : Array Value) (hw : ∀ d ∈ tables_1, d.before a0 Z = true) (hj : ∀ d ∈ jdkStatics_1, d.before a0 Z = true) (w0 : Addr) (w1 : Addr) (w2 : Addr) (w3 : Addr) (w4 : Addr) (w5 : Addr) (w6 : Addr) (w7 : Addr) (w8 : Addr) (w9 : Addr) (w10 : Int32) (w11 : Value) (hS : SF Z w0 w1 w2 w3 w4 w5 w6 w7 w8 w9 w10 w11) (ws : List Jvm.Cond) (a1 : Addr) (a2 : Addr) (h0 : Heap) (n0 : Nat) (O0 : Old Z n0 h0) (PE1 : Exa Z h0 a1 z0) (PF2 : Fld Z h0 a1 z0 "value" "[B" .null) (PF3 : Fld Z h0 a1 z0 "coder" "B" (.int (0 : Int32))) (gn4 : n0 ≤ a1) :
    MetFree l (⟨z0, "<init>", "([CIILjava/lang/Void;)V"⟩ : MethodName) (head1 (Jvm.Cond.code (⟨z0, "<init>", "([CIILjava/lang/Void;)V"⟩ : MethodName) jdk_42_method_149_code 6 none :: ws) ({ frames := 1, cells := 4, slots := 8, locals := 12 } : Room)) (fun a U => a = #[(.ref a1), (.ref a2), (.int (0 : Int32)), (.int (0 : Int32)), .null] ∧ Z.Warmed39 U.vm ∧ U.heap = h0 ∧ CHv Z EL U.vm h0 ∧ ∀ x ∈ ([a1] : List Addr), Safe Z EL U.vm h0 x) (fun _ _ _ _ _ => True) (fun _ U o U' => ∃ v L, o = .returned v ∧ Qrm1 Z w0 w1 w2 w3 w4 w5 w6 w7 w8 w9 w10 w11 a1 a2 h0 n0 v U'.heap L ∧ CHr Z EL U.vm U.heap U'.vm U'.heap ∧ ReturnedEndW U o U' L ({ frames := 1, cells := 4, slots := 8, locals := 12 } : Room).cells ({ frames := 1, cells := 4, slots := 8, locals := 12 } : Room).slots) := by
  refine MetFree.of_bodySF (plainFor_of_name pn101) hisR ?_
  intro p e s m args below meth c s₁ Bd hml0 hP hK
  obtain ⟨rfl, hZ, hh, H0, hsx⟩ := hP
  have hx := Bd.exec
  have hby := Bd.bytes
  have hml : c.maxLocals = 6 := hml0
  have hown : s.vm.findClass z0 = some m.cls := findClass_of_methodNamed Bd.named
  have hnm := (name_of_methodNamed Bd.named Bd.method).1
  have X0 : Stand p l e ({ frames := 1, cells := 4, slots := 8, locals := 12 } : Room) (s.setVm s.vm) m #[(.ref a1), (.ref a2), (.int (0 : Int32)), (.int (0 : Int32)), .null] below meth c s₁ [] 0 0 := Stand.of_body Bd
  have e0 : s₁.heap = h0 := by rw [← hh, Bd.state]; rfl
  have N0 := Fr.nil n0
  have pre0 : ∀ t, Steps p.tables e below (s₁.setTop (mkF m 0 #[.val (.ref a1), .val (.ref a2), .val (.int (0 : Int32)), .val (.int (0 : Int32)), .val .null, .unset] [])) t → Steps p.tables e below (s₁.setTop (entryFrame m #[(.ref a1), (.ref a2), (.int (0 : Int32)), (.int (0 : Int32)), .null] 6)) t := fun t k => castTop (ef100 m a1 a2 (0 : Int32) (0 : Int32)) k
  have hS0 : s.Since s.vm h0.size := (State.WarmedH.refl s).since _
  have C0 : CHr Z EL s.vm h0 s.vm h0 := CHr.refl H0
  obtain ⟨T1, X1, e1, st1⟩ := initO X0 hx hZ hown (hw _ m24) (hw _ m25) (hw _ m26) e0 (g := (mkF m 1 #[.val (.ref a1), .val (.ref a2), .val (.int (0 : Int32)), .val (.int (0 : Int32)), .val .null, .unset] [(.ref a1)])) rfl (by rw [hml]; rfl) rfl (hb hby d8_1) (by decide) (W := 0) (by show 2 * 0 + _ ≤ _; exact Nat.le_of_eq rfl) (by decide)
  obtain ⟨sa2, T2, h2, k12, sb2, k2, X2, e2, E2, hS2, hk2, hZ2, hown2, A2, Fc2, Fv2, V2, la2, lb2, Cq2, -, hn2, st2⟩ := ldcCH X1 hx hZ hown (hw _ m39) (own_str hw hj) e1 hS0 (Nat.le_refl _) (own_EW hw hj) (List.mem_of_getElem? (i := 0) rfl) C0.1 (vs := []) (z := (0 : Int32)) ⟨by decide, by decide⟩ (by decide) (by decide) (g := (mkF m 9 #[.val (.ref a1), .val (.ref a2), .val (.int (0 : Int32)), .val (.int (0 : Int32)), .val .null, .unset] [(.ref a1)])) rfl (hb hby d8_9) (n := 0) (by decide) (by decide) (by decide) (by decide)
  have O2 : Old Z n0 h2 := O0.ext E2
  have K2 : Keep h0 h2 [a1] := (Keep.refl h0 [a1]).ext E2
  have C2 := C0.trans Cq2
  obtain ⟨T3, X3, e3, st3⟩ := getF X2 hx hZ2 hown2 (host := "") (Or.inl (hw _ m27)) Via.refl e2 Fv2 (g := (mkF m 11 #[.val (.ref a1), .val (.ref a2), .val (.int (0 : Int32)), .val (.int (0 : Int32)), .val .null, .unset] [(.ref sa2), (.ref a1)])) rfl rfl (hb hby d8_11)
  have f4 : Fld Z h2 a1 z0 "value" "[B" .null := (PF2.ext E2)
  have f5 : Exa Z h2 a1 z0 := (PE1.ext E2)
  have f6 : Safe Z EL T2.vm h2 a1 := (CHr.safe Cq2 PE1.lt (hsx _ (List.mem_of_getElem? (i := 0) rfl)))
  obtain ⟨T7, h7, L'7, X7, e7, W7, Fw7, O7, K7, N7, st7⟩ := own_put X3 hx hZ2 hown2 (host := "") (Or.inl (hw _ m27)) Via.refl e3 O2 K2 N0 gn4 (Or.inl (List.mem_of_getElem? (i := 0) rfl)) f4 f5 (Or.inr ⟨(hw _ m28), rfl, hnm⟩) (hw _ m15) (ty := (.array .byte)) (by decide) rfl rfl (g := (mkF m 14 #[.val (.ref a1), .val (.ref a2), .val (.int (0 : Int32)), .val (.int (0 : Int32)), .val .null, .unset] [(.ref sb2), (.ref a1)])) rfl rfl (hb hby d8_14)
  have sf7 := f6
  have C7 := C2.trans (CHr.wr W7 sf7 C2.1)
  obtain ⟨sa8, T8, h8, k18, sb8, k8, X8, e8, E8, hS8, hk8, hZ8, hown8, A8, Fc8, Fv8, V8, la8, lb8, Cq8, -, hn8, st8⟩ := ldcCH X7 hx hZ2 hown2 (hw _ m39) (own_str hw hj) e7 hS2 (Nat.le_trans hk2 (Nat.le_of_eq W7.size.symm)) (own_EW hw hj) (List.mem_of_getElem? (i := 0) rfl) C7.1 (vs := []) (z := (0 : Int32)) ⟨by decide, by decide⟩ (by decide) (by decide) (g := (mkF m 18 #[.val (.ref a1), .val (.ref a2), .val (.int (0 : Int32)), .val (.int (0 : Int32)), .val .null, .unset] [(.ref a1)])) rfl (hb hby d8_18) (n := 0) (by decide) (by decide) (by decide) (by decide)
  have O8 : Old Z n0 h8 := O7.ext E8
  have K8 : Keep h0 h8 [a1] := K7.ext E8
  have C8 := C7.trans Cq8
  obtain ⟨T9, X9, e9, st9⟩ := getF X8 hx hZ8 hown8 (host := "") (Or.inl (hw _ m29)) Via.refl e8 Fc8 (g := (mkF m 20 #[.val (.ref a1), .val (.ref a2), .val (.int (0 : Int32)), .val (.int (0 : Int32)), .val .null, .unset] [(.ref sa8), (.ref a1)])) rfl rfl (hb hby d8_20)
  have f10 : Fld Z h8 a1 z0 "coder" "B" (.int (0 : Int32)) := (((PF3.ext E2).other W7 (Or.inr (slot_ne (Or.inr (hw _ m30)) (Or.inr (hw _ m28)) (by decide) (t := .byte) (t' := (.array .byte)) (by decide) (by decide)))).ext E8)
  have f11 : Exa Z h8 a1 z0 := ((f5.wr W7).ext E8)
  have f12 : Safe Z EL T8.vm h8 a1 := (CHr.safe Cq8 (Nat.lt_of_lt_of_le PE1.lt (Nat.le_trans E2.1 (Nat.le_of_eq W7.size.symm))) (Safe.wr W7 sf7 C2.1 f6))
  obtain ⟨T13, h13, L'13, X13, e13, W13, Fw13, O13, K13, N13, st13⟩ := own_putN X9 hx hZ8 hown8 (hw _ m29) Via.refl e9 O8 K8 N7 gn4 (Or.inl (List.mem_of_getElem? (i := 0) rfl)) f10 f11 (Or.inr ⟨(hw _ m30), rfl, hnm⟩) (hw _ m15) (ty := .byte) (v' := (.int (0 : Int32))) (by decide) rfl (by decide) (g := (mkF m 23 #[.val (.ref a1), .val (.ref a2), .val (.int (0 : Int32)), .val (.int (0 : Int32)), .val .null, .unset] [(.int (0 : Int32)), (.ref a1)])) rfl rfl (hb hby d8_23)
  have sf13 := f12
  have C13 := C8.trans (CHr.wr W13 sf13 C8.1)
  have f14 : Arv Z h13 sb2 k2 .byte (0 : Int32) [] (.int (0 : Int32)) := (((V2.other W7 (Ne.symm (Exa.neArv f5 V2 (hw _ m15)))).ext E8).other W13 (Ne.symm (Exa.neArv f5 V2 (hw _ m15))))
  have f15 : Fld Z h13 a1 z0 "value" "[B" (.ref sb2) := ((Fw7.ext E8).other W13 (Or.inr (slot_ne (Or.inr (hw _ m28)) (Or.inr (hw _ m30)) (by decide) (t := (.array .byte)) (t' := .byte) (by decide) (by decide))))
  obtain ⟨fs, hr, hrun, hended, hRW⟩ := X13.leaveW hS8 (by rw [e13]; exact (Nat.le_trans hk8 (Nat.le_of_eq W13.size.symm))) (v := none) (fun _ => rfl)
  refine ⟨_, _, pre0 _ ?_, hrun, hended, _, _, rfl, ?_, ?_, hRW⟩
  · show Steps p.tables e below (s₁.setTop (mkF m 0 #[.val (.ref a1), .val (.ref a2), .val (.int (0 : Int32)), .val (.int (0 : Int32)), .val .null, .unset] [])) _
    refine XS.aloadN X0.here hx rfl (hb hby d8_0) rfl rfl ?_
    refine st1 _ ?_
    refine XS.iloadN X1.here hx rfl (hb hby d8_4) rfl ?_
    refine XS.ifNo X1.here hx rfl (hb hby d8_5) rfl ((if0 _ _).trans (teq (by decide : (0 : Int32) = (0 : Int32))).2) ?_
    show Steps p.tables e below (T1.setTop (mkF m 8 #[.val (.ref a1), .val (.ref a2), .val (.int (0 : Int32)), .val (.int (0 : Int32)), .val .null, .unset] [])) _
    refine XS.aloadN X1.here hx rfl (hb hby d8_8) rfl rfl ?_
    refine st2 _ ?_
    refine st3 _ ?_
    refine st7 _ ?_
    show Steps p.tables e below (T7.setTop (mkF m 17 #[.val (.ref a1), .val (.ref a2), .val (.int (0 : Int32)), .val (.int (0 : Int32)), .val .null, .unset] [])) _
    refine XS.aloadN X7.here hx rfl (hb hby d8_17) rfl rfl ?_
    refine st8 _ ?_
    refine st9 _ ?_
    refine st13 _ ?_
    show Steps p.tables e below (T13.setTop (mkF m 26 #[.val (.ref a1), .val (.ref a2), .val (.int (0 : Int32)), .val (.int (0 : Int32)), .val .null, .unset] [])) _
    exact X13.returnOut hx Bd.returns (hb hby d8_26) hr
  · show Qrm1 Z w0 w1 w2 w3 w4 w5 w6 w7 w8 w9 w10 w11 a1 a2 h0 n0 _ T13.heap _
    rw [e13]
    exact ⟨sb2, k2, rfl, N13, K13, f14, f15, Fw13⟩
  · show CHr Z EL _ _ T13.vm T13.heap
    exact own_chr (by rw [← hh]) e13 (C13.trans (CHv.at X13 hZ8 (own_EW hw hj) C13.1))
def Qrm2 (Z : State) (w0 : Addr) (w1 : Addr) (w2 : Addr) (w3 : Addr) (w4 : Addr) (w5 : Addr) (w6 : Addr) (w7 : Addr) (w8 : Addr) (w9 : Addr) (w10 : Int32) (w11 : Value) (a1 : Addr) (a2 : Addr) (ck3 : ClassId) (h0 : Heap) (n0 : Nat) (v : Option Value) (h : Heap) (L : List Loc) : Prop := ∃ x0 : Addr, ∃ xk0 : ClassId, v = none ∧ Fr n0 L ∧ Keep h0 h [a1] ∧ Arv Z h x0 xk0 .byte (0 : Int32) [] (.int (0 : Int32)) ∧ Fld Z h a1 z0 "value" "[B" (.ref x0) ∧ Fld Z h a1 z0 "coder" "B" (.int (0 : Int32))
set_option maxRecDepth 65536 in
set_option maxHeartbeats 40000000 in
theorem rm2 (l : Launch) (Z : State) (a0 : Array Value) (hw : ∀ d ∈ tables_1, d.before a0 Z = true) (hj : ∀ d ∈ jdkStatics_1, d.before a0 Z = true) (w0 : Addr) (w1 : Addr) (w2 : Addr) (w3 : Addr) (w4 : Addr) (w5 : Addr) (w6 : Addr) (w7 : Addr) (w8 : Addr) (w9 : Addr) (w10 : Int32) (w11 : Value) (hS : SF Z w0 w1 w2 w3 w4 w5 w6 w7 w8 w9 w10 w11) (ws : List Jvm.Cond) (a1 : Addr) (a2 : Addr) (ck3 : ClassId) (h0 : Heap) (n0 : Nat) (O0 : Old Z n0 h0) (PE1 : Exa Z h0 a1 z0) (PF2 : Fld Z h0 a1 z0 "value" "[B" .null) (PF3 : Fld Z h0 a1 z0 "coder" "B" (.int (0 : Int32))) (PV4 : Arv Z h0 a2 ck3 .char (0 : Int32) [] (.int (0 : Int32))) (gn5 : n0 ≤ a1) :
    MetFree l (⟨z0, "<init>", "([C)V"⟩ : MethodName) (head1 (Jvm.Cond.code (⟨z0, "<init>", "([C)V"⟩ : MethodName) jdk_42_method_3_code 2 none :: ws) ({ frames := 2, cells := 4, slots := 8, locals := 29 } : Room)) (fun a U => a = #[(.ref a1), (.ref a2)] ∧ Z.Warmed39 U.vm ∧ U.heap = h0 ∧ CHv Z EL U.vm h0 ∧ ∀ x ∈ ([a1] : List Addr), Safe Z EL U.vm h0 x) (fun _ _ _ _ _ => True) (fun _ U o U' => ∃ v L, o = .returned v ∧ Qrm2 Z w0 w1 w2 w3 w4 w5 w6 w7 w8 w9 w10 w11 a1 a2 ck3 h0 n0 v U'.heap L ∧ CHr Z EL U.vm U.heap U'.vm U'.heap ∧ ReturnedEndW U o U' L ({ frames := 2, cells := 4, slots := 8, locals := 29 } : Room).cells ({ frames := 2, cells := 4, slots := 8, locals := 29 } : Room).slots) := by
  refine MetFree.of_bodySF (plainFor_of_name pn101) hisR ?_
  intro p e s m args below meth c s₁ Bd hml0 hP hK
  obtain ⟨rfl, hZ, hh, H0, hsx⟩ := hP
  have hx := Bd.exec
  have hby := Bd.bytes
  have hml : c.maxLocals = 2 := hml0
  have hown : s.vm.findClass z0 = some m.cls := findClass_of_methodNamed Bd.named
  have hnm := (name_of_methodNamed Bd.named Bd.method).1
  have X0 : Stand p l e ({ frames := 2, cells := 4, slots := 8, locals := 29 } : Room) (s.setVm s.vm) m #[(.ref a1), (.ref a2)] below meth c s₁ [] 0 0 := Stand.of_body Bd
  have e0 : s₁.heap = h0 := by rw [← hh, Bd.state]; rfl
  have N0 := Fr.nil n0
  have pre0 : ∀ t, Steps p.tables e below (s₁.setTop (mkF m 0 #[.val (.ref a1), .val (.ref a2)] [])) t → Steps p.tables e below (s₁.setTop (entryFrame m #[(.ref a1), (.ref a2)] 2)) t := fun t k => castTop (ef106 m a1 a2) k
  have hS0 : s.Since s.vm h0.size := (State.WarmedH.refl s).since _
  have C0 : CHr Z EL s.vm h0 s.vm h0 := CHr.refl H0
  obtain ⟨_, T1, L1, hQ1, hS1, hZ1, hown1, Cq1, X1, st1⟩ := own_specialW X0 hx hZ (W := 0) rfl hown (hw _ m36) (hw _ m37) (hw _ m7) (hw _ m38) (by decide) (rm1 l Z a0 hw hj w0 w1 w2 w3 w4 w5 w6 w7 w8 w9 w10 w11 hS [] a1 a2 h0 n0 O0 PE1 PF2 PF3 gn5) e0 hS0 (Nat.le_refl _) (own_EW hw hj) C0.1 (own_sxS PE1.lt (hsx _ (List.mem_of_getElem? (i := 0) rfl)) own_sx0) (a := a1) (g := (mkF m 6 #[.val (.ref a1), .val (.ref a2)] [.null, (.int (0 : Int32)), (.int (0 : Int32)), (.ref a2), (.ref a1)])) rfl (by rw [hml]; rfl) (argsL := [(.ref a2), (.int (0 : Int32)), (.int (0 : Int32)), .null]) (rest := []) (lenOf pd103 rfl) rfl rfl (by show 2 * 0 + _ ≤ _; exact Nat.le_of_eq rfl) (hb hby d7_6) (by decide) (by decide) (by decide) (by decide)
  obtain ⟨c1_0, k1_1, rfl, N1q, Kq1, q1_0, q1_1, q1_2⟩ := hQ1
  have N1 := Fr.app N0 N1q
  have C1 := C0.trans Cq1
  have O1 : Old Z n0 T1.heap := O0.keep Kq1 (allS gn5 all0)
  have K1 : Keep h0 T1.heap [a1] := (Keep.refl h0 [a1]).trans Kq1 (allS (Or.inl (List.mem_of_getElem? (i := 0) rfl)) all0)
  obtain ⟨fs, hr, hrun, hended, hRW⟩ := X1.leaveW hS1 (by rw [(rfl : T1.heap = T1.heap)]; exact (Nat.le_refl _)) (v := none) (fun _ => rfl)
  refine ⟨_, _, pre0 _ ?_, hrun, hended, _, _, rfl, ?_, ?_, hRW⟩
  · show Steps p.tables e below (s₁.setTop (mkF m 0 #[.val (.ref a1), .val (.ref a2)] [])) _
    refine XS.aloadN X0.here hx rfl (hb hby d7_0) rfl rfl ?_
    refine XS.aloadN X0.here hx rfl (hb hby d7_1) rfl rfl ?_
    refine XS.iconst X0.here hx rfl (hb hby d7_2) ?_
    refine XS.aloadN X0.here hx rfl (hb hby d7_3) rfl rfl ?_
    show Steps p.tables e below (s₁.setTop (mkF m 4 #[.val (.ref a1), .val (.ref a2)] [(.ref a2), (.int (0 : Int32)), (.ref a2), (.ref a1)])) _
    refine own_alen X0 hx hZ e0 PV4 (g := (mkF m 4 #[.val (.ref a1), .val (.ref a2)] [(.ref a2), (.int (0 : Int32)), (.ref a2), (.ref a1)])) rfl rfl (hb hby d7_4) ?_
    refine XS.aconstNull X0.here hx rfl (hb hby d7_5) ?_
    refine st1 _ ?_
    exact X1.returnOut hx Bd.returns (hb hby d7_9) hr
  · show Qrm2 Z w0 w1 w2 w3 w4 w5 w6 w7 w8 w9 w10 w11 a1 a2 ck3 h0 n0 _ T1.heap _
    exact ⟨c1_0, k1_1, rfl, N1, K1, q1_0, q1_1, q1_2⟩
  · show CHr Z EL _ _ T1.vm T1.heap
    exact own_chr (by rw [← hh]) (rfl : T1.heap = T1.heap) (C1.trans (CHv.at X1 hZ1 (own_EW hw hj) C1.1))
def Qrm3 (Z : State) (w0 : Addr) (w1 : Addr) (w2 : Addr) (w3 : Addr) (w4 : Addr) (w5 : Addr) (w6 : Addr) (w7 : Addr) (w8 : Addr) (w9 : Addr) (w10 : Int32) (w11 : Value) (p1 : Int32) (p2 : Int32) (h0 : Heap) (n0 : Nat) (v : Option Value) (h : Heap) (L : List Loc) : Prop := ∃ x0 : Addr, ∃ x1 : Addr, ∃ xk0 : ClassId, v = some (.ref x0) ∧ Fr n0 L ∧ Keep h0 h [] ∧ h0.size ≤ x0 ∧ Exa Z h x0 z0 ∧ Fld Z h x0 z0 "value" "[B" (.ref x1) ∧ Fld Z h x0 z0 "coder" "B" (.int (0 : Int32)) ∧ Arv Z h x1 xk0 .byte (0 : Int32) [] (.int (0 : Int32))
set_option maxRecDepth 65536 in
set_option maxHeartbeats 40000000 in
theorem rm3 (l : Launch) (Z : State) (a0 : Array Value) (hw : ∀ d ∈ tables_1, d.before a0 Z = true) (hj : ∀ d ∈ jdkStatics_1, d.before a0 Z = true) (w0 : Addr) (w1 : Addr) (w2 : Addr) (w3 : Addr) (w4 : Addr) (w5 : Addr) (w6 : Addr) (w7 : Addr) (w8 : Addr) (w9 : Addr) (w10 : Int32) (w11 : Value) (hS : SF Z w0 w1 w2 w3 w4 w5 w6 w7 w8 w9 w10 w11) (ws : List Jvm.Cond) (p1 : Int32) (p2 : Int32) (h0 : Heap) (n0 : Nat) (O0 : Old Z n0 h0) :
    MetFree l (⟨z4, "make", z10⟩ : MethodName) (head1 (Jvm.Cond.code (⟨z4, "make", z10⟩ : MethodName) method_3_code 4 (some (.object z0)) :: ws) ({ frames := 3, cells := 6, slots := 12, locals := 43 } : Room)) (fun a U => a = #[(.int (0 : Int32)), (.int p1), (.int p2)] ∧ Z.Warmed39 U.vm ∧ U.heap = h0 ∧ CHv Z EL U.vm h0 ∧ ∀ x ∈ ([] : List Addr), Safe Z EL U.vm h0 x) (fun _ _ _ _ _ => True) (fun _ U o U' => ∃ v L, o = .returned v ∧ Qrm3 Z w0 w1 w2 w3 w4 w5 w6 w7 w8 w9 w10 w11 p1 p2 h0 n0 v U'.heap L ∧ CHr Z EL U.vm U.heap U'.vm U'.heap ∧ ReturnedEndW U o U' L ({ frames := 3, cells := 6, slots := 12, locals := 43 } : Room).cells ({ frames := 3, cells := 6, slots := 12, locals := 43 } : Room).slots) := by
  refine MetFree.of_bodySF (plainFor_of_name pn54) hisR ?_
  intro p e s m args below meth c s₁ Bd hml0 hP hK
  obtain ⟨rfl, hZ, hh, H0, hsx⟩ := hP
  have hx := Bd.exec
  have hby := Bd.bytes
  have hml : c.maxLocals = 4 := hml0
  have hown : s.vm.findClass z4 = some m.cls := findClass_of_methodNamed Bd.named
  have hnm := (name_of_methodNamed Bd.named Bd.method).1
  have X0 : Stand p l e ({ frames := 3, cells := 6, slots := 12, locals := 43 } : Room) (s.setVm s.vm) m #[(.int (0 : Int32)), (.int p1), (.int p2)] below meth c s₁ [] 0 0 := Stand.of_body Bd
  have e0 : s₁.heap = h0 := by rw [← hh, Bd.state]; rfl
  have N0 := Fr.nil n0
  have pre0 : ∀ t, Steps p.tables e below (s₁.setTop (mkF m 0 #[.val (.int (0 : Int32)), .val (.int p1), .val (.int p2), .unset] [])) t → Steps p.tables e below (s₁.setTop (entryFrame m #[(.int (0 : Int32)), (.int p1), (.int p2)] 4)) t := fun t k => castTop (ef111 m (0 : Int32) p1 p2) k
  have hS0 : s.Since s.vm h0.size := (State.WarmedH.refl s).since _
  have C0 : CHr Z EL s.vm h0 s.vm h0 := CHr.refl H0
  obtain ⟨T1, h1, b1, X1, e1, E1, A1, D1, g1, O1, K1, st1⟩ := own_newO X0 hx hZ hown (hw _ m31) (hw _ m15) (hw _ m7) e0 O0 (Keep.refl h0 []) (g := (mkF m 4 #[.val (.int (0 : Int32)), .val (.int p1), .val (.int p2), .unset] [])) rfl (hb hby d1_4) (by decide) (by decide)
  have C1 := C0.trans (CHr.ext E1 C0.1)
  have F1_1 : Fld Z h1 b1 z0 "value" "[B" .null := D1 (Or.inr (hw _ m28)) (ty := (.array .byte)) (by decide)
  have F1_2 : Fld Z h1 b1 z0 "coder" "B" (.int (0 : Int32)) := D1 (Or.inr (hw _ m30)) (ty := .byte) (by decide)
  obtain ⟨T2, h2, k2, b2, X2, e2, E2, V2, g2, O2, K2, st2⟩ := own_newP X1 hx hZ (aty := .char) (ty := .char) (dv := (.int (0 : Int32))) (vs := []) (cap := 0) rfl rfl rfl (hw _ m32) e1 O1 K1 (g := (mkF m 9 #[.val (.int (0 : Int32)), .val (.int p1), .val (.int p2), .unset] [(.int (0 : Int32)), (.ref b1), (.ref b1)])) rfl (hb hby d1_9) rfl (by decide) (by decide) (by decide) (by decide) (by decide)
  have C2 := C1.trans (CHr.ext E2 C1.1)
  have f4 : Exa Z h2 b1 z0 := (A1.ext E2)
  have f5 : Fld Z h2 b1 z0 "value" "[B" .null := (F1_1.ext E2)
  have f6 : Fld Z h2 b1 z0 "coder" "B" (.int (0 : Int32)) := (F1_2.ext E2)
  have f7 : Safe Z EL s.vm h2 b1 := (Safe.ext E2 C1.1 (Safe.ext E1 C0.1 (Safe.new g1)))
  obtain ⟨_, T3, L3, hQ3, hS3, hZ3, hown3, Cq3, X3, st3⟩ := own_specialW X2 hx hZ (W := 1) rfl hown (hw _ m33) (hw _ m34) (hw _ m7) (hw _ m35) (by decide) (rm2 l Z a0 hw hj w0 w1 w2 w3 w4 w5 w6 w7 w8 w9 w10 w11 hS [] b1 b2 k2 h2 n0 O2 f4 f5 f6 V2 (Nat.le_trans (own_old_le O0) g1)) e2 hS0 (Nat.le_trans (Nat.le_refl _) (Nat.le_trans E1.1 E2.1)) (own_EW hw hj) C2.1 (own_sxS (Nat.lt_of_lt_of_le A1.lt E2.1) f7 own_sx0) (a := b1) (g := (mkF m 11 #[.val (.int (0 : Int32)), .val (.int p1), .val (.int p2), .unset] [(.ref b2), (.ref b1), (.ref b1)])) rfl (by rw [hml]; rfl) (argsL := [(.ref b2)]) (rest := [(.ref b1)]) (lenOf pd108 rfl) rfl rfl (by show 2 * 0 + _ ≤ _; exact Nat.le_of_eq rfl) (hb hby d1_11) (by decide) (by decide) (by decide) (by decide)
  obtain ⟨c3_0, k3_1, rfl, N3q, Kq3, q3_0, q3_1, q3_2⟩ := hQ3
  have N3 := Fr.app N0 N3q
  have C3 := C2.trans Cq3
  have O3 : Old Z n0 T3.heap := O2.keep Kq3 (allS (Nat.le_trans (own_old_le O0) g1) all0)
  have K3 : Keep h0 T3.heap [] := K2.trans Kq3 (allS (Or.inr (Nat.le_trans (Keep.refl h0 []).1 g1)) all0)
  have f8 : Exa Z T3.heap b1 z0 := (f4.keep Kq3)
  obtain ⟨fs, hr, hrun, hended, hRW⟩ := X3.leaveW hS3 (by rw [(rfl : T3.heap = T3.heap)]; exact (Nat.le_refl _)) (v := some (.ref b1)) (fun h => by rw [Bd.returns] at h; cases h)
  refine ⟨_, _, pre0 _ ?_, hrun, hended, _, _, rfl, ?_, ?_, hRW⟩
  · show Steps p.tables e below (s₁.setTop (mkF m 0 #[.val (.int (0 : Int32)), .val (.int p1), .val (.int p2), .unset] [])) _
    refine XS.iloadN X0.here hx rfl (hb hby d1_0) rfl ?_
    refine XS.ifNo X0.here hx rfl (hb hby d1_1) rfl ((if0 _ _).trans (teq (by decide : (0 : Int32) = (0 : Int32))).2) ?_
    refine st1 _ ?_
    refine XS.dup X1.here hx rfl (hb hby d1_7) rfl rfl ?_
    show Steps p.tables e below (T1.setTop (mkF m 8 #[.val (.int (0 : Int32)), .val (.int p1), .val (.int p2), .unset] [(.ref b1), (.ref b1)])) _
    refine XS.iconst X1.here hx rfl (hb hby d1_8) ?_
    refine st2 _ ?_
    refine st3 _ ?_
    exact retOut X3 hx Bd.returns rfl (Or.inr (Or.inr (Or.inr (Or.inr ⟨rfl, rfl, rfl⟩)))) (hb hby d1_14) hr
  · show Qrm3 Z w0 w1 w2 w3 w4 w5 w6 w7 w8 w9 w10 w11 p1 p2 h0 n0 _ T3.heap _
    exact ⟨b1, c3_0, k3_1, rfl, N3, K3, (Nat.le_trans (Keep.refl h0 []).1 g1), f8, q3_1, q3_2, q3_0⟩
  · show CHr Z EL _ _ T3.vm T3.heap
    exact own_chr (by rw [← hh]) (rfl : T3.heap = T3.heap) (C3.trans (CHv.at X3 hZ3 (own_EW hw hj) C3.1))
def Qrm4 (Z : State) (w0 : Addr) (w1 : Addr) (w2 : Addr) (w3 : Addr) (w4 : Addr) (w5 : Addr) (w6 : Addr) (w7 : Addr) (w8 : Addr) (w9 : Addr) (w10 : Int32) (w11 : Value) (h0 : Heap) (n0 : Nat) (v : Option Value) (h : Heap) (L : List Loc) : Prop := v = some (.ref w8) ∧ Fr n0 L ∧ h = h0
set_option maxRecDepth 65536 in
set_option maxHeartbeats 40000000 in
theorem rm4 (l : Launch) (Z : State) (a0 : Array Value) (hw : ∀ d ∈ tables_1, d.before a0 Z = true) (hj : ∀ d ∈ jdkStatics_1, d.before a0 Z = true) (w0 : Addr) (w1 : Addr) (w2 : Addr) (w3 : Addr) (w4 : Addr) (w5 : Addr) (w6 : Addr) (w7 : Addr) (w8 : Addr) (w9 : Addr) (w10 : Int32) (w11 : Value) (hS : SF Z w0 w1 w2 w3 w4 w5 w6 w7 w8 w9 w10 w11) (ws : List Jvm.Cond) (h0 : Heap) (n0 : Nat) (O0 : Old Z n0 h0) :
    MetFree l (⟨z4, "typeOf", "(I)Lcom/example/key3/key3/cql/Token$Type;"⟩ : MethodName) (head1 (Jvm.Cond.code (⟨z4, "typeOf", "(I)Lcom/example/key3/key3/cql/Token$Type;"⟩ : MethodName) method_2_code 1 (some (.object z2)) :: ws) ({ frames := 0, cells := 0, slots := 0, locals := 0 } : Room)) (fun a U => a = #[(.int (8 : Int32))] ∧ Z.Warmed39 U.vm ∧ U.heap = h0) (fun _ _ _ _ _ => True) (fun _ U o U' => ∃ v L, o = .returned v ∧ Qrm4 Z w0 w1 w2 w3 w4 w5 w6 w7 w8 w9 w10 w11 h0 n0 v U'.heap L ∧ FrameEnd U o U' L ({ frames := 0, cells := 0, slots := 0, locals := 0 } : Room).cells ({ frames := 0, cells := 0, slots := 0, locals := 0 } : Room).slots) := by
  refine MetFree.of_bodySF (plainFor_of_name pn54) hisR ?_
  intro p e s m args below meth c s₁ Bd hml0 hP hK
  obtain ⟨rfl, hZ, hh⟩ := hP
  have hx := Bd.exec
  have hby := Bd.bytes
  have hml : c.maxLocals = 1 := hml0
  have hown : s.vm.findClass z4 = some m.cls := findClass_of_methodNamed Bd.named
  have hnm := (name_of_methodNamed Bd.named Bd.method).1
  have X0 : Stand p l e ({ frames := 0, cells := 0, slots := 0, locals := 0 } : Room) s m #[(.int (8 : Int32))] below meth c s₁ [] 0 0 := Stand.of_body Bd
  have e0 : s₁.heap = h0 := by rw [← hh, Bd.state]; rfl
  have N0 := Fr.nil n0
  have pre0 : ∀ t, Steps p.tables e below (s₁.setTop (mkF m 0 #[.val (.int (8 : Int32))] [])) t → Steps p.tables e below (s₁.setTop (entryFrame m #[(.int (8 : Int32))] 1)) t := fun t k => castTop (ef55 m (8 : Int32)) k
  obtain ⟨T1, X1, e1, st1⟩ := getS2 X0 hx hZ hown (host := "") (Or.inl (hw _ m79)) Via.refl e0 (hS.2.2.2.2.2.2.2.2.2.2.2.2.2.2.2.2.2.2.2.2.2.2.2.2.1.ext O0.2) (g := (mkF m 79 #[.val (.int (8 : Int32))] [])) rfl (hb hby d9_79)
  obtain ⟨fs, hr, hrun, hended, hW, hsame⟩ := X1.leave (v := some (.ref w8)) (fun h => by rw [Bd.returns] at h; cases h)
  refine ⟨_, _, pre0 _ ?_, hrun, hended, _, _, rfl, ?_, ⟨_, rfl⟩, hW, hsame.mono (by decide) (by decide)⟩
  · show Steps p.tables e below (s₁.setTop (mkF m 0 #[.val (.int (8 : Int32))] [])) _
    refine XS.iloadN X0.here hx rfl (hb hby d9_0) rfl ?_
    refine XS.ifYes X0.here hx rfl (pc0 := 1) (pc' := 8) rfl (hb hby d9_1) rfl ((if0 _ _).trans (feq (by decide : ¬ ((8 : Int32) = (0 : Int32)))).2) (by decide) (by decide) ?_
    refine XS.iloadN X0.here hx rfl (hb hby d9_8) rfl ?_
    refine XS.iconst X0.here hx rfl (hb hby d9_9) ?_
    show Steps p.tables e below (s₁.setTop (mkF m 10 #[.val (.int (8 : Int32))] [(.int (1 : Int32)), (.int (8 : Int32))])) _
    refine XS.icmpYes X0.here hx rfl (pc0 := 10) (pc' := 17) rfl (hb hby d9_10) rfl (feq (by decide : ¬ ((8 : Int32) = (1 : Int32)))).2 (by decide) (by decide) ?_
    refine XS.iloadN X0.here hx rfl (hb hby d9_17) rfl ?_
    refine XS.iconst X0.here hx rfl (hb hby d9_18) ?_
    refine XS.icmpYes X0.here hx rfl (pc0 := 19) (pc' := 26) rfl (hb hby d9_19) rfl (feq (by decide : ¬ ((8 : Int32) = (2 : Int32)))).2 (by decide) (by decide) ?_
    show Steps p.tables e below (s₁.setTop (mkF m 26 #[.val (.int (8 : Int32))] [])) _
    refine XS.iloadN X0.here hx rfl (hb hby d9_26) rfl ?_
    refine XS.iconst X0.here hx rfl (hb hby d9_27) ?_
    refine XS.icmpYes X0.here hx rfl (pc0 := 28) (pc' := 35) rfl (hb hby d9_28) rfl (feq (by decide : ¬ ((8 : Int32) = (3 : Int32)))).2 (by decide) (by decide) ?_
    refine XS.iloadN X0.here hx rfl (hb hby d9_35) rfl ?_
    show Steps p.tables e below (s₁.setTop (mkF m 36 #[.val (.int (8 : Int32))] [(.int (8 : Int32))])) _
    refine XS.iconst X0.here hx rfl (hb hby d9_36) ?_
    refine XS.icmpYes X0.here hx rfl (pc0 := 37) (pc' := 44) rfl (hb hby d9_37) rfl (feq (by decide : ¬ ((8 : Int32) = (4 : Int32)))).2 (by decide) (by decide) ?_
    refine XS.iloadN X0.here hx rfl (hb hby d9_44) rfl ?_
    refine XS.iconst X0.here hx rfl (hb hby d9_45) ?_
    show Steps p.tables e below (s₁.setTop (mkF m 46 #[.val (.int (8 : Int32))] [(.int (5 : Int32)), (.int (8 : Int32))])) _
    refine XS.icmpYes X0.here hx rfl (pc0 := 46) (pc' := 53) rfl (hb hby d9_46) rfl (feq (by decide : ¬ ((8 : Int32) = (5 : Int32)))).2 (by decide) (by decide) ?_
    refine XS.iloadN X0.here hx rfl (hb hby d9_53) rfl ?_
    refine XS.bipush X0.here hx rfl (hb hby d9_54) ?_
    refine XS.icmpYes X0.here hx rfl (pc0 := 56) (pc' := 63) rfl (hb hby d9_56) rfl (feq (by decide : ¬ ((8 : Int32) = (6 : Int32)))).2 (by decide) (by decide) ?_
    show Steps p.tables e below (s₁.setTop (mkF m 63 #[.val (.int (8 : Int32))] [])) _
    refine XS.iloadN X0.here hx rfl (hb hby d9_63) rfl ?_
    refine XS.bipush X0.here hx rfl (hb hby d9_64) ?_
    refine XS.icmpYes X0.here hx rfl (pc0 := 66) (pc' := 73) rfl (hb hby d9_66) rfl (feq (by decide : ¬ ((8 : Int32) = (7 : Int32)))).2 (by decide) (by decide) ?_
    refine XS.iloadN X0.here hx rfl (hb hby d9_73) rfl ?_
    show Steps p.tables e below (s₁.setTop (mkF m 74 #[.val (.int (8 : Int32))] [(.int (8 : Int32))])) _
    refine XS.bipush X0.here hx rfl (hb hby d9_74) ?_
    refine XS.icmpNo X0.here hx rfl (hb hby d9_76) rfl (teq (by decide : (8 : Int32) = (8 : Int32))).2 ?_
    refine st1 _ ?_
    exact retOut X1 hx Bd.returns rfl (Or.inr (Or.inr (Or.inr (Or.inr ⟨rfl, rfl, rfl⟩)))) (hb hby d9_82) hr
  · show Qrm4 Z w0 w1 w2 w3 w4 w5 w6 w7 w8 w9 w10 w11 h0 n0 _ T1.heap _
    rw [e1]
    exact ⟨rfl, N0, rfl⟩
def Qrm5 (Z : State) (w0 : Addr) (w1 : Addr) (w2 : Addr) (w3 : Addr) (w4 : Addr) (w5 : Addr) (w6 : Addr) (w7 : Addr) (w8 : Addr) (w9 : Addr) (w10 : Int32) (w11 : Value) (a1 : Addr) (h0 : Heap) (n0 : Nat) (v : Option Value) (h : Heap) (L : List Loc) : Prop := v = none ∧ Fr n0 L ∧ h = h0
set_option maxRecDepth 65536 in
set_option maxHeartbeats 40000000 in
theorem rm5 (l : Launch) (Z : State) (a0 : Array Value) (hw : ∀ d ∈ tables_1, d.before a0 Z = true) (hj : ∀ d ∈ jdkStatics_1, d.before a0 Z = true) (w0 : Addr) (w1 : Addr) (w2 : Addr) (w3 : Addr) (w4 : Addr) (w5 : Addr) (w6 : Addr) (w7 : Addr) (w8 : Addr) (w9 : Addr) (w10 : Int32) (w11 : Value) (hS : SF Z w0 w1 w2 w3 w4 w5 w6 w7 w8 w9 w10 w11) (ws : List Jvm.Cond) (a1 : Addr) (h0 : Heap) (n0 : Nat) (O0 : Old Z n0 h0) :
    MetFree l (⟨z11, "<init>", "()V"⟩ : MethodName) (head1 (Jvm.Cond.code (⟨z11, "<init>", "()V"⟩ : MethodName) jdk_30_method_1_code 1 none :: ws) ({ frames := 1, cells := 0, slots := 0, locals := 12 } : Room)) (fun a U => a = #[(.ref a1)] ∧ Z.Warmed39 U.vm ∧ U.heap = h0) (fun _ _ _ _ _ => True) (fun _ U o U' => ∃ v L, o = .returned v ∧ Qrm5 Z w0 w1 w2 w3 w4 w5 w6 w7 w8 w9 w10 w11 a1 h0 n0 v U'.heap L ∧ FrameEnd U o U' L ({ frames := 1, cells := 0, slots := 0, locals := 12 } : Room).cells ({ frames := 1, cells := 0, slots := 0, locals := 12 } : Room).slots) := by
  refine MetFree.of_bodySF (plainFor_of_name pn139) hisR ?_
  intro p e s m args below meth c s₁ Bd hml0 hP hK
  obtain ⟨rfl, hZ, hh⟩ := hP
  have hx := Bd.exec
  have hby := Bd.bytes
  have hml : c.maxLocals = 1 := hml0
  have hown : s.vm.findClass z11 = some m.cls := findClass_of_methodNamed Bd.named
  have hnm := (name_of_methodNamed Bd.named Bd.method).1
  have X0 : Stand p l e ({ frames := 1, cells := 0, slots := 0, locals := 12 } : Room) s m #[(.ref a1)] below meth c s₁ [] 0 0 := Stand.of_body Bd
  have e0 : s₁.heap = h0 := by rw [← hh, Bd.state]; rfl
  have N0 := Fr.nil n0
  have pre0 : ∀ t, Steps p.tables e below (s₁.setTop (mkF m 0 #[.val (.ref a1)] [])) t → Steps p.tables e below (s₁.setTop (entryFrame m #[(.ref a1)] 1)) t := fun t k => castTop (ef138 m a1) k
  obtain ⟨T1, X1, e1, st1⟩ := initO X0 hx hZ hown (hw _ m59) (hw _ m25) (hw _ m26) e0 (g := (mkF m 1 #[.val (.ref a1)] [(.ref a1)])) rfl (by rw [hml]; rfl) rfl (hb hby d11_1) (by decide) (W := 0) (by show 2 * 0 + _ ≤ _; exact Nat.le_of_eq rfl) (by decide)
  obtain ⟨fs, hr, hrun, hended, hW, hsame⟩ := X1.leave (v := none) (fun _ => rfl)
  refine ⟨_, _, pre0 _ ?_, hrun, hended, _, _, rfl, ?_, ⟨_, rfl⟩, hW, hsame.mono (by decide) (by decide)⟩
  · show Steps p.tables e below (s₁.setTop (mkF m 0 #[.val (.ref a1)] [])) _
    refine XS.aloadN X0.here hx rfl (hb hby d11_0) rfl rfl ?_
    refine st1 _ ?_
    exact X1.returnOut hx Bd.returns (hb hby d11_4) hr
  · show Qrm5 Z w0 w1 w2 w3 w4 w5 w6 w7 w8 w9 w10 w11 a1 h0 n0 _ T1.heap _
    rw [e1]
    exact ⟨rfl, N0, rfl⟩
def Qrm6 (Z : State) (w0 : Addr) (w1 : Addr) (w2 : Addr) (w3 : Addr) (w4 : Addr) (w5 : Addr) (w6 : Addr) (w7 : Addr) (w8 : Addr) (w9 : Addr) (w10 : Int32) (w11 : Value) (p1 : Int32) (p2 : Int32) (a3 : Addr) (a4 : Addr) (h0 : Heap) (n0 : Nat) (v : Option Value) (h : Heap) (L : List Loc) : Prop := v = none ∧ Fr n0 L ∧ Keep h0 h [a3] ∧ Fld Z h a3 z1 "type" z3 (.ref w8) ∧ Fld Z h a3 z1 "text" z8 (.ref a4) ∧ Fld Z h a3 z1 "line" "I" (.int p1) ∧ Fld Z h a3 z1 "column" "I" (.int p2)
set_option maxRecDepth 65536 in
set_option maxHeartbeats 40000000 in
theorem rm6 (l : Launch) (Z : State) (a0 : Array Value) (hw : ∀ d ∈ tables_1, d.before a0 Z = true) (hj : ∀ d ∈ jdkStatics_1, d.before a0 Z = true) (w0 : Addr) (w1 : Addr) (w2 : Addr) (w3 : Addr) (w4 : Addr) (w5 : Addr) (w6 : Addr) (w7 : Addr) (w8 : Addr) (w9 : Addr) (w10 : Int32) (w11 : Value) (hS : SF Z w0 w1 w2 w3 w4 w5 w6 w7 w8 w9 w10 w11) (ws : List Jvm.Cond) (p1 : Int32) (p2 : Int32) (a3 : Addr) (a4 : Addr) (h0 : Heap) (n0 : Nat) (O0 : Old Z n0 h0) (PE1 : Exa Z h0 a3 z1) (PF2 : Fld Z h0 a3 z1 "type" z3 .null) (PF3 : Fld Z h0 a3 z1 "text" z8 .null) (PF4 : Fld Z h0 a3 z1 "line" "I" (.int (0 : Int32))) (PF5 : Fld Z h0 a3 z1 "column" "I" (.int (0 : Int32))) (gn6 : n0 ≤ a3) :
    MetFree l (⟨z1, "<init>", "(Lcom/example/key3/key3/cql/Token$Type;Ljava/lang/String;II)V"⟩ : MethodName) (head1 (Jvm.Cond.code (⟨z1, "<init>", "(Lcom/example/key3/key3/cql/Token$Type;Ljava/lang/String;II)V"⟩ : MethodName) prog_65_method_1_code 5 none :: ws) ({ frames := 2, cells := 0, slots := 0, locals := 24 } : Room)) (fun a U => a = #[(.ref a3), (.ref w8), (.ref a4), (.int p1), (.int p2)] ∧ Z.Warmed39 U.vm ∧ U.heap = h0) (fun _ _ _ _ _ => True) (fun _ U o U' => ∃ v L, o = .returned v ∧ Qrm6 Z w0 w1 w2 w3 w4 w5 w6 w7 w8 w9 w10 w11 p1 p2 a3 a4 h0 n0 v U'.heap L ∧ FrameEnd U o U' L ({ frames := 2, cells := 0, slots := 0, locals := 24 } : Room).cells ({ frames := 2, cells := 0, slots := 0, locals := 24 } : Room).slots) := by
  refine MetFree.of_bodySF (plainFor_of_name pn162) hisR ?_
  intro p e s m args below meth c s₁ Bd hml0 hP hK
  obtain ⟨rfl, hZ, hh⟩ := hP
  have hx := Bd.exec
  have hby := Bd.bytes
  have hml : c.maxLocals = 5 := hml0
  have hown : s.vm.findClass z1 = some m.cls := findClass_of_methodNamed Bd.named
  have hnm := (name_of_methodNamed Bd.named Bd.method).1
  have X0 : Stand p l e ({ frames := 2, cells := 0, slots := 0, locals := 24 } : Room) s m #[(.ref a3), (.ref w8), (.ref a4), (.int p1), (.int p2)] below meth c s₁ [] 0 0 := Stand.of_body Bd
  have e0 : s₁.heap = h0 := by rw [← hh, Bd.state]; rfl
  have N0 := Fr.nil n0
  have pre0 : ∀ t, Steps p.tables e below (s₁.setTop (mkF m 0 #[.val (.ref a3), .val (.ref w8), .val (.ref a4), .val (.int p1), .val (.int p2)] [])) t → Steps p.tables e below (s₁.setTop (entryFrame m #[(.ref a3), (.ref w8), (.ref a4), (.int p1), (.int p2)] 5)) t := fun t k => castTop (ef161 m a3 w8 a4 p1 p2) k
  obtain ⟨_, T1, L1, hQ1, X1, st1⟩ := own_special X0 hx hZ (W := 0) rfl hown (hw _ m54) (hw _ m55) (hw _ m57) (hw _ m58) (by decide) (rm5 l Z a0 hw hj w0 w1 w2 w3 w4 w5 w6 w7 w8 w9 w10 w11 hS [] a3 h0 n0 O0) e0 (a := a3) (g := (mkF m 1 #[.val (.ref a3), .val (.ref w8), .val (.ref a4), .val (.int p1), .val (.int p2)] [(.ref a3)])) rfl (by rw [hml]; rfl) (argsL := []) (rest := []) (lenOf pd142 rfl) rfl rfl (by show 2 * 0 + _ ≤ _; exact Nat.le_of_eq rfl) (hb hby d10_1) (by decide) (by decide) (by decide) (by decide)
  obtain ⟨rfl, N1q, e1⟩ := hQ1
  have N1 := Fr.app N0 N1q
  have e1' : T1.heap = h0 := e1
  obtain ⟨T2, h2, L'2, X2, e2, W2, Fw2, O2, K2, N2, st2⟩ := own_put X1 hx hZ hown (host := "") (Or.inl (hw _ m60)) Via.refl e1' O0 (Keep.refl h0 [a3]) N1 gn6 (Or.inl (List.mem_of_getElem? (i := 0) rfl)) PF2 PE1 (Or.inr ⟨(hw _ m61), rfl, hnm⟩) (hw _ m43) (ty := (.object z2)) (by decide) rfl rfl (g := (mkF m 6 #[.val (.ref a3), .val (.ref w8), .val (.ref a4), .val (.int p1), .val (.int p2)] [(.ref w8), (.ref a3)])) rfl rfl (hb hby d10_6)
  have f3 : Fld Z h2 a3 z1 "text" z8 .null := (PF3.other W2 (Or.inr (slot_ne (Or.inr (hw _ m63)) (Or.inr (hw _ m61)) (by decide) (t := (.object z0)) (t' := (.object z2)) (by decide) (by decide))))
  have f4 : Exa Z h2 a3 z1 := (PE1.wr W2)
  obtain ⟨T5, h5, L'5, X5, e5, W5, Fw5, O5, K5, N5, st5⟩ := own_put X2 hx hZ hown (host := "") (Or.inl (hw _ m62)) Via.refl e2 O2 K2 N2 gn6 (Or.inl (List.mem_of_getElem? (i := 0) rfl)) f3 f4 (Or.inr ⟨(hw _ m63), rfl, hnm⟩) (hw _ m43) (ty := (.object z0)) (by decide) rfl rfl (g := (mkF m 11 #[.val (.ref a3), .val (.ref w8), .val (.ref a4), .val (.int p1), .val (.int p2)] [(.ref a4), (.ref a3)])) rfl rfl (hb hby d10_11)
  have f6 : Fld Z h5 a3 z1 "line" "I" (.int (0 : Int32)) := ((PF4.other W2 (Or.inr (slot_ne (Or.inr (hw _ m65)) (Or.inr (hw _ m61)) (by decide) (t := .int) (t' := (.object z2)) (by decide) (by decide)))).other W5 (Or.inr (slot_ne (Or.inr (hw _ m65)) (Or.inr (hw _ m63)) (by decide) (t := .int) (t' := (.object z0)) (by decide) (by decide))))
  have f7 : Exa Z h5 a3 z1 := (f4.wr W5)
  obtain ⟨T8, h8, L'8, X8, e8, W8, Fw8, O8, K8, N8, st8⟩ := own_put X5 hx hZ hown (host := "") (Or.inl (hw _ m64)) Via.refl e5 O5 K5 N5 gn6 (Or.inl (List.mem_of_getElem? (i := 0) rfl)) f6 f7 (Or.inr ⟨(hw _ m65), rfl, hnm⟩) (hw _ m43) (ty := .int) (by decide) rfl rfl (g := (mkF m 16 #[.val (.ref a3), .val (.ref w8), .val (.ref a4), .val (.int p1), .val (.int p2)] [(.int p1), (.ref a3)])) rfl rfl (hb hby d10_16)
  have f9 : Fld Z h8 a3 z1 "column" "I" (.int (0 : Int32)) := (((PF5.other W2 (Or.inr (slot_ne (Or.inr (hw _ m67)) (Or.inr (hw _ m61)) (by decide) (t := .int) (t' := (.object z2)) (by decide) (by decide)))).other W5 (Or.inr (slot_ne (Or.inr (hw _ m67)) (Or.inr (hw _ m63)) (by decide) (t := .int) (t' := (.object z0)) (by decide) (by decide)))).other W8 (Or.inr (slot_ne (Or.inr (hw _ m67)) (Or.inr (hw _ m65)) (by decide) (t := .int) (t' := .int) (by decide) (by decide))))
  have f10 : Exa Z h8 a3 z1 := (f7.wr W8)
  obtain ⟨T11, h11, L'11, X11, e11, W11, Fw11, O11, K11, N11, st11⟩ := own_put X8 hx hZ hown (host := "") (Or.inl (hw _ m66)) Via.refl e8 O8 K8 N8 gn6 (Or.inl (List.mem_of_getElem? (i := 0) rfl)) f9 f10 (Or.inr ⟨(hw _ m67), rfl, hnm⟩) (hw _ m43) (ty := .int) (by decide) rfl rfl (g := (mkF m 22 #[.val (.ref a3), .val (.ref w8), .val (.ref a4), .val (.int p1), .val (.int p2)] [(.int p2), (.ref a3)])) rfl rfl (hb hby d10_22)
  have f12 : Fld Z h11 a3 z1 "type" z3 (.ref w8) := (((Fw2.other W5 (Or.inr (slot_ne (Or.inr (hw _ m61)) (Or.inr (hw _ m63)) (by decide) (t := (.object z2)) (t' := (.object z0)) (by decide) (by decide)))).other W8 (Or.inr (slot_ne (Or.inr (hw _ m61)) (Or.inr (hw _ m65)) (by decide) (t := (.object z2)) (t' := .int) (by decide) (by decide)))).other W11 (Or.inr (slot_ne (Or.inr (hw _ m61)) (Or.inr (hw _ m67)) (by decide) (t := (.object z2)) (t' := .int) (by decide) (by decide))))
  have f13 : Fld Z h11 a3 z1 "text" z8 (.ref a4) := ((Fw5.other W8 (Or.inr (slot_ne (Or.inr (hw _ m63)) (Or.inr (hw _ m65)) (by decide) (t := (.object z0)) (t' := .int) (by decide) (by decide)))).other W11 (Or.inr (slot_ne (Or.inr (hw _ m63)) (Or.inr (hw _ m67)) (by decide) (t := (.object z0)) (t' := .int) (by decide) (by decide))))
  have f14 : Fld Z h11 a3 z1 "line" "I" (.int p1) := (Fw8.other W11 (Or.inr (slot_ne (Or.inr (hw _ m65)) (Or.inr (hw _ m67)) (by decide) (t := .int) (t' := .int) (by decide) (by decide))))
  obtain ⟨fs, hr, hrun, hended, hW, hsame⟩ := X11.leave (v := none) (fun _ => rfl)
  refine ⟨_, _, pre0 _ ?_, hrun, hended, _, _, rfl, ?_, ⟨_, rfl⟩, hW, hsame.mono (by decide) (by decide)⟩
  · show Steps p.tables e below (s₁.setTop (mkF m 0 #[.val (.ref a3), .val (.ref w8), .val (.ref a4), .val (.int p1), .val (.int p2)] [])) _
    refine XS.aloadN X0.here hx rfl (hb hby d10_0) rfl rfl ?_
    refine st1 _ ?_
    refine XS.aloadN X1.here hx rfl (hb hby d10_4) rfl rfl ?_
    refine XS.aloadN X1.here hx rfl (hb hby d10_5) rfl rfl ?_
    show Steps p.tables e below (T1.setTop (mkF m 6 #[.val (.ref a3), .val (.ref w8), .val (.ref a4), .val (.int p1), .val (.int p2)] [(.ref w8), (.ref a3)])) _
    refine st2 _ ?_
    refine XS.aloadN X2.here hx rfl (hb hby d10_9) rfl rfl ?_
    refine XS.aloadN X2.here hx rfl (hb hby d10_10) rfl rfl ?_
    refine st5 _ ?_
    show Steps p.tables e below (T5.setTop (mkF m 14 #[.val (.ref a3), .val (.ref w8), .val (.ref a4), .val (.int p1), .val (.int p2)] [])) _
    refine XS.aloadN X5.here hx rfl (hb hby d10_14) rfl rfl ?_
    refine XS.iloadN X5.here hx rfl (hb hby d10_15) rfl ?_
    refine st8 _ ?_
    refine XS.aloadN X8.here hx rfl (hb hby d10_19) rfl rfl ?_
    show Steps p.tables e below (T8.setTop (mkF m 20 #[.val (.ref a3), .val (.ref w8), .val (.ref a4), .val (.int p1), .val (.int p2)] [(.ref a3)])) _
    refine XS.iload X8.here hx rfl (hb hby d10_20) rfl ?_
    refine st11 _ ?_
    exact X11.returnOut hx Bd.returns (hb hby d10_25) hr
  · show Qrm6 Z w0 w1 w2 w3 w4 w5 w6 w7 w8 w9 w10 w11 p1 p2 a3 a4 h0 n0 _ T11.heap _
    rw [e11]
    exact ⟨rfl, N11, K11, f12, f13, f14, Fw11⟩
def Qrm7 (Z : State) (w0 : Addr) (w1 : Addr) (w2 : Addr) (w3 : Addr) (w4 : Addr) (w5 : Addr) (w6 : Addr) (w7 : Addr) (w8 : Addr) (w9 : Addr) (w10 : Int32) (w11 : Value) (a1 : Addr) (a2 : Addr) (ck3 : ClassId) (ck4 : ClassId) (h0 : Heap) (n0 : Nat) (v : Option Value) (h : Heap) (L : List Loc) : Prop := v = some (.int (1 : Int32)) ∧ Fr n0 L ∧ h = h0
set_option maxRecDepth 65536 in
set_option maxHeartbeats 40000000 in
theorem rm7 (l : Launch) (Z : State) (a0 : Array Value) (hw : ∀ d ∈ tables_1, d.before a0 Z = true) (hj : ∀ d ∈ jdkStatics_1, d.before a0 Z = true) (w0 : Addr) (w1 : Addr) (w2 : Addr) (w3 : Addr) (w4 : Addr) (w5 : Addr) (w6 : Addr) (w7 : Addr) (w8 : Addr) (w9 : Addr) (w10 : Int32) (w11 : Value) (hS : SF Z w0 w1 w2 w3 w4 w5 w6 w7 w8 w9 w10 w11) (ws : List Jvm.Cond) (a1 : Addr) (a2 : Addr) (ck3 : ClassId) (ck4 : ClassId) (h0 : Heap) (n0 : Nat) (O0 : Old Z n0 h0) (PV1 : Arv Z h0 a1 ck3 .byte (0 : Int32) [] (.int (0 : Int32))) (PV2 : Arv Z h0 a2 ck4 .byte (0 : Int32) [] (.int (0 : Int32))) :
    MetFree l (⟨z5, "equals", "([B[B)Z"⟩ : MethodName) (head1 (Jvm.Cond.code (⟨z5, "equals", "([B[B)Z"⟩ : MethodName) jdk_43_method_13_code 3 (some .boolean) :: ws) ({ frames := 0, cells := 0, slots := 0, locals := 0 } : Room)) (fun a U => a = #[(.ref a1), (.ref a2)] ∧ Z.Warmed39 U.vm ∧ U.heap = h0) (fun _ _ _ _ _ => True) (fun _ U o U' => ∃ v L, o = .returned v ∧ Qrm7 Z w0 w1 w2 w3 w4 w5 w6 w7 w8 w9 w10 w11 a1 a2 ck3 ck4 h0 n0 v U'.heap L ∧ FrameEnd U o U' L ({ frames := 0, cells := 0, slots := 0, locals := 0 } : Room).cells ({ frames := 0, cells := 0, slots := 0, locals := 0 } : Room).slots) := by
  refine MetFree.of_bodySF (plainFor_of_name pn217) hisR ?_
  intro p e s m args below meth c s₁ Bd hml0 hP hK
  obtain ⟨rfl, hZ, hh⟩ := hP
  have hx := Bd.exec
  have hby := Bd.bytes
  have hml : c.maxLocals = 3 := hml0
  have hown : s.vm.findClass z5 = some m.cls := findClass_of_methodNamed Bd.named
  have hnm := (name_of_methodNamed Bd.named Bd.method).1
  have X0 : Stand p l e ({ frames := 0, cells := 0, slots := 0, locals := 0 } : Room) s m #[(.ref a1), (.ref a2)] below meth c s₁ [] 0 0 := Stand.of_body Bd
  have e0 : s₁.heap = h0 := by rw [← hh, Bd.state]; rfl
  have N0 := Fr.nil n0
  have pre0 : ∀ t, Steps p.tables e below (s₁.setTop (mkF m 0 #[.val (.ref a1), .val (.ref a2), .unset] [])) t → Steps p.tables e below (s₁.setTop (entryFrame m #[(.ref a1), (.ref a2)] 3)) t := fun t k => castTop (ef216 m a1 a2) k
  obtain ⟨fs, hr, hrun, hended, hW, hsame⟩ := X0.leave (v := some (.int (1 : Int32))) (fun h => by rw [Bd.returns] at h; cases h)
  refine ⟨_, _, pre0 _ ?_, hrun, hended, _, _, rfl, ?_, ⟨_, rfl⟩, hW, hsame.mono (by decide) (by decide)⟩
  · show Steps p.tables e below (s₁.setTop (mkF m 0 #[.val (.ref a1), .val (.ref a2), .unset] [])) _
    refine XS.aloadN X0.here hx rfl (hb hby d17_0) rfl rfl ?_
    refine own_alen X0 hx hZ e0 PV1 (g := (mkF m 1 #[.val (.ref a1), .val (.ref a2), .unset] [(.ref a1)])) rfl rfl (hb hby d17_1) ?_
    refine XS.aloadN X0.here hx rfl (hb hby d17_2) rfl rfl ?_
    refine own_alen X0 hx hZ e0 PV2 (g := (mkF m 3 #[.val (.ref a1), .val (.ref a2), .unset] [(.ref a2), (.int (0 : Int32))])) rfl rfl (hb hby d17_3) ?_
    show Steps p.tables e below (s₁.setTop (mkF m 4 #[.val (.ref a1), .val (.ref a2), .unset] [(.int (0 : Int32)), (.int (0 : Int32))])) _
    refine XS.icmpNo X0.here hx rfl (hb hby d17_4) rfl (teq (by decide : (0 : Int32) = (0 : Int32))).2 ?_
    refine XS.iconst X0.here hx rfl (hb hby d17_7) ?_
    refine XS.istoreN X0.here hx rfl (hb hby d17_8) rfl (l' := #[.val (.ref a1), .val (.ref a2), .val (.int (0 : Int32))]) rfl ?_
    refine XS.iloadN X0.here hx rfl (hb hby d17_9) rfl ?_
    show Steps p.tables e below (s₁.setTop (mkF m 10 #[.val (.ref a1), .val (.ref a2), .val (.int (0 : Int32))] [(.int (0 : Int32))])) _
    refine XS.aloadN X0.here hx rfl (hb hby d17_10) rfl rfl ?_
    refine own_alen X0 hx hZ e0 PV1 (g := (mkF m 11 #[.val (.ref a1), .val (.ref a2), .val (.int (0 : Int32))] [(.ref a1), (.int (0 : Int32))])) rfl rfl (hb hby d17_11) ?_
    refine XS.icmpYes X0.here hx rfl (pc0 := 12) (pc' := 32) rfl (hb hby d17_12) rfl (flt (by decide : ¬ ((0 : Int32) < (0 : Int32)))).2.1 (by decide) (by decide) ?_
    refine XS.iconst X0.here hx rfl (hb hby d17_32) ?_
    show Steps p.tables e below (s₁.setTop (mkF m 33 #[.val (.ref a1), .val (.ref a2), .val (.int (0 : Int32))] [(.int (1 : Int32))])) _
    exact retN X0 hx (t := .boolean) Bd.returns (by simp) (hb hby d17_33) hr
  · show Qrm7 Z w0 w1 w2 w3 w4 w5 w6 w7 w8 w9 w10 w11 a1 a2 ck3 ck4 h0 n0 _ s₁.heap _
    rw [e0]
    exact ⟨rfl, N0, rfl⟩
def Qrm8 (Z : State) (w0 : Addr) (w1 : Addr) (w2 : Addr) (w3 : Addr) (w4 : Addr) (w5 : Addr) (w6 : Addr) (w7 : Addr) (w8 : Addr) (w9 : Addr) (w10 : Int32) (w11 : Value) (a1 : Addr) (a2 : Addr) (a3 : Addr) (a4 : Addr) (ck5 : ClassId) (ck6 : ClassId) (h0 : Heap) (n0 : Nat) (v : Option Value) (h : Heap) (L : List Loc) : Prop := v = some (.int (1 : Int32)) ∧ Fr n0 L ∧ h = h0
set_option maxRecDepth 65536 in
set_option maxHeartbeats 40000000 in
theorem rm8 (l : Launch) (Z : State) (a0 : Array Value) (hw : ∀ d ∈ tables_1, d.before a0 Z = true) (hj : ∀ d ∈ jdkStatics_1, d.before a0 Z = true) (w0 : Addr) (w1 : Addr) (w2 : Addr) (w3 : Addr) (w4 : Addr) (w5 : Addr) (w6 : Addr) (w7 : Addr) (w8 : Addr) (w9 : Addr) (w10 : Int32) (w11 : Value) (hS : SF Z w0 w1 w2 w3 w4 w5 w6 w7 w8 w9 w10 w11) (ws : List Jvm.Cond) (a1 : Addr) (a2 : Addr) (a3 : Addr) (a4 : Addr) (ck5 : ClassId) (ck6 : ClassId) (h0 : Heap) (n0 : Nat) (O0 : Old Z n0 h0) (pne1 : a1 ≠ a2) (PE2 : Exa Z h0 a2 z0) (PF3 : Fld Z h0 a1 z0 "coder" "B" (.int (0 : Int32))) (PF4 : Fld Z h0 a2 z0 "coder" "B" (.int (0 : Int32))) (PF5 : Fld Z h0 a1 z0 "value" "[B" (.ref a3)) (PF6 : Fld Z h0 a2 z0 "value" "[B" (.ref a4)) (PV7 : Arv Z h0 a3 ck5 .byte (0 : Int32) [] (.int (0 : Int32))) (PV8 : Arv Z h0 a4 ck6 .byte (0 : Int32) [] (.int (0 : Int32))) :
    MetFree l (⟨z0, "equals", z7⟩ : MethodName) (head1 (Jvm.Cond.code (⟨z0, "equals", z7⟩ : MethodName) jdk_42_method_66_code 3 (some .boolean) :: ws) ({ frames := 1, cells := 0, slots := 0, locals := 14 } : Room)) (fun a U => a = #[(.ref a1), (.ref a2)] ∧ Z.Warmed39 U.vm ∧ U.heap = h0) (fun _ _ _ _ _ => True) (fun _ U o U' => ∃ v L, o = .returned v ∧ Qrm8 Z w0 w1 w2 w3 w4 w5 w6 w7 w8 w9 w10 w11 a1 a2 a3 a4 ck5 ck6 h0 n0 v U'.heap L ∧ FrameEnd U o U' L ({ frames := 1, cells := 0, slots := 0, locals := 14 } : Room).cells ({ frames := 1, cells := 0, slots := 0, locals := 14 } : Room).slots) := by
  refine MetFree.of_bodySF (plainFor_of_name pn101) hisR ?_
  intro p e s m args below meth c s₁ Bd hml0 hP hK
  obtain ⟨rfl, hZ, hh⟩ := hP
  have hx := Bd.exec
  have hby := Bd.bytes
  have hml : c.maxLocals = 3 := hml0
  have hown : s.vm.findClass z0 = some m.cls := findClass_of_methodNamed Bd.named
  have hnm := (name_of_methodNamed Bd.named Bd.method).1
  have X0 : Stand p l e ({ frames := 1, cells := 0, slots := 0, locals := 14 } : Room) s m #[(.ref a1), (.ref a2)] below meth c s₁ [] 0 0 := Stand.of_body Bd
  have e0 : s₁.heap = h0 := by rw [← hh, Bd.state]; rfl
  have N0 := Fr.nil n0
  have pre0 : ∀ t, Steps p.tables e below (s₁.setTop (mkF m 0 #[.val (.ref a1), .val (.ref a2), .unset] [])) t → Steps p.tables e below (s₁.setTop (entryFrame m #[(.ref a1), (.ref a2)] 3)) t := fun t k => castTop (ef216 m a1 a2) k
  obtain ⟨T1, X1, e1, st1⟩ := instY X0 hx hZ hown (hw _ m14) e0 (Ins.self PE2) (g := (mkF m 8 #[.val (.ref a1), .val (.ref a2), .unset] [(.ref a2)])) rfl rfl (hb hby d13_8)
  obtain ⟨T2, X2, e2, st2⟩ := castY X1 hx hZ hown (hw _ m14) e1 (Ins.self PE2) (g := (mkF m 15 #[.val (.ref a1), .val (.ref a2), .unset] [(.ref a2)])) rfl rfl (hb hby d13_15)
  obtain ⟨T3, X3, e3, st3⟩ := getS2 X2 hx hZ hown (host := "") (Or.inl (hw _ m9)) Via.refl e2 (hS.2.2.2.2.2.2.2.2.2.2.2.2.2.2.2.2.2.2.2.2.2.2.2.2.2.2.2.2.2.2.1.ext O0.2) (g := (mkF m 19 #[.val (.ref a1), .val (.ref a2), .val (.ref a2)] [])) rfl (hb hby d13_19)
  obtain ⟨T4, X4, e4, st4⟩ := getF X3 hx hZ hown (host := "") (Or.inl (hw _ m29)) Via.refl e3 PF3 (g := (mkF m 26 #[.val (.ref a1), .val (.ref a2), .val (.ref a2)] [(.ref a1)])) rfl rfl (hb hby d13_26)
  obtain ⟨T5, X5, e5, st5⟩ := getF X4 hx hZ hown (host := "") (Or.inl (hw _ m29)) Via.refl e4 PF4 (g := (mkF m 30 #[.val (.ref a1), .val (.ref a2), .val (.ref a2)] [(.ref a2), (.int (0 : Int32))])) rfl rfl (hb hby d13_30)
  obtain ⟨T6, X6, e6, st6⟩ := getF X5 hx hZ hown (host := "") (Or.inl (hw _ m27)) Via.refl e5 PF5 (g := (mkF m 37 #[.val (.ref a1), .val (.ref a2), .val (.ref a2)] [(.ref a1)])) rfl rfl (hb hby d13_37)
  obtain ⟨T7, X7, e7, st7⟩ := getF X6 hx hZ hown (host := "") (Or.inl (hw _ m27)) Via.refl e6 PF6 (g := (mkF m 41 #[.val (.ref a1), .val (.ref a2), .val (.ref a2)] [(.ref a2), (.ref a3)])) rfl rfl (hb hby d13_41)
  obtain ⟨_, T8, L8, hQ8, X8, st8⟩ := own_callS X7 hx hZ (W := 0) hown (hw _ m105) (hw _ m106) (hw _ m12) (hw _ m107) (by decide) (rm7 l Z a0 hw hj w0 w1 w2 w3 w4 w5 w6 w7 w8 w9 w10 w11 hS [] a3 a4 ck5 ck6 h0 n0 O0 PV7 PV8) e7 (g := (mkF m 44 #[.val (.ref a1), .val (.ref a2), .val (.ref a2)] [(.ref a4), (.ref a3)])) rfl (by rw [hml]; rfl) (argsL := [(.ref a3), (.ref a4)]) (rest := []) (lenOf pd220 rfl) rfl rfl (by show 2 * 0 + _ ≤ _; exact Nat.le_of_eq rfl) (hb hby d13_44) (by decide) (by decide) (by decide) (by decide)
  obtain ⟨rfl, N8q, e8⟩ := hQ8
  have N8 := Fr.app N0 N8q
  have e8' : T8.heap = h0 := e8
  obtain ⟨fs, hr, hrun, hended, hW, hsame⟩ := X8.leave (v := some (.int (1 : Int32))) (fun h => by rw [Bd.returns] at h; cases h)
  refine ⟨_, _, pre0 _ ?_, hrun, hended, _, _, rfl, ?_, ⟨_, rfl⟩, hW, hsame.mono (by decide) (by decide)⟩
  · show Steps p.tables e below (s₁.setTop (mkF m 0 #[.val (.ref a1), .val (.ref a2), .unset] [])) _
    refine XS.aloadN X0.here hx rfl (hb hby d13_0) rfl rfl ?_
    refine XS.aloadN X0.here hx rfl (hb hby d13_1) rfl rfl ?_
    refine Jvm.RoadKit.acmp (g := (mkF m 2 #[.val (.ref a1), .val (.ref a2), .unset] [(.ref a2), (.ref a1)])) X0 hx rfl rfl rfl (pc0 := 2) (pc' := 7) (same := false) rfl (hb hby d13_2) rfl (decide_eq_false fun q => pne1 (Value.ref.inj q)) (by decide) (by decide) ?_
    refine XS.aloadN X0.here hx rfl (hb hby d13_7) rfl rfl ?_
    show Steps p.tables e below (s₁.setTop (mkF m 8 #[.val (.ref a1), .val (.ref a2), .unset] [(.ref a2)])) _
    refine st1 _ ?_
    refine XS.ifNo X1.here hx rfl (hb hby d13_11) rfl ((if0 _ _).trans (feq (by decide : ¬ ((1 : Int32) = (0 : Int32)))).1) ?_
    refine XS.aloadN X1.here hx rfl (hb hby d13_14) rfl rfl ?_
    refine st2 _ ?_
    show Steps p.tables e below (T2.setTop (mkF m 18 #[.val (.ref a1), .val (.ref a2), .unset] [(.ref a2)])) _
    refine XS.astoreN X2.here hx rfl (hb hby d13_18) rfl rfl (l' := #[.val (.ref a1), .val (.ref a2), .val (.ref a2)]) rfl ?_
    refine st3 _ ?_
    refine XS.ifNo X3.here hx rfl (hb hby d13_22) rfl ((if0 _ _).trans (feq hS.2.2.2.2.2.2.2.2.2.2.2.2.2.2.2.2.2.2.2.2.2.2.2.2.2.2.2.2.2.2.2.1).1) ?_
    refine XS.aloadN X3.here hx rfl (hb hby d13_25) rfl rfl ?_
    show Steps p.tables e below (T3.setTop (mkF m 26 #[.val (.ref a1), .val (.ref a2), .val (.ref a2)] [(.ref a1)])) _
    refine st4 _ ?_
    refine XS.aloadN X4.here hx rfl (hb hby d13_29) rfl rfl ?_
    refine st5 _ ?_
    refine XS.icmpNo X5.here hx rfl (hb hby d13_33) rfl (teq (by decide : (0 : Int32) = (0 : Int32))).2 ?_
    show Steps p.tables e below (T5.setTop (mkF m 36 #[.val (.ref a1), .val (.ref a2), .val (.ref a2)] [])) _
    refine XS.aloadN X5.here hx rfl (hb hby d13_36) rfl rfl ?_
    refine st6 _ ?_
    refine XS.aloadN X6.here hx rfl (hb hby d13_40) rfl rfl ?_
    refine st7 _ ?_
    show Steps p.tables e below (T7.setTop (mkF m 44 #[.val (.ref a1), .val (.ref a2), .val (.ref a2)] [(.ref a4), (.ref a3)])) _
    refine st8 _ ?_
    refine XS.ifNo X8.here hx rfl (hb hby d13_47) rfl ((if0 _ _).trans (feq (by decide : ¬ ((1 : Int32) = (0 : Int32)))).1) ?_
    refine XS.iconst X8.here hx rfl (hb hby d13_50) ?_
    refine XS.goto X8.here hx rfl (pc0 := 51) (pc' := 55) rfl (hb hby d13_51) (by decide) (by decide) ?_
    show Steps p.tables e below (T8.setTop (mkF m 55 #[.val (.ref a1), .val (.ref a2), .val (.ref a2)] [(.int (1 : Int32))])) _
    exact retN X8 hx (t := .boolean) Bd.returns (by simp) (hb hby d13_55) hr
  · show Qrm8 Z w0 w1 w2 w3 w4 w5 w6 w7 w8 w9 w10 w11 a1 a2 a3 a4 ck5 ck6 h0 n0 _ T8.heap _
    rw [e8']
    exact ⟨rfl, N8, rfl⟩
def Qrm9 (Z : State) (w0 : Addr) (w1 : Addr) (w2 : Addr) (w3 : Addr) (w4 : Addr) (w5 : Addr) (w6 : Addr) (w7 : Addr) (w8 : Addr) (w9 : Addr) (w10 : Int32) (w11 : Value) (a1 : Addr) (a2 : Addr) (a3 : Addr) (a4 : Addr) (a5 : Addr) (ck6 : ClassId) (ck7 : ClassId) (h0 : Heap) (n0 : Nat) (v : Option Value) (h : Heap) (L : List Loc) : Prop := v = some (.int (1 : Int32)) ∧ Fr n0 L ∧ h = h0
set_option maxRecDepth 65536 in
set_option maxHeartbeats 40000000 in
theorem rm9 (l : Launch) (Z : State) (a0 : Array Value) (hw : ∀ d ∈ tables_1, d.before a0 Z = true) (hj : ∀ d ∈ jdkStatics_1, d.before a0 Z = true) (w0 : Addr) (w1 : Addr) (w2 : Addr) (w3 : Addr) (w4 : Addr) (w5 : Addr) (w6 : Addr) (w7 : Addr) (w8 : Addr) (w9 : Addr) (w10 : Int32) (w11 : Value) (hS : SF Z w0 w1 w2 w3 w4 w5 w6 w7 w8 w9 w10 w11) (ws : List Jvm.Cond) (a1 : Addr) (a2 : Addr) (a3 : Addr) (a4 : Addr) (a5 : Addr) (ck6 : ClassId) (ck7 : ClassId) (h0 : Heap) (n0 : Nat) (O0 : Old Z n0 h0) (PF1 : Fld Z h0 a1 z1 "type" z3 (.ref w8)) (PF2 : Fld Z h0 a1 z1 "text" z8 (.ref a3)) (pne3 : a3 ≠ a2) (PE4 : Exa Z h0 a2 z0) (PF5 : Fld Z h0 a3 z0 "coder" "B" (.int (0 : Int32))) (PF6 : Fld Z h0 a2 z0 "coder" "B" (.int (0 : Int32))) (PF7 : Fld Z h0 a3 z0 "value" "[B" (.ref a4)) (PF8 : Fld Z h0 a2 z0 "value" "[B" (.ref a5)) (PV9 : Arv Z h0 a4 ck6 .byte (0 : Int32) [] (.int (0 : Int32))) (PV10 : Arv Z h0 a5 ck7 .byte (0 : Int32) [] (.int (0 : Int32))) (PE11 : Exa Z h0 a3 z0) :
    MetFree l (⟨z1, "isSymbol", z6⟩ : MethodName) (head1 (Jvm.Cond.code (⟨z1, "isSymbol", z6⟩ : MethodName) prog_65_method_3_code 2 (some .boolean) :: ws) ({ frames := 2, cells := 0, slots := 0, locals := 28 } : Room)) (fun a U => a = #[(.ref a1), (.ref a2)] ∧ Z.Warmed39 U.vm ∧ U.heap = h0) (fun _ _ _ _ _ => True) (fun _ U o U' => ∃ v L, o = .returned v ∧ Qrm9 Z w0 w1 w2 w3 w4 w5 w6 w7 w8 w9 w10 w11 a1 a2 a3 a4 a5 ck6 ck7 h0 n0 v U'.heap L ∧ FrameEnd U o U' L ({ frames := 2, cells := 0, slots := 0, locals := 28 } : Room).cells ({ frames := 2, cells := 0, slots := 0, locals := 28 } : Room).slots) := by
  refine MetFree.of_bodySF (plainFor_of_name pn162) hisR ?_
  intro p e s m args below meth c s₁ Bd hml0 hP hK
  obtain ⟨rfl, hZ, hh⟩ := hP
  have hx := Bd.exec
  have hby := Bd.bytes
  have hml : c.maxLocals = 2 := hml0
  have hown : s.vm.findClass z1 = some m.cls := findClass_of_methodNamed Bd.named
  have hnm := (name_of_methodNamed Bd.named Bd.method).1
  have X0 : Stand p l e ({ frames := 2, cells := 0, slots := 0, locals := 28 } : Room) s m #[(.ref a1), (.ref a2)] below meth c s₁ [] 0 0 := Stand.of_body Bd
  have e0 : s₁.heap = h0 := by rw [← hh, Bd.state]; rfl
  have N0 := Fr.nil n0
  have pre0 : ∀ t, Steps p.tables e below (s₁.setTop (mkF m 0 #[.val (.ref a1), .val (.ref a2)] [])) t → Steps p.tables e below (s₁.setTop (entryFrame m #[(.ref a1), (.ref a2)] 2)) t := fun t k => castTop (ef106 m a1 a2) k
  obtain ⟨T1, X1, e1, st1⟩ := getF X0 hx hZ hown (host := "") (Or.inl (hw _ m60)) Via.refl e0 PF1 (g := (mkF m 1 #[.val (.ref a1), .val (.ref a2)] [(.ref a1)])) rfl rfl (hb hby d12_1)
  obtain ⟨T2, X2, e2, st2⟩ := getS2 X1 hx hZ hown (host := "") (Or.inl (hw _ m73)) Via.refl e1 (hS.2.2.2.2.2.2.2.2.2.2.2.2.2.2.2.2.2.2.2.2.2.2.2.2.1.ext O0.2) (g := (mkF m 4 #[.val (.ref a1), .val (.ref a2)] [(.ref w8)])) rfl (hb hby d12_4)
  obtain ⟨T3, X3, e3, st3⟩ := getF X2 hx hZ hown (host := "") (Or.inl (hw _ m62)) Via.refl e2 PF2 (g := (mkF m 11 #[.val (.ref a1), .val (.ref a2)] [(.ref a1)])) rfl rfl (hb hby d12_11)
  obtain ⟨_, T4, L4, hQ4, X4, st4⟩ := own_virtual X3 hx hZ (W := 0) hown (hw _ m80) (hw _ m81) (notFace_of_selects (args := #[]) (mvT hZ (hw _ m83))) (hw _ m83) (hw _ m82) (hw _ m7) (hw _ m84) (by decide) (rm8 l Z a0 hw hj w0 w1 w2 w3 w4 w5 w6 w7 w8 w9 w10 w11 hS [] a3 a2 a4 a5 ck6 ck7 h0 n0 O0 pne3 PE4 PF5 PF6 PF7 PF8 PV9 PV10) e3 PE11 (g := (mkF m 15 #[.val (.ref a1), .val (.ref a2)] [(.ref a2), (.ref a3)])) rfl (by rw [hml]; rfl) (argsL := [(.ref a2)]) (rest := []) (lenOf pd227 rfl) rfl rfl (by show 2 * 0 + _ ≤ _; exact Nat.le_of_eq rfl) (hb hby d12_15) (by decide) (by decide) (by decide) (by decide)
  obtain ⟨rfl, N4q, e4⟩ := hQ4
  have N4 := Fr.app N0 N4q
  have e4' : T4.heap = h0 := e4
  obtain ⟨fs, hr, hrun, hended, hW, hsame⟩ := X4.leave (v := some (.int (1 : Int32))) (fun h => by rw [Bd.returns] at h; cases h)
  refine ⟨_, _, pre0 _ ?_, hrun, hended, _, _, rfl, ?_, ⟨_, rfl⟩, hW, hsame.mono (by decide) (by decide)⟩
  · show Steps p.tables e below (s₁.setTop (mkF m 0 #[.val (.ref a1), .val (.ref a2)] [])) _
    refine XS.aloadN X0.here hx rfl (hb hby d12_0) rfl rfl ?_
    refine st1 _ ?_
    refine st2 _ ?_
    refine Jvm.RoadKit.acmp (g := (mkF m 7 #[.val (.ref a1), .val (.ref a2)] [(.ref w8), (.ref w8)])) X2 hx rfl rfl rfl (pc0 := 7) (pc' := 10) (same := true) rfl (hb hby d12_7) rfl (decide_eq_true rfl) (by decide) (by decide) ?_
    show Steps p.tables e below (T2.setTop (mkF m 10 #[.val (.ref a1), .val (.ref a2)] [])) _
    refine XS.aloadN X2.here hx rfl (hb hby d12_10) rfl rfl ?_
    refine st3 _ ?_
    refine XS.aloadN X3.here hx rfl (hb hby d12_14) rfl rfl ?_
    refine st4 _ ?_
    show Steps p.tables e below (T4.setTop (mkF m 18 #[.val (.ref a1), .val (.ref a2)] [(.int (1 : Int32))])) _
    refine XS.ifNo X4.here hx rfl (hb hby d12_18) rfl ((if0 _ _).trans (feq (by decide : ¬ ((1 : Int32) = (0 : Int32)))).1) ?_
    refine XS.iconst X4.here hx rfl (hb hby d12_21) ?_
    refine XS.goto X4.here hx rfl (pc0 := 22) (pc' := 26) rfl (hb hby d12_22) (by decide) (by decide) ?_
    exact retN X4 hx (t := .boolean) Bd.returns (by simp) (hb hby d12_26) hr
  · show Qrm9 Z w0 w1 w2 w3 w4 w5 w6 w7 w8 w9 w10 w11 a1 a2 a3 a4 a5 ck6 ck7 h0 n0 _ T4.heap _
    rw [e4']
    exact ⟨rfl, N4, rfl⟩
def Qrm10 (Z : State) (w0 : Addr) (w1 : Addr) (w2 : Addr) (w3 : Addr) (w4 : Addr) (w5 : Addr) (w6 : Addr) (w7 : Addr) (w8 : Addr) (w9 : Addr) (w10 : Int32) (w11 : Value) (p1 : Int32) (p2 : Int32) (a3 : Addr) (a4 : Addr) (a5 : Addr) (h0 : Heap) (n0 : Nat) (v : Option Value) (h : Heap) (L : List Loc) : Prop := v = none ∧ Fr n0 L ∧ Keep h0 h [a3] ∧ Fld Z h a3 z1 "type" z3 (.ref a4) ∧ Fld Z h a3 z1 "text" z8 (.ref a5) ∧ Fld Z h a3 z1 "line" "I" (.int p1) ∧ Fld Z h a3 z1 "column" "I" (.int p2)
set_option maxRecDepth 65536 in
set_option maxHeartbeats 40000000 in
theorem rm10 (l : Launch) (Z : State) (a0 : Array Value) (hw : ∀ d ∈ tables_1, d.before a0 Z = true) (hj : ∀ d ∈ jdkStatics_1, d.before a0 Z = true) (w0 : Addr) (w1 : Addr) (w2 : Addr) (w3 : Addr) (w4 : Addr) (w5 : Addr) (w6 : Addr) (w7 : Addr) (w8 : Addr) (w9 : Addr) (w10 : Int32) (w11 : Value) (hS : SF Z w0 w1 w2 w3 w4 w5 w6 w7 w8 w9 w10 w11) (ws : List Jvm.Cond) (p1 : Int32) (p2 : Int32) (a3 : Addr) (a4 : Addr) (a5 : Addr) (h0 : Heap) (n0 : Nat) (O0 : Old Z n0 h0) (PE1 : Exa Z h0 a3 z1) (PF2 : Fld Z h0 a3 z1 "type" z3 .null) (PF3 : Fld Z h0 a3 z1 "text" z8 .null) (PF4 : Fld Z h0 a3 z1 "line" "I" (.int (0 : Int32))) (PF5 : Fld Z h0 a3 z1 "column" "I" (.int (0 : Int32))) (gn6 : n0 ≤ a3) :
    MetFree l (⟨z1, "<init>", "(Lcom/example/key3/key3/cql/Token$Type;Ljava/lang/String;II)V"⟩ : MethodName) (head1 (Jvm.Cond.code (⟨z1, "<init>", "(Lcom/example/key3/key3/cql/Token$Type;Ljava/lang/String;II)V"⟩ : MethodName) prog_65_method_1_code 5 none :: ws) ({ frames := 2, cells := 0, slots := 0, locals := 24 } : Room)) (fun a U => a = #[(.ref a3), (.ref a4), (.ref a5), (.int p1), (.int p2)] ∧ Z.Warmed39 U.vm ∧ U.heap = h0) (fun _ _ _ _ _ => True) (fun _ U o U' => ∃ v L, o = .returned v ∧ Qrm10 Z w0 w1 w2 w3 w4 w5 w6 w7 w8 w9 w10 w11 p1 p2 a3 a4 a5 h0 n0 v U'.heap L ∧ FrameEnd U o U' L ({ frames := 2, cells := 0, slots := 0, locals := 24 } : Room).cells ({ frames := 2, cells := 0, slots := 0, locals := 24 } : Room).slots) := by
  refine MetFree.of_bodySF (plainFor_of_name pn162) hisR ?_
  intro p e s m args below meth c s₁ Bd hml0 hP hK
  obtain ⟨rfl, hZ, hh⟩ := hP
  have hx := Bd.exec
  have hby := Bd.bytes
  have hml : c.maxLocals = 5 := hml0
  have hown : s.vm.findClass z1 = some m.cls := findClass_of_methodNamed Bd.named
  have hnm := (name_of_methodNamed Bd.named Bd.method).1
  have X0 : Stand p l e ({ frames := 2, cells := 0, slots := 0, locals := 24 } : Room) s m #[(.ref a3), (.ref a4), (.ref a5), (.int p1), (.int p2)] below meth c s₁ [] 0 0 := Stand.of_body Bd
  have e0 : s₁.heap = h0 := by rw [← hh, Bd.state]; rfl
  have N0 := Fr.nil n0
  have pre0 : ∀ t, Steps p.tables e below (s₁.setTop (mkF m 0 #[.val (.ref a3), .val (.ref a4), .val (.ref a5), .val (.int p1), .val (.int p2)] [])) t → Steps p.tables e below (s₁.setTop (entryFrame m #[(.ref a3), (.ref a4), (.ref a5), (.int p1), (.int p2)] 5)) t := fun t k => castTop (ef161 m a3 a4 a5 p1 p2) k
  obtain ⟨_, T1, L1, hQ1, X1, st1⟩ := own_special X0 hx hZ (W := 0) rfl hown (hw _ m54) (hw _ m55) (hw _ m57) (hw _ m58) (by decide) (rm5 l Z a0 hw hj w0 w1 w2 w3 w4 w5 w6 w7 w8 w9 w10 w11 hS [] a3 h0 n0 O0) e0 (a := a3) (g := (mkF m 1 #[.val (.ref a3), .val (.ref a4), .val (.ref a5), .val (.int p1), .val (.int p2)] [(.ref a3)])) rfl (by rw [hml]; rfl) (argsL := []) (rest := []) (lenOf pd142 rfl) rfl rfl (by show 2 * 0 + _ ≤ _; exact Nat.le_of_eq rfl) (hb hby d10_1) (by decide) (by decide) (by decide) (by decide)
  obtain ⟨rfl, N1q, e1⟩ := hQ1
  have N1 := Fr.app N0 N1q
  have e1' : T1.heap = h0 := e1
  obtain ⟨T2, h2, L'2, X2, e2, W2, Fw2, O2, K2, N2, st2⟩ := own_put X1 hx hZ hown (host := "") (Or.inl (hw _ m60)) Via.refl e1' O0 (Keep.refl h0 [a3]) N1 gn6 (Or.inl (List.mem_of_getElem? (i := 0) rfl)) PF2 PE1 (Or.inr ⟨(hw _ m61), rfl, hnm⟩) (hw _ m43) (ty := (.object z2)) (by decide) rfl rfl (g := (mkF m 6 #[.val (.ref a3), .val (.ref a4), .val (.ref a5), .val (.int p1), .val (.int p2)] [(.ref a4), (.ref a3)])) rfl rfl (hb hby d10_6)
  have f3 : Fld Z h2 a3 z1 "text" z8 .null := (PF3.other W2 (Or.inr (slot_ne (Or.inr (hw _ m63)) (Or.inr (hw _ m61)) (by decide) (t := (.object z0)) (t' := (.object z2)) (by decide) (by decide))))
  have f4 : Exa Z h2 a3 z1 := (PE1.wr W2)
  obtain ⟨T5, h5, L'5, X5, e5, W5, Fw5, O5, K5, N5, st5⟩ := own_put X2 hx hZ hown (host := "") (Or.inl (hw _ m62)) Via.refl e2 O2 K2 N2 gn6 (Or.inl (List.mem_of_getElem? (i := 0) rfl)) f3 f4 (Or.inr ⟨(hw _ m63), rfl, hnm⟩) (hw _ m43) (ty := (.object z0)) (by decide) rfl rfl (g := (mkF m 11 #[.val (.ref a3), .val (.ref a4), .val (.ref a5), .val (.int p1), .val (.int p2)] [(.ref a5), (.ref a3)])) rfl rfl (hb hby d10_11)
  have f6 : Fld Z h5 a3 z1 "line" "I" (.int (0 : Int32)) := ((PF4.other W2 (Or.inr (slot_ne (Or.inr (hw _ m65)) (Or.inr (hw _ m61)) (by decide) (t := .int) (t' := (.object z2)) (by decide) (by decide)))).other W5 (Or.inr (slot_ne (Or.inr (hw _ m65)) (Or.inr (hw _ m63)) (by decide) (t := .int) (t' := (.object z0)) (by decide) (by decide))))
  have f7 : Exa Z h5 a3 z1 := (f4.wr W5)
  obtain ⟨T8, h8, L'8, X8, e8, W8, Fw8, O8, K8, N8, st8⟩ := own_put X5 hx hZ hown (host := "") (Or.inl (hw _ m64)) Via.refl e5 O5 K5 N5 gn6 (Or.inl (List.mem_of_getElem? (i := 0) rfl)) f6 f7 (Or.inr ⟨(hw _ m65), rfl, hnm⟩) (hw _ m43) (ty := .int) (by decide) rfl rfl (g := (mkF m 16 #[.val (.ref a3), .val (.ref a4), .val (.ref a5), .val (.int p1), .val (.int p2)] [(.int p1), (.ref a3)])) rfl rfl (hb hby d10_16)
  have f9 : Fld Z h8 a3 z1 "column" "I" (.int (0 : Int32)) := (((PF5.other W2 (Or.inr (slot_ne (Or.inr (hw _ m67)) (Or.inr (hw _ m61)) (by decide) (t := .int) (t' := (.object z2)) (by decide) (by decide)))).other W5 (Or.inr (slot_ne (Or.inr (hw _ m67)) (Or.inr (hw _ m63)) (by decide) (t := .int) (t' := (.object z0)) (by decide) (by decide)))).other W8 (Or.inr (slot_ne (Or.inr (hw _ m67)) (Or.inr (hw _ m65)) (by decide) (t := .int) (t' := .int) (by decide) (by decide))))
  have f10 : Exa Z h8 a3 z1 := (f7.wr W8)
  obtain ⟨T11, h11, L'11, X11, e11, W11, Fw11, O11, K11, N11, st11⟩ := own_put X8 hx hZ hown (host := "") (Or.inl (hw _ m66)) Via.refl e8 O8 K8 N8 gn6 (Or.inl (List.mem_of_getElem? (i := 0) rfl)) f9 f10 (Or.inr ⟨(hw _ m67), rfl, hnm⟩) (hw _ m43) (ty := .int) (by decide) rfl rfl (g := (mkF m 22 #[.val (.ref a3), .val (.ref a4), .val (.ref a5), .val (.int p1), .val (.int p2)] [(.int p2), (.ref a3)])) rfl rfl (hb hby d10_22)
  have f12 : Fld Z h11 a3 z1 "type" z3 (.ref a4) := (((Fw2.other W5 (Or.inr (slot_ne (Or.inr (hw _ m61)) (Or.inr (hw _ m63)) (by decide) (t := (.object z2)) (t' := (.object z0)) (by decide) (by decide)))).other W8 (Or.inr (slot_ne (Or.inr (hw _ m61)) (Or.inr (hw _ m65)) (by decide) (t := (.object z2)) (t' := .int) (by decide) (by decide)))).other W11 (Or.inr (slot_ne (Or.inr (hw _ m61)) (Or.inr (hw _ m67)) (by decide) (t := (.object z2)) (t' := .int) (by decide) (by decide))))
  have f13 : Fld Z h11 a3 z1 "text" z8 (.ref a5) := ((Fw5.other W8 (Or.inr (slot_ne (Or.inr (hw _ m63)) (Or.inr (hw _ m65)) (by decide) (t := (.object z0)) (t' := .int) (by decide) (by decide)))).other W11 (Or.inr (slot_ne (Or.inr (hw _ m63)) (Or.inr (hw _ m67)) (by decide) (t := (.object z0)) (t' := .int) (by decide) (by decide))))
  have f14 : Fld Z h11 a3 z1 "line" "I" (.int p1) := (Fw8.other W11 (Or.inr (slot_ne (Or.inr (hw _ m65)) (Or.inr (hw _ m67)) (by decide) (t := .int) (t' := .int) (by decide) (by decide))))
  obtain ⟨fs, hr, hrun, hended, hW, hsame⟩ := X11.leave (v := none) (fun _ => rfl)
  refine ⟨_, _, pre0 _ ?_, hrun, hended, _, _, rfl, ?_, ⟨_, rfl⟩, hW, hsame.mono (by decide) (by decide)⟩
  · show Steps p.tables e below (s₁.setTop (mkF m 0 #[.val (.ref a3), .val (.ref a4), .val (.ref a5), .val (.int p1), .val (.int p2)] [])) _
    refine XS.aloadN X0.here hx rfl (hb hby d10_0) rfl rfl ?_
    refine st1 _ ?_
    refine XS.aloadN X1.here hx rfl (hb hby d10_4) rfl rfl ?_
    refine XS.aloadN X1.here hx rfl (hb hby d10_5) rfl rfl ?_
    show Steps p.tables e below (T1.setTop (mkF m 6 #[.val (.ref a3), .val (.ref a4), .val (.ref a5), .val (.int p1), .val (.int p2)] [(.ref a4), (.ref a3)])) _
    refine st2 _ ?_
    refine XS.aloadN X2.here hx rfl (hb hby d10_9) rfl rfl ?_
    refine XS.aloadN X2.here hx rfl (hb hby d10_10) rfl rfl ?_
    refine st5 _ ?_
    show Steps p.tables e below (T5.setTop (mkF m 14 #[.val (.ref a3), .val (.ref a4), .val (.ref a5), .val (.int p1), .val (.int p2)] [])) _
    refine XS.aloadN X5.here hx rfl (hb hby d10_14) rfl rfl ?_
    refine XS.iloadN X5.here hx rfl (hb hby d10_15) rfl ?_
    refine st8 _ ?_
    refine XS.aloadN X8.here hx rfl (hb hby d10_19) rfl rfl ?_
    show Steps p.tables e below (T8.setTop (mkF m 20 #[.val (.ref a3), .val (.ref a4), .val (.ref a5), .val (.int p1), .val (.int p2)] [(.ref a3)])) _
    refine XS.iload X8.here hx rfl (hb hby d10_20) rfl ?_
    refine st11 _ ?_
    exact X11.returnOut hx Bd.returns (hb hby d10_25) hr
  · show Qrm10 Z w0 w1 w2 w3 w4 w5 w6 w7 w8 w9 w10 w11 p1 p2 a3 a4 a5 h0 n0 _ T11.heap _
    rw [e11]
    exact ⟨rfl, N11, K11, f12, f13, f14, Fw11⟩
def Qrm11 (Z : State) (w0 : Addr) (w1 : Addr) (w2 : Addr) (w3 : Addr) (w4 : Addr) (w5 : Addr) (w6 : Addr) (w7 : Addr) (w8 : Addr) (w9 : Addr) (w10 : Int32) (w11 : Value) (a1 : Addr) (a2 : Addr) (a3 : Addr) (h0 : Heap) (n0 : Nat) (v : Option Value) (h : Heap) (L : List Loc) : Prop := v = some (.int (0 : Int32)) ∧ Fr n0 L ∧ h = h0
set_option maxRecDepth 65536 in
set_option maxHeartbeats 40000000 in
theorem rm11 (l : Launch) (Z : State) (a0 : Array Value) (hw : ∀ d ∈ tables_1, d.before a0 Z = true) (hj : ∀ d ∈ jdkStatics_1, d.before a0 Z = true) (w0 : Addr) (w1 : Addr) (w2 : Addr) (w3 : Addr) (w4 : Addr) (w5 : Addr) (w6 : Addr) (w7 : Addr) (w8 : Addr) (w9 : Addr) (w10 : Int32) (w11 : Value) (hS : SF Z w0 w1 w2 w3 w4 w5 w6 w7 w8 w9 w10 w11) (ws : List Jvm.Cond) (a1 : Addr) (a2 : Addr) (a3 : Addr) (h0 : Heap) (n0 : Nat) (O0 : Old Z n0 h0) (PF1 : Fld Z h0 a1 z1 "type" z3 (.ref a3)) (pne2 : a3 ≠ w8) :
    MetFree l (⟨z1, "isSymbol", z6⟩ : MethodName) (head1 (Jvm.Cond.code (⟨z1, "isSymbol", z6⟩ : MethodName) prog_65_method_3_code 2 (some .boolean) :: ws) ({ frames := 0, cells := 0, slots := 0, locals := 0 } : Room)) (fun a U => a = #[(.ref a1), (.ref a2)] ∧ Z.Warmed39 U.vm ∧ U.heap = h0) (fun _ _ _ _ _ => True) (fun _ U o U' => ∃ v L, o = .returned v ∧ Qrm11 Z w0 w1 w2 w3 w4 w5 w6 w7 w8 w9 w10 w11 a1 a2 a3 h0 n0 v U'.heap L ∧ FrameEnd U o U' L ({ frames := 0, cells := 0, slots := 0, locals := 0 } : Room).cells ({ frames := 0, cells := 0, slots := 0, locals := 0 } : Room).slots) := by
  refine MetFree.of_bodySF (plainFor_of_name pn162) hisR ?_
  intro p e s m args below meth c s₁ Bd hml0 hP hK
  obtain ⟨rfl, hZ, hh⟩ := hP
  have hx := Bd.exec
  have hby := Bd.bytes
  have hml : c.maxLocals = 2 := hml0
  have hown : s.vm.findClass z1 = some m.cls := findClass_of_methodNamed Bd.named
  have hnm := (name_of_methodNamed Bd.named Bd.method).1
  have X0 : Stand p l e ({ frames := 0, cells := 0, slots := 0, locals := 0 } : Room) s m #[(.ref a1), (.ref a2)] below meth c s₁ [] 0 0 := Stand.of_body Bd
  have e0 : s₁.heap = h0 := by rw [← hh, Bd.state]; rfl
  have N0 := Fr.nil n0
  have pre0 : ∀ t, Steps p.tables e below (s₁.setTop (mkF m 0 #[.val (.ref a1), .val (.ref a2)] [])) t → Steps p.tables e below (s₁.setTop (entryFrame m #[(.ref a1), (.ref a2)] 2)) t := fun t k => castTop (ef106 m a1 a2) k
  obtain ⟨T1, X1, e1, st1⟩ := getF X0 hx hZ hown (host := "") (Or.inl (hw _ m60)) Via.refl e0 PF1 (g := (mkF m 1 #[.val (.ref a1), .val (.ref a2)] [(.ref a1)])) rfl rfl (hb hby d12_1)
  obtain ⟨T2, X2, e2, st2⟩ := getS2 X1 hx hZ hown (host := "") (Or.inl (hw _ m73)) Via.refl e1 (hS.2.2.2.2.2.2.2.2.2.2.2.2.2.2.2.2.2.2.2.2.2.2.2.2.1.ext O0.2) (g := (mkF m 4 #[.val (.ref a1), .val (.ref a2)] [(.ref a3)])) rfl (hb hby d12_4)
  obtain ⟨fs, hr, hrun, hended, hW, hsame⟩ := X2.leave (v := some (.int (0 : Int32))) (fun h => by rw [Bd.returns] at h; cases h)
  refine ⟨_, _, pre0 _ ?_, hrun, hended, _, _, rfl, ?_, ⟨_, rfl⟩, hW, hsame.mono (by decide) (by decide)⟩
  · show Steps p.tables e below (s₁.setTop (mkF m 0 #[.val (.ref a1), .val (.ref a2)] [])) _
    refine XS.aloadN X0.here hx rfl (hb hby d12_0) rfl rfl ?_
    refine st1 _ ?_
    refine st2 _ ?_
    refine Jvm.RoadKit.acmp (g := (mkF m 7 #[.val (.ref a1), .val (.ref a2)] [(.ref w8), (.ref a3)])) X2 hx rfl rfl rfl (pc0 := 7) (pc' := 25) (same := false) rfl (hb hby d12_7) rfl (decide_eq_false fun q => pne2 (Value.ref.inj q)) (by decide) (by decide) ?_
    show Steps p.tables e below (T2.setTop (mkF m 25 #[.val (.ref a1), .val (.ref a2)] [])) _
    refine XS.iconst X2.here hx rfl (hb hby d12_25) ?_
    exact retN X2 hx (t := .boolean) Bd.returns (by simp) (hb hby d12_26) hr
  · show Qrm11 Z w0 w1 w2 w3 w4 w5 w6 w7 w8 w9 w10 w11 a1 a2 a3 h0 n0 _ T2.heap _
    rw [e2]
    exact ⟨rfl, N0, rfl⟩
def Qrm12 (Z : State) (w0 : Addr) (w1 : Addr) (w2 : Addr) (w3 : Addr) (w4 : Addr) (w5 : Addr) (w6 : Addr) (w7 : Addr) (w8 : Addr) (w9 : Addr) (w10 : Int32) (w11 : Value) (p1 : Int32) (h0 : Heap) (n0 : Nat) (v : Option Value) (h : Heap) (L : List Loc) : Prop := v = some (.int (1 : Int32)) ∧ Fr n0 L ∧ h = h0
set_option maxRecDepth 65536 in
set_option maxHeartbeats 40000000 in
theorem rm12 (l : Launch) (Z : State) (a0 : Array Value) (hw : ∀ d ∈ tables_1, d.before a0 Z = true) (hj : ∀ d ∈ jdkStatics_1, d.before a0 Z = true) (w0 : Addr) (w1 : Addr) (w2 : Addr) (w3 : Addr) (w4 : Addr) (w5 : Addr) (w6 : Addr) (w7 : Addr) (w8 : Addr) (w9 : Addr) (w10 : Int32) (w11 : Value) (hS : SF Z w0 w1 w2 w3 w4 w5 w6 w7 w8 w9 w10 w11) (ws : List Jvm.Cond) (p1 : Int32) (h0 : Heap) (n0 : Nat) (O0 : Old Z n0 h0) (hc1 : ¬ ((255 : Int32) < p1)) :
    MetFree l (⟨z5, "canEncode", "(C)Z"⟩ : MethodName) (head1 (Jvm.Cond.code (⟨z5, "canEncode", "(C)Z"⟩ : MethodName) jdk_43_method_3_code 1 (some .boolean) :: ws) ({ frames := 0, cells := 0, slots := 0, locals := 0 } : Room)) (fun a U => a = #[(.int p1)] ∧ Z.Warmed39 U.vm ∧ U.heap = h0) (fun _ _ _ _ _ => True) (fun _ U o U' => ∃ v L, o = .returned v ∧ Qrm12 Z w0 w1 w2 w3 w4 w5 w6 w7 w8 w9 w10 w11 p1 h0 n0 v U'.heap L ∧ FrameEnd U o U' L ({ frames := 0, cells := 0, slots := 0, locals := 0 } : Room).cells ({ frames := 0, cells := 0, slots := 0, locals := 0 } : Room).slots) := by
  refine MetFree.of_bodySF (plainFor_of_name pn217) hisR ?_
  intro p e s m args below meth c s₁ Bd hml0 hP hK
  obtain ⟨rfl, hZ, hh⟩ := hP
  have hx := Bd.exec
  have hby := Bd.bytes
  have hml : c.maxLocals = 1 := hml0
  have hown : s.vm.findClass z5 = some m.cls := findClass_of_methodNamed Bd.named
  have hnm := (name_of_methodNamed Bd.named Bd.method).1
  have X0 : Stand p l e ({ frames := 0, cells := 0, slots := 0, locals := 0 } : Room) s m #[(.int p1)] below meth c s₁ [] 0 0 := Stand.of_body Bd
  have e0 : s₁.heap = h0 := by rw [← hh, Bd.state]; rfl
  have N0 := Fr.nil n0
  have pre0 : ∀ t, Steps p.tables e below (s₁.setTop (mkF m 0 #[.val (.int p1)] [])) t → Steps p.tables e below (s₁.setTop (entryFrame m #[(.int p1)] 1)) t := fun t k => castTop (ef55 m p1) k
  obtain ⟨fs, hr, hrun, hended, hW, hsame⟩ := X0.leave (v := some (.int (1 : Int32))) (fun h => by rw [Bd.returns] at h; cases h)
  refine ⟨_, _, pre0 _ ?_, hrun, hended, _, _, rfl, ?_, ⟨_, rfl⟩, hW, hsame.mono (by decide) (by decide)⟩
  · show Steps p.tables e below (s₁.setTop (mkF m 0 #[.val (.int p1)] [])) _
    refine XS.iloadN X0.here hx rfl (hb hby d3_0) rfl ?_
    refine XS.sipush X0.here hx rfl (hb hby d3_1) ?_
    refine XS.icmpNo X0.here hx rfl (hb hby d3_4) rfl (flt hc1).2.2.1 ?_
    refine XS.iconst X0.here hx rfl (hb hby d3_7) ?_
    show Steps p.tables e below (s₁.setTop (mkF m 8 #[.val (.int p1)] [(.int (1 : Int32))])) _
    refine XS.goto X0.here hx rfl (pc0 := 8) (pc' := 12) rfl (hb hby d3_8) (by decide) (by decide) ?_
    exact retN X0 hx (t := .boolean) Bd.returns (by simp) (hb hby d3_12) hr
  · show Qrm12 Z w0 w1 w2 w3 w4 w5 w6 w7 w8 w9 w10 w11 p1 h0 n0 _ s₁.heap _
    rw [e0]
    exact ⟨rfl, N0, rfl⟩
def Qrm13 (Z : State) (w0 : Addr) (w1 : Addr) (w2 : Addr) (w3 : Addr) (w4 : Addr) (w5 : Addr) (w6 : Addr) (w7 : Addr) (w8 : Addr) (w9 : Addr) (w10 : Int32) (w11 : Value) (p1 : Int32) (h0 : Heap) (n0 : Nat) (v : Option Value) (h : Heap) (L : List Loc) : Prop := ∃ x0 : Addr, ∃ xk0 : ClassId, v = some (.ref x0) ∧ Fr n0 L ∧ Keep h0 h [] ∧ h0.size ≤ x0 ∧ Arv Z h x0 xk0 .byte (1 : Int32) [(.int (p1.toInt8.toInt32))] (.int (0 : Int32))
set_option maxRecDepth 65536 in
set_option maxHeartbeats 40000000 in
theorem rm13 (l : Launch) (Z : State) (a0 : Array Value) (hw : ∀ d ∈ tables_1, d.before a0 Z = true) (hj : ∀ d ∈ jdkStatics_1, d.before a0 Z = true) (w0 : Addr) (w1 : Addr) (w2 : Addr) (w3 : Addr) (w4 : Addr) (w5 : Addr) (w6 : Addr) (w7 : Addr) (w8 : Addr) (w9 : Addr) (w10 : Int32) (w11 : Value) (hS : SF Z w0 w1 w2 w3 w4 w5 w6 w7 w8 w9 w10 w11) (ws : List Jvm.Cond) (p1 : Int32) (h0 : Heap) (n0 : Nat) (O0 : Old Z n0 h0) :
    MetFree l (⟨z5, "toBytes", "(C)[B"⟩ : MethodName) (head1 (Jvm.Cond.code (⟨z5, "toBytes", "(C)[B"⟩ : MethodName) jdk_43_method_46_code 1 (some (.array .byte)) :: ws) ({ frames := 0, cells := 1, slots := 1, locals := 0 } : Room)) (fun a U => a = #[(.int p1)] ∧ Z.Warmed39 U.vm ∧ U.heap = h0) (fun _ _ _ _ _ => True) (fun _ U o U' => ∃ v L, o = .returned v ∧ Qrm13 Z w0 w1 w2 w3 w4 w5 w6 w7 w8 w9 w10 w11 p1 h0 n0 v U'.heap L ∧ FrameEnd U o U' L ({ frames := 0, cells := 1, slots := 1, locals := 0 } : Room).cells ({ frames := 0, cells := 1, slots := 1, locals := 0 } : Room).slots) := by
  refine MetFree.of_bodySF (plainFor_of_name pn217) hisR ?_
  intro p e s m args below meth c s₁ Bd hml0 hP hK
  obtain ⟨rfl, hZ, hh⟩ := hP
  have hx := Bd.exec
  have hby := Bd.bytes
  have hml : c.maxLocals = 1 := hml0
  have hown : s.vm.findClass z5 = some m.cls := findClass_of_methodNamed Bd.named
  have hnm := (name_of_methodNamed Bd.named Bd.method).1
  have X0 : Stand p l e ({ frames := 0, cells := 1, slots := 1, locals := 0 } : Room) s m #[(.int p1)] below meth c s₁ [] 0 0 := Stand.of_body Bd
  have e0 : s₁.heap = h0 := by rw [← hh, Bd.state]; rfl
  have N0 := Fr.nil n0
  have pre0 : ∀ t, Steps p.tables e below (s₁.setTop (mkF m 0 #[.val (.int p1)] [])) t → Steps p.tables e below (s₁.setTop (entryFrame m #[(.int p1)] 1)) t := fun t k => castTop (ef55 m p1) k
  obtain ⟨T1, h1, k1, b1, X1, e1, E1, V1, g1, O1, K1, st1⟩ := own_newP X0 hx hZ (aty := .byte) (ty := .byte) (dv := (.int (0 : Int32))) (vs := [(.int (0 : Int32))]) (cap := 1) rfl rfl rfl (hw _ m19) e0 O0 (Keep.refl h0 []) (g := (mkF m 1 #[.val (.int p1)] [(.int (1 : Int32))])) rfl (hb hby d4_1) rfl (by decide) (by decide) (by decide) (by decide) (by decide)
  obtain ⟨T2, h2, L'2, X2, e2, W2, V2, O2, K2, N2, st2⟩ := own_stB X1 hx hZ e1 V1 O1 K1 N0 (Nat.le_trans (own_old_le O0) g1) (Or.inr (Nat.le_trans (Keep.refl h0 []).1 g1)) (j := (0 : Int32)) 0 (by decide) (Nat.le_of_ble_eq_true rfl) (v := (.int (p1.toInt8.toInt32))) (congrArg Value.int (own_narB (by have q0 := own_rng p1; have q1 := c_i2b p1; have q2 := (by decide : ((-128 : Int32)).toInt = -128); exact own_ltF (by omega) : ¬ ((p1.toInt8.toInt32) < (-128 : Int32))) (by have q0 := (by decide : ((127 : Int32)).toInt = 127); have q1 := own_rng p1; have q2 := c_i2b p1; exact own_ltF (by omega) : ¬ ((127 : Int32) < (p1.toInt8.toInt32))))) (vs' := [(.int (p1.toInt8.toInt32))]) rfl (g := (mkF m 7 #[.val (.int p1)] [(.int (p1.toInt8.toInt32)), (.int (0 : Int32)), (.ref b1), (.ref b1)])) rfl rfl (hb hby d4_7)
  obtain ⟨fs, hr, hrun, hended, hW, hsame⟩ := X2.leave (v := some (.ref b1)) (fun h => by rw [Bd.returns] at h; cases h)
  refine ⟨_, _, pre0 _ ?_, hrun, hended, _, _, rfl, ?_, ⟨_, rfl⟩, hW, hsame.mono (by decide) (by decide)⟩
  · show Steps p.tables e below (s₁.setTop (mkF m 0 #[.val (.int p1)] [])) _
    refine XS.iconst X0.here hx rfl (hb hby d4_0) ?_
    refine st1 _ ?_
    refine XS.dup X1.here hx rfl (hb hby d4_3) rfl rfl ?_
    refine XS.iconst X1.here hx rfl (hb hby d4_4) ?_
    show Steps p.tables e below (T1.setTop (mkF m 5 #[.val (.int p1)] [(.int (0 : Int32)), (.ref b1), (.ref b1)])) _
    refine XS.iloadN X1.here hx rfl (hb hby d4_5) rfl ?_
    refine XS.i2b X1.here hx rfl (hb hby d4_6) rfl ?_
    refine st2 _ ?_
    exact retOut X2 hx Bd.returns rfl (Or.inr (Or.inr (Or.inr (Or.inr ⟨rfl, rfl, rfl⟩)))) (hb hby d4_8) hr
  · show Qrm13 Z w0 w1 w2 w3 w4 w5 w6 w7 w8 w9 w10 w11 p1 h0 n0 _ T2.heap _
    rw [e2]
    exact ⟨b1, k1, rfl, N2, K2, (Nat.le_trans (Keep.refl h0 []).1 g1), V2⟩
def Qrm14 (Z : State) (w0 : Addr) (w1 : Addr) (w2 : Addr) (w3 : Addr) (w4 : Addr) (w5 : Addr) (w6 : Addr) (w7 : Addr) (w8 : Addr) (w9 : Addr) (w10 : Int32) (w11 : Value) (a1 : Addr) (a2 : Addr) (h0 : Heap) (n0 : Nat) (v : Option Value) (h : Heap) (L : List Loc) : Prop := v = none ∧ Fr n0 L ∧ Keep h0 h [a1] ∧ Fld Z h a1 z0 "value" "[B" (.ref a2) ∧ Fld Z h a1 z0 "coder" "B" (.int (0 : Int32))
set_option maxRecDepth 65536 in
set_option maxHeartbeats 40000000 in
theorem rm14 (l : Launch) (Z : State) (a0 : Array Value) (hw : ∀ d ∈ tables_1, d.before a0 Z = true) (hj : ∀ d ∈ jdkStatics_1, d.before a0 Z = true) (w0 : Addr) (w1 : Addr) (w2 : Addr) (w3 : Addr) (w4 : Addr) (w5 : Addr) (w6 : Addr) (w7 : Addr) (w8 : Addr) (w9 : Addr) (w10 : Int32) (w11 : Value) (hS : SF Z w0 w1 w2 w3 w4 w5 w6 w7 w8 w9 w10 w11) (ws : List Jvm.Cond) (a1 : Addr) (a2 : Addr) (h0 : Heap) (n0 : Nat) (O0 : Old Z n0 h0) (PE1 : Exa Z h0 a1 z0) (PF2 : Fld Z h0 a1 z0 "value" "[B" .null) (PF3 : Fld Z h0 a1 z0 "coder" "B" (.int (0 : Int32))) (gn4 : n0 ≤ a1) :
    MetFree l (⟨z0, "<init>", "([BB)V"⟩ : MethodName) (head1 (Jvm.Cond.code (⟨z0, "<init>", "([BB)V"⟩ : MethodName) jdk_42_method_151_code 3 none :: ws) ({ frames := 1, cells := 0, slots := 0, locals := 12 } : Room)) (fun a U => a = #[(.ref a1), (.ref a2), (.int (0 : Int32))] ∧ Z.Warmed39 U.vm ∧ U.heap = h0) (fun _ _ _ _ _ => True) (fun _ U o U' => ∃ v L, o = .returned v ∧ Qrm14 Z w0 w1 w2 w3 w4 w5 w6 w7 w8 w9 w10 w11 a1 a2 h0 n0 v U'.heap L ∧ FrameEnd U o U' L ({ frames := 1, cells := 0, slots := 0, locals := 12 } : Room).cells ({ frames := 1, cells := 0, slots := 0, locals := 12 } : Room).slots) := by
  refine MetFree.of_bodySF (plainFor_of_name pn101) hisR ?_
  intro p e s m args below meth c s₁ Bd hml0 hP hK
  obtain ⟨rfl, hZ, hh⟩ := hP
  have hx := Bd.exec
  have hby := Bd.bytes
  have hml : c.maxLocals = 3 := hml0
  have hown : s.vm.findClass z0 = some m.cls := findClass_of_methodNamed Bd.named
  have hnm := (name_of_methodNamed Bd.named Bd.method).1
  have X0 : Stand p l e ({ frames := 1, cells := 0, slots := 0, locals := 12 } : Room) s m #[(.ref a1), (.ref a2), (.int (0 : Int32))] below meth c s₁ [] 0 0 := Stand.of_body Bd
  have e0 : s₁.heap = h0 := by rw [← hh, Bd.state]; rfl
  have N0 := Fr.nil n0
  have pre0 : ∀ t, Steps p.tables e below (s₁.setTop (mkF m 0 #[.val (.ref a1), .val (.ref a2), .val (.int (0 : Int32))] [])) t → Steps p.tables e below (s₁.setTop (entryFrame m #[(.ref a1), (.ref a2), (.int (0 : Int32))] 3)) t := fun t k => castTop (ef290 m a1 a2 (0 : Int32)) k
  obtain ⟨T1, X1, e1, st1⟩ := initO X0 hx hZ hown (hw _ m24) (hw _ m25) (hw _ m26) e0 (g := (mkF m 1 #[.val (.ref a1), .val (.ref a2), .val (.int (0 : Int32))] [(.ref a1)])) rfl (by rw [hml]; rfl) rfl (hb hby d5_1) (by decide) (W := 0) (by show 2 * 0 + _ ≤ _; exact Nat.le_of_eq rfl) (by decide)
  obtain ⟨T2, h2, L'2, X2, e2, W2, Fw2, O2, K2, N2, st2⟩ := own_put X1 hx hZ hown (host := "") (Or.inl (hw _ m27)) Via.refl e1 O0 (Keep.refl h0 [a1]) N0 gn4 (Or.inl (List.mem_of_getElem? (i := 0) rfl)) PF2 PE1 (Or.inr ⟨(hw _ m28), rfl, hnm⟩) (hw _ m15) (ty := (.array .byte)) (by decide) rfl rfl (g := (mkF m 6 #[.val (.ref a1), .val (.ref a2), .val (.int (0 : Int32))] [(.ref a2), (.ref a1)])) rfl rfl (hb hby d5_6)
  have f3 : Fld Z h2 a1 z0 "coder" "B" (.int (0 : Int32)) := (PF3.other W2 (Or.inr (slot_ne (Or.inr (hw _ m30)) (Or.inr (hw _ m28)) (by decide) (t := .byte) (t' := (.array .byte)) (by decide) (by decide))))
  have f4 : Exa Z h2 a1 z0 := (PE1.wr W2)
  obtain ⟨T5, h5, L'5, X5, e5, W5, Fw5, O5, K5, N5, st5⟩ := own_putN X2 hx hZ hown (hw _ m29) Via.refl e2 O2 K2 N2 gn4 (Or.inl (List.mem_of_getElem? (i := 0) rfl)) f3 f4 (Or.inr ⟨(hw _ m30), rfl, hnm⟩) (hw _ m15) (ty := .byte) (v' := (.int (0 : Int32))) (by decide) rfl (by decide) (g := (mkF m 11 #[.val (.ref a1), .val (.ref a2), .val (.int (0 : Int32))] [(.int (0 : Int32)), (.ref a1)])) rfl rfl (hb hby d5_11)
  have f6 : Fld Z h5 a1 z0 "value" "[B" (.ref a2) := (Fw2.other W5 (Or.inr (slot_ne (Or.inr (hw _ m28)) (Or.inr (hw _ m30)) (by decide) (t := (.array .byte)) (t' := .byte) (by decide) (by decide))))
  obtain ⟨fs, hr, hrun, hended, hW, hsame⟩ := X5.leave (v := none) (fun _ => rfl)
  refine ⟨_, _, pre0 _ ?_, hrun, hended, _, _, rfl, ?_, ⟨_, rfl⟩, hW, hsame.mono (by decide) (by decide)⟩
  · show Steps p.tables e below (s₁.setTop (mkF m 0 #[.val (.ref a1), .val (.ref a2), .val (.int (0 : Int32))] [])) _
    refine XS.aloadN X0.here hx rfl (hb hby d5_0) rfl rfl ?_
    refine st1 _ ?_
    refine XS.aloadN X1.here hx rfl (hb hby d5_4) rfl rfl ?_
    refine XS.aloadN X1.here hx rfl (hb hby d5_5) rfl rfl ?_
    show Steps p.tables e below (T1.setTop (mkF m 6 #[.val (.ref a1), .val (.ref a2), .val (.int (0 : Int32))] [(.ref a2), (.ref a1)])) _
    refine st2 _ ?_
    refine XS.aloadN X2.here hx rfl (hb hby d5_9) rfl rfl ?_
    refine XS.iloadN X2.here hx rfl (hb hby d5_10) rfl ?_
    refine st5 _ ?_
    show Steps p.tables e below (T5.setTop (mkF m 14 #[.val (.ref a1), .val (.ref a2), .val (.int (0 : Int32))] [])) _
    exact X5.returnOut hx Bd.returns (hb hby d5_14) hr
  · show Qrm14 Z w0 w1 w2 w3 w4 w5 w6 w7 w8 w9 w10 w11 a1 a2 h0 n0 _ T5.heap _
    rw [e5]
    exact ⟨rfl, N5, K5, f6, Fw5⟩
def Qrm15 (Z : State) (w0 : Addr) (w1 : Addr) (w2 : Addr) (w3 : Addr) (w4 : Addr) (w5 : Addr) (w6 : Addr) (w7 : Addr) (w8 : Addr) (w9 : Addr) (w10 : Int32) (w11 : Value) (p1 : Int32) (h0 : Heap) (n0 : Nat) (v : Option Value) (h : Heap) (L : List Loc) : Prop := ∃ x0 : Addr, ∃ x1 : Addr, ∃ xk0 : ClassId, v = some (.ref x0) ∧ Fr n0 L ∧ Keep h0 h [] ∧ h0.size ≤ x0 ∧ x0 < x1 ∧ Exa Z h x0 z0 ∧ Fld Z h x0 z0 "value" "[B" (.ref x1) ∧ Fld Z h x0 z0 "coder" "B" (.int (0 : Int32)) ∧ Arv Z h x1 xk0 .byte (1 : Int32) [(.int (p1.toInt8.toInt32))] (.int (0 : Int32))
set_option maxRecDepth 65536 in
set_option maxHeartbeats 40000000 in
theorem rm15 (l : Launch) (Z : State) (a0 : Array Value) (hw : ∀ d ∈ tables_1, d.before a0 Z = true) (hj : ∀ d ∈ jdkStatics_1, d.before a0 Z = true) (w0 : Addr) (w1 : Addr) (w2 : Addr) (w3 : Addr) (w4 : Addr) (w5 : Addr) (w6 : Addr) (w7 : Addr) (w8 : Addr) (w9 : Addr) (w10 : Int32) (w11 : Value) (hS : SF Z w0 w1 w2 w3 w4 w5 w6 w7 w8 w9 w10 w11) (ws : List Jvm.Cond) (p1 : Int32) (h0 : Heap) (n0 : Nat) (O0 : Old Z n0 h0) (hc1 : ¬ ((255 : Int32) < p1)) :
    MetFree l (⟨z0, "valueOf", "(C)Ljava/lang/String;"⟩ : MethodName) (head1 (Jvm.Cond.code (⟨z0, "valueOf", "(C)Ljava/lang/String;"⟩ : MethodName) jdk_42_method_139_code 1 (some (.object z0)) :: ws) ({ frames := 2, cells := 2, slots := 5, locals := 27 } : Room)) (fun a U => a = #[(.int p1)] ∧ Z.Warmed39 U.vm ∧ U.heap = h0) (fun _ _ _ _ _ => True) (fun _ U o U' => ∃ v L, o = .returned v ∧ Qrm15 Z w0 w1 w2 w3 w4 w5 w6 w7 w8 w9 w10 w11 p1 h0 n0 v U'.heap L ∧ FrameEnd U o U' L ({ frames := 2, cells := 2, slots := 5, locals := 27 } : Room).cells ({ frames := 2, cells := 2, slots := 5, locals := 27 } : Room).slots) := by
  refine MetFree.of_bodySF (plainFor_of_name pn101) hisR ?_
  intro p e s m args below meth c s₁ Bd hml0 hP hK
  obtain ⟨rfl, hZ, hh⟩ := hP
  have hx := Bd.exec
  have hby := Bd.bytes
  have hml : c.maxLocals = 1 := hml0
  have hown : s.vm.findClass z0 = some m.cls := findClass_of_methodNamed Bd.named
  have hnm := (name_of_methodNamed Bd.named Bd.method).1
  have X0 : Stand p l e ({ frames := 2, cells := 2, slots := 5, locals := 27 } : Room) s m #[(.int p1)] below meth c s₁ [] 0 0 := Stand.of_body Bd
  have e0 : s₁.heap = h0 := by rw [← hh, Bd.state]; rfl
  have N0 := Fr.nil n0
  have pre0 : ∀ t, Steps p.tables e below (s₁.setTop (mkF m 0 #[.val (.int p1)] [])) t → Steps p.tables e below (s₁.setTop (entryFrame m #[(.int p1)] 1)) t := fun t k => castTop (ef55 m p1) k
  obtain ⟨T1, X1, e1, st1⟩ := getS2 X0 hx hZ hown (host := "") (Or.inl (hw _ m9)) Via.refl e0 (hS.2.2.2.2.2.2.2.2.2.2.2.2.2.2.2.2.2.2.2.2.2.2.2.2.2.2.2.2.2.2.1.ext O0.2) (g := (mkF m 0 #[.val (.int p1)] [])) rfl (hb hby d2_0)
  obtain ⟨_, T2, L2, hQ2, X2, st2⟩ := own_callS X1 hx hZ (W := 0) hown (hw _ m10) (hw _ m11) (hw _ m12) (hw _ m13) (by decide) (rm12 l Z a0 hw hj w0 w1 w2 w3 w4 w5 w6 w7 w8 w9 w10 w11 hS [] p1 h0 n0 O0 hc1) e1 (g := (mkF m 7 #[.val (.int p1)] [(.int p1)])) rfl (by rw [hml]; rfl) (argsL := [(.int p1)]) (rest := []) (lenOf pd258 rfl) rfl rfl (by show 2 * 0 + _ ≤ _; exact Nat.le_of_eq rfl) (hb hby d2_7) (by decide) (by decide) (by decide) (by decide)
  obtain ⟨rfl, N2q, e2⟩ := hQ2
  have N2 := Fr.app N0 N2q
  have e2' : T2.heap = h0 := e2
  obtain ⟨T3, h3, b3, X3, e3, E3, A3, D3, g3, O3, K3, st3⟩ := own_newO X2 hx hZ hown (hw _ m14) (hw _ m15) (hw _ m7) e2' O0 (Keep.refl h0 []) (g := (mkF m 13 #[.val (.int p1)] [])) rfl (hb hby d2_13) (by decide) (by decide)
  have F3_1 : Fld Z h3 b3 z0 "value" "[B" .null := D3 (Or.inr (hw _ m28)) (ty := (.array .byte)) (by decide)
  have F3_2 : Fld Z h3 b3 z0 "coder" "B" (.int (0 : Int32)) := D3 (Or.inr (hw _ m30)) (ty := .byte) (by decide)
  obtain ⟨_, T4, L4, hQ4, X4, st4⟩ := own_callS X3 hx hZ (W := 2) hown (hw _ m16) (hw _ m17) (hw _ m12) (hw _ m18) (by decide) (rm13 l Z a0 hw hj w0 w1 w2 w3 w4 w5 w6 w7 w8 w9 w10 w11 hS [] p1 h3 n0 O3) e3 (g := (mkF m 18 #[.val (.int p1)] [(.int p1), (.ref b3), (.ref b3)])) rfl (by rw [hml]; rfl) (argsL := [(.int p1)]) (rest := [(.ref b3), (.ref b3)]) (lenOf pd276 rfl) rfl rfl (by show 2 * 0 + _ ≤ _; exact Nat.le_of_eq rfl) (hb hby d2_18) (by decide) (by decide) (by decide) (by decide)
  obtain ⟨c4_0, k4_1, rfl, N4q, Kq4, lo4_0, q4_0⟩ := hQ4
  have N4 := Fr.app N2 N4q
  have O4 : Old Z n0 T4.heap := O3.keep Kq4 all0
  have K4 : Keep h0 T4.heap [] := K3.trans Kq4 all0
  have f6 : Exa Z T4.heap b3 z0 := (A3.keep Kq4)
  have f7 : Fld Z T4.heap b3 z0 "value" "[B" .null := (F3_1.keep Kq4 nin0)
  have f8 : Fld Z T4.heap b3 z0 "coder" "B" (.int (0 : Int32)) := (F3_2.keep Kq4 nin0)
  obtain ⟨_, T5, L5, hQ5, X5, st5⟩ := own_special X4 hx hZ (W := 1) rfl hown (hw _ m20) (hw _ m21) (hw _ m7) (hw _ m23) (by decide) (rm14 l Z a0 hw hj w0 w1 w2 w3 w4 w5 w6 w7 w8 w9 w10 w11 hS [] b3 c4_0 T4.heap n0 O4 f6 f7 f8 (Nat.le_trans (own_old_le O0) g3)) (rfl : T4.heap = T4.heap) (a := b3) (g := (mkF m 22 #[.val (.int p1)] [(.int (0 : Int32)), (.ref c4_0), (.ref b3), (.ref b3)])) rfl (by rw [hml]; rfl) (argsL := [(.ref c4_0), (.int (0 : Int32))]) (rest := [(.ref b3)]) (lenOf pd292 rfl) rfl rfl (by show 2 * 0 + _ ≤ _; exact Nat.le_of_eq rfl) (hb hby d2_22) (by decide) (by decide) (by decide) (by decide)
  obtain ⟨rfl, N5q, Kq5, q5_0, q5_1⟩ := hQ5
  have N5 := Fr.app N4 N5q
  have O5 : Old Z n0 T5.heap := O4.keep Kq5 (allS (Nat.le_trans (own_old_le O0) g3) all0)
  have K5 : Keep h0 T5.heap [] := K4.trans Kq5 (allS (Or.inr (Nat.le_trans (Keep.refl h0 []).1 g3)) all0)
  have f9 : Exa Z T5.heap b3 z0 := (f6.keep Kq5)
  have f10 : Arv Z T5.heap c4_0 k4_1 .byte (1 : Int32) [(.int (p1.toInt8.toInt32))] (.int (0 : Int32)) := (q4_0.keep Kq5 (ninS (Ne.symm (Nat.ne_of_lt (Nat.lt_of_lt_of_le A3.lt lo4_0))) nin0))
  obtain ⟨fs, hr, hrun, hended, hW, hsame⟩ := X5.leave (v := some (.ref b3)) (fun h => by rw [Bd.returns] at h; cases h)
  refine ⟨_, _, pre0 _ ?_, hrun, hended, _, _, rfl, ?_, ⟨_, rfl⟩, hW, hsame.mono (by decide) (by decide)⟩
  · show Steps p.tables e below (s₁.setTop (mkF m 0 #[.val (.int p1)] [])) _
    refine st1 _ ?_
    refine XS.ifNo X1.here hx rfl (hb hby d2_3) rfl ((if0 _ _).trans (feq hS.2.2.2.2.2.2.2.2.2.2.2.2.2.2.2.2.2.2.2.2.2.2.2.2.2.2.2.2.2.2.2.1).1) ?_
    refine XS.iloadN X1.here hx rfl (hb hby d2_6) rfl ?_
    refine st2 _ ?_
    show Steps p.tables e below (T2.setTop (mkF m 10 #[.val (.int p1)] [(.int (1 : Int32))])) _
    refine XS.ifNo X2.here hx rfl (hb hby d2_10) rfl ((if0 _ _).trans (feq (by decide : ¬ ((1 : Int32) = (0 : Int32)))).1) ?_
    refine st3 _ ?_
    refine XS.dup X3.here hx rfl (hb hby d2_16) rfl rfl ?_
    refine XS.iloadN X3.here hx rfl (hb hby d2_17) rfl ?_
    show Steps p.tables e below (T3.setTop (mkF m 18 #[.val (.int p1)] [(.int p1), (.ref b3), (.ref b3)])) _
    refine st4 _ ?_
    refine XS.iconst X4.here hx rfl (hb hby d2_21) ?_
    refine st5 _ ?_
    exact retOut X5 hx Bd.returns rfl (Or.inr (Or.inr (Or.inr (Or.inr ⟨rfl, rfl, rfl⟩)))) (hb hby d2_25) hr
  · show Qrm15 Z w0 w1 w2 w3 w4 w5 w6 w7 w8 w9 w10 w11 p1 h0 n0 _ T5.heap _
    exact ⟨b3, c4_0, k4_1, rfl, N5, K5, (Nat.le_trans (Keep.refl h0 []).1 g3), (Nat.lt_of_lt_of_le A3.lt lo4_0), f9, q5_0, q5_1, f10⟩
def Qrm16 (Z : State) (w0 : Addr) (w1 : Addr) (w2 : Addr) (w3 : Addr) (w4 : Addr) (w5 : Addr) (w6 : Addr) (w7 : Addr) (w8 : Addr) (w9 : Addr) (w10 : Int32) (w11 : Value) (p1 : Int32) (p2 : Int32) (h0 : Heap) (n0 : Nat) (v : Option Value) (h : Heap) (L : List Loc) : Prop := ∃ x0 : Addr, ∃ x1 : Addr, ∃ xk0 : ClassId, v = some (.ref x0) ∧ Fr n0 L ∧ Keep h0 h [] ∧ h0.size ≤ x0 ∧ x0 < x1 ∧ Exa Z h x0 z0 ∧ Fld Z h x0 z0 "value" "[B" (.ref x1) ∧ Fld Z h x0 z0 "coder" "B" (.int (0 : Int32)) ∧ Arv Z h x1 xk0 .byte (1 : Int32) [(.int (p1.toInt8.toInt32))] (.int (0 : Int32))
set_option maxRecDepth 65536 in
set_option maxHeartbeats 40000000 in
theorem rm16 (l : Launch) (Z : State) (a0 : Array Value) (hw : ∀ d ∈ tables_1, d.before a0 Z = true) (hj : ∀ d ∈ jdkStatics_1, d.before a0 Z = true) (w0 : Addr) (w1 : Addr) (w2 : Addr) (w3 : Addr) (w4 : Addr) (w5 : Addr) (w6 : Addr) (w7 : Addr) (w8 : Addr) (w9 : Addr) (w10 : Int32) (w11 : Value) (hS : SF Z w0 w1 w2 w3 w4 w5 w6 w7 w8 w9 w10 w11) (ws : List Jvm.Cond) (p1 : Int32) (p2 : Int32) (h0 : Heap) (n0 : Nat) (O0 : Old Z n0 h0) (hc1 : ¬ ((255 : Int32) < p1)) :
    MetFree l (⟨z4, "make", z10⟩ : MethodName) (head1 (Jvm.Cond.code (⟨z4, "make", z10⟩ : MethodName) method_3_code 4 (some (.object z0)) :: ws) ({ frames := 3, cells := 2, slots := 5, locals := 39 } : Room)) (fun a U => a = #[(.int (1 : Int32)), (.int p1), (.int p2)] ∧ Z.Warmed39 U.vm ∧ U.heap = h0) (fun _ _ _ _ _ => True) (fun _ U o U' => ∃ v L, o = .returned v ∧ Qrm16 Z w0 w1 w2 w3 w4 w5 w6 w7 w8 w9 w10 w11 p1 p2 h0 n0 v U'.heap L ∧ FrameEnd U o U' L ({ frames := 3, cells := 2, slots := 5, locals := 39 } : Room).cells ({ frames := 3, cells := 2, slots := 5, locals := 39 } : Room).slots) := by
  refine MetFree.of_bodySF (plainFor_of_name pn54) hisR ?_
  intro p e s m args below meth c s₁ Bd hml0 hP hK
  obtain ⟨rfl, hZ, hh⟩ := hP
  have hx := Bd.exec
  have hby := Bd.bytes
  have hml : c.maxLocals = 4 := hml0
  have hown : s.vm.findClass z4 = some m.cls := findClass_of_methodNamed Bd.named
  have hnm := (name_of_methodNamed Bd.named Bd.method).1
  have X0 : Stand p l e ({ frames := 3, cells := 2, slots := 5, locals := 39 } : Room) s m #[(.int (1 : Int32)), (.int p1), (.int p2)] below meth c s₁ [] 0 0 := Stand.of_body Bd
  have e0 : s₁.heap = h0 := by rw [← hh, Bd.state]; rfl
  have N0 := Fr.nil n0
  have pre0 : ∀ t, Steps p.tables e below (s₁.setTop (mkF m 0 #[.val (.int (1 : Int32)), .val (.int p1), .val (.int p2), .unset] [])) t → Steps p.tables e below (s₁.setTop (entryFrame m #[(.int (1 : Int32)), (.int p1), (.int p2)] 4)) t := fun t k => castTop (ef111 m (1 : Int32) p1 p2) k
  obtain ⟨_, T1, L1, hQ1, X1, st1⟩ := own_callS X0 hx hZ (W := 0) hown (hw _ m5) (hw _ m6) (hw _ m7) (hw _ m8) (by decide) (rm15 l Z a0 hw hj w0 w1 w2 w3 w4 w5 w6 w7 w8 w9 w10 w11 hS [] p1 h0 n0 O0 hc1) e0 (g := (mkF m 21 #[.val (.int (1 : Int32)), .val (.int p1), .val (.int p2), .unset] [(.int p1)])) rfl (by rw [hml]; rfl) (argsL := [(.int p1)]) (rest := []) (lenOf pd296 rfl) rfl rfl (by show 2 * 0 + _ ≤ _; exact Nat.le_of_eq rfl) (hb hby d1_21) (by decide) (by decide) (by decide) (by decide)
  obtain ⟨c1_0, c1_1, k1_2, rfl, N1q, Kq1, lo1_0, lo1_1, q1_0, q1_1, q1_2, q1_3⟩ := hQ1
  have N1 := Fr.app N0 N1q
  have O1 : Old Z n0 T1.heap := O0.keep Kq1 all0
  have K1 : Keep h0 T1.heap [] := (Keep.refl h0 []).trans Kq1 all0
  obtain ⟨fs, hr, hrun, hended, hW, hsame⟩ := X1.leave (v := some (.ref c1_0)) (fun h => by rw [Bd.returns] at h; cases h)
  refine ⟨_, _, pre0 _ ?_, hrun, hended, _, _, rfl, ?_, ⟨_, rfl⟩, hW, hsame.mono (by decide) (by decide)⟩
  · show Steps p.tables e below (s₁.setTop (mkF m 0 #[.val (.int (1 : Int32)), .val (.int p1), .val (.int p2), .unset] [])) _
    refine XS.iloadN X0.here hx rfl (hb hby d1_0) rfl ?_
    refine XS.ifYes X0.here hx rfl (pc0 := 1) (pc' := 15) rfl (hb hby d1_1) rfl ((if0 _ _).trans (feq (by decide : ¬ ((1 : Int32) = (0 : Int32)))).2) (by decide) (by decide) ?_
    refine XS.iloadN X0.here hx rfl (hb hby d1_15) rfl ?_
    refine XS.iconst X0.here hx rfl (hb hby d1_16) ?_
    show Steps p.tables e below (s₁.setTop (mkF m 17 #[.val (.int (1 : Int32)), .val (.int p1), .val (.int p2), .unset] [(.int (1 : Int32)), (.int (1 : Int32))])) _
    refine XS.icmpNo X0.here hx rfl (hb hby d1_17) rfl (teq (by decide : (1 : Int32) = (1 : Int32))).2 ?_
    refine XS.iloadN X0.here hx rfl (hb hby d1_20) rfl ?_
    refine st1 _ ?_
    exact retOut X1 hx Bd.returns rfl (Or.inr (Or.inr (Or.inr (Or.inr ⟨rfl, rfl, rfl⟩)))) (hb hby d1_24) hr
  · show Qrm16 Z w0 w1 w2 w3 w4 w5 w6 w7 w8 w9 w10 w11 p1 p2 h0 n0 _ T1.heap _
    exact ⟨c1_0, c1_1, k1_2, rfl, N1, K1, (Nat.le_trans (Keep.refl h0 []).1 lo1_0), lo1_1, q1_0, q1_1, q1_2, q1_3⟩
def Qrm17 (Z : State) (w0 : Addr) (w1 : Addr) (w2 : Addr) (w3 : Addr) (w4 : Addr) (w5 : Addr) (w6 : Addr) (w7 : Addr) (w8 : Addr) (w9 : Addr) (w10 : Int32) (w11 : Value) (a1 : Addr) (a2 : Addr) (ck3 : ClassId) (p4 : Int32) (ck5 : ClassId) (h0 : Heap) (n0 : Nat) (v : Option Value) (h : Heap) (L : List Loc) : Prop := v = some (.int (0 : Int32)) ∧ Fr n0 L ∧ h = h0
set_option maxRecDepth 65536 in
set_option maxHeartbeats 40000000 in
theorem rm17 (l : Launch) (Z : State) (a0 : Array Value) (hw : ∀ d ∈ tables_1, d.before a0 Z = true) (hj : ∀ d ∈ jdkStatics_1, d.before a0 Z = true) (w0 : Addr) (w1 : Addr) (w2 : Addr) (w3 : Addr) (w4 : Addr) (w5 : Addr) (w6 : Addr) (w7 : Addr) (w8 : Addr) (w9 : Addr) (w10 : Int32) (w11 : Value) (hS : SF Z w0 w1 w2 w3 w4 w5 w6 w7 w8 w9 w10 w11) (ws : List Jvm.Cond) (a1 : Addr) (a2 : Addr) (ck3 : ClassId) (p4 : Int32) (ck5 : ClassId) (h0 : Heap) (n0 : Nat) (O0 : Old Z n0 h0) (PV1 : Arv Z h0 a1 ck3 .byte (0 : Int32) [] (.int (0 : Int32))) (PV2 : Arv Z h0 a2 ck5 .byte (1 : Int32) [(.int p4)] (.int (0 : Int32))) :
    MetFree l (⟨z5, "equals", "([B[B)Z"⟩ : MethodName) (head1 (Jvm.Cond.code (⟨z5, "equals", "([B[B)Z"⟩ : MethodName) jdk_43_method_13_code 3 (some .boolean) :: ws) ({ frames := 0, cells := 0, slots := 0, locals := 0 } : Room)) (fun a U => a = #[(.ref a1), (.ref a2)] ∧ Z.Warmed39 U.vm ∧ U.heap = h0) (fun _ _ _ _ _ => True) (fun _ U o U' => ∃ v L, o = .returned v ∧ Qrm17 Z w0 w1 w2 w3 w4 w5 w6 w7 w8 w9 w10 w11 a1 a2 ck3 p4 ck5 h0 n0 v U'.heap L ∧ FrameEnd U o U' L ({ frames := 0, cells := 0, slots := 0, locals := 0 } : Room).cells ({ frames := 0, cells := 0, slots := 0, locals := 0 } : Room).slots) := by
  refine MetFree.of_bodySF (plainFor_of_name pn217) hisR ?_
  intro p e s m args below meth c s₁ Bd hml0 hP hK
  obtain ⟨rfl, hZ, hh⟩ := hP
  have hx := Bd.exec
  have hby := Bd.bytes
  have hml : c.maxLocals = 3 := hml0
  have hown : s.vm.findClass z5 = some m.cls := findClass_of_methodNamed Bd.named
  have hnm := (name_of_methodNamed Bd.named Bd.method).1
  have X0 : Stand p l e ({ frames := 0, cells := 0, slots := 0, locals := 0 } : Room) s m #[(.ref a1), (.ref a2)] below meth c s₁ [] 0 0 := Stand.of_body Bd
  have e0 : s₁.heap = h0 := by rw [← hh, Bd.state]; rfl
  have N0 := Fr.nil n0
  have pre0 : ∀ t, Steps p.tables e below (s₁.setTop (mkF m 0 #[.val (.ref a1), .val (.ref a2), .unset] [])) t → Steps p.tables e below (s₁.setTop (entryFrame m #[(.ref a1), (.ref a2)] 3)) t := fun t k => castTop (ef216 m a1 a2) k
  obtain ⟨fs, hr, hrun, hended, hW, hsame⟩ := X0.leave (v := some (.int (0 : Int32))) (fun h => by rw [Bd.returns] at h; cases h)
  refine ⟨_, _, pre0 _ ?_, hrun, hended, _, _, rfl, ?_, ⟨_, rfl⟩, hW, hsame.mono (by decide) (by decide)⟩
  · show Steps p.tables e below (s₁.setTop (mkF m 0 #[.val (.ref a1), .val (.ref a2), .unset] [])) _
    refine XS.aloadN X0.here hx rfl (hb hby d17_0) rfl rfl ?_
    refine own_alen X0 hx hZ e0 PV1 (g := (mkF m 1 #[.val (.ref a1), .val (.ref a2), .unset] [(.ref a1)])) rfl rfl (hb hby d17_1) ?_
    refine XS.aloadN X0.here hx rfl (hb hby d17_2) rfl rfl ?_
    refine own_alen X0 hx hZ e0 PV2 (g := (mkF m 3 #[.val (.ref a1), .val (.ref a2), .unset] [(.ref a2), (.int (0 : Int32))])) rfl rfl (hb hby d17_3) ?_
    show Steps p.tables e below (s₁.setTop (mkF m 4 #[.val (.ref a1), .val (.ref a2), .unset] [(.int (1 : Int32)), (.int (0 : Int32))])) _
    refine XS.icmpYes X0.here hx rfl (pc0 := 4) (pc' := 34) rfl (hb hby d17_4) rfl (feq (by decide : ¬ ((0 : Int32) = (1 : Int32)))).2 (by decide) (by decide) ?_
    refine XS.iconst X0.here hx rfl (hb hby d17_34) ?_
    exact retN X0 hx (t := .boolean) Bd.returns (by simp) (hb hby d17_35) hr
  · show Qrm17 Z w0 w1 w2 w3 w4 w5 w6 w7 w8 w9 w10 w11 a1 a2 ck3 p4 ck5 h0 n0 _ s₁.heap _
    rw [e0]
    exact ⟨rfl, N0, rfl⟩
def Qrm18 (Z : State) (w0 : Addr) (w1 : Addr) (w2 : Addr) (w3 : Addr) (w4 : Addr) (w5 : Addr) (w6 : Addr) (w7 : Addr) (w8 : Addr) (w9 : Addr) (w10 : Int32) (w11 : Value) (a1 : Addr) (a2 : Addr) (a3 : Addr) (a4 : Addr) (p5 : Int32) (ck6 : ClassId) (ck7 : ClassId) (h0 : Heap) (n0 : Nat) (v : Option Value) (h : Heap) (L : List Loc) : Prop := v = some (.int (0 : Int32)) ∧ Fr n0 L ∧ h = h0
set_option maxRecDepth 65536 in
set_option maxHeartbeats 40000000 in
theorem rm18 (l : Launch) (Z : State) (a0 : Array Value) (hw : ∀ d ∈ tables_1, d.before a0 Z = true) (hj : ∀ d ∈ jdkStatics_1, d.before a0 Z = true) (w0 : Addr) (w1 : Addr) (w2 : Addr) (w3 : Addr) (w4 : Addr) (w5 : Addr) (w6 : Addr) (w7 : Addr) (w8 : Addr) (w9 : Addr) (w10 : Int32) (w11 : Value) (hS : SF Z w0 w1 w2 w3 w4 w5 w6 w7 w8 w9 w10 w11) (ws : List Jvm.Cond) (a1 : Addr) (a2 : Addr) (a3 : Addr) (a4 : Addr) (p5 : Int32) (ck6 : ClassId) (ck7 : ClassId) (h0 : Heap) (n0 : Nat) (O0 : Old Z n0 h0) (pne1 : a1 ≠ a2) (PE2 : Exa Z h0 a2 z0) (PF3 : Fld Z h0 a1 z0 "coder" "B" (.int (0 : Int32))) (PF4 : Fld Z h0 a2 z0 "coder" "B" (.int (0 : Int32))) (PF5 : Fld Z h0 a1 z0 "value" "[B" (.ref a3)) (PF6 : Fld Z h0 a2 z0 "value" "[B" (.ref a4)) (PV7 : Arv Z h0 a3 ck6 .byte (0 : Int32) [] (.int (0 : Int32))) (PV8 : Arv Z h0 a4 ck7 .byte (1 : Int32) [(.int p5)] (.int (0 : Int32))) :
    MetFree l (⟨z0, "equals", z7⟩ : MethodName) (head1 (Jvm.Cond.code (⟨z0, "equals", z7⟩ : MethodName) jdk_42_method_66_code 3 (some .boolean) :: ws) ({ frames := 1, cells := 0, slots := 0, locals := 14 } : Room)) (fun a U => a = #[(.ref a1), (.ref a2)] ∧ Z.Warmed39 U.vm ∧ U.heap = h0) (fun _ _ _ _ _ => True) (fun _ U o U' => ∃ v L, o = .returned v ∧ Qrm18 Z w0 w1 w2 w3 w4 w5 w6 w7 w8 w9 w10 w11 a1 a2 a3 a4 p5 ck6 ck7 h0 n0 v U'.heap L ∧ FrameEnd U o U' L ({ frames := 1, cells := 0, slots := 0, locals := 14 } : Room).cells ({ frames := 1, cells := 0, slots := 0, locals := 14 } : Room).slots) := by
  refine MetFree.of_bodySF (plainFor_of_name pn101) hisR ?_
  intro p e s m args below meth c s₁ Bd hml0 hP hK
  obtain ⟨rfl, hZ, hh⟩ := hP
  have hx := Bd.exec
  have hby := Bd.bytes
  have hml : c.maxLocals = 3 := hml0
  have hown : s.vm.findClass z0 = some m.cls := findClass_of_methodNamed Bd.named
  have hnm := (name_of_methodNamed Bd.named Bd.method).1
  have X0 : Stand p l e ({ frames := 1, cells := 0, slots := 0, locals := 14 } : Room) s m #[(.ref a1), (.ref a2)] below meth c s₁ [] 0 0 := Stand.of_body Bd
  have e0 : s₁.heap = h0 := by rw [← hh, Bd.state]; rfl
  have N0 := Fr.nil n0
  have pre0 : ∀ t, Steps p.tables e below (s₁.setTop (mkF m 0 #[.val (.ref a1), .val (.ref a2), .unset] [])) t → Steps p.tables e below (s₁.setTop (entryFrame m #[(.ref a1), (.ref a2)] 3)) t := fun t k => castTop (ef216 m a1 a2) k
  obtain ⟨T1, X1, e1, st1⟩ := instY X0 hx hZ hown (hw _ m14) e0 (Ins.self PE2) (g := (mkF m 8 #[.val (.ref a1), .val (.ref a2), .unset] [(.ref a2)])) rfl rfl (hb hby d13_8)
  obtain ⟨T2, X2, e2, st2⟩ := castY X1 hx hZ hown (hw _ m14) e1 (Ins.self PE2) (g := (mkF m 15 #[.val (.ref a1), .val (.ref a2), .unset] [(.ref a2)])) rfl rfl (hb hby d13_15)
  obtain ⟨T3, X3, e3, st3⟩ := getS2 X2 hx hZ hown (host := "") (Or.inl (hw _ m9)) Via.refl e2 (hS.2.2.2.2.2.2.2.2.2.2.2.2.2.2.2.2.2.2.2.2.2.2.2.2.2.2.2.2.2.2.1.ext O0.2) (g := (mkF m 19 #[.val (.ref a1), .val (.ref a2), .val (.ref a2)] [])) rfl (hb hby d13_19)
  obtain ⟨T4, X4, e4, st4⟩ := getF X3 hx hZ hown (host := "") (Or.inl (hw _ m29)) Via.refl e3 PF3 (g := (mkF m 26 #[.val (.ref a1), .val (.ref a2), .val (.ref a2)] [(.ref a1)])) rfl rfl (hb hby d13_26)
  obtain ⟨T5, X5, e5, st5⟩ := getF X4 hx hZ hown (host := "") (Or.inl (hw _ m29)) Via.refl e4 PF4 (g := (mkF m 30 #[.val (.ref a1), .val (.ref a2), .val (.ref a2)] [(.ref a2), (.int (0 : Int32))])) rfl rfl (hb hby d13_30)
  obtain ⟨T6, X6, e6, st6⟩ := getF X5 hx hZ hown (host := "") (Or.inl (hw _ m27)) Via.refl e5 PF5 (g := (mkF m 37 #[.val (.ref a1), .val (.ref a2), .val (.ref a2)] [(.ref a1)])) rfl rfl (hb hby d13_37)
  obtain ⟨T7, X7, e7, st7⟩ := getF X6 hx hZ hown (host := "") (Or.inl (hw _ m27)) Via.refl e6 PF6 (g := (mkF m 41 #[.val (.ref a1), .val (.ref a2), .val (.ref a2)] [(.ref a2), (.ref a3)])) rfl rfl (hb hby d13_41)
  obtain ⟨_, T8, L8, hQ8, X8, st8⟩ := own_callS X7 hx hZ (W := 0) hown (hw _ m105) (hw _ m106) (hw _ m12) (hw _ m107) (by decide) (rm17 l Z a0 hw hj w0 w1 w2 w3 w4 w5 w6 w7 w8 w9 w10 w11 hS [] a3 a4 ck6 p5 ck7 h0 n0 O0 PV7 PV8) e7 (g := (mkF m 44 #[.val (.ref a1), .val (.ref a2), .val (.ref a2)] [(.ref a4), (.ref a3)])) rfl (by rw [hml]; rfl) (argsL := [(.ref a3), (.ref a4)]) (rest := []) (lenOf pd220 rfl) rfl rfl (by show 2 * 0 + _ ≤ _; exact Nat.le_of_eq rfl) (hb hby d13_44) (by decide) (by decide) (by decide) (by decide)
  obtain ⟨rfl, N8q, e8⟩ := hQ8
  have N8 := Fr.app N0 N8q
  have e8' : T8.heap = h0 := e8
  obtain ⟨fs, hr, hrun, hended, hW, hsame⟩ := X8.leave (v := some (.int (0 : Int32))) (fun h => by rw [Bd.returns] at h; cases h)
  refine ⟨_, _, pre0 _ ?_, hrun, hended, _, _, rfl, ?_, ⟨_, rfl⟩, hW, hsame.mono (by decide) (by decide)⟩
  · show Steps p.tables e below (s₁.setTop (mkF m 0 #[.val (.ref a1), .val (.ref a2), .unset] [])) _
    refine XS.aloadN X0.here hx rfl (hb hby d13_0) rfl rfl ?_
    refine XS.aloadN X0.here hx rfl (hb hby d13_1) rfl rfl ?_
    refine Jvm.RoadKit.acmp (g := (mkF m 2 #[.val (.ref a1), .val (.ref a2), .unset] [(.ref a2), (.ref a1)])) X0 hx rfl rfl rfl (pc0 := 2) (pc' := 7) (same := false) rfl (hb hby d13_2) rfl (decide_eq_false fun q => pne1 (Value.ref.inj q)) (by decide) (by decide) ?_
    refine XS.aloadN X0.here hx rfl (hb hby d13_7) rfl rfl ?_
    show Steps p.tables e below (s₁.setTop (mkF m 8 #[.val (.ref a1), .val (.ref a2), .unset] [(.ref a2)])) _
    refine st1 _ ?_
    refine XS.ifNo X1.here hx rfl (hb hby d13_11) rfl ((if0 _ _).trans (feq (by decide : ¬ ((1 : Int32) = (0 : Int32)))).1) ?_
    refine XS.aloadN X1.here hx rfl (hb hby d13_14) rfl rfl ?_
    refine st2 _ ?_
    show Steps p.tables e below (T2.setTop (mkF m 18 #[.val (.ref a1), .val (.ref a2), .unset] [(.ref a2)])) _
    refine XS.astoreN X2.here hx rfl (hb hby d13_18) rfl rfl (l' := #[.val (.ref a1), .val (.ref a2), .val (.ref a2)]) rfl ?_
    refine st3 _ ?_
    refine XS.ifNo X3.here hx rfl (hb hby d13_22) rfl ((if0 _ _).trans (feq hS.2.2.2.2.2.2.2.2.2.2.2.2.2.2.2.2.2.2.2.2.2.2.2.2.2.2.2.2.2.2.2.1).1) ?_
    refine XS.aloadN X3.here hx rfl (hb hby d13_25) rfl rfl ?_
    show Steps p.tables e below (T3.setTop (mkF m 26 #[.val (.ref a1), .val (.ref a2), .val (.ref a2)] [(.ref a1)])) _
    refine st4 _ ?_
    refine XS.aloadN X4.here hx rfl (hb hby d13_29) rfl rfl ?_
    refine st5 _ ?_
    refine XS.icmpNo X5.here hx rfl (hb hby d13_33) rfl (teq (by decide : (0 : Int32) = (0 : Int32))).2 ?_
    show Steps p.tables e below (T5.setTop (mkF m 36 #[.val (.ref a1), .val (.ref a2), .val (.ref a2)] [])) _
    refine XS.aloadN X5.here hx rfl (hb hby d13_36) rfl rfl ?_
    refine st6 _ ?_
    refine XS.aloadN X6.here hx rfl (hb hby d13_40) rfl rfl ?_
    refine st7 _ ?_
    show Steps p.tables e below (T7.setTop (mkF m 44 #[.val (.ref a1), .val (.ref a2), .val (.ref a2)] [(.ref a4), (.ref a3)])) _
    refine st8 _ ?_
    refine XS.ifYes X8.here hx rfl (pc0 := 47) (pc' := 54) rfl (hb hby d13_47) rfl ((if0 _ _).trans (teq (by decide : (0 : Int32) = (0 : Int32))).1) (by decide) (by decide) ?_
    refine XS.iconst X8.here hx rfl (hb hby d13_54) ?_
    exact retN X8 hx (t := .boolean) Bd.returns (by simp) (hb hby d13_55) hr
  · show Qrm18 Z w0 w1 w2 w3 w4 w5 w6 w7 w8 w9 w10 w11 a1 a2 a3 a4 p5 ck6 ck7 h0 n0 _ T8.heap _
    rw [e8']
    exact ⟨rfl, N8, rfl⟩
def Qrm19 (Z : State) (w0 : Addr) (w1 : Addr) (w2 : Addr) (w3 : Addr) (w4 : Addr) (w5 : Addr) (w6 : Addr) (w7 : Addr) (w8 : Addr) (w9 : Addr) (w10 : Int32) (w11 : Value) (a1 : Addr) (a2 : Addr) (a3 : Addr) (p4 : Int32) (a5 : Addr) (a6 : Addr) (ck7 : ClassId) (ck8 : ClassId) (h0 : Heap) (n0 : Nat) (v : Option Value) (h : Heap) (L : List Loc) : Prop := v = some (.int (0 : Int32)) ∧ Fr n0 L ∧ h = h0
set_option maxRecDepth 65536 in
set_option maxHeartbeats 40000000 in
theorem rm19 (l : Launch) (Z : State) (a0 : Array Value) (hw : ∀ d ∈ tables_1, d.before a0 Z = true) (hj : ∀ d ∈ jdkStatics_1, d.before a0 Z = true) (w0 : Addr) (w1 : Addr) (w2 : Addr) (w3 : Addr) (w4 : Addr) (w5 : Addr) (w6 : Addr) (w7 : Addr) (w8 : Addr) (w9 : Addr) (w10 : Int32) (w11 : Value) (hS : SF Z w0 w1 w2 w3 w4 w5 w6 w7 w8 w9 w10 w11) (ws : List Jvm.Cond) (a1 : Addr) (a2 : Addr) (a3 : Addr) (p4 : Int32) (a5 : Addr) (a6 : Addr) (ck7 : ClassId) (ck8 : ClassId) (h0 : Heap) (n0 : Nat) (O0 : Old Z n0 h0) (PF1 : Fld Z h0 a1 z1 "type" z3 (.ref w8)) (PF2 : Fld Z h0 a1 z1 "text" z8 (.ref a3)) (pne3 : a3 ≠ a2) (PE4 : Exa Z h0 a2 z0) (PF5 : Fld Z h0 a3 z0 "coder" "B" (.int (0 : Int32))) (PF6 : Fld Z h0 a2 z0 "coder" "B" (.int (0 : Int32))) (PF7 : Fld Z h0 a3 z0 "value" "[B" (.ref a5)) (PF8 : Fld Z h0 a2 z0 "value" "[B" (.ref a6)) (PV9 : Arv Z h0 a5 ck7 .byte (0 : Int32) [] (.int (0 : Int32))) (PV10 : Arv Z h0 a6 ck8 .byte (1 : Int32) [(.int p4)] (.int (0 : Int32))) (PE11 : Exa Z h0 a3 z0) :
    MetFree l (⟨z1, "isSymbol", z6⟩ : MethodName) (head1 (Jvm.Cond.code (⟨z1, "isSymbol", z6⟩ : MethodName) prog_65_method_3_code 2 (some .boolean) :: ws) ({ frames := 2, cells := 0, slots := 0, locals := 28 } : Room)) (fun a U => a = #[(.ref a1), (.ref a2)] ∧ Z.Warmed39 U.vm ∧ U.heap = h0) (fun _ _ _ _ _ => True) (fun _ U o U' => ∃ v L, o = .returned v ∧ Qrm19 Z w0 w1 w2 w3 w4 w5 w6 w7 w8 w9 w10 w11 a1 a2 a3 p4 a5 a6 ck7 ck8 h0 n0 v U'.heap L ∧ FrameEnd U o U' L ({ frames := 2, cells := 0, slots := 0, locals := 28 } : Room).cells ({ frames := 2, cells := 0, slots := 0, locals := 28 } : Room).slots) := by
  refine MetFree.of_bodySF (plainFor_of_name pn162) hisR ?_
  intro p e s m args below meth c s₁ Bd hml0 hP hK
  obtain ⟨rfl, hZ, hh⟩ := hP
  have hx := Bd.exec
  have hby := Bd.bytes
  have hml : c.maxLocals = 2 := hml0
  have hown : s.vm.findClass z1 = some m.cls := findClass_of_methodNamed Bd.named
  have hnm := (name_of_methodNamed Bd.named Bd.method).1
  have X0 : Stand p l e ({ frames := 2, cells := 0, slots := 0, locals := 28 } : Room) s m #[(.ref a1), (.ref a2)] below meth c s₁ [] 0 0 := Stand.of_body Bd
  have e0 : s₁.heap = h0 := by rw [← hh, Bd.state]; rfl
  have N0 := Fr.nil n0
  have pre0 : ∀ t, Steps p.tables e below (s₁.setTop (mkF m 0 #[.val (.ref a1), .val (.ref a2)] [])) t → Steps p.tables e below (s₁.setTop (entryFrame m #[(.ref a1), (.ref a2)] 2)) t := fun t k => castTop (ef106 m a1 a2) k
  obtain ⟨T1, X1, e1, st1⟩ := getF X0 hx hZ hown (host := "") (Or.inl (hw _ m60)) Via.refl e0 PF1 (g := (mkF m 1 #[.val (.ref a1), .val (.ref a2)] [(.ref a1)])) rfl rfl (hb hby d12_1)
  obtain ⟨T2, X2, e2, st2⟩ := getS2 X1 hx hZ hown (host := "") (Or.inl (hw _ m73)) Via.refl e1 (hS.2.2.2.2.2.2.2.2.2.2.2.2.2.2.2.2.2.2.2.2.2.2.2.2.1.ext O0.2) (g := (mkF m 4 #[.val (.ref a1), .val (.ref a2)] [(.ref w8)])) rfl (hb hby d12_4)
  obtain ⟨T3, X3, e3, st3⟩ := getF X2 hx hZ hown (host := "") (Or.inl (hw _ m62)) Via.refl e2 PF2 (g := (mkF m 11 #[.val (.ref a1), .val (.ref a2)] [(.ref a1)])) rfl rfl (hb hby d12_11)
  obtain ⟨_, T4, L4, hQ4, X4, st4⟩ := own_virtual X3 hx hZ (W := 0) hown (hw _ m80) (hw _ m81) (notFace_of_selects (args := #[]) (mvT hZ (hw _ m83))) (hw _ m83) (hw _ m82) (hw _ m7) (hw _ m84) (by decide) (rm18 l Z a0 hw hj w0 w1 w2 w3 w4 w5 w6 w7 w8 w9 w10 w11 hS [] a3 a2 a5 a6 p4 ck7 ck8 h0 n0 O0 pne3 PE4 PF5 PF6 PF7 PF8 PV9 PV10) e3 PE11 (g := (mkF m 15 #[.val (.ref a1), .val (.ref a2)] [(.ref a2), (.ref a3)])) rfl (by rw [hml]; rfl) (argsL := [(.ref a2)]) (rest := []) (lenOf pd227 rfl) rfl rfl (by show 2 * 0 + _ ≤ _; exact Nat.le_of_eq rfl) (hb hby d12_15) (by decide) (by decide) (by decide) (by decide)
  obtain ⟨rfl, N4q, e4⟩ := hQ4
  have N4 := Fr.app N0 N4q
  have e4' : T4.heap = h0 := e4
  obtain ⟨fs, hr, hrun, hended, hW, hsame⟩ := X4.leave (v := some (.int (0 : Int32))) (fun h => by rw [Bd.returns] at h; cases h)
  refine ⟨_, _, pre0 _ ?_, hrun, hended, _, _, rfl, ?_, ⟨_, rfl⟩, hW, hsame.mono (by decide) (by decide)⟩
  · show Steps p.tables e below (s₁.setTop (mkF m 0 #[.val (.ref a1), .val (.ref a2)] [])) _
    refine XS.aloadN X0.here hx rfl (hb hby d12_0) rfl rfl ?_
    refine st1 _ ?_
    refine st2 _ ?_
    refine Jvm.RoadKit.acmp (g := (mkF m 7 #[.val (.ref a1), .val (.ref a2)] [(.ref w8), (.ref w8)])) X2 hx rfl rfl rfl (pc0 := 7) (pc' := 10) (same := true) rfl (hb hby d12_7) rfl (decide_eq_true rfl) (by decide) (by decide) ?_
    show Steps p.tables e below (T2.setTop (mkF m 10 #[.val (.ref a1), .val (.ref a2)] [])) _
    refine XS.aloadN X2.here hx rfl (hb hby d12_10) rfl rfl ?_
    refine st3 _ ?_
    refine XS.aloadN X3.here hx rfl (hb hby d12_14) rfl rfl ?_
    refine st4 _ ?_
    show Steps p.tables e below (T4.setTop (mkF m 18 #[.val (.ref a1), .val (.ref a2)] [(.int (0 : Int32))])) _
    refine XS.ifYes X4.here hx rfl (pc0 := 18) (pc' := 25) rfl (hb hby d12_18) rfl ((if0 _ _).trans (teq (by decide : (0 : Int32) = (0 : Int32))).1) (by decide) (by decide) ?_
    refine XS.iconst X4.here hx rfl (hb hby d12_25) ?_
    exact retN X4 hx (t := .boolean) Bd.returns (by simp) (hb hby d12_26) hr
  · show Qrm19 Z w0 w1 w2 w3 w4 w5 w6 w7 w8 w9 w10 w11 a1 a2 a3 p4 a5 a6 ck7 ck8 h0 n0 _ T4.heap _
    rw [e4']
    exact ⟨rfl, N4, rfl⟩
def Qrm20 (Z : State) (w0 : Addr) (w1 : Addr) (w2 : Addr) (w3 : Addr) (w4 : Addr) (w5 : Addr) (w6 : Addr) (w7 : Addr) (w8 : Addr) (w9 : Addr) (w10 : Int32) (w11 : Value) (a1 : Addr) (ck2 : ClassId) (a3 : Addr) (p4 : Int32) (p5 : Int32) (ck6 : ClassId) (h0 : Heap) (n0 : Nat) (v : Option Value) (h : Heap) (L : List Loc) : Prop := v = some (.int (2 : Int32)) ∧ Fr n0 L ∧ Keep h0 h [a1] ∧ Arv Z h a1 ck2 .byte (2 : Int32) [(.int (p4.toInt8.toInt32)), (.int (p5.toInt8.toInt32))] (.int (0 : Int32))
set_option maxRecDepth 65536 in
set_option maxHeartbeats 40000000 in
theorem rm20 (l : Launch) (Z : State) (a0 : Array Value) (hw : ∀ d ∈ tables_1, d.before a0 Z = true) (hj : ∀ d ∈ jdkStatics_1, d.before a0 Z = true) (w0 : Addr) (w1 : Addr) (w2 : Addr) (w3 : Addr) (w4 : Addr) (w5 : Addr) (w6 : Addr) (w7 : Addr) (w8 : Addr) (w9 : Addr) (w10 : Int32) (w11 : Value) (hS : SF Z w0 w1 w2 w3 w4 w5 w6 w7 w8 w9 w10 w11) (ws : List Jvm.Cond) (a1 : Addr) (ck2 : ClassId) (a3 : Addr) (p4 : Int32) (p5 : Int32) (ck6 : ClassId) (h0 : Heap) (n0 : Nat) (O0 : Old Z n0 h0) (PV1 : Arv Z h0 a1 ck2 .byte (2 : Int32) [(.int (0 : Int32)), (.int (0 : Int32))] (.int (0 : Int32))) (PV2 : Arv Z h0 a3 ck6 .char (2 : Int32) [(.int p4), (.int p5)] (.int (0 : Int32))) (hc3 : ¬ ((255 : Int32) < p4)) (gn4 : n0 ≤ a1) (pne5 : a3 ≠ a1) (hc6 : ¬ ((255 : Int32) < p5)) :
    MetFree l (⟨z9, "compress", "([CI[BII)I"⟩ : MethodName) (head1 (Jvm.Cond.code (⟨z9, "compress", "([CI[BII)I"⟩ : MethodName) jdk_52_method_21_code 7 (some .int) :: ws) ({ frames := 0, cells := 0, slots := 0, locals := 0 } : Room)) (fun a U => a = #[(.ref a3), (.int (0 : Int32)), (.ref a1), (.int (0 : Int32)), (.int (2 : Int32))] ∧ Z.Warmed39 U.vm ∧ U.heap = h0) (fun _ _ _ _ _ => True) (fun _ U o U' => ∃ v L, o = .returned v ∧ Qrm20 Z w0 w1 w2 w3 w4 w5 w6 w7 w8 w9 w10 w11 a1 ck2 a3 p4 p5 ck6 h0 n0 v U'.heap L ∧ FrameEnd U o U' L ({ frames := 0, cells := 0, slots := 0, locals := 0 } : Room).cells ({ frames := 0, cells := 0, slots := 0, locals := 0 } : Room).slots) := by
  refine MetFree.of_bodySF (plainFor_of_name pn358) hisR ?_
  intro p e s m args below meth c s₁ Bd hml0 hP hK
  obtain ⟨rfl, hZ, hh⟩ := hP
  have hx := Bd.exec
  have hby := Bd.bytes
  have hml : c.maxLocals = 7 := hml0
  have hown : s.vm.findClass z9 = some m.cls := findClass_of_methodNamed Bd.named
  have hnm := (name_of_methodNamed Bd.named Bd.method).1
  have X0 : Stand p l e ({ frames := 0, cells := 0, slots := 0, locals := 0 } : Room) s m #[(.ref a3), (.int (0 : Int32)), (.ref a1), (.int (0 : Int32)), (.int (2 : Int32))] below meth c s₁ [] 0 0 := Stand.of_body Bd
  have e0 : s₁.heap = h0 := by rw [← hh, Bd.state]; rfl
  have N0 := Fr.nil n0
  have pre0 : ∀ t, Steps p.tables e below (s₁.setTop (mkF m 0 #[.val (.ref a3), .val (.int (0 : Int32)), .val (.ref a1), .val (.int (0 : Int32)), .val (.int (2 : Int32)), .unset, .unset] [])) t → Steps p.tables e below (s₁.setTop (entryFrame m #[(.ref a3), (.int (0 : Int32)), (.ref a1), (.int (0 : Int32)), (.int (2 : Int32))] 7)) t := fun t k => castTop (ef357 m a3 (0 : Int32) a1 (0 : Int32) (2 : Int32)) k
  obtain ⟨T1, h1, L'1, X1, e1, W1, V1, O1, K1, N1, st1⟩ := own_stB X0 hx hZ e0 PV1 O0 (Keep.refl h0 [a1]) N0 gn4 (Or.inl (List.mem_of_getElem? (i := 0) rfl)) (j := (0 : Int32)) 0 (by decide) (Nat.le_of_ble_eq_true rfl) (v := (.int (p4.toInt8.toInt32))) (congrArg Value.int (own_narB (by have q0 := own_rng p4; have q1 := c_i2b p4; have q2 := (by decide : ((-128 : Int32)).toInt = -128); exact own_ltF (by omega) : ¬ ((p4.toInt8.toInt32) < (-128 : Int32))) (by have q0 := (by decide : ((127 : Int32)).toInt = 127); have q1 := own_rng p4; have q2 := c_i2b p4; exact own_ltF (by omega) : ¬ ((127 : Int32) < (p4.toInt8.toInt32))))) (vs' := [(.int (p4.toInt8.toInt32)), (.int (0 : Int32))]) rfl (g := (mkF m 31 #[.val (.ref a3), .val (.int (0 : Int32)), .val (.ref a1), .val (.int (0 : Int32)), .val (.int (2 : Int32)), .val (.int (0 : Int32)), .val (.int p4)] [(.int (p4.toInt8.toInt32)), (.int (0 : Int32)), (.ref a1)])) rfl rfl (hb hby d15_31)
  have f2 : Arv Z h1 a3 ck6 .char (2 : Int32) [(.int p4), (.int p5)] (.int (0 : Int32)) := (PV2.other W1 pne5)
  obtain ⟨T3, h3, L'3, X3, e3, W3, V3, O3, K3, N3, st3⟩ := own_stB X1 hx hZ e1 V1 O1 K1 N1 gn4 (Or.inl (List.mem_of_getElem? (i := 0) rfl)) (j := (1 : Int32)) 1 (by decide) (Nat.le_of_ble_eq_true rfl) (v := (.int (p5.toInt8.toInt32))) (congrArg Value.int (own_narB (by have q0 := own_rng p5; have q1 := c_i2b p5; have q2 := (by decide : ((-128 : Int32)).toInt = -128); exact own_ltF (by omega) : ¬ ((p5.toInt8.toInt32) < (-128 : Int32))) (by have q0 := (by decide : ((127 : Int32)).toInt = 127); have q1 := own_rng p5; have q2 := c_i2b p5; exact own_ltF (by omega) : ¬ ((127 : Int32) < (p5.toInt8.toInt32))))) (vs' := [(.int (p4.toInt8.toInt32)), (.int (p5.toInt8.toInt32))]) rfl (g := (mkF m 31 #[.val (.ref a3), .val (.int (1 : Int32)), .val (.ref a1), .val (.int (1 : Int32)), .val (.int (2 : Int32)), .val (.int (1 : Int32)), .val (.int p5)] [(.int (p5.toInt8.toInt32)), (.int (1 : Int32)), (.ref a1)])) rfl rfl (hb hby d15_31)
  obtain ⟨fs, hr, hrun, hended, hW, hsame⟩ := X3.leave (v := some (.int (2 : Int32))) (fun h => by rw [Bd.returns] at h; cases h)
  refine ⟨_, _, pre0 _ ?_, hrun, hended, _, _, rfl, ?_, ⟨_, rfl⟩, hW, hsame.mono (by decide) (by decide)⟩
  · show Steps p.tables e below (s₁.setTop (mkF m 0 #[.val (.ref a3), .val (.int (0 : Int32)), .val (.ref a1), .val (.int (0 : Int32)), .val (.int (2 : Int32)), .unset, .unset] [])) _
    refine XS.iconst X0.here hx rfl (hb hby d15_0) ?_
    refine XS.istore X0.here hx rfl (hb hby d15_1) rfl (l' := #[.val (.ref a3), .val (.int (0 : Int32)), .val (.ref a1), .val (.int (0 : Int32)), .val (.int (2 : Int32)), .val (.int (0 : Int32)), .unset]) rfl ?_
    refine XS.iload X0.here hx rfl (hb hby d15_3) rfl ?_
    refine XS.iload X0.here hx rfl (hb hby d15_5) rfl ?_
    show Steps p.tables e below (s₁.setTop (mkF m 7 #[.val (.ref a3), .val (.int (0 : Int32)), .val (.ref a1), .val (.int (0 : Int32)), .val (.int (2 : Int32)), .val (.int (0 : Int32)), .unset] [(.int (2 : Int32)), (.int (0 : Int32))])) _
    refine XS.icmpNo X0.here hx rfl (hb hby d15_7) rfl (tlt (by decide : (0 : Int32) < (2 : Int32))).2.1 ?_
    refine XS.aloadN X0.here hx rfl (hb hby d15_10) rfl rfl ?_
    refine XS.iloadN X0.here hx rfl (hb hby d15_11) rfl ?_
    refine own_caload X0 hx hZ e0 PV2 (j := (0 : Int32)) (by decide) (v := (.int p4)) rfl (g := (mkF m 12 #[.val (.ref a3), .val (.int (0 : Int32)), .val (.ref a1), .val (.int (0 : Int32)), .val (.int (2 : Int32)), .val (.int (0 : Int32)), .unset] [(.int (0 : Int32)), (.ref a3)])) rfl rfl (hb hby d15_12) ?_
    show Steps p.tables e below (s₁.setTop (mkF m 13 #[.val (.ref a3), .val (.int (0 : Int32)), .val (.ref a1), .val (.int (0 : Int32)), .val (.int (2 : Int32)), .val (.int (0 : Int32)), .unset] [(.int p4)])) _
    refine XS.istore X0.here hx rfl (hb hby d15_13) rfl (l' := #[.val (.ref a3), .val (.int (0 : Int32)), .val (.ref a1), .val (.int (0 : Int32)), .val (.int (2 : Int32)), .val (.int (0 : Int32)), .val (.int p4)]) rfl ?_
    refine XS.iload X0.here hx rfl (hb hby d15_15) rfl ?_
    refine XS.sipush X0.here hx rfl (hb hby d15_17) ?_
    refine XS.icmpYes X0.here hx rfl (pc0 := 20) (pc' := 26) rfl (hb hby d15_20) rfl (flt hc3).2.2.2 (by decide) (by decide) ?_
    show Steps p.tables e below (s₁.setTop (mkF m 26 #[.val (.ref a3), .val (.int (0 : Int32)), .val (.ref a1), .val (.int (0 : Int32)), .val (.int (2 : Int32)), .val (.int (0 : Int32)), .val (.int p4)] [])) _
    refine XS.aloadN X0.here hx rfl (hb hby d15_26) rfl rfl ?_
    refine XS.iloadN X0.here hx rfl (hb hby d15_27) rfl ?_
    refine XS.iload X0.here hx rfl (hb hby d15_28) rfl ?_
    refine XS.i2b X0.here hx rfl (hb hby d15_30) rfl ?_
    show Steps p.tables e below (s₁.setTop (mkF m 31 #[.val (.ref a3), .val (.int (0 : Int32)), .val (.ref a1), .val (.int (0 : Int32)), .val (.int (2 : Int32)), .val (.int (0 : Int32)), .val (.int p4)] [(.int (p4.toInt8.toInt32)), (.int (0 : Int32)), (.ref a1)])) _
    refine st1 _ ?_
    refine Own.iinc X1.here hx rfl (hb hby d15_32) rfl (by decide : ((0 : Int32) + (1 : Int32)) = (1 : Int32)) (l' := #[.val (.ref a3), .val (.int (1 : Int32)), .val (.ref a1), .val (.int (0 : Int32)), .val (.int (2 : Int32)), .val (.int (0 : Int32)), .val (.int p4)]) rfl ?_
    refine Own.iinc X1.here hx rfl (hb hby d15_35) rfl (by decide : ((0 : Int32) + (1 : Int32)) = (1 : Int32)) (l' := #[.val (.ref a3), .val (.int (1 : Int32)), .val (.ref a1), .val (.int (1 : Int32)), .val (.int (2 : Int32)), .val (.int (0 : Int32)), .val (.int p4)]) rfl ?_
    refine Own.iinc X1.here hx rfl (hb hby d15_38) rfl (by decide : ((0 : Int32) + (1 : Int32)) = (1 : Int32)) (l' := #[.val (.ref a3), .val (.int (1 : Int32)), .val (.ref a1), .val (.int (1 : Int32)), .val (.int (2 : Int32)), .val (.int (1 : Int32)), .val (.int p4)]) rfl ?_
    show Steps p.tables e below (T1.setTop (mkF m 41 #[.val (.ref a3), .val (.int (1 : Int32)), .val (.ref a1), .val (.int (1 : Int32)), .val (.int (2 : Int32)), .val (.int (1 : Int32)), .val (.int p4)] [])) _
    refine XS.goto X1.here hx rfl (pc0 := 41) (pc' := 3) rfl (hb hby d15_41) (by decide) (by decide) ?_
    refine XS.iload X1.here hx rfl (hb hby d15_3) rfl ?_
    refine XS.iload X1.here hx rfl (hb hby d15_5) rfl ?_
    refine XS.icmpNo X1.here hx rfl (hb hby d15_7) rfl (tlt (by decide : (1 : Int32) < (2 : Int32))).2.1 ?_
    show Steps p.tables e below (T1.setTop (mkF m 10 #[.val (.ref a3), .val (.int (1 : Int32)), .val (.ref a1), .val (.int (1 : Int32)), .val (.int (2 : Int32)), .val (.int (1 : Int32)), .val (.int p4)] [])) _
    refine XS.aloadN X1.here hx rfl (hb hby d15_10) rfl rfl ?_
    refine XS.iloadN X1.here hx rfl (hb hby d15_11) rfl ?_
    refine own_caload X1 hx hZ e1 f2 (j := (1 : Int32)) (by decide) (v := (.int p5)) rfl (g := (mkF m 12 #[.val (.ref a3), .val (.int (1 : Int32)), .val (.ref a1), .val (.int (1 : Int32)), .val (.int (2 : Int32)), .val (.int (1 : Int32)), .val (.int p4)] [(.int (1 : Int32)), (.ref a3)])) rfl rfl (hb hby d15_12) ?_
    refine XS.istore X1.here hx rfl (hb hby d15_13) rfl (l' := #[.val (.ref a3), .val (.int (1 : Int32)), .val (.ref a1), .val (.int (1 : Int32)), .val (.int (2 : Int32)), .val (.int (1 : Int32)), .val (.int p5)]) rfl ?_
    show Steps p.tables e below (T1.setTop (mkF m 15 #[.val (.ref a3), .val (.int (1 : Int32)), .val (.ref a1), .val (.int (1 : Int32)), .val (.int (2 : Int32)), .val (.int (1 : Int32)), .val (.int p5)] [])) _
    refine XS.iload X1.here hx rfl (hb hby d15_15) rfl ?_
    refine XS.sipush X1.here hx rfl (hb hby d15_17) ?_
    refine XS.icmpYes X1.here hx rfl (pc0 := 20) (pc' := 26) rfl (hb hby d15_20) rfl (flt hc6).2.2.2 (by decide) (by decide) ?_
    refine XS.aloadN X1.here hx rfl (hb hby d15_26) rfl rfl ?_
    show Steps p.tables e below (T1.setTop (mkF m 27 #[.val (.ref a3), .val (.int (1 : Int32)), .val (.ref a1), .val (.int (1 : Int32)), .val (.int (2 : Int32)), .val (.int (1 : Int32)), .val (.int p5)] [(.ref a1)])) _
    refine XS.iloadN X1.here hx rfl (hb hby d15_27) rfl ?_
    refine XS.iload X1.here hx rfl (hb hby d15_28) rfl ?_
    refine XS.i2b X1.here hx rfl (hb hby d15_30) rfl ?_
    refine st3 _ ?_
    show Steps p.tables e below (T3.setTop (mkF m 32 #[.val (.ref a3), .val (.int (1 : Int32)), .val (.ref a1), .val (.int (1 : Int32)), .val (.int (2 : Int32)), .val (.int (1 : Int32)), .val (.int p5)] [])) _
    refine Own.iinc X3.here hx rfl (hb hby d15_32) rfl (by decide : ((1 : Int32) + (1 : Int32)) = (2 : Int32)) (l' := #[.val (.ref a3), .val (.int (2 : Int32)), .val (.ref a1), .val (.int (1 : Int32)), .val (.int (2 : Int32)), .val (.int (1 : Int32)), .val (.int p5)]) rfl ?_
    refine Own.iinc X3.here hx rfl (hb hby d15_35) rfl (by decide : ((1 : Int32) + (1 : Int32)) = (2 : Int32)) (l' := #[.val (.ref a3), .val (.int (2 : Int32)), .val (.ref a1), .val (.int (2 : Int32)), .val (.int (2 : Int32)), .val (.int (1 : Int32)), .val (.int p5)]) rfl ?_
    refine Own.iinc X3.here hx rfl (hb hby d15_38) rfl (by decide : ((1 : Int32) + (1 : Int32)) = (2 : Int32)) (l' := #[.val (.ref a3), .val (.int (2 : Int32)), .val (.ref a1), .val (.int (2 : Int32)), .val (.int (2 : Int32)), .val (.int (2 : Int32)), .val (.int p5)]) rfl ?_
    refine XS.goto X3.here hx rfl (pc0 := 41) (pc' := 3) rfl (hb hby d15_41) (by decide) (by decide) ?_
    show Steps p.tables e below (T3.setTop (mkF m 3 #[.val (.ref a3), .val (.int (2 : Int32)), .val (.ref a1), .val (.int (2 : Int32)), .val (.int (2 : Int32)), .val (.int (2 : Int32)), .val (.int p5)] [])) _
    refine XS.iload X3.here hx rfl (hb hby d15_3) rfl ?_
    refine XS.iload X3.here hx rfl (hb hby d15_5) rfl ?_
    refine XS.icmpYes X3.here hx rfl (pc0 := 7) (pc' := 44) rfl (hb hby d15_7) rfl (flt (by decide : ¬ ((2 : Int32) < (2 : Int32)))).2.1 (by decide) (by decide) ?_
    refine XS.iload X3.here hx rfl (hb hby d15_44) rfl ?_
    show Steps p.tables e below (T3.setTop (mkF m 46 #[.val (.ref a3), .val (.int (2 : Int32)), .val (.ref a1), .val (.int (2 : Int32)), .val (.int (2 : Int32)), .val (.int (2 : Int32)), .val (.int p5)] [(.int (2 : Int32))])) _
    exact retOut X3 hx Bd.returns rfl (Or.inl ⟨rfl, Or.inl rfl, _, rfl⟩) (hb hby d15_46) hr
  · show Qrm20 Z w0 w1 w2 w3 w4 w5 w6 w7 w8 w9 w10 w11 a1 ck2 a3 p4 p5 ck6 h0 n0 _ T3.heap _
    rw [e3]
    exact ⟨rfl, N3, K3, V3⟩
def Qrm21 (Z : State) (w0 : Addr) (w1 : Addr) (w2 : Addr) (w3 : Addr) (w4 : Addr) (w5 : Addr) (w6 : Addr) (w7 : Addr) (w8 : Addr) (w9 : Addr) (w10 : Int32) (w11 : Value) (a1 : Addr) (p2 : Int32) (p3 : Int32) (ck4 : ClassId) (h0 : Heap) (n0 : Nat) (v : Option Value) (h : Heap) (L : List Loc) : Prop := ∃ x0 : Addr, ∃ xk0 : ClassId, v = some (.ref x0) ∧ Fr n0 L ∧ Keep h0 h [] ∧ h0.size ≤ x0 ∧ Arv Z h x0 xk0 .byte (2 : Int32) [(.int (p2.toInt8.toInt32)), (.int (p3.toInt8.toInt32))] (.int (0 : Int32))
set_option maxRecDepth 65536 in
set_option maxHeartbeats 40000000 in
theorem rm21 (l : Launch) (Z : State) (a0 : Array Value) (hw : ∀ d ∈ tables_1, d.before a0 Z = true) (hj : ∀ d ∈ jdkStatics_1, d.before a0 Z = true) (w0 : Addr) (w1 : Addr) (w2 : Addr) (w3 : Addr) (w4 : Addr) (w5 : Addr) (w6 : Addr) (w7 : Addr) (w8 : Addr) (w9 : Addr) (w10 : Int32) (w11 : Value) (hS : SF Z w0 w1 w2 w3 w4 w5 w6 w7 w8 w9 w10 w11) (ws : List Jvm.Cond) (a1 : Addr) (p2 : Int32) (p3 : Int32) (ck4 : ClassId) (h0 : Heap) (n0 : Nat) (O0 : Old Z n0 h0) (PV1 : Arv Z h0 a1 ck4 .char (2 : Int32) [(.int p2), (.int p3)] (.int (0 : Int32))) (hc2 : ¬ ((255 : Int32) < p2)) (hc3 : ¬ ((255 : Int32) < p3)) :
    MetFree l (⟨z9, "compress", "([CII)[B"⟩ : MethodName) (head1 (Jvm.Cond.code (⟨z9, "compress", "([CII)[B"⟩ : MethodName) jdk_52_method_16_code 6 (some (.array .byte)) :: ws) ({ frames := 1, cells := 1, slots := 2, locals := 18 } : Room)) (fun a U => a = #[(.ref a1), (.int (0 : Int32)), (.int (2 : Int32))] ∧ Z.Warmed39 U.vm ∧ U.heap = h0) (fun _ _ _ _ _ => True) (fun _ U o U' => ∃ v L, o = .returned v ∧ Qrm21 Z w0 w1 w2 w3 w4 w5 w6 w7 w8 w9 w10 w11 a1 p2 p3 ck4 h0 n0 v U'.heap L ∧ FrameEnd U o U' L ({ frames := 1, cells := 1, slots := 2, locals := 18 } : Room).cells ({ frames := 1, cells := 1, slots := 2, locals := 18 } : Room).slots) := by
  refine MetFree.of_bodySF (plainFor_of_name pn358) hisR ?_
  intro p e s m args below meth c s₁ Bd hml0 hP hK
  obtain ⟨rfl, hZ, hh⟩ := hP
  have hx := Bd.exec
  have hby := Bd.bytes
  have hml : c.maxLocals = 6 := hml0
  have hown : s.vm.findClass z9 = some m.cls := findClass_of_methodNamed Bd.named
  have hnm := (name_of_methodNamed Bd.named Bd.method).1
  have X0 : Stand p l e ({ frames := 1, cells := 1, slots := 2, locals := 18 } : Room) s m #[(.ref a1), (.int (0 : Int32)), (.int (2 : Int32))] below meth c s₁ [] 0 0 := Stand.of_body Bd
  have e0 : s₁.heap = h0 := by rw [← hh, Bd.state]; rfl
  have N0 := Fr.nil n0
  have pre0 : ∀ t, Steps p.tables e below (s₁.setTop (mkF m 0 #[.val (.ref a1), .val (.int (0 : Int32)), .val (.int (2 : Int32)), .unset, .unset, .unset] [])) t → Steps p.tables e below (s₁.setTop (entryFrame m #[(.ref a1), (.int (0 : Int32)), (.int (2 : Int32))] 6)) t := fun t k => castTop (ef369 m a1 (0 : Int32) (2 : Int32)) k
  obtain ⟨T1, h1, k1, b1, X1, e1, E1, V1, g1, O1, K1, st1⟩ := own_newP X0 hx hZ (aty := .byte) (ty := .byte) (dv := (.int (0 : Int32))) (vs := [(.int (0 : Int32)), (.int (0 : Int32))]) (cap := 2) rfl rfl rfl (hw _ m19) e0 O0 (Keep.refl h0 []) (g := (mkF m 1 #[.val (.ref a1), .val (.int (0 : Int32)), .val (.int (2 : Int32)), .unset, .unset, .unset] [(.int (2 : Int32))])) rfl (hb hby d14_1) rfl (by decide) (by decide) (by decide) (by decide) (by decide)
  have f3 : Arv Z h1 a1 ck4 .char (2 : Int32) [(.int p2), (.int p3)] (.int (0 : Int32)) := (PV1.ext E1)
  obtain ⟨_, T2, L2, hQ2, X2, st2⟩ := own_callS X1 hx hZ (W := 0) hown (hw _ m89) (hw _ m90) (hw _ m87) (hw _ m91) (by decide) (rm20 l Z a0 hw hj w0 w1 w2 w3 w4 w5 w6 w7 w8 w9 w10 w11 hS [] b1 k1 a1 p2 p3 ck4 h1 n0 O1 V1 f3 hc2 (Nat.le_trans (own_old_le O0) g1) (Nat.ne_of_lt (Nat.lt_of_lt_of_le PV1.lt g1)) hc3) e1 (g := (mkF m 9 #[.val (.ref a1), .val (.int (0 : Int32)), .val (.int (2 : Int32)), .val (.ref b1), .unset, .unset] [(.int (2 : Int32)), (.int (0 : Int32)), (.ref b1), (.int (0 : Int32)), (.ref a1)])) rfl (by rw [hml]; rfl) (argsL := [(.ref a1), (.int (0 : Int32)), (.ref b1), (.int (0 : Int32)), (.int (2 : Int32))]) (rest := []) (lenOf pd361 rfl) rfl rfl (by show 2 * 0 + _ ≤ _; exact Nat.le_of_eq rfl) (hb hby d14_9) (by decide) (by decide) (by decide) (by decide)
  obtain ⟨rfl, N2q, Kq2, q2_0⟩ := hQ2
  have N2 := Fr.app N0 N2q
  have O2 : Old Z n0 T2.heap := O1.keep Kq2 (allS (Nat.le_trans (own_old_le O0) g1) all0)
  have K2 : Keep h0 T2.heap [] := K1.trans Kq2 (allS (Or.inr (Nat.le_trans (Keep.refl h0 []).1 g1)) all0)
  obtain ⟨fs, hr, hrun, hended, hW, hsame⟩ := X2.leave (v := some (.ref b1)) (fun h => by rw [Bd.returns] at h; cases h)
  refine ⟨_, _, pre0 _ ?_, hrun, hended, _, _, rfl, ?_, ⟨_, rfl⟩, hW, hsame.mono (by decide) (by decide)⟩
  · show Steps p.tables e below (s₁.setTop (mkF m 0 #[.val (.ref a1), .val (.int (0 : Int32)), .val (.int (2 : Int32)), .unset, .unset, .unset] [])) _
    refine XS.iloadN X0.here hx rfl (hb hby d14_0) rfl ?_
    refine st1 _ ?_
    refine XS.astoreN X1.here hx rfl (hb hby d14_3) rfl rfl (l' := #[.val (.ref a1), .val (.int (0 : Int32)), .val (.int (2 : Int32)), .val (.ref b1), .unset, .unset]) rfl ?_
    refine XS.aloadN X1.here hx rfl (hb hby d14_4) rfl rfl ?_
    show Steps p.tables e below (T1.setTop (mkF m 5 #[.val (.ref a1), .val (.int (0 : Int32)), .val (.int (2 : Int32)), .val (.ref b1), .unset, .unset] [(.ref a1)])) _
    refine XS.iloadN X1.here hx rfl (hb hby d14_5) rfl ?_
    refine XS.aloadN X1.here hx rfl (hb hby d14_6) rfl rfl ?_
    refine XS.iconst X1.here hx rfl (hb hby d14_7) ?_
    refine XS.iloadN X1.here hx rfl (hb hby d14_8) rfl ?_
    show Steps p.tables e below (T1.setTop (mkF m 9 #[.val (.ref a1), .val (.int (0 : Int32)), .val (.int (2 : Int32)), .val (.ref b1), .unset, .unset] [(.int (2 : Int32)), (.int (0 : Int32)), (.ref b1), (.int (0 : Int32)), (.ref a1)])) _
    refine st2 _ ?_
    refine XS.istore X2.here hx rfl (hb hby d14_12) rfl (l' := #[.val (.ref a1), .val (.int (0 : Int32)), .val (.int (2 : Int32)), .val (.ref b1), .val (.int (2 : Int32)), .unset]) rfl ?_
    refine XS.iload X2.here hx rfl (hb hby d14_14) rfl ?_
    refine XS.iloadN X2.here hx rfl (hb hby d14_16) rfl ?_
    show Steps p.tables e below (T2.setTop (mkF m 17 #[.val (.ref a1), .val (.int (0 : Int32)), .val (.int (2 : Int32)), .val (.ref b1), .val (.int (2 : Int32)), .unset] [(.int (2 : Int32)), (.int (2 : Int32))])) _
    refine XS.icmpYes X2.here hx rfl (pc0 := 17) (pc' := 57) rfl (hb hby d14_17) rfl (teq (by decide : (2 : Int32) = (2 : Int32))).1 (by decide) (by decide) ?_
    refine XS.aloadN X2.here hx rfl (hb hby d14_57) rfl rfl ?_
    exact retOut X2 hx Bd.returns rfl (Or.inr (Or.inr (Or.inr (Or.inr ⟨rfl, rfl, rfl⟩)))) (hb hby d14_58) hr
  · show Qrm21 Z w0 w1 w2 w3 w4 w5 w6 w7 w8 w9 w10 w11 a1 p2 p3 ck4 h0 n0 _ T2.heap _
    exact ⟨b1, k1, rfl, N2, K2, (Nat.le_trans (Keep.refl h0 []).1 g1), q2_0⟩
def Qrm22 (Z : State) (w0 : Addr) (w1 : Addr) (w2 : Addr) (w3 : Addr) (w4 : Addr) (w5 : Addr) (w6 : Addr) (w7 : Addr) (w8 : Addr) (w9 : Addr) (w10 : Int32) (w11 : Value) (a1 : Addr) (p2 : Int32) (p3 : Int32) (ck4 : ClassId) (h0 : Heap) (n0 : Nat) (v : Option Value) (h : Heap) (L : List Loc) : Prop := v = some (.int (0 : Int32)) ∧ Fr n0 L ∧ h = h0
set_option maxRecDepth 65536 in
set_option maxHeartbeats 40000000 in
theorem rm22 (l : Launch) (Z : State) (a0 : Array Value) (hw : ∀ d ∈ tables_1, d.before a0 Z = true) (hj : ∀ d ∈ jdkStatics_1, d.before a0 Z = true) (w0 : Addr) (w1 : Addr) (w2 : Addr) (w3 : Addr) (w4 : Addr) (w5 : Addr) (w6 : Addr) (w7 : Addr) (w8 : Addr) (w9 : Addr) (w10 : Int32) (w11 : Value) (hS : SF Z w0 w1 w2 w3 w4 w5 w6 w7 w8 w9 w10 w11) (ws : List Jvm.Cond) (a1 : Addr) (p2 : Int32) (p3 : Int32) (ck4 : ClassId) (h0 : Heap) (n0 : Nat) (O0 : Old Z n0 h0) (PV1 : Arv Z h0 a1 ck4 .byte (2 : Int32) [(.int p2), (.int p3)] (.int (0 : Int32))) :
    MetFree l (⟨z9, "coderFromArrayLen", "([BI)B"⟩ : MethodName) (head1 (Jvm.Cond.code (⟨z9, "coderFromArrayLen", "([BI)B"⟩ : MethodName) jdk_52_method_15_code 2 (some .byte) :: ws) ({ frames := 0, cells := 0, slots := 0, locals := 0 } : Room)) (fun a U => a = #[(.ref a1), (.int (2 : Int32))] ∧ Z.Warmed39 U.vm ∧ U.heap = h0) (fun _ _ _ _ _ => True) (fun _ U o U' => ∃ v L, o = .returned v ∧ Qrm22 Z w0 w1 w2 w3 w4 w5 w6 w7 w8 w9 w10 w11 a1 p2 p3 ck4 h0 n0 v U'.heap L ∧ FrameEnd U o U' L ({ frames := 0, cells := 0, slots := 0, locals := 0 } : Room).cells ({ frames := 0, cells := 0, slots := 0, locals := 0 } : Room).slots) := by
  refine MetFree.of_bodySF (plainFor_of_name pn358) hisR ?_
  intro p e s m args below meth c s₁ Bd hml0 hP hK
  obtain ⟨rfl, hZ, hh⟩ := hP
  have hx := Bd.exec
  have hby := Bd.bytes
  have hml : c.maxLocals = 2 := hml0
  have hown : s.vm.findClass z9 = some m.cls := findClass_of_methodNamed Bd.named
  have hnm := (name_of_methodNamed Bd.named Bd.method).1
  have X0 : Stand p l e ({ frames := 0, cells := 0, slots := 0, locals := 0 } : Room) s m #[(.ref a1), (.int (2 : Int32))] below meth c s₁ [] 0 0 := Stand.of_body Bd
  have e0 : s₁.heap = h0 := by rw [← hh, Bd.state]; rfl
  have N0 := Fr.nil n0
  have pre0 : ∀ t, Steps p.tables e below (s₁.setTop (mkF m 0 #[.val (.ref a1), .val (.int (2 : Int32))] [])) t → Steps p.tables e below (s₁.setTop (entryFrame m #[(.ref a1), (.int (2 : Int32))] 2)) t := fun t k => castTop (ef387 m a1 (2 : Int32)) k
  obtain ⟨fs, hr, hrun, hended, hW, hsame⟩ := X0.leave (v := some (.int (0 : Int32))) (fun h => by rw [Bd.returns] at h; cases h)
  refine ⟨_, _, pre0 _ ?_, hrun, hended, _, _, rfl, ?_, ⟨_, rfl⟩, hW, hsame.mono (by decide) (by decide)⟩
  · show Steps p.tables e below (s₁.setTop (mkF m 0 #[.val (.ref a1), .val (.int (2 : Int32))] [])) _
    refine XS.iloadN X0.here hx rfl (hb hby d16_0) rfl ?_
    refine XS.aloadN X0.here hx rfl (hb hby d16_1) rfl rfl ?_
    refine own_alen X0 hx hZ e0 PV1 (g := (mkF m 2 #[.val (.ref a1), .val (.int (2 : Int32))] [(.ref a1), (.int (2 : Int32))])) rfl rfl (hb hby d16_2) ?_
    refine Own.isub X0.here hx rfl (hb hby d16_3) rfl (by decide : ((2 : Int32) - (2 : Int32)) = (0 : Int32)) ?_
    show Steps p.tables e below (s₁.setTop (mkF m 4 #[.val (.ref a1), .val (.int (2 : Int32))] [(.int (0 : Int32))])) _
    refine XS.bipush X0.here hx rfl (hb hby d16_4) ?_
    refine Own.iushr X0.here hx rfl (hb hby d16_6) rfl (by decide : (((0 : Int32).toUInt32 >>> ((31 : Int32) &&& 31).toUInt32).toInt32) = (0 : Int32)) ?_
    refine Own.i2b X0.here hx rfl (hb hby d16_7) rfl (by decide : ((0 : Int32).toInt8.toInt32) = (0 : Int32)) ?_
    exact retN X0 hx (t := .byte) Bd.returns (by simp) (hb hby d16_8) hr
  · show Qrm22 Z w0 w1 w2 w3 w4 w5 w6 w7 w8 w9 w10 w11 a1 p2 p3 ck4 h0 n0 _ s₁.heap _
    rw [e0]
    exact ⟨rfl, N0, rfl⟩
def Qrm23 (Z : State) (w0 : Addr) (w1 : Addr) (w2 : Addr) (w3 : Addr) (w4 : Addr) (w5 : Addr) (w6 : Addr) (w7 : Addr) (w8 : Addr) (w9 : Addr) (w10 : Int32) (w11 : Value) (a1 : Addr) (a2 : Addr) (p3 : Int32) (p4 : Int32) (ck5 : ClassId) (h0 : Heap) (n0 : Nat) (v : Option Value) (h : Heap) (L : List Loc) : Prop := ∃ x0 : Addr, ∃ xk0 : ClassId, v = none ∧ Fr n0 L ∧ Keep h0 h [a1] ∧ h0.size ≤ x0 ∧ Arv Z h x0 xk0 .byte (2 : Int32) [(.int (p3.toInt8.toInt32)), (.int (p4.toInt8.toInt32))] (.int (0 : Int32)) ∧ Fld Z h a1 z0 "value" "[B" (.ref x0) ∧ Fld Z h a1 z0 "coder" "B" (.int (0 : Int32))
set_option maxRecDepth 65536 in
set_option maxHeartbeats 40000000 in
theorem rm23 (l : Launch) (Z : State) (a0 : Array Value) (hw : ∀ d ∈ tables_1, d.before a0 Z = true) (hj : ∀ d ∈ jdkStatics_1, d.before a0 Z = true) (w0 : Addr) (w1 : Addr) (w2 : Addr) (w3 : Addr) (w4 : Addr) (w5 : Addr) (w6 : Addr) (w7 : Addr) (w8 : Addr) (w9 : Addr) (w10 : Int32) (w11 : Value) (hS : SF Z w0 w1 w2 w3 w4 w5 w6 w7 w8 w9 w10 w11) (ws : List Jvm.Cond) (a1 : Addr) (a2 : Addr) (p3 : Int32) (p4 : Int32) (ck5 : ClassId) (h0 : Heap) (n0 : Nat) (O0 : Old Z n0 h0) (PE1 : Exa Z h0 a1 z0) (PF2 : Fld Z h0 a1 z0 "value" "[B" .null) (PF3 : Fld Z h0 a1 z0 "coder" "B" (.int (0 : Int32))) (PV4 : Arv Z h0 a2 ck5 .char (2 : Int32) [(.int p3), (.int p4)] (.int (0 : Int32))) (hc5 : ¬ ((255 : Int32) < p3)) (hc6 : ¬ ((255 : Int32) < p4)) (gn7 : n0 ≤ a1) :
    MetFree l (⟨z0, "<init>", "([CIILjava/lang/Void;)V"⟩ : MethodName) (head1 (Jvm.Cond.code (⟨z0, "<init>", "([CIILjava/lang/Void;)V"⟩ : MethodName) jdk_42_method_149_code 6 none :: ws) ({ frames := 2, cells := 1, slots := 2, locals := 35 } : Room)) (fun a U => a = #[(.ref a1), (.ref a2), (.int (0 : Int32)), (.int (2 : Int32)), .null] ∧ Z.Warmed39 U.vm ∧ U.heap = h0) (fun _ _ _ _ _ => True) (fun _ U o U' => ∃ v L, o = .returned v ∧ Qrm23 Z w0 w1 w2 w3 w4 w5 w6 w7 w8 w9 w10 w11 a1 a2 p3 p4 ck5 h0 n0 v U'.heap L ∧ FrameEnd U o U' L ({ frames := 2, cells := 1, slots := 2, locals := 35 } : Room).cells ({ frames := 2, cells := 1, slots := 2, locals := 35 } : Room).slots) := by
  refine MetFree.of_bodySF (plainFor_of_name pn101) hisR ?_
  intro p e s m args below meth c s₁ Bd hml0 hP hK
  obtain ⟨rfl, hZ, hh⟩ := hP
  have hx := Bd.exec
  have hby := Bd.bytes
  have hml : c.maxLocals = 6 := hml0
  have hown : s.vm.findClass z0 = some m.cls := findClass_of_methodNamed Bd.named
  have hnm := (name_of_methodNamed Bd.named Bd.method).1
  have X0 : Stand p l e ({ frames := 2, cells := 1, slots := 2, locals := 35 } : Room) s m #[(.ref a1), (.ref a2), (.int (0 : Int32)), (.int (2 : Int32)), .null] below meth c s₁ [] 0 0 := Stand.of_body Bd
  have e0 : s₁.heap = h0 := by rw [← hh, Bd.state]; rfl
  have N0 := Fr.nil n0
  have pre0 : ∀ t, Steps p.tables e below (s₁.setTop (mkF m 0 #[.val (.ref a1), .val (.ref a2), .val (.int (0 : Int32)), .val (.int (2 : Int32)), .val .null, .unset] [])) t → Steps p.tables e below (s₁.setTop (entryFrame m #[(.ref a1), (.ref a2), (.int (0 : Int32)), (.int (2 : Int32)), .null] 6)) t := fun t k => castTop (ef100 m a1 a2 (0 : Int32) (2 : Int32)) k
  obtain ⟨T1, X1, e1, st1⟩ := initO X0 hx hZ hown (hw _ m24) (hw _ m25) (hw _ m26) e0 (g := (mkF m 1 #[.val (.ref a1), .val (.ref a2), .val (.int (0 : Int32)), .val (.int (2 : Int32)), .val .null, .unset] [(.ref a1)])) rfl (by rw [hml]; rfl) rfl (hb hby d8_1) (by decide) (W := 0) (by show 2 * 0 + _ ≤ _; exact Nat.le_of_eq rfl) (by decide)
  obtain ⟨T2, X2, e2, st2⟩ := getS2 X1 hx hZ hown (host := "") (Or.inl (hw _ m9)) Via.refl e1 (hS.2.2.2.2.2.2.2.2.2.2.2.2.2.2.2.2.2.2.2.2.2.2.2.2.2.2.2.2.2.2.1.ext O0.2) (g := (mkF m 27 #[.val (.ref a1), .val (.ref a2), .val (.int (0 : Int32)), .val (.int (2 : Int32)), .val .null, .unset] [])) rfl (hb hby d8_27)
  obtain ⟨_, T3, L3, hQ3, X3, st3⟩ := own_callS X2 hx hZ (W := 0) hown (hw _ m85) (hw _ m86) (hw _ m87) (hw _ m88) (by decide) (rm21 l Z a0 hw hj w0 w1 w2 w3 w4 w5 w6 w7 w8 w9 w10 w11 hS [] a2 p3 p4 ck5 h0 n0 O0 PV4 hc5 hc6) e2 (g := (mkF m 36 #[.val (.ref a1), .val (.ref a2), .val (.int (0 : Int32)), .val (.int (2 : Int32)), .val .null, .unset] [(.int (2 : Int32)), (.int (0 : Int32)), (.ref a2)])) rfl (by rw [hml]; rfl) (argsL := [(.ref a2), (.int (0 : Int32)), (.int (2 : Int32))]) (rest := []) (lenOf pd371 rfl) rfl rfl (by show 2 * 0 + _ ≤ _; exact Nat.le_of_eq rfl) (hb hby d8_36) (by decide) (by decide) (by decide) (by decide)
  obtain ⟨c3_0, k3_1, rfl, N3q, Kq3, lo3_0, q3_0⟩ := hQ3
  have N3 := Fr.app N0 N3q
  have O3 : Old Z n0 T3.heap := O0.keep Kq3 all0
  have K3 : Keep h0 T3.heap [a1] := (Keep.refl h0 [a1]).trans Kq3 all0
  obtain ⟨_, T4, L4, hQ4, X4, st4⟩ := own_callS X3 hx hZ (W := 1) hown (hw _ m92) (hw _ m93) (hw _ m87) (hw _ m94) (by decide) (rm22 l Z a0 hw hj w0 w1 w2 w3 w4 w5 w6 w7 w8 w9 w10 w11 hS [] c3_0 (p3.toInt8.toInt32) (p4.toInt8.toInt32) k3_1 T3.heap n0 O3 q3_0) (rfl : T3.heap = T3.heap) (g := (mkF m 45 #[.val (.ref a1), .val (.ref a2), .val (.int (0 : Int32)), .val (.int (2 : Int32)), .val .null, .val (.ref c3_0)] [(.int (2 : Int32)), (.ref c3_0), (.ref a1)])) rfl (by rw [hml]; rfl) (argsL := [(.ref c3_0), (.int (2 : Int32))]) (rest := [(.ref a1)]) (lenOf pd389 rfl) rfl rfl (by show 2 * 0 + _ ≤ _; exact Nat.le_of_eq rfl) (hb hby d8_45) (by decide) (by decide) (by decide) (by decide)
  obtain ⟨rfl, N4q, e4⟩ := hQ4
  have N4 := Fr.app N3 N4q
  have e4' : T4.heap = T3.heap := e4
  have f5 : Fld Z T3.heap a1 z0 "coder" "B" (.int (0 : Int32)) := (PF3.keep Kq3 nin0)
  have f6 : Exa Z T3.heap a1 z0 := (PE1.keep Kq3)
  obtain ⟨T7, h7, L'7, X7, e7, W7, Fw7, O7, K7, N7, st7⟩ := own_putN X4 hx hZ hown (hw _ m29) Via.refl e4' O3 K3 N4 gn7 (Or.inl (List.mem_of_getElem? (i := 0) rfl)) f5 f6 (Or.inr ⟨(hw _ m30), rfl, hnm⟩) (hw _ m15) (ty := .byte) (v' := (.int (0 : Int32))) (by decide) rfl (by decide) (g := (mkF m 48 #[.val (.ref a1), .val (.ref a2), .val (.int (0 : Int32)), .val (.int (2 : Int32)), .val .null, .val (.ref c3_0)] [(.int (0 : Int32)), (.ref a1)])) rfl rfl (hb hby d8_48)
  have f8 : Fld Z h7 a1 z0 "value" "[B" .null := ((PF2.keep Kq3 nin0).other W7 (Or.inr (slot_ne (Or.inr (hw _ m28)) (Or.inr (hw _ m30)) (by decide) (t := (.array .byte)) (t' := .byte) (by decide) (by decide))))
  have f9 : Exa Z h7 a1 z0 := (f6.wr W7)
  obtain ⟨T10, h10, L'10, X10, e10, W10, Fw10, O10, K10, N10, st10⟩ := own_put X7 hx hZ hown (host := "") (Or.inl (hw _ m27)) Via.refl e7 O7 K7 N7 gn7 (Or.inl (List.mem_of_getElem? (i := 0) rfl)) f8 f9 (Or.inr ⟨(hw _ m28), rfl, hnm⟩) (hw _ m15) (ty := (.array .byte)) (by decide) rfl rfl (g := (mkF m 54 #[.val (.ref a1), .val (.ref a2), .val (.int (0 : Int32)), .val (.int (2 : Int32)), .val .null, .val (.ref c3_0)] [(.ref c3_0), (.ref a1)])) rfl rfl (hb hby d8_54)
  have f11 : Arv Z h10 c3_0 k3_1 .byte (2 : Int32) [(.int (p3.toInt8.toInt32)), (.int (p4.toInt8.toInt32))] (.int (0 : Int32)) := ((q3_0.other W7 (Ne.symm (Nat.ne_of_lt (Nat.lt_of_lt_of_le PE1.lt lo3_0)))).other W10 (Ne.symm (Nat.ne_of_lt (Nat.lt_of_lt_of_le PE1.lt lo3_0))))
  have f12 : Fld Z h10 a1 z0 "coder" "B" (.int (0 : Int32)) := (Fw7.other W10 (Or.inr (slot_ne (Or.inr (hw _ m30)) (Or.inr (hw _ m28)) (by decide) (t := .byte) (t' := (.array .byte)) (by decide) (by decide))))
  obtain ⟨fs, hr, hrun, hended, hW, hsame⟩ := X10.leave (v := none) (fun _ => rfl)
  refine ⟨_, _, pre0 _ ?_, hrun, hended, _, _, rfl, ?_, ⟨_, rfl⟩, hW, hsame.mono (by decide) (by decide)⟩
  · show Steps p.tables e below (s₁.setTop (mkF m 0 #[.val (.ref a1), .val (.ref a2), .val (.int (0 : Int32)), .val (.int (2 : Int32)), .val .null, .unset] [])) _
    refine XS.aloadN X0.here hx rfl (hb hby d8_0) rfl rfl ?_
    refine st1 _ ?_
    refine XS.iloadN X1.here hx rfl (hb hby d8_4) rfl ?_
    refine XS.ifYes X1.here hx rfl (pc0 := 5) (pc' := 27) rfl (hb hby d8_5) rfl ((if0 _ _).trans (feq (by decide : ¬ ((2 : Int32) = (0 : Int32)))).2) (by decide) (by decide) ?_
    show Steps p.tables e below (T1.setTop (mkF m 27 #[.val (.ref a1), .val (.ref a2), .val (.int (0 : Int32)), .val (.int (2 : Int32)), .val .null, .unset] [])) _
    refine st2 _ ?_
    refine XS.ifNo X2.here hx rfl (hb hby d8_30) rfl ((if0 _ _).trans (feq hS.2.2.2.2.2.2.2.2.2.2.2.2.2.2.2.2.2.2.2.2.2.2.2.2.2.2.2.2.2.2.2.1).1) ?_
    refine XS.aloadN X2.here hx rfl (hb hby d8_33) rfl rfl ?_
    refine XS.iloadN X2.here hx rfl (hb hby d8_34) rfl ?_
    show Steps p.tables e below (T2.setTop (mkF m 35 #[.val (.ref a1), .val (.ref a2), .val (.int (0 : Int32)), .val (.int (2 : Int32)), .val .null, .unset] [(.int (0 : Int32)), (.ref a2)])) _
    refine XS.iloadN X2.here hx rfl (hb hby d8_35) rfl ?_
    refine st3 _ ?_
    refine XS.astore X3.here hx rfl (hb hby d8_39) rfl rfl (l' := #[.val (.ref a1), .val (.ref a2), .val (.int (0 : Int32)), .val (.int (2 : Int32)), .val .null, .val (.ref c3_0)]) rfl ?_
    refine XS.aloadN X3.here hx rfl (hb hby d8_41) rfl rfl ?_
    show Steps p.tables e below (T3.setTop (mkF m 42 #[.val (.ref a1), .val (.ref a2), .val (.int (0 : Int32)), .val (.int (2 : Int32)), .val .null, .val (.ref c3_0)] [(.ref a1)])) _
    refine XS.aload X3.here hx rfl (hb hby d8_42) rfl rfl ?_
    refine XS.iloadN X3.here hx rfl (hb hby d8_44) rfl ?_
    refine st4 _ ?_
    refine st7 _ ?_
    show Steps p.tables e below (T7.setTop (mkF m 51 #[.val (.ref a1), .val (.ref a2), .val (.int (0 : Int32)), .val (.int (2 : Int32)), .val .null, .val (.ref c3_0)] [])) _
    refine XS.aloadN X7.here hx rfl (hb hby d8_51) rfl rfl ?_
    refine XS.aload X7.here hx rfl (hb hby d8_52) rfl rfl ?_
    refine st10 _ ?_
    exact X10.returnOut hx Bd.returns (hb hby d8_57) hr
  · show Qrm23 Z w0 w1 w2 w3 w4 w5 w6 w7 w8 w9 w10 w11 a1 a2 p3 p4 ck5 h0 n0 _ T10.heap _
    rw [e10]
    exact ⟨c3_0, k3_1, rfl, N10, K10, (Nat.le_trans (Keep.refl h0 [a1]).1 lo3_0), f11, Fw10, f12⟩
def Qrm24 (Z : State) (w0 : Addr) (w1 : Addr) (w2 : Addr) (w3 : Addr) (w4 : Addr) (w5 : Addr) (w6 : Addr) (w7 : Addr) (w8 : Addr) (w9 : Addr) (w10 : Int32) (w11 : Value) (a1 : Addr) (a2 : Addr) (p3 : Int32) (p4 : Int32) (ck5 : ClassId) (h0 : Heap) (n0 : Nat) (v : Option Value) (h : Heap) (L : List Loc) : Prop := ∃ x0 : Addr, ∃ xk0 : ClassId, v = none ∧ Fr n0 L ∧ Keep h0 h [a1] ∧ h0.size ≤ x0 ∧ Arv Z h x0 xk0 .byte (2 : Int32) [(.int (p3.toInt8.toInt32)), (.int (p4.toInt8.toInt32))] (.int (0 : Int32)) ∧ Fld Z h a1 z0 "value" "[B" (.ref x0) ∧ Fld Z h a1 z0 "coder" "B" (.int (0 : Int32))
set_option maxRecDepth 65536 in
set_option maxHeartbeats 40000000 in
theorem rm24 (l : Launch) (Z : State) (a0 : Array Value) (hw : ∀ d ∈ tables_1, d.before a0 Z = true) (hj : ∀ d ∈ jdkStatics_1, d.before a0 Z = true) (w0 : Addr) (w1 : Addr) (w2 : Addr) (w3 : Addr) (w4 : Addr) (w5 : Addr) (w6 : Addr) (w7 : Addr) (w8 : Addr) (w9 : Addr) (w10 : Int32) (w11 : Value) (hS : SF Z w0 w1 w2 w3 w4 w5 w6 w7 w8 w9 w10 w11) (ws : List Jvm.Cond) (a1 : Addr) (a2 : Addr) (p3 : Int32) (p4 : Int32) (ck5 : ClassId) (h0 : Heap) (n0 : Nat) (O0 : Old Z n0 h0) (PE1 : Exa Z h0 a1 z0) (PF2 : Fld Z h0 a1 z0 "value" "[B" .null) (PF3 : Fld Z h0 a1 z0 "coder" "B" (.int (0 : Int32))) (PV4 : Arv Z h0 a2 ck5 .char (2 : Int32) [(.int p3), (.int p4)] (.int (0 : Int32))) (hc5 : ¬ ((255 : Int32) < p3)) (hc6 : ¬ ((255 : Int32) < p4)) (gn7 : n0 ≤ a1) :
    MetFree l (⟨z0, "<init>", "([C)V"⟩ : MethodName) (head1 (Jvm.Cond.code (⟨z0, "<init>", "([C)V"⟩ : MethodName) jdk_42_method_3_code 2 none :: ws) ({ frames := 3, cells := 1, slots := 2, locals := 52 } : Room)) (fun a U => a = #[(.ref a1), (.ref a2)] ∧ Z.Warmed39 U.vm ∧ U.heap = h0) (fun _ _ _ _ _ => True) (fun _ U o U' => ∃ v L, o = .returned v ∧ Qrm24 Z w0 w1 w2 w3 w4 w5 w6 w7 w8 w9 w10 w11 a1 a2 p3 p4 ck5 h0 n0 v U'.heap L ∧ FrameEnd U o U' L ({ frames := 3, cells := 1, slots := 2, locals := 52 } : Room).cells ({ frames := 3, cells := 1, slots := 2, locals := 52 } : Room).slots) := by
  refine MetFree.of_bodySF (plainFor_of_name pn101) hisR ?_
  intro p e s m args below meth c s₁ Bd hml0 hP hK
  obtain ⟨rfl, hZ, hh⟩ := hP
  have hx := Bd.exec
  have hby := Bd.bytes
  have hml : c.maxLocals = 2 := hml0
  have hown : s.vm.findClass z0 = some m.cls := findClass_of_methodNamed Bd.named
  have hnm := (name_of_methodNamed Bd.named Bd.method).1
  have X0 : Stand p l e ({ frames := 3, cells := 1, slots := 2, locals := 52 } : Room) s m #[(.ref a1), (.ref a2)] below meth c s₁ [] 0 0 := Stand.of_body Bd
  have e0 : s₁.heap = h0 := by rw [← hh, Bd.state]; rfl
  have N0 := Fr.nil n0
  have pre0 : ∀ t, Steps p.tables e below (s₁.setTop (mkF m 0 #[.val (.ref a1), .val (.ref a2)] [])) t → Steps p.tables e below (s₁.setTop (entryFrame m #[(.ref a1), (.ref a2)] 2)) t := fun t k => castTop (ef106 m a1 a2) k
  obtain ⟨_, T1, L1, hQ1, X1, st1⟩ := own_special X0 hx hZ (W := 0) rfl hown (hw _ m36) (hw _ m37) (hw _ m7) (hw _ m38) (by decide) (rm23 l Z a0 hw hj w0 w1 w2 w3 w4 w5 w6 w7 w8 w9 w10 w11 hS [] a1 a2 p3 p4 ck5 h0 n0 O0 PE1 PF2 PF3 PV4 hc5 hc6 gn7) e0 (a := a1) (g := (mkF m 6 #[.val (.ref a1), .val (.ref a2)] [.null, (.int (2 : Int32)), (.int (0 : Int32)), (.ref a2), (.ref a1)])) rfl (by rw [hml]; rfl) (argsL := [(.ref a2), (.int (0 : Int32)), (.int (2 : Int32)), .null]) (rest := []) (lenOf pd103 rfl) rfl rfl (by show 2 * 0 + _ ≤ _; exact Nat.le_of_eq rfl) (hb hby d7_6) (by decide) (by decide) (by decide) (by decide)
  obtain ⟨c1_0, k1_1, rfl, N1q, Kq1, lo1_0, q1_0, q1_1, q1_2⟩ := hQ1
  have N1 := Fr.app N0 N1q
  have O1 : Old Z n0 T1.heap := O0.keep Kq1 (allS gn7 all0)
  have K1 : Keep h0 T1.heap [a1] := (Keep.refl h0 [a1]).trans Kq1 (allS (Or.inl (List.mem_of_getElem? (i := 0) rfl)) all0)
  obtain ⟨fs, hr, hrun, hended, hW, hsame⟩ := X1.leave (v := none) (fun _ => rfl)
  refine ⟨_, _, pre0 _ ?_, hrun, hended, _, _, rfl, ?_, ⟨_, rfl⟩, hW, hsame.mono (by decide) (by decide)⟩
  · show Steps p.tables e below (s₁.setTop (mkF m 0 #[.val (.ref a1), .val (.ref a2)] [])) _
    refine XS.aloadN X0.here hx rfl (hb hby d7_0) rfl rfl ?_
    refine XS.aloadN X0.here hx rfl (hb hby d7_1) rfl rfl ?_
    refine XS.iconst X0.here hx rfl (hb hby d7_2) ?_
    refine XS.aloadN X0.here hx rfl (hb hby d7_3) rfl rfl ?_
    show Steps p.tables e below (s₁.setTop (mkF m 4 #[.val (.ref a1), .val (.ref a2)] [(.ref a2), (.int (0 : Int32)), (.ref a2), (.ref a1)])) _
    refine own_alen X0 hx hZ e0 PV4 (g := (mkF m 4 #[.val (.ref a1), .val (.ref a2)] [(.ref a2), (.int (0 : Int32)), (.ref a2), (.ref a1)])) rfl rfl (hb hby d7_4) ?_
    refine XS.aconstNull X0.here hx rfl (hb hby d7_5) ?_
    refine st1 _ ?_
    exact X1.returnOut hx Bd.returns (hb hby d7_9) hr
  · show Qrm24 Z w0 w1 w2 w3 w4 w5 w6 w7 w8 w9 w10 w11 a1 a2 p3 p4 ck5 h0 n0 _ T1.heap _
    exact ⟨c1_0, k1_1, rfl, N1, K1, (Nat.le_trans (Keep.refl h0 [a1]).1 lo1_0), q1_0, q1_1, q1_2⟩
def Qrm25 (Z : State) (w0 : Addr) (w1 : Addr) (w2 : Addr) (w3 : Addr) (w4 : Addr) (w5 : Addr) (w6 : Addr) (w7 : Addr) (w8 : Addr) (w9 : Addr) (w10 : Int32) (w11 : Value) (p1 : Int32) (p2 : Int32) (h0 : Heap) (n0 : Nat) (v : Option Value) (h : Heap) (L : List Loc) : Prop := ∃ x0 : Addr, ∃ x1 : Addr, ∃ xk0 : ClassId, v = some (.ref x0) ∧ Fr n0 L ∧ Keep h0 h [] ∧ h0.size ≤ x0 ∧ x0 < x1 ∧ Exa Z h x0 z0 ∧ Fld Z h x0 z0 "value" "[B" (.ref x1) ∧ Fld Z h x0 z0 "coder" "B" (.int (0 : Int32)) ∧ Arv Z h x1 xk0 .byte (2 : Int32) [(.int (p1.toInt8.toInt32)), (.int (p2.toInt8.toInt32))] (.int (0 : Int32))
set_option maxRecDepth 65536 in
set_option maxHeartbeats 40000000 in
theorem rm25 (l : Launch) (Z : State) (a0 : Array Value) (hw : ∀ d ∈ tables_1, d.before a0 Z = true) (hj : ∀ d ∈ jdkStatics_1, d.before a0 Z = true) (w0 : Addr) (w1 : Addr) (w2 : Addr) (w3 : Addr) (w4 : Addr) (w5 : Addr) (w6 : Addr) (w7 : Addr) (w8 : Addr) (w9 : Addr) (w10 : Int32) (w11 : Value) (hS : SF Z w0 w1 w2 w3 w4 w5 w6 w7 w8 w9 w10 w11) (ws : List Jvm.Cond) (p1 : Int32) (p2 : Int32) (h0 : Heap) (n0 : Nat) (O0 : Old Z n0 h0) (hc1 : ¬ (p1 < (0 : Int32))) (hc2 : ¬ ((65535 : Int32) < p1)) (hc3 : ¬ (p2 < (0 : Int32))) (hc4 : ¬ ((65535 : Int32) < p2)) (hc5 : ¬ ((255 : Int32) < p1)) (hc6 : ¬ ((255 : Int32) < p2)) :
    MetFree l (⟨z4, "make", z10⟩ : MethodName) (head1 (Jvm.Cond.code (⟨z4, "make", z10⟩ : MethodName) method_3_code 4 (some (.object z0)) :: ws) ({ frames := 4, cells := 3, slots := 8, locals := 66 } : Room)) (fun a U => a = #[(.int (2 : Int32)), (.int p1), (.int p2)] ∧ Z.Warmed39 U.vm ∧ U.heap = h0) (fun _ _ _ _ _ => True) (fun _ U o U' => ∃ v L, o = .returned v ∧ Qrm25 Z w0 w1 w2 w3 w4 w5 w6 w7 w8 w9 w10 w11 p1 p2 h0 n0 v U'.heap L ∧ FrameEnd U o U' L ({ frames := 4, cells := 3, slots := 8, locals := 66 } : Room).cells ({ frames := 4, cells := 3, slots := 8, locals := 66 } : Room).slots) := by
  refine MetFree.of_bodySF (plainFor_of_name pn54) hisR ?_
  intro p e s m args below meth c s₁ Bd hml0 hP hK
  obtain ⟨rfl, hZ, hh⟩ := hP
  have hx := Bd.exec
  have hby := Bd.bytes
  have hml : c.maxLocals = 4 := hml0
  have hown : s.vm.findClass z4 = some m.cls := findClass_of_methodNamed Bd.named
  have hnm := (name_of_methodNamed Bd.named Bd.method).1
  have X0 : Stand p l e ({ frames := 4, cells := 3, slots := 8, locals := 66 } : Room) s m #[(.int (2 : Int32)), (.int p1), (.int p2)] below meth c s₁ [] 0 0 := Stand.of_body Bd
  have e0 : s₁.heap = h0 := by rw [← hh, Bd.state]; rfl
  have N0 := Fr.nil n0
  have pre0 : ∀ t, Steps p.tables e below (s₁.setTop (mkF m 0 #[.val (.int (2 : Int32)), .val (.int p1), .val (.int p2), .unset] [])) t → Steps p.tables e below (s₁.setTop (entryFrame m #[(.int (2 : Int32)), (.int p1), (.int p2)] 4)) t := fun t k => castTop (ef111 m (2 : Int32) p1 p2) k
  obtain ⟨T1, h1, k1, b1, X1, e1, E1, V1, g1, O1, K1, st1⟩ := own_newP X0 hx hZ (aty := .char) (ty := .char) (dv := (.int (0 : Int32))) (vs := [(.int (0 : Int32)), (.int (0 : Int32))]) (cap := 2) rfl rfl rfl (hw _ m32) e0 O0 (Keep.refl h0 []) (g := (mkF m 26 #[.val (.int (2 : Int32)), .val (.int p1), .val (.int p2), .unset] [(.int (2 : Int32))])) rfl (hb hby d1_26) rfl (by decide) (by decide) (by decide) (by decide) (by decide)
  obtain ⟨T2, h2, L'2, X2, e2, W2, V2, O2, K2, N2, st2⟩ := own_stC X1 hx hZ e1 V1 O1 K1 N0 (Nat.le_trans (own_old_le O0) g1) (Or.inr (Nat.le_trans (Keep.refl h0 []).1 g1)) (j := (0 : Int32)) 0 (by decide) (Nat.le_of_ble_eq_true rfl) (v := (.int p1)) (congrArg Value.int (own_narC hc1 hc2)) (vs' := [(.int p1), (.int (0 : Int32))]) rfl (g := (mkF m 32 #[.val (.int (2 : Int32)), .val (.int p1), .val (.int p2), .val (.ref b1)] [(.int p1), (.int (0 : Int32)), (.ref b1)])) rfl rfl (hb hby d1_32)
  obtain ⟨T3, h3, L'3, X3, e3, W3, V3, O3, K3, N3, st3⟩ := own_stC X2 hx hZ e2 V2 O2 K2 N2 (Nat.le_trans (own_old_le O0) g1) (Or.inr (Nat.le_trans (Keep.refl h0 []).1 g1)) (j := (1 : Int32)) 1 (by decide) (Nat.le_of_ble_eq_true rfl) (v := (.int p2)) (congrArg Value.int (own_narC hc3 hc4)) (vs' := [(.int p1), (.int p2)]) rfl (g := (mkF m 36 #[.val (.int (2 : Int32)), .val (.int p1), .val (.int p2), .val (.ref b1)] [(.int p2), (.int (1 : Int32)), (.ref b1)])) rfl rfl (hb hby d1_36)
  obtain ⟨T4, h4, b4, X4, e4, E4, A4, D4, g4, O4, K4, st4⟩ := own_newO X3 hx hZ hown (hw _ m31) (hw _ m15) (hw _ m7) e3 O3 K3 (g := (mkF m 37 #[.val (.int (2 : Int32)), .val (.int p1), .val (.int p2), .val (.ref b1)] [])) rfl (hb hby d1_37) (by decide) (by decide)
  have F4_1 : Fld Z h4 b4 z0 "value" "[B" .null := D4 (Or.inr (hw _ m28)) (ty := (.array .byte)) (by decide)
  have F4_2 : Fld Z h4 b4 z0 "coder" "B" (.int (0 : Int32)) := D4 (Or.inr (hw _ m30)) (ty := .byte) (by decide)
  have f6 : Arv Z h4 b1 k1 .char (2 : Int32) [(.int p1), (.int p2)] (.int (0 : Int32)) := (V3.ext E4)
  obtain ⟨_, T5, L5, hQ5, X5, st5⟩ := own_special X4 hx hZ (W := 1) rfl hown (hw _ m33) (hw _ m34) (hw _ m7) (hw _ m35) (by decide) (rm24 l Z a0 hw hj w0 w1 w2 w3 w4 w5 w6 w7 w8 w9 w10 w11 hS [] b4 b1 p1 p2 k1 h4 n0 O4 A4 F4_1 F4_2 f6 hc5 hc6 (Nat.le_trans (own_old_le O3) g4)) e4 (a := b4) (g := (mkF m 42 #[.val (.int (2 : Int32)), .val (.int p1), .val (.int p2), .val (.ref b1)] [(.ref b1), (.ref b4), (.ref b4)])) rfl (by rw [hml]; rfl) (argsL := [(.ref b1)]) (rest := [(.ref b4)]) (lenOf pd108 rfl) rfl rfl (by show 2 * 0 + _ ≤ _; exact Nat.le_of_eq rfl) (hb hby d1_42) (by decide) (by decide) (by decide) (by decide)
  obtain ⟨c5_0, k5_1, rfl, N5q, Kq5, lo5_0, q5_0, q5_1, q5_2⟩ := hQ5
  have N5 := Fr.app N3 N5q
  have O5 : Old Z n0 T5.heap := O4.keep Kq5 (allS (Nat.le_trans (own_old_le O3) g4) all0)
  have K5 : Keep h0 T5.heap [] := K4.trans Kq5 (allS (Or.inr (Nat.le_trans K3.1 g4)) all0)
  have f7 : Exa Z T5.heap b4 z0 := (A4.keep Kq5)
  obtain ⟨fs, hr, hrun, hended, hW, hsame⟩ := X5.leave (v := some (.ref b4)) (fun h => by rw [Bd.returns] at h; cases h)
  refine ⟨_, _, pre0 _ ?_, hrun, hended, _, _, rfl, ?_, ⟨_, rfl⟩, hW, hsame.mono (by decide) (by decide)⟩
  · show Steps p.tables e below (s₁.setTop (mkF m 0 #[.val (.int (2 : Int32)), .val (.int p1), .val (.int p2), .unset] [])) _
    refine XS.iloadN X0.here hx rfl (hb hby d1_0) rfl ?_
    refine XS.ifYes X0.here hx rfl (pc0 := 1) (pc' := 15) rfl (hb hby d1_1) rfl ((if0 _ _).trans (feq (by decide : ¬ ((2 : Int32) = (0 : Int32)))).2) (by decide) (by decide) ?_
    refine XS.iloadN X0.here hx rfl (hb hby d1_15) rfl ?_
    refine XS.iconst X0.here hx rfl (hb hby d1_16) ?_
    show Steps p.tables e below (s₁.setTop (mkF m 17 #[.val (.int (2 : Int32)), .val (.int p1), .val (.int p2), .unset] [(.int (1 : Int32)), (.int (2 : Int32))])) _
    refine XS.icmpYes X0.here hx rfl (pc0 := 17) (pc' := 25) rfl (hb hby d1_17) rfl (feq (by decide : ¬ ((2 : Int32) = (1 : Int32)))).2 (by decide) (by decide) ?_
    refine XS.iconst X0.here hx rfl (hb hby d1_25) ?_
    refine st1 _ ?_
    refine XS.astoreN X1.here hx rfl (hb hby d1_28) rfl rfl (l' := #[.val (.int (2 : Int32)), .val (.int p1), .val (.int p2), .val (.ref b1)]) rfl ?_
    show Steps p.tables e below (T1.setTop (mkF m 29 #[.val (.int (2 : Int32)), .val (.int p1), .val (.int p2), .val (.ref b1)] [])) _
    refine XS.aloadN X1.here hx rfl (hb hby d1_29) rfl rfl ?_
    refine XS.iconst X1.here hx rfl (hb hby d1_30) ?_
    refine XS.iloadN X1.here hx rfl (hb hby d1_31) rfl ?_
    refine st2 _ ?_
    show Steps p.tables e below (T2.setTop (mkF m 33 #[.val (.int (2 : Int32)), .val (.int p1), .val (.int p2), .val (.ref b1)] [])) _
    refine XS.aloadN X2.here hx rfl (hb hby d1_33) rfl rfl ?_
    refine XS.iconst X2.here hx rfl (hb hby d1_34) ?_
    refine XS.iloadN X2.here hx rfl (hb hby d1_35) rfl ?_
    refine st3 _ ?_
    show Steps p.tables e below (T3.setTop (mkF m 37 #[.val (.int (2 : Int32)), .val (.int p1), .val (.int p2), .val (.ref b1)] [])) _
    refine st4 _ ?_
    refine XS.dup X4.here hx rfl (hb hby d1_40) rfl rfl ?_
    refine XS.aloadN X4.here hx rfl (hb hby d1_41) rfl rfl ?_
    refine st5 _ ?_
    show Steps p.tables e below (T5.setTop (mkF m 45 #[.val (.int (2 : Int32)), .val (.int p1), .val (.int p2), .val (.ref b1)] [(.ref b4)])) _
    exact retOut X5 hx Bd.returns rfl (Or.inr (Or.inr (Or.inr (Or.inr ⟨rfl, rfl, rfl⟩)))) (hb hby d1_45) hr
  · show Qrm25 Z w0 w1 w2 w3 w4 w5 w6 w7 w8 w9 w10 w11 p1 p2 h0 n0 _ T5.heap _
    exact ⟨b4, c5_0, k5_1, rfl, N5, K5, (Nat.le_trans K3.1 g4), (Nat.lt_of_lt_of_le A4.lt lo5_0), f7, q5_1, q5_2, q5_0⟩
def Qrm26 (Z : State) (w0 : Addr) (w1 : Addr) (w2 : Addr) (w3 : Addr) (w4 : Addr) (w5 : Addr) (w6 : Addr) (w7 : Addr) (w8 : Addr) (w9 : Addr) (w10 : Int32) (w11 : Value) (a1 : Addr) (a2 : Addr) (ck3 : ClassId) (p4 : Int32) (p5 : Int32) (ck6 : ClassId) (h0 : Heap) (n0 : Nat) (v : Option Value) (h : Heap) (L : List Loc) : Prop := v = some (.int (0 : Int32)) ∧ Fr n0 L ∧ h = h0
set_option maxRecDepth 65536 in
set_option maxHeartbeats 40000000 in
theorem rm26 (l : Launch) (Z : State) (a0 : Array Value) (hw : ∀ d ∈ tables_1, d.before a0 Z = true) (hj : ∀ d ∈ jdkStatics_1, d.before a0 Z = true) (w0 : Addr) (w1 : Addr) (w2 : Addr) (w3 : Addr) (w4 : Addr) (w5 : Addr) (w6 : Addr) (w7 : Addr) (w8 : Addr) (w9 : Addr) (w10 : Int32) (w11 : Value) (hS : SF Z w0 w1 w2 w3 w4 w5 w6 w7 w8 w9 w10 w11) (ws : List Jvm.Cond) (a1 : Addr) (a2 : Addr) (ck3 : ClassId) (p4 : Int32) (p5 : Int32) (ck6 : ClassId) (h0 : Heap) (n0 : Nat) (O0 : Old Z n0 h0) (PV1 : Arv Z h0 a1 ck3 .byte (0 : Int32) [] (.int (0 : Int32))) (PV2 : Arv Z h0 a2 ck6 .byte (2 : Int32) [(.int p4), (.int p5)] (.int (0 : Int32))) :
    MetFree l (⟨z5, "equals", "([B[B)Z"⟩ : MethodName) (head1 (Jvm.Cond.code (⟨z5, "equals", "([B[B)Z"⟩ : MethodName) jdk_43_method_13_code 3 (some .boolean) :: ws) ({ frames := 0, cells := 0, slots := 0, locals := 0 } : Room)) (fun a U => a = #[(.ref a1), (.ref a2)] ∧ Z.Warmed39 U.vm ∧ U.heap = h0) (fun _ _ _ _ _ => True) (fun _ U o U' => ∃ v L, o = .returned v ∧ Qrm26 Z w0 w1 w2 w3 w4 w5 w6 w7 w8 w9 w10 w11 a1 a2 ck3 p4 p5 ck6 h0 n0 v U'.heap L ∧ FrameEnd U o U' L ({ frames := 0, cells := 0, slots := 0, locals := 0 } : Room).cells ({ frames := 0, cells := 0, slots := 0, locals := 0 } : Room).slots) := by
  refine MetFree.of_bodySF (plainFor_of_name pn217) hisR ?_
  intro p e s m args below meth c s₁ Bd hml0 hP hK
  obtain ⟨rfl, hZ, hh⟩ := hP
  have hx := Bd.exec
  have hby := Bd.bytes
  have hml : c.maxLocals = 3 := hml0
  have hown : s.vm.findClass z5 = some m.cls := findClass_of_methodNamed Bd.named
  have hnm := (name_of_methodNamed Bd.named Bd.method).1
  have X0 : Stand p l e ({ frames := 0, cells := 0, slots := 0, locals := 0 } : Room) s m #[(.ref a1), (.ref a2)] below meth c s₁ [] 0 0 := Stand.of_body Bd
  have e0 : s₁.heap = h0 := by rw [← hh, Bd.state]; rfl
  have N0 := Fr.nil n0
  have pre0 : ∀ t, Steps p.tables e below (s₁.setTop (mkF m 0 #[.val (.ref a1), .val (.ref a2), .unset] [])) t → Steps p.tables e below (s₁.setTop (entryFrame m #[(.ref a1), (.ref a2)] 3)) t := fun t k => castTop (ef216 m a1 a2) k
  obtain ⟨fs, hr, hrun, hended, hW, hsame⟩ := X0.leave (v := some (.int (0 : Int32))) (fun h => by rw [Bd.returns] at h; cases h)
  refine ⟨_, _, pre0 _ ?_, hrun, hended, _, _, rfl, ?_, ⟨_, rfl⟩, hW, hsame.mono (by decide) (by decide)⟩
  · show Steps p.tables e below (s₁.setTop (mkF m 0 #[.val (.ref a1), .val (.ref a2), .unset] [])) _
    refine XS.aloadN X0.here hx rfl (hb hby d17_0) rfl rfl ?_
    refine own_alen X0 hx hZ e0 PV1 (g := (mkF m 1 #[.val (.ref a1), .val (.ref a2), .unset] [(.ref a1)])) rfl rfl (hb hby d17_1) ?_
    refine XS.aloadN X0.here hx rfl (hb hby d17_2) rfl rfl ?_
    refine own_alen X0 hx hZ e0 PV2 (g := (mkF m 3 #[.val (.ref a1), .val (.ref a2), .unset] [(.ref a2), (.int (0 : Int32))])) rfl rfl (hb hby d17_3) ?_
    show Steps p.tables e below (s₁.setTop (mkF m 4 #[.val (.ref a1), .val (.ref a2), .unset] [(.int (2 : Int32)), (.int (0 : Int32))])) _
    refine XS.icmpYes X0.here hx rfl (pc0 := 4) (pc' := 34) rfl (hb hby d17_4) rfl (feq (by decide : ¬ ((0 : Int32) = (2 : Int32)))).2 (by decide) (by decide) ?_
    refine XS.iconst X0.here hx rfl (hb hby d17_34) ?_
    exact retN X0 hx (t := .boolean) Bd.returns (by simp) (hb hby d17_35) hr
  · show Qrm26 Z w0 w1 w2 w3 w4 w5 w6 w7 w8 w9 w10 w11 a1 a2 ck3 p4 p5 ck6 h0 n0 _ s₁.heap _
    rw [e0]
    exact ⟨rfl, N0, rfl⟩
def Qrm27 (Z : State) (w0 : Addr) (w1 : Addr) (w2 : Addr) (w3 : Addr) (w4 : Addr) (w5 : Addr) (w6 : Addr) (w7 : Addr) (w8 : Addr) (w9 : Addr) (w10 : Int32) (w11 : Value) (a1 : Addr) (a2 : Addr) (a3 : Addr) (a4 : Addr) (p5 : Int32) (p6 : Int32) (ck7 : ClassId) (ck8 : ClassId) (h0 : Heap) (n0 : Nat) (v : Option Value) (h : Heap) (L : List Loc) : Prop := v = some (.int (0 : Int32)) ∧ Fr n0 L ∧ h = h0
set_option maxRecDepth 65536 in
set_option maxHeartbeats 40000000 in
theorem rm27 (l : Launch) (Z : State) (a0 : Array Value) (hw : ∀ d ∈ tables_1, d.before a0 Z = true) (hj : ∀ d ∈ jdkStatics_1, d.before a0 Z = true) (w0 : Addr) (w1 : Addr) (w2 : Addr) (w3 : Addr) (w4 : Addr) (w5 : Addr) (w6 : Addr) (w7 : Addr) (w8 : Addr) (w9 : Addr) (w10 : Int32) (w11 : Value) (hS : SF Z w0 w1 w2 w3 w4 w5 w6 w7 w8 w9 w10 w11) (ws : List Jvm.Cond) (a1 : Addr) (a2 : Addr) (a3 : Addr) (a4 : Addr) (p5 : Int32) (p6 : Int32) (ck7 : ClassId) (ck8 : ClassId) (h0 : Heap) (n0 : Nat) (O0 : Old Z n0 h0) (pne1 : a1 ≠ a2) (PE2 : Exa Z h0 a2 z0) (PF3 : Fld Z h0 a1 z0 "coder" "B" (.int (0 : Int32))) (PF4 : Fld Z h0 a2 z0 "coder" "B" (.int (0 : Int32))) (PF5 : Fld Z h0 a1 z0 "value" "[B" (.ref a3)) (PF6 : Fld Z h0 a2 z0 "value" "[B" (.ref a4)) (PV7 : Arv Z h0 a3 ck7 .byte (0 : Int32) [] (.int (0 : Int32))) (PV8 : Arv Z h0 a4 ck8 .byte (2 : Int32) [(.int p5), (.int p6)] (.int (0 : Int32))) :
    MetFree l (⟨z0, "equals", z7⟩ : MethodName) (head1 (Jvm.Cond.code (⟨z0, "equals", z7⟩ : MethodName) jdk_42_method_66_code 3 (some .boolean) :: ws) ({ frames := 1, cells := 0, slots := 0, locals := 14 } : Room)) (fun a U => a = #[(.ref a1), (.ref a2)] ∧ Z.Warmed39 U.vm ∧ U.heap = h0) (fun _ _ _ _ _ => True) (fun _ U o U' => ∃ v L, o = .returned v ∧ Qrm27 Z w0 w1 w2 w3 w4 w5 w6 w7 w8 w9 w10 w11 a1 a2 a3 a4 p5 p6 ck7 ck8 h0 n0 v U'.heap L ∧ FrameEnd U o U' L ({ frames := 1, cells := 0, slots := 0, locals := 14 } : Room).cells ({ frames := 1, cells := 0, slots := 0, locals := 14 } : Room).slots) := by
  refine MetFree.of_bodySF (plainFor_of_name pn101) hisR ?_
  intro p e s m args below meth c s₁ Bd hml0 hP hK
  obtain ⟨rfl, hZ, hh⟩ := hP
  have hx := Bd.exec
  have hby := Bd.bytes
  have hml : c.maxLocals = 3 := hml0
  have hown : s.vm.findClass z0 = some m.cls := findClass_of_methodNamed Bd.named
  have hnm := (name_of_methodNamed Bd.named Bd.method).1
  have X0 : Stand p l e ({ frames := 1, cells := 0, slots := 0, locals := 14 } : Room) s m #[(.ref a1), (.ref a2)] below meth c s₁ [] 0 0 := Stand.of_body Bd
  have e0 : s₁.heap = h0 := by rw [← hh, Bd.state]; rfl
  have N0 := Fr.nil n0
  have pre0 : ∀ t, Steps p.tables e below (s₁.setTop (mkF m 0 #[.val (.ref a1), .val (.ref a2), .unset] [])) t → Steps p.tables e below (s₁.setTop (entryFrame m #[(.ref a1), (.ref a2)] 3)) t := fun t k => castTop (ef216 m a1 a2) k
  obtain ⟨T1, X1, e1, st1⟩ := instY X0 hx hZ hown (hw _ m14) e0 (Ins.self PE2) (g := (mkF m 8 #[.val (.ref a1), .val (.ref a2), .unset] [(.ref a2)])) rfl rfl (hb hby d13_8)
  obtain ⟨T2, X2, e2, st2⟩ := castY X1 hx hZ hown (hw _ m14) e1 (Ins.self PE2) (g := (mkF m 15 #[.val (.ref a1), .val (.ref a2), .unset] [(.ref a2)])) rfl rfl (hb hby d13_15)
  obtain ⟨T3, X3, e3, st3⟩ := getS2 X2 hx hZ hown (host := "") (Or.inl (hw _ m9)) Via.refl e2 (hS.2.2.2.2.2.2.2.2.2.2.2.2.2.2.2.2.2.2.2.2.2.2.2.2.2.2.2.2.2.2.1.ext O0.2) (g := (mkF m 19 #[.val (.ref a1), .val (.ref a2), .val (.ref a2)] [])) rfl (hb hby d13_19)
  obtain ⟨T4, X4, e4, st4⟩ := getF X3 hx hZ hown (host := "") (Or.inl (hw _ m29)) Via.refl e3 PF3 (g := (mkF m 26 #[.val (.ref a1), .val (.ref a2), .val (.ref a2)] [(.ref a1)])) rfl rfl (hb hby d13_26)
  obtain ⟨T5, X5, e5, st5⟩ := getF X4 hx hZ hown (host := "") (Or.inl (hw _ m29)) Via.refl e4 PF4 (g := (mkF m 30 #[.val (.ref a1), .val (.ref a2), .val (.ref a2)] [(.ref a2), (.int (0 : Int32))])) rfl rfl (hb hby d13_30)
  obtain ⟨T6, X6, e6, st6⟩ := getF X5 hx hZ hown (host := "") (Or.inl (hw _ m27)) Via.refl e5 PF5 (g := (mkF m 37 #[.val (.ref a1), .val (.ref a2), .val (.ref a2)] [(.ref a1)])) rfl rfl (hb hby d13_37)
  obtain ⟨T7, X7, e7, st7⟩ := getF X6 hx hZ hown (host := "") (Or.inl (hw _ m27)) Via.refl e6 PF6 (g := (mkF m 41 #[.val (.ref a1), .val (.ref a2), .val (.ref a2)] [(.ref a2), (.ref a3)])) rfl rfl (hb hby d13_41)
  obtain ⟨_, T8, L8, hQ8, X8, st8⟩ := own_callS X7 hx hZ (W := 0) hown (hw _ m105) (hw _ m106) (hw _ m12) (hw _ m107) (by decide) (rm26 l Z a0 hw hj w0 w1 w2 w3 w4 w5 w6 w7 w8 w9 w10 w11 hS [] a3 a4 ck7 p5 p6 ck8 h0 n0 O0 PV7 PV8) e7 (g := (mkF m 44 #[.val (.ref a1), .val (.ref a2), .val (.ref a2)] [(.ref a4), (.ref a3)])) rfl (by rw [hml]; rfl) (argsL := [(.ref a3), (.ref a4)]) (rest := []) (lenOf pd220 rfl) rfl rfl (by show 2 * 0 + _ ≤ _; exact Nat.le_of_eq rfl) (hb hby d13_44) (by decide) (by decide) (by decide) (by decide)
  obtain ⟨rfl, N8q, e8⟩ := hQ8
  have N8 := Fr.app N0 N8q
  have e8' : T8.heap = h0 := e8
  obtain ⟨fs, hr, hrun, hended, hW, hsame⟩ := X8.leave (v := some (.int (0 : Int32))) (fun h => by rw [Bd.returns] at h; cases h)
  refine ⟨_, _, pre0 _ ?_, hrun, hended, _, _, rfl, ?_, ⟨_, rfl⟩, hW, hsame.mono (by decide) (by decide)⟩
  · show Steps p.tables e below (s₁.setTop (mkF m 0 #[.val (.ref a1), .val (.ref a2), .unset] [])) _
    refine XS.aloadN X0.here hx rfl (hb hby d13_0) rfl rfl ?_
    refine XS.aloadN X0.here hx rfl (hb hby d13_1) rfl rfl ?_
    refine Jvm.RoadKit.acmp (g := (mkF m 2 #[.val (.ref a1), .val (.ref a2), .unset] [(.ref a2), (.ref a1)])) X0 hx rfl rfl rfl (pc0 := 2) (pc' := 7) (same := false) rfl (hb hby d13_2) rfl (decide_eq_false fun q => pne1 (Value.ref.inj q)) (by decide) (by decide) ?_
    refine XS.aloadN X0.here hx rfl (hb hby d13_7) rfl rfl ?_
    show Steps p.tables e below (s₁.setTop (mkF m 8 #[.val (.ref a1), .val (.ref a2), .unset] [(.ref a2)])) _
    refine st1 _ ?_
    refine XS.ifNo X1.here hx rfl (hb hby d13_11) rfl ((if0 _ _).trans (feq (by decide : ¬ ((1 : Int32) = (0 : Int32)))).1) ?_
    refine XS.aloadN X1.here hx rfl (hb hby d13_14) rfl rfl ?_
    refine st2 _ ?_
    show Steps p.tables e below (T2.setTop (mkF m 18 #[.val (.ref a1), .val (.ref a2), .unset] [(.ref a2)])) _
    refine XS.astoreN X2.here hx rfl (hb hby d13_18) rfl rfl (l' := #[.val (.ref a1), .val (.ref a2), .val (.ref a2)]) rfl ?_
    refine st3 _ ?_
    refine XS.ifNo X3.here hx rfl (hb hby d13_22) rfl ((if0 _ _).trans (feq hS.2.2.2.2.2.2.2.2.2.2.2.2.2.2.2.2.2.2.2.2.2.2.2.2.2.2.2.2.2.2.2.1).1) ?_
    refine XS.aloadN X3.here hx rfl (hb hby d13_25) rfl rfl ?_
    show Steps p.tables e below (T3.setTop (mkF m 26 #[.val (.ref a1), .val (.ref a2), .val (.ref a2)] [(.ref a1)])) _
    refine st4 _ ?_
    refine XS.aloadN X4.here hx rfl (hb hby d13_29) rfl rfl ?_
    refine st5 _ ?_
    refine XS.icmpNo X5.here hx rfl (hb hby d13_33) rfl (teq (by decide : (0 : Int32) = (0 : Int32))).2 ?_
    show Steps p.tables e below (T5.setTop (mkF m 36 #[.val (.ref a1), .val (.ref a2), .val (.ref a2)] [])) _
    refine XS.aloadN X5.here hx rfl (hb hby d13_36) rfl rfl ?_
    refine st6 _ ?_
    refine XS.aloadN X6.here hx rfl (hb hby d13_40) rfl rfl ?_
    refine st7 _ ?_
    show Steps p.tables e below (T7.setTop (mkF m 44 #[.val (.ref a1), .val (.ref a2), .val (.ref a2)] [(.ref a4), (.ref a3)])) _
    refine st8 _ ?_
    refine XS.ifYes X8.here hx rfl (pc0 := 47) (pc' := 54) rfl (hb hby d13_47) rfl ((if0 _ _).trans (teq (by decide : (0 : Int32) = (0 : Int32))).1) (by decide) (by decide) ?_
    refine XS.iconst X8.here hx rfl (hb hby d13_54) ?_
    exact retN X8 hx (t := .boolean) Bd.returns (by simp) (hb hby d13_55) hr
  · show Qrm27 Z w0 w1 w2 w3 w4 w5 w6 w7 w8 w9 w10 w11 a1 a2 a3 a4 p5 p6 ck7 ck8 h0 n0 _ T8.heap _
    rw [e8']
    exact ⟨rfl, N8, rfl⟩
def Qrm28 (Z : State) (w0 : Addr) (w1 : Addr) (w2 : Addr) (w3 : Addr) (w4 : Addr) (w5 : Addr) (w6 : Addr) (w7 : Addr) (w8 : Addr) (w9 : Addr) (w10 : Int32) (w11 : Value) (a1 : Addr) (a2 : Addr) (a3 : Addr) (p4 : Int32) (p5 : Int32) (a6 : Addr) (a7 : Addr) (ck8 : ClassId) (ck9 : ClassId) (h0 : Heap) (n0 : Nat) (v : Option Value) (h : Heap) (L : List Loc) : Prop := v = some (.int (0 : Int32)) ∧ Fr n0 L ∧ h = h0
set_option maxRecDepth 65536 in
set_option maxHeartbeats 40000000 in
theorem rm28 (l : Launch) (Z : State) (a0 : Array Value) (hw : ∀ d ∈ tables_1, d.before a0 Z = true) (hj : ∀ d ∈ jdkStatics_1, d.before a0 Z = true) (w0 : Addr) (w1 : Addr) (w2 : Addr) (w3 : Addr) (w4 : Addr) (w5 : Addr) (w6 : Addr) (w7 : Addr) (w8 : Addr) (w9 : Addr) (w10 : Int32) (w11 : Value) (hS : SF Z w0 w1 w2 w3 w4 w5 w6 w7 w8 w9 w10 w11) (ws : List Jvm.Cond) (a1 : Addr) (a2 : Addr) (a3 : Addr) (p4 : Int32) (p5 : Int32) (a6 : Addr) (a7 : Addr) (ck8 : ClassId) (ck9 : ClassId) (h0 : Heap) (n0 : Nat) (O0 : Old Z n0 h0) (PF1 : Fld Z h0 a1 z1 "type" z3 (.ref w8)) (PF2 : Fld Z h0 a1 z1 "text" z8 (.ref a3)) (pne3 : a3 ≠ a2) (PE4 : Exa Z h0 a2 z0) (PF5 : Fld Z h0 a3 z0 "coder" "B" (.int (0 : Int32))) (PF6 : Fld Z h0 a2 z0 "coder" "B" (.int (0 : Int32))) (PF7 : Fld Z h0 a3 z0 "value" "[B" (.ref a6)) (PF8 : Fld Z h0 a2 z0 "value" "[B" (.ref a7)) (PV9 : Arv Z h0 a6 ck8 .byte (0 : Int32) [] (.int (0 : Int32))) (PV10 : Arv Z h0 a7 ck9 .byte (2 : Int32) [(.int p4), (.int p5)] (.int (0 : Int32))) (PE11 : Exa Z h0 a3 z0) :
    MetFree l (⟨z1, "isSymbol", z6⟩ : MethodName) (head1 (Jvm.Cond.code (⟨z1, "isSymbol", z6⟩ : MethodName) prog_65_method_3_code 2 (some .boolean) :: ws) ({ frames := 2, cells := 0, slots := 0, locals := 28 } : Room)) (fun a U => a = #[(.ref a1), (.ref a2)] ∧ Z.Warmed39 U.vm ∧ U.heap = h0) (fun _ _ _ _ _ => True) (fun _ U o U' => ∃ v L, o = .returned v ∧ Qrm28 Z w0 w1 w2 w3 w4 w5 w6 w7 w8 w9 w10 w11 a1 a2 a3 p4 p5 a6 a7 ck8 ck9 h0 n0 v U'.heap L ∧ FrameEnd U o U' L ({ frames := 2, cells := 0, slots := 0, locals := 28 } : Room).cells ({ frames := 2, cells := 0, slots := 0, locals := 28 } : Room).slots) := by
  refine MetFree.of_bodySF (plainFor_of_name pn162) hisR ?_
  intro p e s m args below meth c s₁ Bd hml0 hP hK
  obtain ⟨rfl, hZ, hh⟩ := hP
  have hx := Bd.exec
  have hby := Bd.bytes
  have hml : c.maxLocals = 2 := hml0
  have hown : s.vm.findClass z1 = some m.cls := findClass_of_methodNamed Bd.named
  have hnm := (name_of_methodNamed Bd.named Bd.method).1
  have X0 : Stand p l e ({ frames := 2, cells := 0, slots := 0, locals := 28 } : Room) s m #[(.ref a1), (.ref a2)] below meth c s₁ [] 0 0 := Stand.of_body Bd
  have e0 : s₁.heap = h0 := by rw [← hh, Bd.state]; rfl
  have N0 := Fr.nil n0
  have pre0 : ∀ t, Steps p.tables e below (s₁.setTop (mkF m 0 #[.val (.ref a1), .val (.ref a2)] [])) t → Steps p.tables e below (s₁.setTop (entryFrame m #[(.ref a1), (.ref a2)] 2)) t := fun t k => castTop (ef106 m a1 a2) k
  obtain ⟨T1, X1, e1, st1⟩ := getF X0 hx hZ hown (host := "") (Or.inl (hw _ m60)) Via.refl e0 PF1 (g := (mkF m 1 #[.val (.ref a1), .val (.ref a2)] [(.ref a1)])) rfl rfl (hb hby d12_1)
  obtain ⟨T2, X2, e2, st2⟩ := getS2 X1 hx hZ hown (host := "") (Or.inl (hw _ m73)) Via.refl e1 (hS.2.2.2.2.2.2.2.2.2.2.2.2.2.2.2.2.2.2.2.2.2.2.2.2.1.ext O0.2) (g := (mkF m 4 #[.val (.ref a1), .val (.ref a2)] [(.ref w8)])) rfl (hb hby d12_4)
  obtain ⟨T3, X3, e3, st3⟩ := getF X2 hx hZ hown (host := "") (Or.inl (hw _ m62)) Via.refl e2 PF2 (g := (mkF m 11 #[.val (.ref a1), .val (.ref a2)] [(.ref a1)])) rfl rfl (hb hby d12_11)
  obtain ⟨_, T4, L4, hQ4, X4, st4⟩ := own_virtual X3 hx hZ (W := 0) hown (hw _ m80) (hw _ m81) (notFace_of_selects (args := #[]) (mvT hZ (hw _ m83))) (hw _ m83) (hw _ m82) (hw _ m7) (hw _ m84) (by decide) (rm27 l Z a0 hw hj w0 w1 w2 w3 w4 w5 w6 w7 w8 w9 w10 w11 hS [] a3 a2 a6 a7 p4 p5 ck8 ck9 h0 n0 O0 pne3 PE4 PF5 PF6 PF7 PF8 PV9 PV10) e3 PE11 (g := (mkF m 15 #[.val (.ref a1), .val (.ref a2)] [(.ref a2), (.ref a3)])) rfl (by rw [hml]; rfl) (argsL := [(.ref a2)]) (rest := []) (lenOf pd227 rfl) rfl rfl (by show 2 * 0 + _ ≤ _; exact Nat.le_of_eq rfl) (hb hby d12_15) (by decide) (by decide) (by decide) (by decide)
  obtain ⟨rfl, N4q, e4⟩ := hQ4
  have N4 := Fr.app N0 N4q
  have e4' : T4.heap = h0 := e4
  obtain ⟨fs, hr, hrun, hended, hW, hsame⟩ := X4.leave (v := some (.int (0 : Int32))) (fun h => by rw [Bd.returns] at h; cases h)
  refine ⟨_, _, pre0 _ ?_, hrun, hended, _, _, rfl, ?_, ⟨_, rfl⟩, hW, hsame.mono (by decide) (by decide)⟩
  · show Steps p.tables e below (s₁.setTop (mkF m 0 #[.val (.ref a1), .val (.ref a2)] [])) _
    refine XS.aloadN X0.here hx rfl (hb hby d12_0) rfl rfl ?_
    refine st1 _ ?_
    refine st2 _ ?_
    refine Jvm.RoadKit.acmp (g := (mkF m 7 #[.val (.ref a1), .val (.ref a2)] [(.ref w8), (.ref w8)])) X2 hx rfl rfl rfl (pc0 := 7) (pc' := 10) (same := true) rfl (hb hby d12_7) rfl (decide_eq_true rfl) (by decide) (by decide) ?_
    show Steps p.tables e below (T2.setTop (mkF m 10 #[.val (.ref a1), .val (.ref a2)] [])) _
    refine XS.aloadN X2.here hx rfl (hb hby d12_10) rfl rfl ?_
    refine st3 _ ?_
    refine XS.aloadN X3.here hx rfl (hb hby d12_14) rfl rfl ?_
    refine st4 _ ?_
    show Steps p.tables e below (T4.setTop (mkF m 18 #[.val (.ref a1), .val (.ref a2)] [(.int (0 : Int32))])) _
    refine XS.ifYes X4.here hx rfl (pc0 := 18) (pc' := 25) rfl (hb hby d12_18) rfl ((if0 _ _).trans (teq (by decide : (0 : Int32) = (0 : Int32))).1) (by decide) (by decide) ?_
    refine XS.iconst X4.here hx rfl (hb hby d12_25) ?_
    exact retN X4 hx (t := .boolean) Bd.returns (by simp) (hb hby d12_26) hr
  · show Qrm28 Z w0 w1 w2 w3 w4 w5 w6 w7 w8 w9 w10 w11 a1 a2 a3 p4 p5 a6 a7 ck8 ck9 h0 n0 _ T4.heap _
    rw [e4']
    exact ⟨rfl, N4, rfl⟩
def Qrm29 (Z : State) (w0 : Addr) (w1 : Addr) (w2 : Addr) (w3 : Addr) (w4 : Addr) (w5 : Addr) (w6 : Addr) (w7 : Addr) (w8 : Addr) (w9 : Addr) (w10 : Int32) (w11 : Value) (a1 : Addr) (a2 : Addr) (p3 : Int32) (ck4 : ClassId) (ck5 : ClassId) (h0 : Heap) (n0 : Nat) (v : Option Value) (h : Heap) (L : List Loc) : Prop := v = some (.int (0 : Int32)) ∧ Fr n0 L ∧ h = h0
set_option maxRecDepth 65536 in
set_option maxHeartbeats 40000000 in
theorem rm29 (l : Launch) (Z : State) (a0 : Array Value) (hw : ∀ d ∈ tables_1, d.before a0 Z = true) (hj : ∀ d ∈ jdkStatics_1, d.before a0 Z = true) (w0 : Addr) (w1 : Addr) (w2 : Addr) (w3 : Addr) (w4 : Addr) (w5 : Addr) (w6 : Addr) (w7 : Addr) (w8 : Addr) (w9 : Addr) (w10 : Int32) (w11 : Value) (hS : SF Z w0 w1 w2 w3 w4 w5 w6 w7 w8 w9 w10 w11) (ws : List Jvm.Cond) (a1 : Addr) (a2 : Addr) (p3 : Int32) (ck4 : ClassId) (ck5 : ClassId) (h0 : Heap) (n0 : Nat) (O0 : Old Z n0 h0) (PV1 : Arv Z h0 a1 ck4 .byte (1 : Int32) [(.int p3)] (.int (0 : Int32))) (PV2 : Arv Z h0 a2 ck5 .byte (0 : Int32) [] (.int (0 : Int32))) :
    MetFree l (⟨z5, "equals", "([B[B)Z"⟩ : MethodName) (head1 (Jvm.Cond.code (⟨z5, "equals", "([B[B)Z"⟩ : MethodName) jdk_43_method_13_code 3 (some .boolean) :: ws) ({ frames := 0, cells := 0, slots := 0, locals := 0 } : Room)) (fun a U => a = #[(.ref a1), (.ref a2)] ∧ Z.Warmed39 U.vm ∧ U.heap = h0) (fun _ _ _ _ _ => True) (fun _ U o U' => ∃ v L, o = .returned v ∧ Qrm29 Z w0 w1 w2 w3 w4 w5 w6 w7 w8 w9 w10 w11 a1 a2 p3 ck4 ck5 h0 n0 v U'.heap L ∧ FrameEnd U o U' L ({ frames := 0, cells := 0, slots := 0, locals := 0 } : Room).cells ({ frames := 0, cells := 0, slots := 0, locals := 0 } : Room).slots) := by
  refine MetFree.of_bodySF (plainFor_of_name pn217) hisR ?_
  intro p e s m args below meth c s₁ Bd hml0 hP hK
  obtain ⟨rfl, hZ, hh⟩ := hP
  have hx := Bd.exec
  have hby := Bd.bytes
  have hml : c.maxLocals = 3 := hml0
  have hown : s.vm.findClass z5 = some m.cls := findClass_of_methodNamed Bd.named
  have hnm := (name_of_methodNamed Bd.named Bd.method).1
  have X0 : Stand p l e ({ frames := 0, cells := 0, slots := 0, locals := 0 } : Room) s m #[(.ref a1), (.ref a2)] below meth c s₁ [] 0 0 := Stand.of_body Bd
  have e0 : s₁.heap = h0 := by rw [← hh, Bd.state]; rfl
  have N0 := Fr.nil n0
  have pre0 : ∀ t, Steps p.tables e below (s₁.setTop (mkF m 0 #[.val (.ref a1), .val (.ref a2), .unset] [])) t → Steps p.tables e below (s₁.setTop (entryFrame m #[(.ref a1), (.ref a2)] 3)) t := fun t k => castTop (ef216 m a1 a2) k
  obtain ⟨fs, hr, hrun, hended, hW, hsame⟩ := X0.leave (v := some (.int (0 : Int32))) (fun h => by rw [Bd.returns] at h; cases h)
  refine ⟨_, _, pre0 _ ?_, hrun, hended, _, _, rfl, ?_, ⟨_, rfl⟩, hW, hsame.mono (by decide) (by decide)⟩
  · show Steps p.tables e below (s₁.setTop (mkF m 0 #[.val (.ref a1), .val (.ref a2), .unset] [])) _
    refine XS.aloadN X0.here hx rfl (hb hby d17_0) rfl rfl ?_
    refine own_alen X0 hx hZ e0 PV1 (g := (mkF m 1 #[.val (.ref a1), .val (.ref a2), .unset] [(.ref a1)])) rfl rfl (hb hby d17_1) ?_
    refine XS.aloadN X0.here hx rfl (hb hby d17_2) rfl rfl ?_
    refine own_alen X0 hx hZ e0 PV2 (g := (mkF m 3 #[.val (.ref a1), .val (.ref a2), .unset] [(.ref a2), (.int (1 : Int32))])) rfl rfl (hb hby d17_3) ?_
    show Steps p.tables e below (s₁.setTop (mkF m 4 #[.val (.ref a1), .val (.ref a2), .unset] [(.int (0 : Int32)), (.int (1 : Int32))])) _
    refine XS.icmpYes X0.here hx rfl (pc0 := 4) (pc' := 34) rfl (hb hby d17_4) rfl (feq (by decide : ¬ ((1 : Int32) = (0 : Int32)))).2 (by decide) (by decide) ?_
    refine XS.iconst X0.here hx rfl (hb hby d17_34) ?_
    exact retN X0 hx (t := .boolean) Bd.returns (by simp) (hb hby d17_35) hr
  · show Qrm29 Z w0 w1 w2 w3 w4 w5 w6 w7 w8 w9 w10 w11 a1 a2 p3 ck4 ck5 h0 n0 _ s₁.heap _
    rw [e0]
    exact ⟨rfl, N0, rfl⟩
def Qrm30 (Z : State) (w0 : Addr) (w1 : Addr) (w2 : Addr) (w3 : Addr) (w4 : Addr) (w5 : Addr) (w6 : Addr) (w7 : Addr) (w8 : Addr) (w9 : Addr) (w10 : Int32) (w11 : Value) (a1 : Addr) (a2 : Addr) (a3 : Addr) (a4 : Addr) (p5 : Int32) (ck6 : ClassId) (ck7 : ClassId) (h0 : Heap) (n0 : Nat) (v : Option Value) (h : Heap) (L : List Loc) : Prop := v = some (.int (0 : Int32)) ∧ Fr n0 L ∧ h = h0
set_option maxRecDepth 65536 in
set_option maxHeartbeats 40000000 in
theorem rm30 (l : Launch) (Z : State) (a0 : Array Value) (hw : ∀ d ∈ tables_1, d.before a0 Z = true) (hj : ∀ d ∈ jdkStatics_1, d.before a0 Z = true) (w0 : Addr) (w1 : Addr) (w2 : Addr) (w3 : Addr) (w4 : Addr) (w5 : Addr) (w6 : Addr) (w7 : Addr) (w8 : Addr) (w9 : Addr) (w10 : Int32) (w11 : Value) (hS : SF Z w0 w1 w2 w3 w4 w5 w6 w7 w8 w9 w10 w11) (ws : List Jvm.Cond) (a1 : Addr) (a2 : Addr) (a3 : Addr) (a4 : Addr) (p5 : Int32) (ck6 : ClassId) (ck7 : ClassId) (h0 : Heap) (n0 : Nat) (O0 : Old Z n0 h0) (pne1 : a1 ≠ a2) (PE2 : Exa Z h0 a2 z0) (PF3 : Fld Z h0 a1 z0 "coder" "B" (.int (0 : Int32))) (PF4 : Fld Z h0 a2 z0 "coder" "B" (.int (0 : Int32))) (PF5 : Fld Z h0 a1 z0 "value" "[B" (.ref a3)) (PF6 : Fld Z h0 a2 z0 "value" "[B" (.ref a4)) (PV7 : Arv Z h0 a3 ck6 .byte (1 : Int32) [(.int p5)] (.int (0 : Int32))) (PV8 : Arv Z h0 a4 ck7 .byte (0 : Int32) [] (.int (0 : Int32))) :
    MetFree l (⟨z0, "equals", z7⟩ : MethodName) (head1 (Jvm.Cond.code (⟨z0, "equals", z7⟩ : MethodName) jdk_42_method_66_code 3 (some .boolean) :: ws) ({ frames := 1, cells := 0, slots := 0, locals := 14 } : Room)) (fun a U => a = #[(.ref a1), (.ref a2)] ∧ Z.Warmed39 U.vm ∧ U.heap = h0) (fun _ _ _ _ _ => True) (fun _ U o U' => ∃ v L, o = .returned v ∧ Qrm30 Z w0 w1 w2 w3 w4 w5 w6 w7 w8 w9 w10 w11 a1 a2 a3 a4 p5 ck6 ck7 h0 n0 v U'.heap L ∧ FrameEnd U o U' L ({ frames := 1, cells := 0, slots := 0, locals := 14 } : Room).cells ({ frames := 1, cells := 0, slots := 0, locals := 14 } : Room).slots) := by
  refine MetFree.of_bodySF (plainFor_of_name pn101) hisR ?_
  intro p e s m args below meth c s₁ Bd hml0 hP hK
  obtain ⟨rfl, hZ, hh⟩ := hP
  have hx := Bd.exec
  have hby := Bd.bytes
  have hml : c.maxLocals = 3 := hml0
  have hown : s.vm.findClass z0 = some m.cls := findClass_of_methodNamed Bd.named
  have hnm := (name_of_methodNamed Bd.named Bd.method).1
  have X0 : Stand p l e ({ frames := 1, cells := 0, slots := 0, locals := 14 } : Room) s m #[(.ref a1), (.ref a2)] below meth c s₁ [] 0 0 := Stand.of_body Bd
  have e0 : s₁.heap = h0 := by rw [← hh, Bd.state]; rfl
  have N0 := Fr.nil n0
  have pre0 : ∀ t, Steps p.tables e below (s₁.setTop (mkF m 0 #[.val (.ref a1), .val (.ref a2), .unset] [])) t → Steps p.tables e below (s₁.setTop (entryFrame m #[(.ref a1), (.ref a2)] 3)) t := fun t k => castTop (ef216 m a1 a2) k
  obtain ⟨T1, X1, e1, st1⟩ := instY X0 hx hZ hown (hw _ m14) e0 (Ins.self PE2) (g := (mkF m 8 #[.val (.ref a1), .val (.ref a2), .unset] [(.ref a2)])) rfl rfl (hb hby d13_8)
  obtain ⟨T2, X2, e2, st2⟩ := castY X1 hx hZ hown (hw _ m14) e1 (Ins.self PE2) (g := (mkF m 15 #[.val (.ref a1), .val (.ref a2), .unset] [(.ref a2)])) rfl rfl (hb hby d13_15)
  obtain ⟨T3, X3, e3, st3⟩ := getS2 X2 hx hZ hown (host := "") (Or.inl (hw _ m9)) Via.refl e2 (hS.2.2.2.2.2.2.2.2.2.2.2.2.2.2.2.2.2.2.2.2.2.2.2.2.2.2.2.2.2.2.1.ext O0.2) (g := (mkF m 19 #[.val (.ref a1), .val (.ref a2), .val (.ref a2)] [])) rfl (hb hby d13_19)
  obtain ⟨T4, X4, e4, st4⟩ := getF X3 hx hZ hown (host := "") (Or.inl (hw _ m29)) Via.refl e3 PF3 (g := (mkF m 26 #[.val (.ref a1), .val (.ref a2), .val (.ref a2)] [(.ref a1)])) rfl rfl (hb hby d13_26)
  obtain ⟨T5, X5, e5, st5⟩ := getF X4 hx hZ hown (host := "") (Or.inl (hw _ m29)) Via.refl e4 PF4 (g := (mkF m 30 #[.val (.ref a1), .val (.ref a2), .val (.ref a2)] [(.ref a2), (.int (0 : Int32))])) rfl rfl (hb hby d13_30)
  obtain ⟨T6, X6, e6, st6⟩ := getF X5 hx hZ hown (host := "") (Or.inl (hw _ m27)) Via.refl e5 PF5 (g := (mkF m 37 #[.val (.ref a1), .val (.ref a2), .val (.ref a2)] [(.ref a1)])) rfl rfl (hb hby d13_37)
  obtain ⟨T7, X7, e7, st7⟩ := getF X6 hx hZ hown (host := "") (Or.inl (hw _ m27)) Via.refl e6 PF6 (g := (mkF m 41 #[.val (.ref a1), .val (.ref a2), .val (.ref a2)] [(.ref a2), (.ref a3)])) rfl rfl (hb hby d13_41)
  obtain ⟨_, T8, L8, hQ8, X8, st8⟩ := own_callS X7 hx hZ (W := 0) hown (hw _ m105) (hw _ m106) (hw _ m12) (hw _ m107) (by decide) (rm29 l Z a0 hw hj w0 w1 w2 w3 w4 w5 w6 w7 w8 w9 w10 w11 hS [] a3 a4 p5 ck6 ck7 h0 n0 O0 PV7 PV8) e7 (g := (mkF m 44 #[.val (.ref a1), .val (.ref a2), .val (.ref a2)] [(.ref a4), (.ref a3)])) rfl (by rw [hml]; rfl) (argsL := [(.ref a3), (.ref a4)]) (rest := []) (lenOf pd220 rfl) rfl rfl (by show 2 * 0 + _ ≤ _; exact Nat.le_of_eq rfl) (hb hby d13_44) (by decide) (by decide) (by decide) (by decide)
  obtain ⟨rfl, N8q, e8⟩ := hQ8
  have N8 := Fr.app N0 N8q
  have e8' : T8.heap = h0 := e8
  obtain ⟨fs, hr, hrun, hended, hW, hsame⟩ := X8.leave (v := some (.int (0 : Int32))) (fun h => by rw [Bd.returns] at h; cases h)
  refine ⟨_, _, pre0 _ ?_, hrun, hended, _, _, rfl, ?_, ⟨_, rfl⟩, hW, hsame.mono (by decide) (by decide)⟩
  · show Steps p.tables e below (s₁.setTop (mkF m 0 #[.val (.ref a1), .val (.ref a2), .unset] [])) _
    refine XS.aloadN X0.here hx rfl (hb hby d13_0) rfl rfl ?_
    refine XS.aloadN X0.here hx rfl (hb hby d13_1) rfl rfl ?_
    refine Jvm.RoadKit.acmp (g := (mkF m 2 #[.val (.ref a1), .val (.ref a2), .unset] [(.ref a2), (.ref a1)])) X0 hx rfl rfl rfl (pc0 := 2) (pc' := 7) (same := false) rfl (hb hby d13_2) rfl (decide_eq_false fun q => pne1 (Value.ref.inj q)) (by decide) (by decide) ?_
    refine XS.aloadN X0.here hx rfl (hb hby d13_7) rfl rfl ?_
    show Steps p.tables e below (s₁.setTop (mkF m 8 #[.val (.ref a1), .val (.ref a2), .unset] [(.ref a2)])) _
    refine st1 _ ?_
    refine XS.ifNo X1.here hx rfl (hb hby d13_11) rfl ((if0 _ _).trans (feq (by decide : ¬ ((1 : Int32) = (0 : Int32)))).1) ?_
    refine XS.aloadN X1.here hx rfl (hb hby d13_14) rfl rfl ?_
    refine st2 _ ?_
    show Steps p.tables e below (T2.setTop (mkF m 18 #[.val (.ref a1), .val (.ref a2), .unset] [(.ref a2)])) _
    refine XS.astoreN X2.here hx rfl (hb hby d13_18) rfl rfl (l' := #[.val (.ref a1), .val (.ref a2), .val (.ref a2)]) rfl ?_
    refine st3 _ ?_
    refine XS.ifNo X3.here hx rfl (hb hby d13_22) rfl ((if0 _ _).trans (feq hS.2.2.2.2.2.2.2.2.2.2.2.2.2.2.2.2.2.2.2.2.2.2.2.2.2.2.2.2.2.2.2.1).1) ?_
    refine XS.aloadN X3.here hx rfl (hb hby d13_25) rfl rfl ?_
    show Steps p.tables e below (T3.setTop (mkF m 26 #[.val (.ref a1), .val (.ref a2), .val (.ref a2)] [(.ref a1)])) _
    refine st4 _ ?_
    refine XS.aloadN X4.here hx rfl (hb hby d13_29) rfl rfl ?_
    refine st5 _ ?_
    refine XS.icmpNo X5.here hx rfl (hb hby d13_33) rfl (teq (by decide : (0 : Int32) = (0 : Int32))).2 ?_
    show Steps p.tables e below (T5.setTop (mkF m 36 #[.val (.ref a1), .val (.ref a2), .val (.ref a2)] [])) _
    refine XS.aloadN X5.here hx rfl (hb hby d13_36) rfl rfl ?_
    refine st6 _ ?_
    refine XS.aloadN X6.here hx rfl (hb hby d13_40) rfl rfl ?_
    refine st7 _ ?_
    show Steps p.tables e below (T7.setTop (mkF m 44 #[.val (.ref a1), .val (.ref a2), .val (.ref a2)] [(.ref a4), (.ref a3)])) _
    refine st8 _ ?_
    refine XS.ifYes X8.here hx rfl (pc0 := 47) (pc' := 54) rfl (hb hby d13_47) rfl ((if0 _ _).trans (teq (by decide : (0 : Int32) = (0 : Int32))).1) (by decide) (by decide) ?_
    refine XS.iconst X8.here hx rfl (hb hby d13_54) ?_
    exact retN X8 hx (t := .boolean) Bd.returns (by simp) (hb hby d13_55) hr
  · show Qrm30 Z w0 w1 w2 w3 w4 w5 w6 w7 w8 w9 w10 w11 a1 a2 a3 a4 p5 ck6 ck7 h0 n0 _ T8.heap _
    rw [e8']
    exact ⟨rfl, N8, rfl⟩
def Qrm31 (Z : State) (w0 : Addr) (w1 : Addr) (w2 : Addr) (w3 : Addr) (w4 : Addr) (w5 : Addr) (w6 : Addr) (w7 : Addr) (w8 : Addr) (w9 : Addr) (w10 : Int32) (w11 : Value) (a1 : Addr) (a2 : Addr) (a3 : Addr) (p4 : Int32) (a5 : Addr) (a6 : Addr) (ck7 : ClassId) (ck8 : ClassId) (h0 : Heap) (n0 : Nat) (v : Option Value) (h : Heap) (L : List Loc) : Prop := v = some (.int (0 : Int32)) ∧ Fr n0 L ∧ h = h0
set_option maxRecDepth 65536 in
set_option maxHeartbeats 40000000 in
theorem rm31 (l : Launch) (Z : State) (a0 : Array Value) (hw : ∀ d ∈ tables_1, d.before a0 Z = true) (hj : ∀ d ∈ jdkStatics_1, d.before a0 Z = true) (w0 : Addr) (w1 : Addr) (w2 : Addr) (w3 : Addr) (w4 : Addr) (w5 : Addr) (w6 : Addr) (w7 : Addr) (w8 : Addr) (w9 : Addr) (w10 : Int32) (w11 : Value) (hS : SF Z w0 w1 w2 w3 w4 w5 w6 w7 w8 w9 w10 w11) (ws : List Jvm.Cond) (a1 : Addr) (a2 : Addr) (a3 : Addr) (p4 : Int32) (a5 : Addr) (a6 : Addr) (ck7 : ClassId) (ck8 : ClassId) (h0 : Heap) (n0 : Nat) (O0 : Old Z n0 h0) (PF1 : Fld Z h0 a1 z1 "type" z3 (.ref w8)) (PF2 : Fld Z h0 a1 z1 "text" z8 (.ref a3)) (pne3 : a3 ≠ a2) (PE4 : Exa Z h0 a2 z0) (PF5 : Fld Z h0 a3 z0 "coder" "B" (.int (0 : Int32))) (PF6 : Fld Z h0 a2 z0 "coder" "B" (.int (0 : Int32))) (PF7 : Fld Z h0 a3 z0 "value" "[B" (.ref a5)) (PF8 : Fld Z h0 a2 z0 "value" "[B" (.ref a6)) (PV9 : Arv Z h0 a5 ck7 .byte (1 : Int32) [(.int p4)] (.int (0 : Int32))) (PV10 : Arv Z h0 a6 ck8 .byte (0 : Int32) [] (.int (0 : Int32))) (PE11 : Exa Z h0 a3 z0) :
    MetFree l (⟨z1, "isSymbol", z6⟩ : MethodName) (head1 (Jvm.Cond.code (⟨z1, "isSymbol", z6⟩ : MethodName) prog_65_method_3_code 2 (some .boolean) :: ws) ({ frames := 2, cells := 0, slots := 0, locals := 28 } : Room)) (fun a U => a = #[(.ref a1), (.ref a2)] ∧ Z.Warmed39 U.vm ∧ U.heap = h0) (fun _ _ _ _ _ => True) (fun _ U o U' => ∃ v L, o = .returned v ∧ Qrm31 Z w0 w1 w2 w3 w4 w5 w6 w7 w8 w9 w10 w11 a1 a2 a3 p4 a5 a6 ck7 ck8 h0 n0 v U'.heap L ∧ FrameEnd U o U' L ({ frames := 2, cells := 0, slots := 0, locals := 28 } : Room).cells ({ frames := 2, cells := 0, slots := 0, locals := 28 } : Room).slots) := by
  refine MetFree.of_bodySF (plainFor_of_name pn162) hisR ?_
  intro p e s m args below meth c s₁ Bd hml0 hP hK
  obtain ⟨rfl, hZ, hh⟩ := hP
  have hx := Bd.exec
  have hby := Bd.bytes
  have hml : c.maxLocals = 2 := hml0
  have hown : s.vm.findClass z1 = some m.cls := findClass_of_methodNamed Bd.named
  have hnm := (name_of_methodNamed Bd.named Bd.method).1
  have X0 : Stand p l e ({ frames := 2, cells := 0, slots := 0, locals := 28 } : Room) s m #[(.ref a1), (.ref a2)] below meth c s₁ [] 0 0 := Stand.of_body Bd
  have e0 : s₁.heap = h0 := by rw [← hh, Bd.state]; rfl
  have N0 := Fr.nil n0
  have pre0 : ∀ t, Steps p.tables e below (s₁.setTop (mkF m 0 #[.val (.ref a1), .val (.ref a2)] [])) t → Steps p.tables e below (s₁.setTop (entryFrame m #[(.ref a1), (.ref a2)] 2)) t := fun t k => castTop (ef106 m a1 a2) k
  obtain ⟨T1, X1, e1, st1⟩ := getF X0 hx hZ hown (host := "") (Or.inl (hw _ m60)) Via.refl e0 PF1 (g := (mkF m 1 #[.val (.ref a1), .val (.ref a2)] [(.ref a1)])) rfl rfl (hb hby d12_1)
  obtain ⟨T2, X2, e2, st2⟩ := getS2 X1 hx hZ hown (host := "") (Or.inl (hw _ m73)) Via.refl e1 (hS.2.2.2.2.2.2.2.2.2.2.2.2.2.2.2.2.2.2.2.2.2.2.2.2.1.ext O0.2) (g := (mkF m 4 #[.val (.ref a1), .val (.ref a2)] [(.ref w8)])) rfl (hb hby d12_4)
  obtain ⟨T3, X3, e3, st3⟩ := getF X2 hx hZ hown (host := "") (Or.inl (hw _ m62)) Via.refl e2 PF2 (g := (mkF m 11 #[.val (.ref a1), .val (.ref a2)] [(.ref a1)])) rfl rfl (hb hby d12_11)
  obtain ⟨_, T4, L4, hQ4, X4, st4⟩ := own_virtual X3 hx hZ (W := 0) hown (hw _ m80) (hw _ m81) (notFace_of_selects (args := #[]) (mvT hZ (hw _ m83))) (hw _ m83) (hw _ m82) (hw _ m7) (hw _ m84) (by decide) (rm30 l Z a0 hw hj w0 w1 w2 w3 w4 w5 w6 w7 w8 w9 w10 w11 hS [] a3 a2 a5 a6 p4 ck7 ck8 h0 n0 O0 pne3 PE4 PF5 PF6 PF7 PF8 PV9 PV10) e3 PE11 (g := (mkF m 15 #[.val (.ref a1), .val (.ref a2)] [(.ref a2), (.ref a3)])) rfl (by rw [hml]; rfl) (argsL := [(.ref a2)]) (rest := []) (lenOf pd227 rfl) rfl rfl (by show 2 * 0 + _ ≤ _; exact Nat.le_of_eq rfl) (hb hby d12_15) (by decide) (by decide) (by decide) (by decide)
  obtain ⟨rfl, N4q, e4⟩ := hQ4
  have N4 := Fr.app N0 N4q
  have e4' : T4.heap = h0 := e4
  obtain ⟨fs, hr, hrun, hended, hW, hsame⟩ := X4.leave (v := some (.int (0 : Int32))) (fun h => by rw [Bd.returns] at h; cases h)
  refine ⟨_, _, pre0 _ ?_, hrun, hended, _, _, rfl, ?_, ⟨_, rfl⟩, hW, hsame.mono (by decide) (by decide)⟩
  · show Steps p.tables e below (s₁.setTop (mkF m 0 #[.val (.ref a1), .val (.ref a2)] [])) _
    refine XS.aloadN X0.here hx rfl (hb hby d12_0) rfl rfl ?_
    refine st1 _ ?_
    refine st2 _ ?_
    refine Jvm.RoadKit.acmp (g := (mkF m 7 #[.val (.ref a1), .val (.ref a2)] [(.ref w8), (.ref w8)])) X2 hx rfl rfl rfl (pc0 := 7) (pc' := 10) (same := true) rfl (hb hby d12_7) rfl (decide_eq_true rfl) (by decide) (by decide) ?_
    show Steps p.tables e below (T2.setTop (mkF m 10 #[.val (.ref a1), .val (.ref a2)] [])) _
    refine XS.aloadN X2.here hx rfl (hb hby d12_10) rfl rfl ?_
    refine st3 _ ?_
    refine XS.aloadN X3.here hx rfl (hb hby d12_14) rfl rfl ?_
    refine st4 _ ?_
    show Steps p.tables e below (T4.setTop (mkF m 18 #[.val (.ref a1), .val (.ref a2)] [(.int (0 : Int32))])) _
    refine XS.ifYes X4.here hx rfl (pc0 := 18) (pc' := 25) rfl (hb hby d12_18) rfl ((if0 _ _).trans (teq (by decide : (0 : Int32) = (0 : Int32))).1) (by decide) (by decide) ?_
    refine XS.iconst X4.here hx rfl (hb hby d12_25) ?_
    exact retN X4 hx (t := .boolean) Bd.returns (by simp) (hb hby d12_26) hr
  · show Qrm31 Z w0 w1 w2 w3 w4 w5 w6 w7 w8 w9 w10 w11 a1 a2 a3 p4 a5 a6 ck7 ck8 h0 n0 _ T4.heap _
    rw [e4']
    exact ⟨rfl, N4, rfl⟩
def Qrm32 (Z : State) (w0 : Addr) (w1 : Addr) (w2 : Addr) (w3 : Addr) (w4 : Addr) (w5 : Addr) (w6 : Addr) (w7 : Addr) (w8 : Addr) (w9 : Addr) (w10 : Int32) (w11 : Value) (a1 : Addr) (a2 : Addr) (p3 : Int32) (ck4 : ClassId) (p5 : Int32) (ck6 : ClassId) (h0 : Heap) (n0 : Nat) (v : Option Value) (h : Heap) (L : List Loc) : Prop := v = some (.int (1 : Int32)) ∧ Fr n0 L ∧ h = h0
set_option maxRecDepth 65536 in
set_option maxHeartbeats 40000000 in
theorem rm32 (l : Launch) (Z : State) (a0 : Array Value) (hw : ∀ d ∈ tables_1, d.before a0 Z = true) (hj : ∀ d ∈ jdkStatics_1, d.before a0 Z = true) (w0 : Addr) (w1 : Addr) (w2 : Addr) (w3 : Addr) (w4 : Addr) (w5 : Addr) (w6 : Addr) (w7 : Addr) (w8 : Addr) (w9 : Addr) (w10 : Int32) (w11 : Value) (hS : SF Z w0 w1 w2 w3 w4 w5 w6 w7 w8 w9 w10 w11) (ws : List Jvm.Cond) (a1 : Addr) (a2 : Addr) (p3 : Int32) (ck4 : ClassId) (p5 : Int32) (ck6 : ClassId) (h0 : Heap) (n0 : Nat) (O0 : Old Z n0 h0) (PV1 : Arv Z h0 a1 ck4 .byte (1 : Int32) [(.int p3)] (.int (0 : Int32))) (PV2 : Arv Z h0 a2 ck6 .byte (1 : Int32) [(.int p5)] (.int (0 : Int32))) (hc3 : p3 = p5) :
    MetFree l (⟨z5, "equals", "([B[B)Z"⟩ : MethodName) (head1 (Jvm.Cond.code (⟨z5, "equals", "([B[B)Z"⟩ : MethodName) jdk_43_method_13_code 3 (some .boolean) :: ws) ({ frames := 0, cells := 0, slots := 0, locals := 0 } : Room)) (fun a U => a = #[(.ref a1), (.ref a2)] ∧ Z.Warmed39 U.vm ∧ U.heap = h0) (fun _ _ _ _ _ => True) (fun _ U o U' => ∃ v L, o = .returned v ∧ Qrm32 Z w0 w1 w2 w3 w4 w5 w6 w7 w8 w9 w10 w11 a1 a2 p3 ck4 p5 ck6 h0 n0 v U'.heap L ∧ FrameEnd U o U' L ({ frames := 0, cells := 0, slots := 0, locals := 0 } : Room).cells ({ frames := 0, cells := 0, slots := 0, locals := 0 } : Room).slots) := by
  refine MetFree.of_bodySF (plainFor_of_name pn217) hisR ?_
  intro p e s m args below meth c s₁ Bd hml0 hP hK
  obtain ⟨rfl, hZ, hh⟩ := hP
  have hx := Bd.exec
  have hby := Bd.bytes
  have hml : c.maxLocals = 3 := hml0
  have hown : s.vm.findClass z5 = some m.cls := findClass_of_methodNamed Bd.named
  have hnm := (name_of_methodNamed Bd.named Bd.method).1
  have X0 : Stand p l e ({ frames := 0, cells := 0, slots := 0, locals := 0 } : Room) s m #[(.ref a1), (.ref a2)] below meth c s₁ [] 0 0 := Stand.of_body Bd
  have e0 : s₁.heap = h0 := by rw [← hh, Bd.state]; rfl
  have N0 := Fr.nil n0
  have pre0 : ∀ t, Steps p.tables e below (s₁.setTop (mkF m 0 #[.val (.ref a1), .val (.ref a2), .unset] [])) t → Steps p.tables e below (s₁.setTop (entryFrame m #[(.ref a1), (.ref a2)] 3)) t := fun t k => castTop (ef216 m a1 a2) k
  obtain ⟨fs, hr, hrun, hended, hW, hsame⟩ := X0.leave (v := some (.int (1 : Int32))) (fun h => by rw [Bd.returns] at h; cases h)
  refine ⟨_, _, pre0 _ ?_, hrun, hended, _, _, rfl, ?_, ⟨_, rfl⟩, hW, hsame.mono (by decide) (by decide)⟩
  · show Steps p.tables e below (s₁.setTop (mkF m 0 #[.val (.ref a1), .val (.ref a2), .unset] [])) _
    refine XS.aloadN X0.here hx rfl (hb hby d17_0) rfl rfl ?_
    refine own_alen X0 hx hZ e0 PV1 (g := (mkF m 1 #[.val (.ref a1), .val (.ref a2), .unset] [(.ref a1)])) rfl rfl (hb hby d17_1) ?_
    refine XS.aloadN X0.here hx rfl (hb hby d17_2) rfl rfl ?_
    refine own_alen X0 hx hZ e0 PV2 (g := (mkF m 3 #[.val (.ref a1), .val (.ref a2), .unset] [(.ref a2), (.int (1 : Int32))])) rfl rfl (hb hby d17_3) ?_
    show Steps p.tables e below (s₁.setTop (mkF m 4 #[.val (.ref a1), .val (.ref a2), .unset] [(.int (1 : Int32)), (.int (1 : Int32))])) _
    refine XS.icmpNo X0.here hx rfl (hb hby d17_4) rfl (teq (by decide : (1 : Int32) = (1 : Int32))).2 ?_
    refine XS.iconst X0.here hx rfl (hb hby d17_7) ?_
    refine XS.istoreN X0.here hx rfl (hb hby d17_8) rfl (l' := #[.val (.ref a1), .val (.ref a2), .val (.int (0 : Int32))]) rfl ?_
    refine XS.iloadN X0.here hx rfl (hb hby d17_9) rfl ?_
    show Steps p.tables e below (s₁.setTop (mkF m 10 #[.val (.ref a1), .val (.ref a2), .val (.int (0 : Int32))] [(.int (0 : Int32))])) _
    refine XS.aloadN X0.here hx rfl (hb hby d17_10) rfl rfl ?_
    refine own_alen X0 hx hZ e0 PV1 (g := (mkF m 11 #[.val (.ref a1), .val (.ref a2), .val (.int (0 : Int32))] [(.ref a1), (.int (0 : Int32))])) rfl rfl (hb hby d17_11) ?_
    refine XS.icmpNo X0.here hx rfl (hb hby d17_12) rfl (tlt (by decide : (0 : Int32) < (1 : Int32))).2.1 ?_
    refine XS.aloadN X0.here hx rfl (hb hby d17_15) rfl rfl ?_
    show Steps p.tables e below (s₁.setTop (mkF m 16 #[.val (.ref a1), .val (.ref a2), .val (.int (0 : Int32))] [(.ref a1)])) _
    refine XS.iloadN X0.here hx rfl (hb hby d17_16) rfl ?_
    refine own_baloadB X0 hx hZ e0 PV1 (j := (0 : Int32)) (by decide) (v := (.int p3)) rfl (g := (mkF m 17 #[.val (.ref a1), .val (.ref a2), .val (.int (0 : Int32))] [(.int (0 : Int32)), (.ref a1)])) rfl rfl (hb hby d17_17) ?_
    refine XS.aloadN X0.here hx rfl (hb hby d17_18) rfl rfl ?_
    refine XS.iloadN X0.here hx rfl (hb hby d17_19) rfl ?_
    show Steps p.tables e below (s₁.setTop (mkF m 20 #[.val (.ref a1), .val (.ref a2), .val (.int (0 : Int32))] [(.int (0 : Int32)), (.ref a2), (.int p3)])) _
    refine own_baloadB X0 hx hZ e0 PV2 (j := (0 : Int32)) (by decide) (v := (.int p5)) rfl (g := (mkF m 20 #[.val (.ref a1), .val (.ref a2), .val (.int (0 : Int32))] [(.int (0 : Int32)), (.ref a2), (.int p3)])) rfl rfl (hb hby d17_20) ?_
    refine XS.icmpYes X0.here hx rfl (pc0 := 21) (pc' := 26) rfl (hb hby d17_21) rfl (teq hc3).1 (by decide) (by decide) ?_
    refine Own.iinc X0.here hx rfl (hb hby d17_26) rfl (by decide : ((0 : Int32) + (1 : Int32)) = (1 : Int32)) (l' := #[.val (.ref a1), .val (.ref a2), .val (.int (1 : Int32))]) rfl ?_
    refine XS.goto X0.here hx rfl (pc0 := 29) (pc' := 9) rfl (hb hby d17_29) (by decide) (by decide) ?_
    show Steps p.tables e below (s₁.setTop (mkF m 9 #[.val (.ref a1), .val (.ref a2), .val (.int (1 : Int32))] [])) _
    refine XS.iloadN X0.here hx rfl (hb hby d17_9) rfl ?_
    refine XS.aloadN X0.here hx rfl (hb hby d17_10) rfl rfl ?_
    refine own_alen X0 hx hZ e0 PV1 (g := (mkF m 11 #[.val (.ref a1), .val (.ref a2), .val (.int (1 : Int32))] [(.ref a1), (.int (1 : Int32))])) rfl rfl (hb hby d17_11) ?_
    refine XS.icmpYes X0.here hx rfl (pc0 := 12) (pc' := 32) rfl (hb hby d17_12) rfl (flt (by decide : ¬ ((1 : Int32) < (1 : Int32)))).2.1 (by decide) (by decide) ?_
    show Steps p.tables e below (s₁.setTop (mkF m 32 #[.val (.ref a1), .val (.ref a2), .val (.int (1 : Int32))] [])) _
    refine XS.iconst X0.here hx rfl (hb hby d17_32) ?_
    exact retN X0 hx (t := .boolean) Bd.returns (by simp) (hb hby d17_33) hr
  · show Qrm32 Z w0 w1 w2 w3 w4 w5 w6 w7 w8 w9 w10 w11 a1 a2 p3 ck4 p5 ck6 h0 n0 _ s₁.heap _
    rw [e0]
    exact ⟨rfl, N0, rfl⟩
def Qrm33 (Z : State) (w0 : Addr) (w1 : Addr) (w2 : Addr) (w3 : Addr) (w4 : Addr) (w5 : Addr) (w6 : Addr) (w7 : Addr) (w8 : Addr) (w9 : Addr) (w10 : Int32) (w11 : Value) (a1 : Addr) (a2 : Addr) (a3 : Addr) (a4 : Addr) (p5 : Int32) (p6 : Int32) (ck7 : ClassId) (ck8 : ClassId) (h0 : Heap) (n0 : Nat) (v : Option Value) (h : Heap) (L : List Loc) : Prop := v = some (.int (1 : Int32)) ∧ Fr n0 L ∧ h = h0
set_option maxRecDepth 65536 in
set_option maxHeartbeats 40000000 in
theorem rm33 (l : Launch) (Z : State) (a0 : Array Value) (hw : ∀ d ∈ tables_1, d.before a0 Z = true) (hj : ∀ d ∈ jdkStatics_1, d.before a0 Z = true) (w0 : Addr) (w1 : Addr) (w2 : Addr) (w3 : Addr) (w4 : Addr) (w5 : Addr) (w6 : Addr) (w7 : Addr) (w8 : Addr) (w9 : Addr) (w10 : Int32) (w11 : Value) (hS : SF Z w0 w1 w2 w3 w4 w5 w6 w7 w8 w9 w10 w11) (ws : List Jvm.Cond) (a1 : Addr) (a2 : Addr) (a3 : Addr) (a4 : Addr) (p5 : Int32) (p6 : Int32) (ck7 : ClassId) (ck8 : ClassId) (h0 : Heap) (n0 : Nat) (O0 : Old Z n0 h0) (pne1 : a1 ≠ a2) (PE2 : Exa Z h0 a2 z0) (PF3 : Fld Z h0 a1 z0 "coder" "B" (.int (0 : Int32))) (PF4 : Fld Z h0 a2 z0 "coder" "B" (.int (0 : Int32))) (PF5 : Fld Z h0 a1 z0 "value" "[B" (.ref a3)) (PF6 : Fld Z h0 a2 z0 "value" "[B" (.ref a4)) (PV7 : Arv Z h0 a3 ck7 .byte (1 : Int32) [(.int p5)] (.int (0 : Int32))) (PV8 : Arv Z h0 a4 ck8 .byte (1 : Int32) [(.int p6)] (.int (0 : Int32))) (hc9 : p5 = p6) :
    MetFree l (⟨z0, "equals", z7⟩ : MethodName) (head1 (Jvm.Cond.code (⟨z0, "equals", z7⟩ : MethodName) jdk_42_method_66_code 3 (some .boolean) :: ws) ({ frames := 1, cells := 0, slots := 0, locals := 14 } : Room)) (fun a U => a = #[(.ref a1), (.ref a2)] ∧ Z.Warmed39 U.vm ∧ U.heap = h0) (fun _ _ _ _ _ => True) (fun _ U o U' => ∃ v L, o = .returned v ∧ Qrm33 Z w0 w1 w2 w3 w4 w5 w6 w7 w8 w9 w10 w11 a1 a2 a3 a4 p5 p6 ck7 ck8 h0 n0 v U'.heap L ∧ FrameEnd U o U' L ({ frames := 1, cells := 0, slots := 0, locals := 14 } : Room).cells ({ frames := 1, cells := 0, slots := 0, locals := 14 } : Room).slots) := by
  refine MetFree.of_bodySF (plainFor_of_name pn101) hisR ?_
  intro p e s m args below meth c s₁ Bd hml0 hP hK
  obtain ⟨rfl, hZ, hh⟩ := hP
  have hx := Bd.exec
  have hby := Bd.bytes
  have hml : c.maxLocals = 3 := hml0
  have hown : s.vm.findClass z0 = some m.cls := findClass_of_methodNamed Bd.named
  have hnm := (name_of_methodNamed Bd.named Bd.method).1
  have X0 : Stand p l e ({ frames := 1, cells := 0, slots := 0, locals := 14 } : Room) s m #[(.ref a1), (.ref a2)] below meth c s₁ [] 0 0 := Stand.of_body Bd
  have e0 : s₁.heap = h0 := by rw [← hh, Bd.state]; rfl
  have N0 := Fr.nil n0
  have pre0 : ∀ t, Steps p.tables e below (s₁.setTop (mkF m 0 #[.val (.ref a1), .val (.ref a2), .unset] [])) t → Steps p.tables e below (s₁.setTop (entryFrame m #[(.ref a1), (.ref a2)] 3)) t := fun t k => castTop (ef216 m a1 a2) k
  obtain ⟨T1, X1, e1, st1⟩ := instY X0 hx hZ hown (hw _ m14) e0 (Ins.self PE2) (g := (mkF m 8 #[.val (.ref a1), .val (.ref a2), .unset] [(.ref a2)])) rfl rfl (hb hby d13_8)
  obtain ⟨T2, X2, e2, st2⟩ := castY X1 hx hZ hown (hw _ m14) e1 (Ins.self PE2) (g := (mkF m 15 #[.val (.ref a1), .val (.ref a2), .unset] [(.ref a2)])) rfl rfl (hb hby d13_15)
  obtain ⟨T3, X3, e3, st3⟩ := getS2 X2 hx hZ hown (host := "") (Or.inl (hw _ m9)) Via.refl e2 (hS.2.2.2.2.2.2.2.2.2.2.2.2.2.2.2.2.2.2.2.2.2.2.2.2.2.2.2.2.2.2.1.ext O0.2) (g := (mkF m 19 #[.val (.ref a1), .val (.ref a2), .val (.ref a2)] [])) rfl (hb hby d13_19)
  obtain ⟨T4, X4, e4, st4⟩ := getF X3 hx hZ hown (host := "") (Or.inl (hw _ m29)) Via.refl e3 PF3 (g := (mkF m 26 #[.val (.ref a1), .val (.ref a2), .val (.ref a2)] [(.ref a1)])) rfl rfl (hb hby d13_26)
  obtain ⟨T5, X5, e5, st5⟩ := getF X4 hx hZ hown (host := "") (Or.inl (hw _ m29)) Via.refl e4 PF4 (g := (mkF m 30 #[.val (.ref a1), .val (.ref a2), .val (.ref a2)] [(.ref a2), (.int (0 : Int32))])) rfl rfl (hb hby d13_30)
  obtain ⟨T6, X6, e6, st6⟩ := getF X5 hx hZ hown (host := "") (Or.inl (hw _ m27)) Via.refl e5 PF5 (g := (mkF m 37 #[.val (.ref a1), .val (.ref a2), .val (.ref a2)] [(.ref a1)])) rfl rfl (hb hby d13_37)
  obtain ⟨T7, X7, e7, st7⟩ := getF X6 hx hZ hown (host := "") (Or.inl (hw _ m27)) Via.refl e6 PF6 (g := (mkF m 41 #[.val (.ref a1), .val (.ref a2), .val (.ref a2)] [(.ref a2), (.ref a3)])) rfl rfl (hb hby d13_41)
  obtain ⟨_, T8, L8, hQ8, X8, st8⟩ := own_callS X7 hx hZ (W := 0) hown (hw _ m105) (hw _ m106) (hw _ m12) (hw _ m107) (by decide) (rm32 l Z a0 hw hj w0 w1 w2 w3 w4 w5 w6 w7 w8 w9 w10 w11 hS [] a3 a4 p5 ck7 p6 ck8 h0 n0 O0 PV7 PV8 hc9) e7 (g := (mkF m 44 #[.val (.ref a1), .val (.ref a2), .val (.ref a2)] [(.ref a4), (.ref a3)])) rfl (by rw [hml]; rfl) (argsL := [(.ref a3), (.ref a4)]) (rest := []) (lenOf pd220 rfl) rfl rfl (by show 2 * 0 + _ ≤ _; exact Nat.le_of_eq rfl) (hb hby d13_44) (by decide) (by decide) (by decide) (by decide)
  obtain ⟨rfl, N8q, e8⟩ := hQ8
  have N8 := Fr.app N0 N8q
  have e8' : T8.heap = h0 := e8
  obtain ⟨fs, hr, hrun, hended, hW, hsame⟩ := X8.leave (v := some (.int (1 : Int32))) (fun h => by rw [Bd.returns] at h; cases h)
  refine ⟨_, _, pre0 _ ?_, hrun, hended, _, _, rfl, ?_, ⟨_, rfl⟩, hW, hsame.mono (by decide) (by decide)⟩
  · show Steps p.tables e below (s₁.setTop (mkF m 0 #[.val (.ref a1), .val (.ref a2), .unset] [])) _
    refine XS.aloadN X0.here hx rfl (hb hby d13_0) rfl rfl ?_
    refine XS.aloadN X0.here hx rfl (hb hby d13_1) rfl rfl ?_
    refine Jvm.RoadKit.acmp (g := (mkF m 2 #[.val (.ref a1), .val (.ref a2), .unset] [(.ref a2), (.ref a1)])) X0 hx rfl rfl rfl (pc0 := 2) (pc' := 7) (same := false) rfl (hb hby d13_2) rfl (decide_eq_false fun q => pne1 (Value.ref.inj q)) (by decide) (by decide) ?_
    refine XS.aloadN X0.here hx rfl (hb hby d13_7) rfl rfl ?_
    show Steps p.tables e below (s₁.setTop (mkF m 8 #[.val (.ref a1), .val (.ref a2), .unset] [(.ref a2)])) _
    refine st1 _ ?_
    refine XS.ifNo X1.here hx rfl (hb hby d13_11) rfl ((if0 _ _).trans (feq (by decide : ¬ ((1 : Int32) = (0 : Int32)))).1) ?_
    refine XS.aloadN X1.here hx rfl (hb hby d13_14) rfl rfl ?_
    refine st2 _ ?_
    show Steps p.tables e below (T2.setTop (mkF m 18 #[.val (.ref a1), .val (.ref a2), .unset] [(.ref a2)])) _
    refine XS.astoreN X2.here hx rfl (hb hby d13_18) rfl rfl (l' := #[.val (.ref a1), .val (.ref a2), .val (.ref a2)]) rfl ?_
    refine st3 _ ?_
    refine XS.ifNo X3.here hx rfl (hb hby d13_22) rfl ((if0 _ _).trans (feq hS.2.2.2.2.2.2.2.2.2.2.2.2.2.2.2.2.2.2.2.2.2.2.2.2.2.2.2.2.2.2.2.1).1) ?_
    refine XS.aloadN X3.here hx rfl (hb hby d13_25) rfl rfl ?_
    show Steps p.tables e below (T3.setTop (mkF m 26 #[.val (.ref a1), .val (.ref a2), .val (.ref a2)] [(.ref a1)])) _
    refine st4 _ ?_
    refine XS.aloadN X4.here hx rfl (hb hby d13_29) rfl rfl ?_
    refine st5 _ ?_
    refine XS.icmpNo X5.here hx rfl (hb hby d13_33) rfl (teq (by decide : (0 : Int32) = (0 : Int32))).2 ?_
    show Steps p.tables e below (T5.setTop (mkF m 36 #[.val (.ref a1), .val (.ref a2), .val (.ref a2)] [])) _
    refine XS.aloadN X5.here hx rfl (hb hby d13_36) rfl rfl ?_
    refine st6 _ ?_
    refine XS.aloadN X6.here hx rfl (hb hby d13_40) rfl rfl ?_
    refine st7 _ ?_
    show Steps p.tables e below (T7.setTop (mkF m 44 #[.val (.ref a1), .val (.ref a2), .val (.ref a2)] [(.ref a4), (.ref a3)])) _
    refine st8 _ ?_
    refine XS.ifNo X8.here hx rfl (hb hby d13_47) rfl ((if0 _ _).trans (feq (by decide : ¬ ((1 : Int32) = (0 : Int32)))).1) ?_
    refine XS.iconst X8.here hx rfl (hb hby d13_50) ?_
    refine XS.goto X8.here hx rfl (pc0 := 51) (pc' := 55) rfl (hb hby d13_51) (by decide) (by decide) ?_
    show Steps p.tables e below (T8.setTop (mkF m 55 #[.val (.ref a1), .val (.ref a2), .val (.ref a2)] [(.int (1 : Int32))])) _
    exact retN X8 hx (t := .boolean) Bd.returns (by simp) (hb hby d13_55) hr
  · show Qrm33 Z w0 w1 w2 w3 w4 w5 w6 w7 w8 w9 w10 w11 a1 a2 a3 a4 p5 p6 ck7 ck8 h0 n0 _ T8.heap _
    rw [e8']
    exact ⟨rfl, N8, rfl⟩
def Qrm34 (Z : State) (w0 : Addr) (w1 : Addr) (w2 : Addr) (w3 : Addr) (w4 : Addr) (w5 : Addr) (w6 : Addr) (w7 : Addr) (w8 : Addr) (w9 : Addr) (w10 : Int32) (w11 : Value) (a1 : Addr) (a2 : Addr) (a3 : Addr) (p4 : Int32) (p5 : Int32) (a6 : Addr) (a7 : Addr) (ck8 : ClassId) (ck9 : ClassId) (h0 : Heap) (n0 : Nat) (v : Option Value) (h : Heap) (L : List Loc) : Prop := v = some (.int (1 : Int32)) ∧ Fr n0 L ∧ h = h0
set_option maxRecDepth 65536 in
set_option maxHeartbeats 40000000 in
theorem rm34 (l : Launch) (Z : State) (a0 : Array Value) (hw : ∀ d ∈ tables_1, d.before a0 Z = true) (hj : ∀ d ∈ jdkStatics_1, d.before a0 Z = true) (w0 : Addr) (w1 : Addr) (w2 : Addr) (w3 : Addr) (w4 : Addr) (w5 : Addr) (w6 : Addr) (w7 : Addr) (w8 : Addr) (w9 : Addr) (w10 : Int32) (w11 : Value) (hS : SF Z w0 w1 w2 w3 w4 w5 w6 w7 w8 w9 w10 w11) (ws : List Jvm.Cond) (a1 : Addr) (a2 : Addr) (a3 : Addr) (p4 : Int32) (p5 : Int32) (a6 : Addr) (a7 : Addr) (ck8 : ClassId) (ck9 : ClassId) (h0 : Heap) (n0 : Nat) (O0 : Old Z n0 h0) (PF1 : Fld Z h0 a1 z1 "type" z3 (.ref w8)) (PF2 : Fld Z h0 a1 z1 "text" z8 (.ref a3)) (pne3 : a3 ≠ a2) (PE4 : Exa Z h0 a2 z0) (PF5 : Fld Z h0 a3 z0 "coder" "B" (.int (0 : Int32))) (PF6 : Fld Z h0 a2 z0 "coder" "B" (.int (0 : Int32))) (PF7 : Fld Z h0 a3 z0 "value" "[B" (.ref a6)) (PF8 : Fld Z h0 a2 z0 "value" "[B" (.ref a7)) (PV9 : Arv Z h0 a6 ck8 .byte (1 : Int32) [(.int p4)] (.int (0 : Int32))) (PV10 : Arv Z h0 a7 ck9 .byte (1 : Int32) [(.int p5)] (.int (0 : Int32))) (hc11 : p4 = p5) (PE12 : Exa Z h0 a3 z0) :
    MetFree l (⟨z1, "isSymbol", z6⟩ : MethodName) (head1 (Jvm.Cond.code (⟨z1, "isSymbol", z6⟩ : MethodName) prog_65_method_3_code 2 (some .boolean) :: ws) ({ frames := 2, cells := 0, slots := 0, locals := 28 } : Room)) (fun a U => a = #[(.ref a1), (.ref a2)] ∧ Z.Warmed39 U.vm ∧ U.heap = h0) (fun _ _ _ _ _ => True) (fun _ U o U' => ∃ v L, o = .returned v ∧ Qrm34 Z w0 w1 w2 w3 w4 w5 w6 w7 w8 w9 w10 w11 a1 a2 a3 p4 p5 a6 a7 ck8 ck9 h0 n0 v U'.heap L ∧ FrameEnd U o U' L ({ frames := 2, cells := 0, slots := 0, locals := 28 } : Room).cells ({ frames := 2, cells := 0, slots := 0, locals := 28 } : Room).slots) := by
  refine MetFree.of_bodySF (plainFor_of_name pn162) hisR ?_
  intro p e s m args below meth c s₁ Bd hml0 hP hK
  obtain ⟨rfl, hZ, hh⟩ := hP
  have hx := Bd.exec
  have hby := Bd.bytes
  have hml : c.maxLocals = 2 := hml0
  have hown : s.vm.findClass z1 = some m.cls := findClass_of_methodNamed Bd.named
  have hnm := (name_of_methodNamed Bd.named Bd.method).1
  have X0 : Stand p l e ({ frames := 2, cells := 0, slots := 0, locals := 28 } : Room) s m #[(.ref a1), (.ref a2)] below meth c s₁ [] 0 0 := Stand.of_body Bd
  have e0 : s₁.heap = h0 := by rw [← hh, Bd.state]; rfl
  have N0 := Fr.nil n0
  have pre0 : ∀ t, Steps p.tables e below (s₁.setTop (mkF m 0 #[.val (.ref a1), .val (.ref a2)] [])) t → Steps p.tables e below (s₁.setTop (entryFrame m #[(.ref a1), (.ref a2)] 2)) t := fun t k => castTop (ef106 m a1 a2) k
  obtain ⟨T1, X1, e1, st1⟩ := getF X0 hx hZ hown (host := "") (Or.inl (hw _ m60)) Via.refl e0 PF1 (g := (mkF m 1 #[.val (.ref a1), .val (.ref a2)] [(.ref a1)])) rfl rfl (hb hby d12_1)
  obtain ⟨T2, X2, e2, st2⟩ := getS2 X1 hx hZ hown (host := "") (Or.inl (hw _ m73)) Via.refl e1 (hS.2.2.2.2.2.2.2.2.2.2.2.2.2.2.2.2.2.2.2.2.2.2.2.2.1.ext O0.2) (g := (mkF m 4 #[.val (.ref a1), .val (.ref a2)] [(.ref w8)])) rfl (hb hby d12_4)
  obtain ⟨T3, X3, e3, st3⟩ := getF X2 hx hZ hown (host := "") (Or.inl (hw _ m62)) Via.refl e2 PF2 (g := (mkF m 11 #[.val (.ref a1), .val (.ref a2)] [(.ref a1)])) rfl rfl (hb hby d12_11)
  obtain ⟨_, T4, L4, hQ4, X4, st4⟩ := own_virtual X3 hx hZ (W := 0) hown (hw _ m80) (hw _ m81) (notFace_of_selects (args := #[]) (mvT hZ (hw _ m83))) (hw _ m83) (hw _ m82) (hw _ m7) (hw _ m84) (by decide) (rm33 l Z a0 hw hj w0 w1 w2 w3 w4 w5 w6 w7 w8 w9 w10 w11 hS [] a3 a2 a6 a7 p4 p5 ck8 ck9 h0 n0 O0 pne3 PE4 PF5 PF6 PF7 PF8 PV9 PV10 hc11) e3 PE12 (g := (mkF m 15 #[.val (.ref a1), .val (.ref a2)] [(.ref a2), (.ref a3)])) rfl (by rw [hml]; rfl) (argsL := [(.ref a2)]) (rest := []) (lenOf pd227 rfl) rfl rfl (by show 2 * 0 + _ ≤ _; exact Nat.le_of_eq rfl) (hb hby d12_15) (by decide) (by decide) (by decide) (by decide)
  obtain ⟨rfl, N4q, e4⟩ := hQ4
  have N4 := Fr.app N0 N4q
  have e4' : T4.heap = h0 := e4
  obtain ⟨fs, hr, hrun, hended, hW, hsame⟩ := X4.leave (v := some (.int (1 : Int32))) (fun h => by rw [Bd.returns] at h; cases h)
  refine ⟨_, _, pre0 _ ?_, hrun, hended, _, _, rfl, ?_, ⟨_, rfl⟩, hW, hsame.mono (by decide) (by decide)⟩
  · show Steps p.tables e below (s₁.setTop (mkF m 0 #[.val (.ref a1), .val (.ref a2)] [])) _
    refine XS.aloadN X0.here hx rfl (hb hby d12_0) rfl rfl ?_
    refine st1 _ ?_
    refine st2 _ ?_
    refine Jvm.RoadKit.acmp (g := (mkF m 7 #[.val (.ref a1), .val (.ref a2)] [(.ref w8), (.ref w8)])) X2 hx rfl rfl rfl (pc0 := 7) (pc' := 10) (same := true) rfl (hb hby d12_7) rfl (decide_eq_true rfl) (by decide) (by decide) ?_
    show Steps p.tables e below (T2.setTop (mkF m 10 #[.val (.ref a1), .val (.ref a2)] [])) _
    refine XS.aloadN X2.here hx rfl (hb hby d12_10) rfl rfl ?_
    refine st3 _ ?_
    refine XS.aloadN X3.here hx rfl (hb hby d12_14) rfl rfl ?_
    refine st4 _ ?_
    show Steps p.tables e below (T4.setTop (mkF m 18 #[.val (.ref a1), .val (.ref a2)] [(.int (1 : Int32))])) _
    refine XS.ifNo X4.here hx rfl (hb hby d12_18) rfl ((if0 _ _).trans (feq (by decide : ¬ ((1 : Int32) = (0 : Int32)))).1) ?_
    refine XS.iconst X4.here hx rfl (hb hby d12_21) ?_
    refine XS.goto X4.here hx rfl (pc0 := 22) (pc' := 26) rfl (hb hby d12_22) (by decide) (by decide) ?_
    exact retN X4 hx (t := .boolean) Bd.returns (by simp) (hb hby d12_26) hr
  · show Qrm34 Z w0 w1 w2 w3 w4 w5 w6 w7 w8 w9 w10 w11 a1 a2 a3 p4 p5 a6 a7 ck8 ck9 h0 n0 _ T4.heap _
    rw [e4']
    exact ⟨rfl, N4, rfl⟩
def Qrm35 (Z : State) (w0 : Addr) (w1 : Addr) (w2 : Addr) (w3 : Addr) (w4 : Addr) (w5 : Addr) (w6 : Addr) (w7 : Addr) (w8 : Addr) (w9 : Addr) (w10 : Int32) (w11 : Value) (a1 : Addr) (a2 : Addr) (p3 : Int32) (ck4 : ClassId) (p5 : Int32) (ck6 : ClassId) (h0 : Heap) (n0 : Nat) (v : Option Value) (h : Heap) (L : List Loc) : Prop := v = some (.int (0 : Int32)) ∧ Fr n0 L ∧ h = h0
set_option maxRecDepth 65536 in
set_option maxHeartbeats 40000000 in
theorem rm35 (l : Launch) (Z : State) (a0 : Array Value) (hw : ∀ d ∈ tables_1, d.before a0 Z = true) (hj : ∀ d ∈ jdkStatics_1, d.before a0 Z = true) (w0 : Addr) (w1 : Addr) (w2 : Addr) (w3 : Addr) (w4 : Addr) (w5 : Addr) (w6 : Addr) (w7 : Addr) (w8 : Addr) (w9 : Addr) (w10 : Int32) (w11 : Value) (hS : SF Z w0 w1 w2 w3 w4 w5 w6 w7 w8 w9 w10 w11) (ws : List Jvm.Cond) (a1 : Addr) (a2 : Addr) (p3 : Int32) (ck4 : ClassId) (p5 : Int32) (ck6 : ClassId) (h0 : Heap) (n0 : Nat) (O0 : Old Z n0 h0) (PV1 : Arv Z h0 a1 ck4 .byte (1 : Int32) [(.int p3)] (.int (0 : Int32))) (PV2 : Arv Z h0 a2 ck6 .byte (1 : Int32) [(.int p5)] (.int (0 : Int32))) (hc3 : ¬ (p3 = p5)) :
    MetFree l (⟨z5, "equals", "([B[B)Z"⟩ : MethodName) (head1 (Jvm.Cond.code (⟨z5, "equals", "([B[B)Z"⟩ : MethodName) jdk_43_method_13_code 3 (some .boolean) :: ws) ({ frames := 0, cells := 0, slots := 0, locals := 0 } : Room)) (fun a U => a = #[(.ref a1), (.ref a2)] ∧ Z.Warmed39 U.vm ∧ U.heap = h0) (fun _ _ _ _ _ => True) (fun _ U o U' => ∃ v L, o = .returned v ∧ Qrm35 Z w0 w1 w2 w3 w4 w5 w6 w7 w8 w9 w10 w11 a1 a2 p3 ck4 p5 ck6 h0 n0 v U'.heap L ∧ FrameEnd U o U' L ({ frames := 0, cells := 0, slots := 0, locals := 0 } : Room).cells ({ frames := 0, cells := 0, slots := 0, locals := 0 } : Room).slots) := by
  refine MetFree.of_bodySF (plainFor_of_name pn217) hisR ?_
  intro p e s m args below meth c s₁ Bd hml0 hP hK
  obtain ⟨rfl, hZ, hh⟩ := hP
  have hx := Bd.exec
  have hby := Bd.bytes
  have hml : c.maxLocals = 3 := hml0
  have hown : s.vm.findClass z5 = some m.cls := findClass_of_methodNamed Bd.named
  have hnm := (name_of_methodNamed Bd.named Bd.method).1
  have X0 : Stand p l e ({ frames := 0, cells := 0, slots := 0, locals := 0 } : Room) s m #[(.ref a1), (.ref a2)] below meth c s₁ [] 0 0 := Stand.of_body Bd
  have e0 : s₁.heap = h0 := by rw [← hh, Bd.state]; rfl
  have N0 := Fr.nil n0
  have pre0 : ∀ t, Steps p.tables e below (s₁.setTop (mkF m 0 #[.val (.ref a1), .val (.ref a2), .unset] [])) t → Steps p.tables e below (s₁.setTop (entryFrame m #[(.ref a1), (.ref a2)] 3)) t := fun t k => castTop (ef216 m a1 a2) k
  obtain ⟨fs, hr, hrun, hended, hW, hsame⟩ := X0.leave (v := some (.int (0 : Int32))) (fun h => by rw [Bd.returns] at h; cases h)
  refine ⟨_, _, pre0 _ ?_, hrun, hended, _, _, rfl, ?_, ⟨_, rfl⟩, hW, hsame.mono (by decide) (by decide)⟩
  · show Steps p.tables e below (s₁.setTop (mkF m 0 #[.val (.ref a1), .val (.ref a2), .unset] [])) _
    refine XS.aloadN X0.here hx rfl (hb hby d17_0) rfl rfl ?_
    refine own_alen X0 hx hZ e0 PV1 (g := (mkF m 1 #[.val (.ref a1), .val (.ref a2), .unset] [(.ref a1)])) rfl rfl (hb hby d17_1) ?_
    refine XS.aloadN X0.here hx rfl (hb hby d17_2) rfl rfl ?_
    refine own_alen X0 hx hZ e0 PV2 (g := (mkF m 3 #[.val (.ref a1), .val (.ref a2), .unset] [(.ref a2), (.int (1 : Int32))])) rfl rfl (hb hby d17_3) ?_
    show Steps p.tables e below (s₁.setTop (mkF m 4 #[.val (.ref a1), .val (.ref a2), .unset] [(.int (1 : Int32)), (.int (1 : Int32))])) _
    refine XS.icmpNo X0.here hx rfl (hb hby d17_4) rfl (teq (by decide : (1 : Int32) = (1 : Int32))).2 ?_
    refine XS.iconst X0.here hx rfl (hb hby d17_7) ?_
    refine XS.istoreN X0.here hx rfl (hb hby d17_8) rfl (l' := #[.val (.ref a1), .val (.ref a2), .val (.int (0 : Int32))]) rfl ?_
    refine XS.iloadN X0.here hx rfl (hb hby d17_9) rfl ?_
    show Steps p.tables e below (s₁.setTop (mkF m 10 #[.val (.ref a1), .val (.ref a2), .val (.int (0 : Int32))] [(.int (0 : Int32))])) _
    refine XS.aloadN X0.here hx rfl (hb hby d17_10) rfl rfl ?_
    refine own_alen X0 hx hZ e0 PV1 (g := (mkF m 11 #[.val (.ref a1), .val (.ref a2), .val (.int (0 : Int32))] [(.ref a1), (.int (0 : Int32))])) rfl rfl (hb hby d17_11) ?_
    refine XS.icmpNo X0.here hx rfl (hb hby d17_12) rfl (tlt (by decide : (0 : Int32) < (1 : Int32))).2.1 ?_
    refine XS.aloadN X0.here hx rfl (hb hby d17_15) rfl rfl ?_
    show Steps p.tables e below (s₁.setTop (mkF m 16 #[.val (.ref a1), .val (.ref a2), .val (.int (0 : Int32))] [(.ref a1)])) _
    refine XS.iloadN X0.here hx rfl (hb hby d17_16) rfl ?_
    refine own_baloadB X0 hx hZ e0 PV1 (j := (0 : Int32)) (by decide) (v := (.int p3)) rfl (g := (mkF m 17 #[.val (.ref a1), .val (.ref a2), .val (.int (0 : Int32))] [(.int (0 : Int32)), (.ref a1)])) rfl rfl (hb hby d17_17) ?_
    refine XS.aloadN X0.here hx rfl (hb hby d17_18) rfl rfl ?_
    refine XS.iloadN X0.here hx rfl (hb hby d17_19) rfl ?_
    show Steps p.tables e below (s₁.setTop (mkF m 20 #[.val (.ref a1), .val (.ref a2), .val (.int (0 : Int32))] [(.int (0 : Int32)), (.ref a2), (.int p3)])) _
    refine own_baloadB X0 hx hZ e0 PV2 (j := (0 : Int32)) (by decide) (v := (.int p5)) rfl (g := (mkF m 20 #[.val (.ref a1), .val (.ref a2), .val (.int (0 : Int32))] [(.int (0 : Int32)), (.ref a2), (.int p3)])) rfl rfl (hb hby d17_20) ?_
    refine XS.icmpNo X0.here hx rfl (hb hby d17_21) rfl (feq hc3).1 ?_
    refine XS.iconst X0.here hx rfl (hb hby d17_24) ?_
    exact retN X0 hx (t := .boolean) Bd.returns (by simp) (hb hby d17_25) hr
  · show Qrm35 Z w0 w1 w2 w3 w4 w5 w6 w7 w8 w9 w10 w11 a1 a2 p3 ck4 p5 ck6 h0 n0 _ s₁.heap _
    rw [e0]
    exact ⟨rfl, N0, rfl⟩
def Qrm36 (Z : State) (w0 : Addr) (w1 : Addr) (w2 : Addr) (w3 : Addr) (w4 : Addr) (w5 : Addr) (w6 : Addr) (w7 : Addr) (w8 : Addr) (w9 : Addr) (w10 : Int32) (w11 : Value) (a1 : Addr) (a2 : Addr) (a3 : Addr) (a4 : Addr) (p5 : Int32) (p6 : Int32) (ck7 : ClassId) (ck8 : ClassId) (h0 : Heap) (n0 : Nat) (v : Option Value) (h : Heap) (L : List Loc) : Prop := v = some (.int (0 : Int32)) ∧ Fr n0 L ∧ h = h0
set_option maxRecDepth 65536 in
set_option maxHeartbeats 40000000 in
theorem rm36 (l : Launch) (Z : State) (a0 : Array Value) (hw : ∀ d ∈ tables_1, d.before a0 Z = true) (hj : ∀ d ∈ jdkStatics_1, d.before a0 Z = true) (w0 : Addr) (w1 : Addr) (w2 : Addr) (w3 : Addr) (w4 : Addr) (w5 : Addr) (w6 : Addr) (w7 : Addr) (w8 : Addr) (w9 : Addr) (w10 : Int32) (w11 : Value) (hS : SF Z w0 w1 w2 w3 w4 w5 w6 w7 w8 w9 w10 w11) (ws : List Jvm.Cond) (a1 : Addr) (a2 : Addr) (a3 : Addr) (a4 : Addr) (p5 : Int32) (p6 : Int32) (ck7 : ClassId) (ck8 : ClassId) (h0 : Heap) (n0 : Nat) (O0 : Old Z n0 h0) (pne1 : a1 ≠ a2) (PE2 : Exa Z h0 a2 z0) (PF3 : Fld Z h0 a1 z0 "coder" "B" (.int (0 : Int32))) (PF4 : Fld Z h0 a2 z0 "coder" "B" (.int (0 : Int32))) (PF5 : Fld Z h0 a1 z0 "value" "[B" (.ref a3)) (PF6 : Fld Z h0 a2 z0 "value" "[B" (.ref a4)) (PV7 : Arv Z h0 a3 ck7 .byte (1 : Int32) [(.int p5)] (.int (0 : Int32))) (PV8 : Arv Z h0 a4 ck8 .byte (1 : Int32) [(.int p6)] (.int (0 : Int32))) (hc9 : ¬ (p5 = p6)) :
    MetFree l (⟨z0, "equals", z7⟩ : MethodName) (head1 (Jvm.Cond.code (⟨z0, "equals", z7⟩ : MethodName) jdk_42_method_66_code 3 (some .boolean) :: ws) ({ frames := 1, cells := 0, slots := 0, locals := 14 } : Room)) (fun a U => a = #[(.ref a1), (.ref a2)] ∧ Z.Warmed39 U.vm ∧ U.heap = h0) (fun _ _ _ _ _ => True) (fun _ U o U' => ∃ v L, o = .returned v ∧ Qrm36 Z w0 w1 w2 w3 w4 w5 w6 w7 w8 w9 w10 w11 a1 a2 a3 a4 p5 p6 ck7 ck8 h0 n0 v U'.heap L ∧ FrameEnd U o U' L ({ frames := 1, cells := 0, slots := 0, locals := 14 } : Room).cells ({ frames := 1, cells := 0, slots := 0, locals := 14 } : Room).slots) := by
  refine MetFree.of_bodySF (plainFor_of_name pn101) hisR ?_
  intro p e s m args below meth c s₁ Bd hml0 hP hK
  obtain ⟨rfl, hZ, hh⟩ := hP
  have hx := Bd.exec
  have hby := Bd.bytes
  have hml : c.maxLocals = 3 := hml0
  have hown : s.vm.findClass z0 = some m.cls := findClass_of_methodNamed Bd.named
  have hnm := (name_of_methodNamed Bd.named Bd.method).1
  have X0 : Stand p l e ({ frames := 1, cells := 0, slots := 0, locals := 14 } : Room) s m #[(.ref a1), (.ref a2)] below meth c s₁ [] 0 0 := Stand.of_body Bd
  have e0 : s₁.heap = h0 := by rw [← hh, Bd.state]; rfl
  have N0 := Fr.nil n0
  have pre0 : ∀ t, Steps p.tables e below (s₁.setTop (mkF m 0 #[.val (.ref a1), .val (.ref a2), .unset] [])) t → Steps p.tables e below (s₁.setTop (entryFrame m #[(.ref a1), (.ref a2)] 3)) t := fun t k => castTop (ef216 m a1 a2) k
  obtain ⟨T1, X1, e1, st1⟩ := instY X0 hx hZ hown (hw _ m14) e0 (Ins.self PE2) (g := (mkF m 8 #[.val (.ref a1), .val (.ref a2), .unset] [(.ref a2)])) rfl rfl (hb hby d13_8)
  obtain ⟨T2, X2, e2, st2⟩ := castY X1 hx hZ hown (hw _ m14) e1 (Ins.self PE2) (g := (mkF m 15 #[.val (.ref a1), .val (.ref a2), .unset] [(.ref a2)])) rfl rfl (hb hby d13_15)
  obtain ⟨T3, X3, e3, st3⟩ := getS2 X2 hx hZ hown (host := "") (Or.inl (hw _ m9)) Via.refl e2 (hS.2.2.2.2.2.2.2.2.2.2.2.2.2.2.2.2.2.2.2.2.2.2.2.2.2.2.2.2.2.2.1.ext O0.2) (g := (mkF m 19 #[.val (.ref a1), .val (.ref a2), .val (.ref a2)] [])) rfl (hb hby d13_19)
  obtain ⟨T4, X4, e4, st4⟩ := getF X3 hx hZ hown (host := "") (Or.inl (hw _ m29)) Via.refl e3 PF3 (g := (mkF m 26 #[.val (.ref a1), .val (.ref a2), .val (.ref a2)] [(.ref a1)])) rfl rfl (hb hby d13_26)
  obtain ⟨T5, X5, e5, st5⟩ := getF X4 hx hZ hown (host := "") (Or.inl (hw _ m29)) Via.refl e4 PF4 (g := (mkF m 30 #[.val (.ref a1), .val (.ref a2), .val (.ref a2)] [(.ref a2), (.int (0 : Int32))])) rfl rfl (hb hby d13_30)
  obtain ⟨T6, X6, e6, st6⟩ := getF X5 hx hZ hown (host := "") (Or.inl (hw _ m27)) Via.refl e5 PF5 (g := (mkF m 37 #[.val (.ref a1), .val (.ref a2), .val (.ref a2)] [(.ref a1)])) rfl rfl (hb hby d13_37)
  obtain ⟨T7, X7, e7, st7⟩ := getF X6 hx hZ hown (host := "") (Or.inl (hw _ m27)) Via.refl e6 PF6 (g := (mkF m 41 #[.val (.ref a1), .val (.ref a2), .val (.ref a2)] [(.ref a2), (.ref a3)])) rfl rfl (hb hby d13_41)
  obtain ⟨_, T8, L8, hQ8, X8, st8⟩ := own_callS X7 hx hZ (W := 0) hown (hw _ m105) (hw _ m106) (hw _ m12) (hw _ m107) (by decide) (rm35 l Z a0 hw hj w0 w1 w2 w3 w4 w5 w6 w7 w8 w9 w10 w11 hS [] a3 a4 p5 ck7 p6 ck8 h0 n0 O0 PV7 PV8 hc9) e7 (g := (mkF m 44 #[.val (.ref a1), .val (.ref a2), .val (.ref a2)] [(.ref a4), (.ref a3)])) rfl (by rw [hml]; rfl) (argsL := [(.ref a3), (.ref a4)]) (rest := []) (lenOf pd220 rfl) rfl rfl (by show 2 * 0 + _ ≤ _; exact Nat.le_of_eq rfl) (hb hby d13_44) (by decide) (by decide) (by decide) (by decide)
  obtain ⟨rfl, N8q, e8⟩ := hQ8
  have N8 := Fr.app N0 N8q
  have e8' : T8.heap = h0 := e8
  obtain ⟨fs, hr, hrun, hended, hW, hsame⟩ := X8.leave (v := some (.int (0 : Int32))) (fun h => by rw [Bd.returns] at h; cases h)
  refine ⟨_, _, pre0 _ ?_, hrun, hended, _, _, rfl, ?_, ⟨_, rfl⟩, hW, hsame.mono (by decide) (by decide)⟩
  · show Steps p.tables e below (s₁.setTop (mkF m 0 #[.val (.ref a1), .val (.ref a2), .unset] [])) _
    refine XS.aloadN X0.here hx rfl (hb hby d13_0) rfl rfl ?_
    refine XS.aloadN X0.here hx rfl (hb hby d13_1) rfl rfl ?_
    refine Jvm.RoadKit.acmp (g := (mkF m 2 #[.val (.ref a1), .val (.ref a2), .unset] [(.ref a2), (.ref a1)])) X0 hx rfl rfl rfl (pc0 := 2) (pc' := 7) (same := false) rfl (hb hby d13_2) rfl (decide_eq_false fun q => pne1 (Value.ref.inj q)) (by decide) (by decide) ?_
    refine XS.aloadN X0.here hx rfl (hb hby d13_7) rfl rfl ?_
    show Steps p.tables e below (s₁.setTop (mkF m 8 #[.val (.ref a1), .val (.ref a2), .unset] [(.ref a2)])) _
    refine st1 _ ?_
    refine XS.ifNo X1.here hx rfl (hb hby d13_11) rfl ((if0 _ _).trans (feq (by decide : ¬ ((1 : Int32) = (0 : Int32)))).1) ?_
    refine XS.aloadN X1.here hx rfl (hb hby d13_14) rfl rfl ?_
    refine st2 _ ?_
    show Steps p.tables e below (T2.setTop (mkF m 18 #[.val (.ref a1), .val (.ref a2), .unset] [(.ref a2)])) _
    refine XS.astoreN X2.here hx rfl (hb hby d13_18) rfl rfl (l' := #[.val (.ref a1), .val (.ref a2), .val (.ref a2)]) rfl ?_
    refine st3 _ ?_
    refine XS.ifNo X3.here hx rfl (hb hby d13_22) rfl ((if0 _ _).trans (feq hS.2.2.2.2.2.2.2.2.2.2.2.2.2.2.2.2.2.2.2.2.2.2.2.2.2.2.2.2.2.2.2.1).1) ?_
    refine XS.aloadN X3.here hx rfl (hb hby d13_25) rfl rfl ?_
    show Steps p.tables e below (T3.setTop (mkF m 26 #[.val (.ref a1), .val (.ref a2), .val (.ref a2)] [(.ref a1)])) _
    refine st4 _ ?_
    refine XS.aloadN X4.here hx rfl (hb hby d13_29) rfl rfl ?_
    refine st5 _ ?_
    refine XS.icmpNo X5.here hx rfl (hb hby d13_33) rfl (teq (by decide : (0 : Int32) = (0 : Int32))).2 ?_
    show Steps p.tables e below (T5.setTop (mkF m 36 #[.val (.ref a1), .val (.ref a2), .val (.ref a2)] [])) _
    refine XS.aloadN X5.here hx rfl (hb hby d13_36) rfl rfl ?_
    refine st6 _ ?_
    refine XS.aloadN X6.here hx rfl (hb hby d13_40) rfl rfl ?_
    refine st7 _ ?_
    show Steps p.tables e below (T7.setTop (mkF m 44 #[.val (.ref a1), .val (.ref a2), .val (.ref a2)] [(.ref a4), (.ref a3)])) _
    refine st8 _ ?_
    refine XS.ifYes X8.here hx rfl (pc0 := 47) (pc' := 54) rfl (hb hby d13_47) rfl ((if0 _ _).trans (teq (by decide : (0 : Int32) = (0 : Int32))).1) (by decide) (by decide) ?_
    refine XS.iconst X8.here hx rfl (hb hby d13_54) ?_
    exact retN X8 hx (t := .boolean) Bd.returns (by simp) (hb hby d13_55) hr
  · show Qrm36 Z w0 w1 w2 w3 w4 w5 w6 w7 w8 w9 w10 w11 a1 a2 a3 a4 p5 p6 ck7 ck8 h0 n0 _ T8.heap _
    rw [e8']
    exact ⟨rfl, N8, rfl⟩
def Qrm37 (Z : State) (w0 : Addr) (w1 : Addr) (w2 : Addr) (w3 : Addr) (w4 : Addr) (w5 : Addr) (w6 : Addr) (w7 : Addr) (w8 : Addr) (w9 : Addr) (w10 : Int32) (w11 : Value) (a1 : Addr) (a2 : Addr) (a3 : Addr) (p4 : Int32) (p5 : Int32) (a6 : Addr) (a7 : Addr) (ck8 : ClassId) (ck9 : ClassId) (h0 : Heap) (n0 : Nat) (v : Option Value) (h : Heap) (L : List Loc) : Prop := v = some (.int (0 : Int32)) ∧ Fr n0 L ∧ h = h0
set_option maxRecDepth 65536 in
set_option maxHeartbeats 40000000 in
theorem rm37 (l : Launch) (Z : State) (a0 : Array Value) (hw : ∀ d ∈ tables_1, d.before a0 Z = true) (hj : ∀ d ∈ jdkStatics_1, d.before a0 Z = true) (w0 : Addr) (w1 : Addr) (w2 : Addr) (w3 : Addr) (w4 : Addr) (w5 : Addr) (w6 : Addr) (w7 : Addr) (w8 : Addr) (w9 : Addr) (w10 : Int32) (w11 : Value) (hS : SF Z w0 w1 w2 w3 w4 w5 w6 w7 w8 w9 w10 w11) (ws : List Jvm.Cond) (a1 : Addr) (a2 : Addr) (a3 : Addr) (p4 : Int32) (p5 : Int32) (a6 : Addr) (a7 : Addr) (ck8 : ClassId) (ck9 : ClassId) (h0 : Heap) (n0 : Nat) (O0 : Old Z n0 h0) (PF1 : Fld Z h0 a1 z1 "type" z3 (.ref w8)) (PF2 : Fld Z h0 a1 z1 "text" z8 (.ref a3)) (pne3 : a3 ≠ a2) (PE4 : Exa Z h0 a2 z0) (PF5 : Fld Z h0 a3 z0 "coder" "B" (.int (0 : Int32))) (PF6 : Fld Z h0 a2 z0 "coder" "B" (.int (0 : Int32))) (PF7 : Fld Z h0 a3 z0 "value" "[B" (.ref a6)) (PF8 : Fld Z h0 a2 z0 "value" "[B" (.ref a7)) (PV9 : Arv Z h0 a6 ck8 .byte (1 : Int32) [(.int p4)] (.int (0 : Int32))) (PV10 : Arv Z h0 a7 ck9 .byte (1 : Int32) [(.int p5)] (.int (0 : Int32))) (hc11 : ¬ (p4 = p5)) (PE12 : Exa Z h0 a3 z0) :
    MetFree l (⟨z1, "isSymbol", z6⟩ : MethodName) (head1 (Jvm.Cond.code (⟨z1, "isSymbol", z6⟩ : MethodName) prog_65_method_3_code 2 (some .boolean) :: ws) ({ frames := 2, cells := 0, slots := 0, locals := 28 } : Room)) (fun a U => a = #[(.ref a1), (.ref a2)] ∧ Z.Warmed39 U.vm ∧ U.heap = h0) (fun _ _ _ _ _ => True) (fun _ U o U' => ∃ v L, o = .returned v ∧ Qrm37 Z w0 w1 w2 w3 w4 w5 w6 w7 w8 w9 w10 w11 a1 a2 a3 p4 p5 a6 a7 ck8 ck9 h0 n0 v U'.heap L ∧ FrameEnd U o U' L ({ frames := 2, cells := 0, slots := 0, locals := 28 } : Room).cells ({ frames := 2, cells := 0, slots := 0, locals := 28 } : Room).slots) := by
  refine MetFree.of_bodySF (plainFor_of_name pn162) hisR ?_
  intro p e s m args below meth c s₁ Bd hml0 hP hK
  obtain ⟨rfl, hZ, hh⟩ := hP
  have hx := Bd.exec
  have hby := Bd.bytes
  have hml : c.maxLocals = 2 := hml0
  have hown : s.vm.findClass z1 = some m.cls := findClass_of_methodNamed Bd.named
  have hnm := (name_of_methodNamed Bd.named Bd.method).1
  have X0 : Stand p l e ({ frames := 2, cells := 0, slots := 0, locals := 28 } : Room) s m #[(.ref a1), (.ref a2)] below meth c s₁ [] 0 0 := Stand.of_body Bd
  have e0 : s₁.heap = h0 := by rw [← hh, Bd.state]; rfl
  have N0 := Fr.nil n0
  have pre0 : ∀ t, Steps p.tables e below (s₁.setTop (mkF m 0 #[.val (.ref a1), .val (.ref a2)] [])) t → Steps p.tables e below (s₁.setTop (entryFrame m #[(.ref a1), (.ref a2)] 2)) t := fun t k => castTop (ef106 m a1 a2) k
  obtain ⟨T1, X1, e1, st1⟩ := getF X0 hx hZ hown (host := "") (Or.inl (hw _ m60)) Via.refl e0 PF1 (g := (mkF m 1 #[.val (.ref a1), .val (.ref a2)] [(.ref a1)])) rfl rfl (hb hby d12_1)
  obtain ⟨T2, X2, e2, st2⟩ := getS2 X1 hx hZ hown (host := "") (Or.inl (hw _ m73)) Via.refl e1 (hS.2.2.2.2.2.2.2.2.2.2.2.2.2.2.2.2.2.2.2.2.2.2.2.2.1.ext O0.2) (g := (mkF m 4 #[.val (.ref a1), .val (.ref a2)] [(.ref w8)])) rfl (hb hby d12_4)
  obtain ⟨T3, X3, e3, st3⟩ := getF X2 hx hZ hown (host := "") (Or.inl (hw _ m62)) Via.refl e2 PF2 (g := (mkF m 11 #[.val (.ref a1), .val (.ref a2)] [(.ref a1)])) rfl rfl (hb hby d12_11)
  obtain ⟨_, T4, L4, hQ4, X4, st4⟩ := own_virtual X3 hx hZ (W := 0) hown (hw _ m80) (hw _ m81) (notFace_of_selects (args := #[]) (mvT hZ (hw _ m83))) (hw _ m83) (hw _ m82) (hw _ m7) (hw _ m84) (by decide) (rm36 l Z a0 hw hj w0 w1 w2 w3 w4 w5 w6 w7 w8 w9 w10 w11 hS [] a3 a2 a6 a7 p4 p5 ck8 ck9 h0 n0 O0 pne3 PE4 PF5 PF6 PF7 PF8 PV9 PV10 hc11) e3 PE12 (g := (mkF m 15 #[.val (.ref a1), .val (.ref a2)] [(.ref a2), (.ref a3)])) rfl (by rw [hml]; rfl) (argsL := [(.ref a2)]) (rest := []) (lenOf pd227 rfl) rfl rfl (by show 2 * 0 + _ ≤ _; exact Nat.le_of_eq rfl) (hb hby d12_15) (by decide) (by decide) (by decide) (by decide)
  obtain ⟨rfl, N4q, e4⟩ := hQ4
  have N4 := Fr.app N0 N4q
  have e4' : T4.heap = h0 := e4
  obtain ⟨fs, hr, hrun, hended, hW, hsame⟩ := X4.leave (v := some (.int (0 : Int32))) (fun h => by rw [Bd.returns] at h; cases h)
  refine ⟨_, _, pre0 _ ?_, hrun, hended, _, _, rfl, ?_, ⟨_, rfl⟩, hW, hsame.mono (by decide) (by decide)⟩
  · show Steps p.tables e below (s₁.setTop (mkF m 0 #[.val (.ref a1), .val (.ref a2)] [])) _
    refine XS.aloadN X0.here hx rfl (hb hby d12_0) rfl rfl ?_
    refine st1 _ ?_
    refine st2 _ ?_
    refine Jvm.RoadKit.acmp (g := (mkF m 7 #[.val (.ref a1), .val (.ref a2)] [(.ref w8), (.ref w8)])) X2 hx rfl rfl rfl (pc0 := 7) (pc' := 10) (same := true) rfl (hb hby d12_7) rfl (decide_eq_true rfl) (by decide) (by decide) ?_
    show Steps p.tables e below (T2.setTop (mkF m 10 #[.val (.ref a1), .val (.ref a2)] [])) _
    refine XS.aloadN X2.here hx rfl (hb hby d12_10) rfl rfl ?_
    refine st3 _ ?_
    refine XS.aloadN X3.here hx rfl (hb hby d12_14) rfl rfl ?_
    refine st4 _ ?_
    show Steps p.tables e below (T4.setTop (mkF m 18 #[.val (.ref a1), .val (.ref a2)] [(.int (0 : Int32))])) _
    refine XS.ifYes X4.here hx rfl (pc0 := 18) (pc' := 25) rfl (hb hby d12_18) rfl ((if0 _ _).trans (teq (by decide : (0 : Int32) = (0 : Int32))).1) (by decide) (by decide) ?_
    refine XS.iconst X4.here hx rfl (hb hby d12_25) ?_
    exact retN X4 hx (t := .boolean) Bd.returns (by simp) (hb hby d12_26) hr
  · show Qrm37 Z w0 w1 w2 w3 w4 w5 w6 w7 w8 w9 w10 w11 a1 a2 a3 p4 p5 a6 a7 ck8 ck9 h0 n0 _ T4.heap _
    rw [e4']
    exact ⟨rfl, N4, rfl⟩
def Qrm38 (Z : State) (w0 : Addr) (w1 : Addr) (w2 : Addr) (w3 : Addr) (w4 : Addr) (w5 : Addr) (w6 : Addr) (w7 : Addr) (w8 : Addr) (w9 : Addr) (w10 : Int32) (w11 : Value) (a1 : Addr) (a2 : Addr) (p3 : Int32) (ck4 : ClassId) (p5 : Int32) (p6 : Int32) (ck7 : ClassId) (h0 : Heap) (n0 : Nat) (v : Option Value) (h : Heap) (L : List Loc) : Prop := v = some (.int (0 : Int32)) ∧ Fr n0 L ∧ h = h0
set_option maxRecDepth 65536 in
set_option maxHeartbeats 40000000 in
theorem rm38 (l : Launch) (Z : State) (a0 : Array Value) (hw : ∀ d ∈ tables_1, d.before a0 Z = true) (hj : ∀ d ∈ jdkStatics_1, d.before a0 Z = true) (w0 : Addr) (w1 : Addr) (w2 : Addr) (w3 : Addr) (w4 : Addr) (w5 : Addr) (w6 : Addr) (w7 : Addr) (w8 : Addr) (w9 : Addr) (w10 : Int32) (w11 : Value) (hS : SF Z w0 w1 w2 w3 w4 w5 w6 w7 w8 w9 w10 w11) (ws : List Jvm.Cond) (a1 : Addr) (a2 : Addr) (p3 : Int32) (ck4 : ClassId) (p5 : Int32) (p6 : Int32) (ck7 : ClassId) (h0 : Heap) (n0 : Nat) (O0 : Old Z n0 h0) (PV1 : Arv Z h0 a1 ck4 .byte (1 : Int32) [(.int p3)] (.int (0 : Int32))) (PV2 : Arv Z h0 a2 ck7 .byte (2 : Int32) [(.int p5), (.int p6)] (.int (0 : Int32))) :
    MetFree l (⟨z5, "equals", "([B[B)Z"⟩ : MethodName) (head1 (Jvm.Cond.code (⟨z5, "equals", "([B[B)Z"⟩ : MethodName) jdk_43_method_13_code 3 (some .boolean) :: ws) ({ frames := 0, cells := 0, slots := 0, locals := 0 } : Room)) (fun a U => a = #[(.ref a1), (.ref a2)] ∧ Z.Warmed39 U.vm ∧ U.heap = h0) (fun _ _ _ _ _ => True) (fun _ U o U' => ∃ v L, o = .returned v ∧ Qrm38 Z w0 w1 w2 w3 w4 w5 w6 w7 w8 w9 w10 w11 a1 a2 p3 ck4 p5 p6 ck7 h0 n0 v U'.heap L ∧ FrameEnd U o U' L ({ frames := 0, cells := 0, slots := 0, locals := 0 } : Room).cells ({ frames := 0, cells := 0, slots := 0, locals := 0 } : Room).slots) := by
  refine MetFree.of_bodySF (plainFor_of_name pn217) hisR ?_
  intro p e s m args below meth c s₁ Bd hml0 hP hK
  obtain ⟨rfl, hZ, hh⟩ := hP
  have hx := Bd.exec
  have hby := Bd.bytes
  have hml : c.maxLocals = 3 := hml0
  have hown : s.vm.findClass z5 = some m.cls := findClass_of_methodNamed Bd.named
  have hnm := (name_of_methodNamed Bd.named Bd.method).1
  have X0 : Stand p l e ({ frames := 0, cells := 0, slots := 0, locals := 0 } : Room) s m #[(.ref a1), (.ref a2)] below meth c s₁ [] 0 0 := Stand.of_body Bd
  have e0 : s₁.heap = h0 := by rw [← hh, Bd.state]; rfl
  have N0 := Fr.nil n0
  have pre0 : ∀ t, Steps p.tables e below (s₁.setTop (mkF m 0 #[.val (.ref a1), .val (.ref a2), .unset] [])) t → Steps p.tables e below (s₁.setTop (entryFrame m #[(.ref a1), (.ref a2)] 3)) t := fun t k => castTop (ef216 m a1 a2) k
  obtain ⟨fs, hr, hrun, hended, hW, hsame⟩ := X0.leave (v := some (.int (0 : Int32))) (fun h => by rw [Bd.returns] at h; cases h)
  refine ⟨_, _, pre0 _ ?_, hrun, hended, _, _, rfl, ?_, ⟨_, rfl⟩, hW, hsame.mono (by decide) (by decide)⟩
  · show Steps p.tables e below (s₁.setTop (mkF m 0 #[.val (.ref a1), .val (.ref a2), .unset] [])) _
    refine XS.aloadN X0.here hx rfl (hb hby d17_0) rfl rfl ?_
    refine own_alen X0 hx hZ e0 PV1 (g := (mkF m 1 #[.val (.ref a1), .val (.ref a2), .unset] [(.ref a1)])) rfl rfl (hb hby d17_1) ?_
    refine XS.aloadN X0.here hx rfl (hb hby d17_2) rfl rfl ?_
    refine own_alen X0 hx hZ e0 PV2 (g := (mkF m 3 #[.val (.ref a1), .val (.ref a2), .unset] [(.ref a2), (.int (1 : Int32))])) rfl rfl (hb hby d17_3) ?_
    show Steps p.tables e below (s₁.setTop (mkF m 4 #[.val (.ref a1), .val (.ref a2), .unset] [(.int (2 : Int32)), (.int (1 : Int32))])) _
    refine XS.icmpYes X0.here hx rfl (pc0 := 4) (pc' := 34) rfl (hb hby d17_4) rfl (feq (by decide : ¬ ((1 : Int32) = (2 : Int32)))).2 (by decide) (by decide) ?_
    refine XS.iconst X0.here hx rfl (hb hby d17_34) ?_
    exact retN X0 hx (t := .boolean) Bd.returns (by simp) (hb hby d17_35) hr
  · show Qrm38 Z w0 w1 w2 w3 w4 w5 w6 w7 w8 w9 w10 w11 a1 a2 p3 ck4 p5 p6 ck7 h0 n0 _ s₁.heap _
    rw [e0]
    exact ⟨rfl, N0, rfl⟩
def Qrm39 (Z : State) (w0 : Addr) (w1 : Addr) (w2 : Addr) (w3 : Addr) (w4 : Addr) (w5 : Addr) (w6 : Addr) (w7 : Addr) (w8 : Addr) (w9 : Addr) (w10 : Int32) (w11 : Value) (a1 : Addr) (a2 : Addr) (a3 : Addr) (a4 : Addr) (p5 : Int32) (p6 : Int32) (p7 : Int32) (ck8 : ClassId) (ck9 : ClassId) (h0 : Heap) (n0 : Nat) (v : Option Value) (h : Heap) (L : List Loc) : Prop := v = some (.int (0 : Int32)) ∧ Fr n0 L ∧ h = h0
set_option maxRecDepth 65536 in
set_option maxHeartbeats 40000000 in
theorem rm39 (l : Launch) (Z : State) (a0 : Array Value) (hw : ∀ d ∈ tables_1, d.before a0 Z = true) (hj : ∀ d ∈ jdkStatics_1, d.before a0 Z = true) (w0 : Addr) (w1 : Addr) (w2 : Addr) (w3 : Addr) (w4 : Addr) (w5 : Addr) (w6 : Addr) (w7 : Addr) (w8 : Addr) (w9 : Addr) (w10 : Int32) (w11 : Value) (hS : SF Z w0 w1 w2 w3 w4 w5 w6 w7 w8 w9 w10 w11) (ws : List Jvm.Cond) (a1 : Addr) (a2 : Addr) (a3 : Addr) (a4 : Addr) (p5 : Int32) (p6 : Int32) (p7 : Int32) (ck8 : ClassId) (ck9 : ClassId) (h0 : Heap) (n0 : Nat) (O0 : Old Z n0 h0) (pne1 : a1 ≠ a2) (PE2 : Exa Z h0 a2 z0) (PF3 : Fld Z h0 a1 z0 "coder" "B" (.int (0 : Int32))) (PF4 : Fld Z h0 a2 z0 "coder" "B" (.int (0 : Int32))) (PF5 : Fld Z h0 a1 z0 "value" "[B" (.ref a3)) (PF6 : Fld Z h0 a2 z0 "value" "[B" (.ref a4)) (PV7 : Arv Z h0 a3 ck8 .byte (1 : Int32) [(.int p5)] (.int (0 : Int32))) (PV8 : Arv Z h0 a4 ck9 .byte (2 : Int32) [(.int p6), (.int p7)] (.int (0 : Int32))) :
    MetFree l (⟨z0, "equals", z7⟩ : MethodName) (head1 (Jvm.Cond.code (⟨z0, "equals", z7⟩ : MethodName) jdk_42_method_66_code 3 (some .boolean) :: ws) ({ frames := 1, cells := 0, slots := 0, locals := 14 } : Room)) (fun a U => a = #[(.ref a1), (.ref a2)] ∧ Z.Warmed39 U.vm ∧ U.heap = h0) (fun _ _ _ _ _ => True) (fun _ U o U' => ∃ v L, o = .returned v ∧ Qrm39 Z w0 w1 w2 w3 w4 w5 w6 w7 w8 w9 w10 w11 a1 a2 a3 a4 p5 p6 p7 ck8 ck9 h0 n0 v U'.heap L ∧ FrameEnd U o U' L ({ frames := 1, cells := 0, slots := 0, locals := 14 } : Room).cells ({ frames := 1, cells := 0, slots := 0, locals := 14 } : Room).slots) := by
  refine MetFree.of_bodySF (plainFor_of_name pn101) hisR ?_
  intro p e s m args below meth c s₁ Bd hml0 hP hK
  obtain ⟨rfl, hZ, hh⟩ := hP
  have hx := Bd.exec
  have hby := Bd.bytes
  have hml : c.maxLocals = 3 := hml0
  have hown : s.vm.findClass z0 = some m.cls := findClass_of_methodNamed Bd.named
  have hnm := (name_of_methodNamed Bd.named Bd.method).1
  have X0 : Stand p l e ({ frames := 1, cells := 0, slots := 0, locals := 14 } : Room) s m #[(.ref a1), (.ref a2)] below meth c s₁ [] 0 0 := Stand.of_body Bd
  have e0 : s₁.heap = h0 := by rw [← hh, Bd.state]; rfl
  have N0 := Fr.nil n0
  have pre0 : ∀ t, Steps p.tables e below (s₁.setTop (mkF m 0 #[.val (.ref a1), .val (.ref a2), .unset] [])) t → Steps p.tables e below (s₁.setTop (entryFrame m #[(.ref a1), (.ref a2)] 3)) t := fun t k => castTop (ef216 m a1 a2) k
  obtain ⟨T1, X1, e1, st1⟩ := instY X0 hx hZ hown (hw _ m14) e0 (Ins.self PE2) (g := (mkF m 8 #[.val (.ref a1), .val (.ref a2), .unset] [(.ref a2)])) rfl rfl (hb hby d13_8)
  obtain ⟨T2, X2, e2, st2⟩ := castY X1 hx hZ hown (hw _ m14) e1 (Ins.self PE2) (g := (mkF m 15 #[.val (.ref a1), .val (.ref a2), .unset] [(.ref a2)])) rfl rfl (hb hby d13_15)
  obtain ⟨T3, X3, e3, st3⟩ := getS2 X2 hx hZ hown (host := "") (Or.inl (hw _ m9)) Via.refl e2 (hS.2.2.2.2.2.2.2.2.2.2.2.2.2.2.2.2.2.2.2.2.2.2.2.2.2.2.2.2.2.2.1.ext O0.2) (g := (mkF m 19 #[.val (.ref a1), .val (.ref a2), .val (.ref a2)] [])) rfl (hb hby d13_19)
  obtain ⟨T4, X4, e4, st4⟩ := getF X3 hx hZ hown (host := "") (Or.inl (hw _ m29)) Via.refl e3 PF3 (g := (mkF m 26 #[.val (.ref a1), .val (.ref a2), .val (.ref a2)] [(.ref a1)])) rfl rfl (hb hby d13_26)
  obtain ⟨T5, X5, e5, st5⟩ := getF X4 hx hZ hown (host := "") (Or.inl (hw _ m29)) Via.refl e4 PF4 (g := (mkF m 30 #[.val (.ref a1), .val (.ref a2), .val (.ref a2)] [(.ref a2), (.int (0 : Int32))])) rfl rfl (hb hby d13_30)
  obtain ⟨T6, X6, e6, st6⟩ := getF X5 hx hZ hown (host := "") (Or.inl (hw _ m27)) Via.refl e5 PF5 (g := (mkF m 37 #[.val (.ref a1), .val (.ref a2), .val (.ref a2)] [(.ref a1)])) rfl rfl (hb hby d13_37)
  obtain ⟨T7, X7, e7, st7⟩ := getF X6 hx hZ hown (host := "") (Or.inl (hw _ m27)) Via.refl e6 PF6 (g := (mkF m 41 #[.val (.ref a1), .val (.ref a2), .val (.ref a2)] [(.ref a2), (.ref a3)])) rfl rfl (hb hby d13_41)
  obtain ⟨_, T8, L8, hQ8, X8, st8⟩ := own_callS X7 hx hZ (W := 0) hown (hw _ m105) (hw _ m106) (hw _ m12) (hw _ m107) (by decide) (rm38 l Z a0 hw hj w0 w1 w2 w3 w4 w5 w6 w7 w8 w9 w10 w11 hS [] a3 a4 p5 ck8 p6 p7 ck9 h0 n0 O0 PV7 PV8) e7 (g := (mkF m 44 #[.val (.ref a1), .val (.ref a2), .val (.ref a2)] [(.ref a4), (.ref a3)])) rfl (by rw [hml]; rfl) (argsL := [(.ref a3), (.ref a4)]) (rest := []) (lenOf pd220 rfl) rfl rfl (by show 2 * 0 + _ ≤ _; exact Nat.le_of_eq rfl) (hb hby d13_44) (by decide) (by decide) (by decide) (by decide)
  obtain ⟨rfl, N8q, e8⟩ := hQ8
  have N8 := Fr.app N0 N8q
  have e8' : T8.heap = h0 := e8
  obtain ⟨fs, hr, hrun, hended, hW, hsame⟩ := X8.leave (v := some (.int (0 : Int32))) (fun h => by rw [Bd.returns] at h; cases h)
  refine ⟨_, _, pre0 _ ?_, hrun, hended, _, _, rfl, ?_, ⟨_, rfl⟩, hW, hsame.mono (by decide) (by decide)⟩
  · show Steps p.tables e below (s₁.setTop (mkF m 0 #[.val (.ref a1), .val (.ref a2), .unset] [])) _
    refine XS.aloadN X0.here hx rfl (hb hby d13_0) rfl rfl ?_
    refine XS.aloadN X0.here hx rfl (hb hby d13_1) rfl rfl ?_
    refine Jvm.RoadKit.acmp (g := (mkF m 2 #[.val (.ref a1), .val (.ref a2), .unset] [(.ref a2), (.ref a1)])) X0 hx rfl rfl rfl (pc0 := 2) (pc' := 7) (same := false) rfl (hb hby d13_2) rfl (decide_eq_false fun q => pne1 (Value.ref.inj q)) (by decide) (by decide) ?_
    refine XS.aloadN X0.here hx rfl (hb hby d13_7) rfl rfl ?_
    show Steps p.tables e below (s₁.setTop (mkF m 8 #[.val (.ref a1), .val (.ref a2), .unset] [(.ref a2)])) _
    refine st1 _ ?_
    refine XS.ifNo X1.here hx rfl (hb hby d13_11) rfl ((if0 _ _).trans (feq (by decide : ¬ ((1 : Int32) = (0 : Int32)))).1) ?_
    refine XS.aloadN X1.here hx rfl (hb hby d13_14) rfl rfl ?_
    refine st2 _ ?_
    show Steps p.tables e below (T2.setTop (mkF m 18 #[.val (.ref a1), .val (.ref a2), .unset] [(.ref a2)])) _
    refine XS.astoreN X2.here hx rfl (hb hby d13_18) rfl rfl (l' := #[.val (.ref a1), .val (.ref a2), .val (.ref a2)]) rfl ?_
    refine st3 _ ?_
    refine XS.ifNo X3.here hx rfl (hb hby d13_22) rfl ((if0 _ _).trans (feq hS.2.2.2.2.2.2.2.2.2.2.2.2.2.2.2.2.2.2.2.2.2.2.2.2.2.2.2.2.2.2.2.1).1) ?_
    refine XS.aloadN X3.here hx rfl (hb hby d13_25) rfl rfl ?_
    show Steps p.tables e below (T3.setTop (mkF m 26 #[.val (.ref a1), .val (.ref a2), .val (.ref a2)] [(.ref a1)])) _
    refine st4 _ ?_
    refine XS.aloadN X4.here hx rfl (hb hby d13_29) rfl rfl ?_
    refine st5 _ ?_
    refine XS.icmpNo X5.here hx rfl (hb hby d13_33) rfl (teq (by decide : (0 : Int32) = (0 : Int32))).2 ?_
    show Steps p.tables e below (T5.setTop (mkF m 36 #[.val (.ref a1), .val (.ref a2), .val (.ref a2)] [])) _
    refine XS.aloadN X5.here hx rfl (hb hby d13_36) rfl rfl ?_
    refine st6 _ ?_
    refine XS.aloadN X6.here hx rfl (hb hby d13_40) rfl rfl ?_
    refine st7 _ ?_
    show Steps p.tables e below (T7.setTop (mkF m 44 #[.val (.ref a1), .val (.ref a2), .val (.ref a2)] [(.ref a4), (.ref a3)])) _
    refine st8 _ ?_
    refine XS.ifYes X8.here hx rfl (pc0 := 47) (pc' := 54) rfl (hb hby d13_47) rfl ((if0 _ _).trans (teq (by decide : (0 : Int32) = (0 : Int32))).1) (by decide) (by decide) ?_
    refine XS.iconst X8.here hx rfl (hb hby d13_54) ?_
    exact retN X8 hx (t := .boolean) Bd.returns (by simp) (hb hby d13_55) hr
  · show Qrm39 Z w0 w1 w2 w3 w4 w5 w6 w7 w8 w9 w10 w11 a1 a2 a3 a4 p5 p6 p7 ck8 ck9 h0 n0 _ T8.heap _
    rw [e8']
    exact ⟨rfl, N8, rfl⟩
def Qrm40 (Z : State) (w0 : Addr) (w1 : Addr) (w2 : Addr) (w3 : Addr) (w4 : Addr) (w5 : Addr) (w6 : Addr) (w7 : Addr) (w8 : Addr) (w9 : Addr) (w10 : Int32) (w11 : Value) (a1 : Addr) (a2 : Addr) (a3 : Addr) (p4 : Int32) (p5 : Int32) (p6 : Int32) (a7 : Addr) (a8 : Addr) (ck9 : ClassId) (ck10 : ClassId) (h0 : Heap) (n0 : Nat) (v : Option Value) (h : Heap) (L : List Loc) : Prop := v = some (.int (0 : Int32)) ∧ Fr n0 L ∧ h = h0
set_option maxRecDepth 65536 in
set_option maxHeartbeats 40000000 in
theorem rm40 (l : Launch) (Z : State) (a0 : Array Value) (hw : ∀ d ∈ tables_1, d.before a0 Z = true) (hj : ∀ d ∈ jdkStatics_1, d.before a0 Z = true) (w0 : Addr) (w1 : Addr) (w2 : Addr) (w3 : Addr) (w4 : Addr) (w5 : Addr) (w6 : Addr) (w7 : Addr) (w8 : Addr) (w9 : Addr) (w10 : Int32) (w11 : Value) (hS : SF Z w0 w1 w2 w3 w4 w5 w6 w7 w8 w9 w10 w11) (ws : List Jvm.Cond) (a1 : Addr) (a2 : Addr) (a3 : Addr) (p4 : Int32) (p5 : Int32) (p6 : Int32) (a7 : Addr) (a8 : Addr) (ck9 : ClassId) (ck10 : ClassId) (h0 : Heap) (n0 : Nat) (O0 : Old Z n0 h0) (PF1 : Fld Z h0 a1 z1 "type" z3 (.ref w8)) (PF2 : Fld Z h0 a1 z1 "text" z8 (.ref a3)) (pne3 : a3 ≠ a2) (PE4 : Exa Z h0 a2 z0) (PF5 : Fld Z h0 a3 z0 "coder" "B" (.int (0 : Int32))) (PF6 : Fld Z h0 a2 z0 "coder" "B" (.int (0 : Int32))) (PF7 : Fld Z h0 a3 z0 "value" "[B" (.ref a7)) (PF8 : Fld Z h0 a2 z0 "value" "[B" (.ref a8)) (PV9 : Arv Z h0 a7 ck9 .byte (1 : Int32) [(.int p4)] (.int (0 : Int32))) (PV10 : Arv Z h0 a8 ck10 .byte (2 : Int32) [(.int p5), (.int p6)] (.int (0 : Int32))) (PE11 : Exa Z h0 a3 z0) :
    MetFree l (⟨z1, "isSymbol", z6⟩ : MethodName) (head1 (Jvm.Cond.code (⟨z1, "isSymbol", z6⟩ : MethodName) prog_65_method_3_code 2 (some .boolean) :: ws) ({ frames := 2, cells := 0, slots := 0, locals := 28 } : Room)) (fun a U => a = #[(.ref a1), (.ref a2)] ∧ Z.Warmed39 U.vm ∧ U.heap = h0) (fun _ _ _ _ _ => True) (fun _ U o U' => ∃ v L, o = .returned v ∧ Qrm40 Z w0 w1 w2 w3 w4 w5 w6 w7 w8 w9 w10 w11 a1 a2 a3 p4 p5 p6 a7 a8 ck9 ck10 h0 n0 v U'.heap L ∧ FrameEnd U o U' L ({ frames := 2, cells := 0, slots := 0, locals := 28 } : Room).cells ({ frames := 2, cells := 0, slots := 0, locals := 28 } : Room).slots) := by
  refine MetFree.of_bodySF (plainFor_of_name pn162) hisR ?_
  intro p e s m args below meth c s₁ Bd hml0 hP hK
  obtain ⟨rfl, hZ, hh⟩ := hP
  have hx := Bd.exec
  have hby := Bd.bytes
  have hml : c.maxLocals = 2 := hml0
  have hown : s.vm.findClass z1 = some m.cls := findClass_of_methodNamed Bd.named
  have hnm := (name_of_methodNamed Bd.named Bd.method).1
  have X0 : Stand p l e ({ frames := 2, cells := 0, slots := 0, locals := 28 } : Room) s m #[(.ref a1), (.ref a2)] below meth c s₁ [] 0 0 := Stand.of_body Bd
  have e0 : s₁.heap = h0 := by rw [← hh, Bd.state]; rfl
  have N0 := Fr.nil n0
  have pre0 : ∀ t, Steps p.tables e below (s₁.setTop (mkF m 0 #[.val (.ref a1), .val (.ref a2)] [])) t → Steps p.tables e below (s₁.setTop (entryFrame m #[(.ref a1), (.ref a2)] 2)) t := fun t k => castTop (ef106 m a1 a2) k
  obtain ⟨T1, X1, e1, st1⟩ := getF X0 hx hZ hown (host := "") (Or.inl (hw _ m60)) Via.refl e0 PF1 (g := (mkF m 1 #[.val (.ref a1), .val (.ref a2)] [(.ref a1)])) rfl rfl (hb hby d12_1)
  obtain ⟨T2, X2, e2, st2⟩ := getS2 X1 hx hZ hown (host := "") (Or.inl (hw _ m73)) Via.refl e1 (hS.2.2.2.2.2.2.2.2.2.2.2.2.2.2.2.2.2.2.2.2.2.2.2.2.1.ext O0.2) (g := (mkF m 4 #[.val (.ref a1), .val (.ref a2)] [(.ref w8)])) rfl (hb hby d12_4)
  obtain ⟨T3, X3, e3, st3⟩ := getF X2 hx hZ hown (host := "") (Or.inl (hw _ m62)) Via.refl e2 PF2 (g := (mkF m 11 #[.val (.ref a1), .val (.ref a2)] [(.ref a1)])) rfl rfl (hb hby d12_11)
  obtain ⟨_, T4, L4, hQ4, X4, st4⟩ := own_virtual X3 hx hZ (W := 0) hown (hw _ m80) (hw _ m81) (notFace_of_selects (args := #[]) (mvT hZ (hw _ m83))) (hw _ m83) (hw _ m82) (hw _ m7) (hw _ m84) (by decide) (rm39 l Z a0 hw hj w0 w1 w2 w3 w4 w5 w6 w7 w8 w9 w10 w11 hS [] a3 a2 a7 a8 p4 p5 p6 ck9 ck10 h0 n0 O0 pne3 PE4 PF5 PF6 PF7 PF8 PV9 PV10) e3 PE11 (g := (mkF m 15 #[.val (.ref a1), .val (.ref a2)] [(.ref a2), (.ref a3)])) rfl (by rw [hml]; rfl) (argsL := [(.ref a2)]) (rest := []) (lenOf pd227 rfl) rfl rfl (by show 2 * 0 + _ ≤ _; exact Nat.le_of_eq rfl) (hb hby d12_15) (by decide) (by decide) (by decide) (by decide)
  obtain ⟨rfl, N4q, e4⟩ := hQ4
  have N4 := Fr.app N0 N4q
  have e4' : T4.heap = h0 := e4
  obtain ⟨fs, hr, hrun, hended, hW, hsame⟩ := X4.leave (v := some (.int (0 : Int32))) (fun h => by rw [Bd.returns] at h; cases h)
  refine ⟨_, _, pre0 _ ?_, hrun, hended, _, _, rfl, ?_, ⟨_, rfl⟩, hW, hsame.mono (by decide) (by decide)⟩
  · show Steps p.tables e below (s₁.setTop (mkF m 0 #[.val (.ref a1), .val (.ref a2)] [])) _
    refine XS.aloadN X0.here hx rfl (hb hby d12_0) rfl rfl ?_
    refine st1 _ ?_
    refine st2 _ ?_
    refine Jvm.RoadKit.acmp (g := (mkF m 7 #[.val (.ref a1), .val (.ref a2)] [(.ref w8), (.ref w8)])) X2 hx rfl rfl rfl (pc0 := 7) (pc' := 10) (same := true) rfl (hb hby d12_7) rfl (decide_eq_true rfl) (by decide) (by decide) ?_
    show Steps p.tables e below (T2.setTop (mkF m 10 #[.val (.ref a1), .val (.ref a2)] [])) _
    refine XS.aloadN X2.here hx rfl (hb hby d12_10) rfl rfl ?_
    refine st3 _ ?_
    refine XS.aloadN X3.here hx rfl (hb hby d12_14) rfl rfl ?_
    refine st4 _ ?_
    show Steps p.tables e below (T4.setTop (mkF m 18 #[.val (.ref a1), .val (.ref a2)] [(.int (0 : Int32))])) _
    refine XS.ifYes X4.here hx rfl (pc0 := 18) (pc' := 25) rfl (hb hby d12_18) rfl ((if0 _ _).trans (teq (by decide : (0 : Int32) = (0 : Int32))).1) (by decide) (by decide) ?_
    refine XS.iconst X4.here hx rfl (hb hby d12_25) ?_
    exact retN X4 hx (t := .boolean) Bd.returns (by simp) (hb hby d12_26) hr
  · show Qrm40 Z w0 w1 w2 w3 w4 w5 w6 w7 w8 w9 w10 w11 a1 a2 a3 p4 p5 p6 a7 a8 ck9 ck10 h0 n0 _ T4.heap _
    rw [e4']
    exact ⟨rfl, N4, rfl⟩
def Qrm41 (Z : State) (w0 : Addr) (w1 : Addr) (w2 : Addr) (w3 : Addr) (w4 : Addr) (w5 : Addr) (w6 : Addr) (w7 : Addr) (w8 : Addr) (w9 : Addr) (w10 : Int32) (w11 : Value) (a1 : Addr) (a2 : Addr) (p3 : Int32) (p4 : Int32) (ck5 : ClassId) (ck6 : ClassId) (h0 : Heap) (n0 : Nat) (v : Option Value) (h : Heap) (L : List Loc) : Prop := v = some (.int (0 : Int32)) ∧ Fr n0 L ∧ h = h0
set_option maxRecDepth 65536 in
set_option maxHeartbeats 40000000 in
theorem rm41 (l : Launch) (Z : State) (a0 : Array Value) (hw : ∀ d ∈ tables_1, d.before a0 Z = true) (hj : ∀ d ∈ jdkStatics_1, d.before a0 Z = true) (w0 : Addr) (w1 : Addr) (w2 : Addr) (w3 : Addr) (w4 : Addr) (w5 : Addr) (w6 : Addr) (w7 : Addr) (w8 : Addr) (w9 : Addr) (w10 : Int32) (w11 : Value) (hS : SF Z w0 w1 w2 w3 w4 w5 w6 w7 w8 w9 w10 w11) (ws : List Jvm.Cond) (a1 : Addr) (a2 : Addr) (p3 : Int32) (p4 : Int32) (ck5 : ClassId) (ck6 : ClassId) (h0 : Heap) (n0 : Nat) (O0 : Old Z n0 h0) (PV1 : Arv Z h0 a1 ck5 .byte (2 : Int32) [(.int p3), (.int p4)] (.int (0 : Int32))) (PV2 : Arv Z h0 a2 ck6 .byte (0 : Int32) [] (.int (0 : Int32))) :
    MetFree l (⟨z5, "equals", "([B[B)Z"⟩ : MethodName) (head1 (Jvm.Cond.code (⟨z5, "equals", "([B[B)Z"⟩ : MethodName) jdk_43_method_13_code 3 (some .boolean) :: ws) ({ frames := 0, cells := 0, slots := 0, locals := 0 } : Room)) (fun a U => a = #[(.ref a1), (.ref a2)] ∧ Z.Warmed39 U.vm ∧ U.heap = h0) (fun _ _ _ _ _ => True) (fun _ U o U' => ∃ v L, o = .returned v ∧ Qrm41 Z w0 w1 w2 w3 w4 w5 w6 w7 w8 w9 w10 w11 a1 a2 p3 p4 ck5 ck6 h0 n0 v U'.heap L ∧ FrameEnd U o U' L ({ frames := 0, cells := 0, slots := 0, locals := 0 } : Room).cells ({ frames := 0, cells := 0, slots := 0, locals := 0 } : Room).slots) := by
  refine MetFree.of_bodySF (plainFor_of_name pn217) hisR ?_
  intro p e s m args below meth c s₁ Bd hml0 hP hK
  obtain ⟨rfl, hZ, hh⟩ := hP
  have hx := Bd.exec
  have hby := Bd.bytes
  have hml : c.maxLocals = 3 := hml0
  have hown : s.vm.findClass z5 = some m.cls := findClass_of_methodNamed Bd.named
  have hnm := (name_of_methodNamed Bd.named Bd.method).1
  have X0 : Stand p l e ({ frames := 0, cells := 0, slots := 0, locals := 0 } : Room) s m #[(.ref a1), (.ref a2)] below meth c s₁ [] 0 0 := Stand.of_body Bd
  have e0 : s₁.heap = h0 := by rw [← hh, Bd.state]; rfl
  have N0 := Fr.nil n0
  have pre0 : ∀ t, Steps p.tables e below (s₁.setTop (mkF m 0 #[.val (.ref a1), .val (.ref a2), .unset] [])) t → Steps p.tables e below (s₁.setTop (entryFrame m #[(.ref a1), (.ref a2)] 3)) t := fun t k => castTop (ef216 m a1 a2) k
  obtain ⟨fs, hr, hrun, hended, hW, hsame⟩ := X0.leave (v := some (.int (0 : Int32))) (fun h => by rw [Bd.returns] at h; cases h)
  refine ⟨_, _, pre0 _ ?_, hrun, hended, _, _, rfl, ?_, ⟨_, rfl⟩, hW, hsame.mono (by decide) (by decide)⟩
  · show Steps p.tables e below (s₁.setTop (mkF m 0 #[.val (.ref a1), .val (.ref a2), .unset] [])) _
    refine XS.aloadN X0.here hx rfl (hb hby d17_0) rfl rfl ?_
    refine own_alen X0 hx hZ e0 PV1 (g := (mkF m 1 #[.val (.ref a1), .val (.ref a2), .unset] [(.ref a1)])) rfl rfl (hb hby d17_1) ?_
    refine XS.aloadN X0.here hx rfl (hb hby d17_2) rfl rfl ?_
    refine own_alen X0 hx hZ e0 PV2 (g := (mkF m 3 #[.val (.ref a1), .val (.ref a2), .unset] [(.ref a2), (.int (2 : Int32))])) rfl rfl (hb hby d17_3) ?_
    show Steps p.tables e below (s₁.setTop (mkF m 4 #[.val (.ref a1), .val (.ref a2), .unset] [(.int (0 : Int32)), (.int (2 : Int32))])) _
    refine XS.icmpYes X0.here hx rfl (pc0 := 4) (pc' := 34) rfl (hb hby d17_4) rfl (feq (by decide : ¬ ((2 : Int32) = (0 : Int32)))).2 (by decide) (by decide) ?_
    refine XS.iconst X0.here hx rfl (hb hby d17_34) ?_
    exact retN X0 hx (t := .boolean) Bd.returns (by simp) (hb hby d17_35) hr
  · show Qrm41 Z w0 w1 w2 w3 w4 w5 w6 w7 w8 w9 w10 w11 a1 a2 p3 p4 ck5 ck6 h0 n0 _ s₁.heap _
    rw [e0]
    exact ⟨rfl, N0, rfl⟩
def Qrm42 (Z : State) (w0 : Addr) (w1 : Addr) (w2 : Addr) (w3 : Addr) (w4 : Addr) (w5 : Addr) (w6 : Addr) (w7 : Addr) (w8 : Addr) (w9 : Addr) (w10 : Int32) (w11 : Value) (a1 : Addr) (a2 : Addr) (a3 : Addr) (a4 : Addr) (p5 : Int32) (p6 : Int32) (ck7 : ClassId) (ck8 : ClassId) (h0 : Heap) (n0 : Nat) (v : Option Value) (h : Heap) (L : List Loc) : Prop := v = some (.int (0 : Int32)) ∧ Fr n0 L ∧ h = h0
set_option maxRecDepth 65536 in
set_option maxHeartbeats 40000000 in
theorem rm42 (l : Launch) (Z : State) (a0 : Array Value) (hw : ∀ d ∈ tables_1, d.before a0 Z = true) (hj : ∀ d ∈ jdkStatics_1, d.before a0 Z = true) (w0 : Addr) (w1 : Addr) (w2 : Addr) (w3 : Addr) (w4 : Addr) (w5 : Addr) (w6 : Addr) (w7 : Addr) (w8 : Addr) (w9 : Addr) (w10 : Int32) (w11 : Value) (hS : SF Z w0 w1 w2 w3 w4 w5 w6 w7 w8 w9 w10 w11) (ws : List Jvm.Cond) (a1 : Addr) (a2 : Addr) (a3 : Addr) (a4 : Addr) (p5 : Int32) (p6 : Int32) (ck7 : ClassId) (ck8 : ClassId) (h0 : Heap) (n0 : Nat) (O0 : Old Z n0 h0) (pne1 : a1 ≠ a2) (PE2 : Exa Z h0 a2 z0) (PF3 : Fld Z h0 a1 z0 "coder" "B" (.int (0 : Int32))) (PF4 : Fld Z h0 a2 z0 "coder" "B" (.int (0 : Int32))) (PF5 : Fld Z h0 a1 z0 "value" "[B" (.ref a3)) (PF6 : Fld Z h0 a2 z0 "value" "[B" (.ref a4)) (PV7 : Arv Z h0 a3 ck7 .byte (2 : Int32) [(.int p5), (.int p6)] (.int (0 : Int32))) (PV8 : Arv Z h0 a4 ck8 .byte (0 : Int32) [] (.int (0 : Int32))) :
    MetFree l (⟨z0, "equals", z7⟩ : MethodName) (head1 (Jvm.Cond.code (⟨z0, "equals", z7⟩ : MethodName) jdk_42_method_66_code 3 (some .boolean) :: ws) ({ frames := 1, cells := 0, slots := 0, locals := 14 } : Room)) (fun a U => a = #[(.ref a1), (.ref a2)] ∧ Z.Warmed39 U.vm ∧ U.heap = h0) (fun _ _ _ _ _ => True) (fun _ U o U' => ∃ v L, o = .returned v ∧ Qrm42 Z w0 w1 w2 w3 w4 w5 w6 w7 w8 w9 w10 w11 a1 a2 a3 a4 p5 p6 ck7 ck8 h0 n0 v U'.heap L ∧ FrameEnd U o U' L ({ frames := 1, cells := 0, slots := 0, locals := 14 } : Room).cells ({ frames := 1, cells := 0, slots := 0, locals := 14 } : Room).slots) := by
  refine MetFree.of_bodySF (plainFor_of_name pn101) hisR ?_
  intro p e s m args below meth c s₁ Bd hml0 hP hK
  obtain ⟨rfl, hZ, hh⟩ := hP
  have hx := Bd.exec
  have hby := Bd.bytes
  have hml : c.maxLocals = 3 := hml0
  have hown : s.vm.findClass z0 = some m.cls := findClass_of_methodNamed Bd.named
  have hnm := (name_of_methodNamed Bd.named Bd.method).1
  have X0 : Stand p l e ({ frames := 1, cells := 0, slots := 0, locals := 14 } : Room) s m #[(.ref a1), (.ref a2)] below meth c s₁ [] 0 0 := Stand.of_body Bd
  have e0 : s₁.heap = h0 := by rw [← hh, Bd.state]; rfl
  have N0 := Fr.nil n0
  have pre0 : ∀ t, Steps p.tables e below (s₁.setTop (mkF m 0 #[.val (.ref a1), .val (.ref a2), .unset] [])) t → Steps p.tables e below (s₁.setTop (entryFrame m #[(.ref a1), (.ref a2)] 3)) t := fun t k => castTop (ef216 m a1 a2) k
  obtain ⟨T1, X1, e1, st1⟩ := instY X0 hx hZ hown (hw _ m14) e0 (Ins.self PE2) (g := (mkF m 8 #[.val (.ref a1), .val (.ref a2), .unset] [(.ref a2)])) rfl rfl (hb hby d13_8)
  obtain ⟨T2, X2, e2, st2⟩ := castY X1 hx hZ hown (hw _ m14) e1 (Ins.self PE2) (g := (mkF m 15 #[.val (.ref a1), .val (.ref a2), .unset] [(.ref a2)])) rfl rfl (hb hby d13_15)
  obtain ⟨T3, X3, e3, st3⟩ := getS2 X2 hx hZ hown (host := "") (Or.inl (hw _ m9)) Via.refl e2 (hS.2.2.2.2.2.2.2.2.2.2.2.2.2.2.2.2.2.2.2.2.2.2.2.2.2.2.2.2.2.2.1.ext O0.2) (g := (mkF m 19 #[.val (.ref a1), .val (.ref a2), .val (.ref a2)] [])) rfl (hb hby d13_19)
  obtain ⟨T4, X4, e4, st4⟩ := getF X3 hx hZ hown (host := "") (Or.inl (hw _ m29)) Via.refl e3 PF3 (g := (mkF m 26 #[.val (.ref a1), .val (.ref a2), .val (.ref a2)] [(.ref a1)])) rfl rfl (hb hby d13_26)
  obtain ⟨T5, X5, e5, st5⟩ := getF X4 hx hZ hown (host := "") (Or.inl (hw _ m29)) Via.refl e4 PF4 (g := (mkF m 30 #[.val (.ref a1), .val (.ref a2), .val (.ref a2)] [(.ref a2), (.int (0 : Int32))])) rfl rfl (hb hby d13_30)
  obtain ⟨T6, X6, e6, st6⟩ := getF X5 hx hZ hown (host := "") (Or.inl (hw _ m27)) Via.refl e5 PF5 (g := (mkF m 37 #[.val (.ref a1), .val (.ref a2), .val (.ref a2)] [(.ref a1)])) rfl rfl (hb hby d13_37)
  obtain ⟨T7, X7, e7, st7⟩ := getF X6 hx hZ hown (host := "") (Or.inl (hw _ m27)) Via.refl e6 PF6 (g := (mkF m 41 #[.val (.ref a1), .val (.ref a2), .val (.ref a2)] [(.ref a2), (.ref a3)])) rfl rfl (hb hby d13_41)
  obtain ⟨_, T8, L8, hQ8, X8, st8⟩ := own_callS X7 hx hZ (W := 0) hown (hw _ m105) (hw _ m106) (hw _ m12) (hw _ m107) (by decide) (rm41 l Z a0 hw hj w0 w1 w2 w3 w4 w5 w6 w7 w8 w9 w10 w11 hS [] a3 a4 p5 p6 ck7 ck8 h0 n0 O0 PV7 PV8) e7 (g := (mkF m 44 #[.val (.ref a1), .val (.ref a2), .val (.ref a2)] [(.ref a4), (.ref a3)])) rfl (by rw [hml]; rfl) (argsL := [(.ref a3), (.ref a4)]) (rest := []) (lenOf pd220 rfl) rfl rfl (by show 2 * 0 + _ ≤ _; exact Nat.le_of_eq rfl) (hb hby d13_44) (by decide) (by decide) (by decide) (by decide)
  obtain ⟨rfl, N8q, e8⟩ := hQ8
  have N8 := Fr.app N0 N8q
  have e8' : T8.heap = h0 := e8
  obtain ⟨fs, hr, hrun, hended, hW, hsame⟩ := X8.leave (v := some (.int (0 : Int32))) (fun h => by rw [Bd.returns] at h; cases h)
  refine ⟨_, _, pre0 _ ?_, hrun, hended, _, _, rfl, ?_, ⟨_, rfl⟩, hW, hsame.mono (by decide) (by decide)⟩
  · show Steps p.tables e below (s₁.setTop (mkF m 0 #[.val (.ref a1), .val (.ref a2), .unset] [])) _
    refine XS.aloadN X0.here hx rfl (hb hby d13_0) rfl rfl ?_
    refine XS.aloadN X0.here hx rfl (hb hby d13_1) rfl rfl ?_
    refine Jvm.RoadKit.acmp (g := (mkF m 2 #[.val (.ref a1), .val (.ref a2), .unset] [(.ref a2), (.ref a1)])) X0 hx rfl rfl rfl (pc0 := 2) (pc' := 7) (same := false) rfl (hb hby d13_2) rfl (decide_eq_false fun q => pne1 (Value.ref.inj q)) (by decide) (by decide) ?_
    refine XS.aloadN X0.here hx rfl (hb hby d13_7) rfl rfl ?_
    show Steps p.tables e below (s₁.setTop (mkF m 8 #[.val (.ref a1), .val (.ref a2), .unset] [(.ref a2)])) _
    refine st1 _ ?_
    refine XS.ifNo X1.here hx rfl (hb hby d13_11) rfl ((if0 _ _).trans (feq (by decide : ¬ ((1 : Int32) = (0 : Int32)))).1) ?_
    refine XS.aloadN X1.here hx rfl (hb hby d13_14) rfl rfl ?_
    refine st2 _ ?_
    show Steps p.tables e below (T2.setTop (mkF m 18 #[.val (.ref a1), .val (.ref a2), .unset] [(.ref a2)])) _
    refine XS.astoreN X2.here hx rfl (hb hby d13_18) rfl rfl (l' := #[.val (.ref a1), .val (.ref a2), .val (.ref a2)]) rfl ?_
    refine st3 _ ?_
    refine XS.ifNo X3.here hx rfl (hb hby d13_22) rfl ((if0 _ _).trans (feq hS.2.2.2.2.2.2.2.2.2.2.2.2.2.2.2.2.2.2.2.2.2.2.2.2.2.2.2.2.2.2.2.1).1) ?_
    refine XS.aloadN X3.here hx rfl (hb hby d13_25) rfl rfl ?_
    show Steps p.tables e below (T3.setTop (mkF m 26 #[.val (.ref a1), .val (.ref a2), .val (.ref a2)] [(.ref a1)])) _
    refine st4 _ ?_
    refine XS.aloadN X4.here hx rfl (hb hby d13_29) rfl rfl ?_
    refine st5 _ ?_
    refine XS.icmpNo X5.here hx rfl (hb hby d13_33) rfl (teq (by decide : (0 : Int32) = (0 : Int32))).2 ?_
    show Steps p.tables e below (T5.setTop (mkF m 36 #[.val (.ref a1), .val (.ref a2), .val (.ref a2)] [])) _
    refine XS.aloadN X5.here hx rfl (hb hby d13_36) rfl rfl ?_
    refine st6 _ ?_
    refine XS.aloadN X6.here hx rfl (hb hby d13_40) rfl rfl ?_
    refine st7 _ ?_
    show Steps p.tables e below (T7.setTop (mkF m 44 #[.val (.ref a1), .val (.ref a2), .val (.ref a2)] [(.ref a4), (.ref a3)])) _
    refine st8 _ ?_
    refine XS.ifYes X8.here hx rfl (pc0 := 47) (pc' := 54) rfl (hb hby d13_47) rfl ((if0 _ _).trans (teq (by decide : (0 : Int32) = (0 : Int32))).1) (by decide) (by decide) ?_
    refine XS.iconst X8.here hx rfl (hb hby d13_54) ?_
    exact retN X8 hx (t := .boolean) Bd.returns (by simp) (hb hby d13_55) hr
  · show Qrm42 Z w0 w1 w2 w3 w4 w5 w6 w7 w8 w9 w10 w11 a1 a2 a3 a4 p5 p6 ck7 ck8 h0 n0 _ T8.heap _
    rw [e8']
    exact ⟨rfl, N8, rfl⟩
def Qrm43 (Z : State) (w0 : Addr) (w1 : Addr) (w2 : Addr) (w3 : Addr) (w4 : Addr) (w5 : Addr) (w6 : Addr) (w7 : Addr) (w8 : Addr) (w9 : Addr) (w10 : Int32) (w11 : Value) (a1 : Addr) (a2 : Addr) (a3 : Addr) (p4 : Int32) (p5 : Int32) (a6 : Addr) (a7 : Addr) (ck8 : ClassId) (ck9 : ClassId) (h0 : Heap) (n0 : Nat) (v : Option Value) (h : Heap) (L : List Loc) : Prop := v = some (.int (0 : Int32)) ∧ Fr n0 L ∧ h = h0
set_option maxRecDepth 65536 in
set_option maxHeartbeats 40000000 in
theorem rm43 (l : Launch) (Z : State) (a0 : Array Value) (hw : ∀ d ∈ tables_1, d.before a0 Z = true) (hj : ∀ d ∈ jdkStatics_1, d.before a0 Z = true) (w0 : Addr) (w1 : Addr) (w2 : Addr) (w3 : Addr) (w4 : Addr) (w5 : Addr) (w6 : Addr) (w7 : Addr) (w8 : Addr) (w9 : Addr) (w10 : Int32) (w11 : Value) (hS : SF Z w0 w1 w2 w3 w4 w5 w6 w7 w8 w9 w10 w11) (ws : List Jvm.Cond) (a1 : Addr) (a2 : Addr) (a3 : Addr) (p4 : Int32) (p5 : Int32) (a6 : Addr) (a7 : Addr) (ck8 : ClassId) (ck9 : ClassId) (h0 : Heap) (n0 : Nat) (O0 : Old Z n0 h0) (PF1 : Fld Z h0 a1 z1 "type" z3 (.ref w8)) (PF2 : Fld Z h0 a1 z1 "text" z8 (.ref a3)) (pne3 : a3 ≠ a2) (PE4 : Exa Z h0 a2 z0) (PF5 : Fld Z h0 a3 z0 "coder" "B" (.int (0 : Int32))) (PF6 : Fld Z h0 a2 z0 "coder" "B" (.int (0 : Int32))) (PF7 : Fld Z h0 a3 z0 "value" "[B" (.ref a6)) (PF8 : Fld Z h0 a2 z0 "value" "[B" (.ref a7)) (PV9 : Arv Z h0 a6 ck8 .byte (2 : Int32) [(.int p4), (.int p5)] (.int (0 : Int32))) (PV10 : Arv Z h0 a7 ck9 .byte (0 : Int32) [] (.int (0 : Int32))) (PE11 : Exa Z h0 a3 z0) :
    MetFree l (⟨z1, "isSymbol", z6⟩ : MethodName) (head1 (Jvm.Cond.code (⟨z1, "isSymbol", z6⟩ : MethodName) prog_65_method_3_code 2 (some .boolean) :: ws) ({ frames := 2, cells := 0, slots := 0, locals := 28 } : Room)) (fun a U => a = #[(.ref a1), (.ref a2)] ∧ Z.Warmed39 U.vm ∧ U.heap = h0) (fun _ _ _ _ _ => True) (fun _ U o U' => ∃ v L, o = .returned v ∧ Qrm43 Z w0 w1 w2 w3 w4 w5 w6 w7 w8 w9 w10 w11 a1 a2 a3 p4 p5 a6 a7 ck8 ck9 h0 n0 v U'.heap L ∧ FrameEnd U o U' L ({ frames := 2, cells := 0, slots := 0, locals := 28 } : Room).cells ({ frames := 2, cells := 0, slots := 0, locals := 28 } : Room).slots) := by
  refine MetFree.of_bodySF (plainFor_of_name pn162) hisR ?_
  intro p e s m args below meth c s₁ Bd hml0 hP hK
  obtain ⟨rfl, hZ, hh⟩ := hP
  have hx := Bd.exec
  have hby := Bd.bytes
  have hml : c.maxLocals = 2 := hml0
  have hown : s.vm.findClass z1 = some m.cls := findClass_of_methodNamed Bd.named
  have hnm := (name_of_methodNamed Bd.named Bd.method).1
  have X0 : Stand p l e ({ frames := 2, cells := 0, slots := 0, locals := 28 } : Room) s m #[(.ref a1), (.ref a2)] below meth c s₁ [] 0 0 := Stand.of_body Bd
  have e0 : s₁.heap = h0 := by rw [← hh, Bd.state]; rfl
  have N0 := Fr.nil n0
  have pre0 : ∀ t, Steps p.tables e below (s₁.setTop (mkF m 0 #[.val (.ref a1), .val (.ref a2)] [])) t → Steps p.tables e below (s₁.setTop (entryFrame m #[(.ref a1), (.ref a2)] 2)) t := fun t k => castTop (ef106 m a1 a2) k
  obtain ⟨T1, X1, e1, st1⟩ := getF X0 hx hZ hown (host := "") (Or.inl (hw _ m60)) Via.refl e0 PF1 (g := (mkF m 1 #[.val (.ref a1), .val (.ref a2)] [(.ref a1)])) rfl rfl (hb hby d12_1)
  obtain ⟨T2, X2, e2, st2⟩ := getS2 X1 hx hZ hown (host := "") (Or.inl (hw _ m73)) Via.refl e1 (hS.2.2.2.2.2.2.2.2.2.2.2.2.2.2.2.2.2.2.2.2.2.2.2.2.1.ext O0.2) (g := (mkF m 4 #[.val (.ref a1), .val (.ref a2)] [(.ref w8)])) rfl (hb hby d12_4)
  obtain ⟨T3, X3, e3, st3⟩ := getF X2 hx hZ hown (host := "") (Or.inl (hw _ m62)) Via.refl e2 PF2 (g := (mkF m 11 #[.val (.ref a1), .val (.ref a2)] [(.ref a1)])) rfl rfl (hb hby d12_11)
  obtain ⟨_, T4, L4, hQ4, X4, st4⟩ := own_virtual X3 hx hZ (W := 0) hown (hw _ m80) (hw _ m81) (notFace_of_selects (args := #[]) (mvT hZ (hw _ m83))) (hw _ m83) (hw _ m82) (hw _ m7) (hw _ m84) (by decide) (rm42 l Z a0 hw hj w0 w1 w2 w3 w4 w5 w6 w7 w8 w9 w10 w11 hS [] a3 a2 a6 a7 p4 p5 ck8 ck9 h0 n0 O0 pne3 PE4 PF5 PF6 PF7 PF8 PV9 PV10) e3 PE11 (g := (mkF m 15 #[.val (.ref a1), .val (.ref a2)] [(.ref a2), (.ref a3)])) rfl (by rw [hml]; rfl) (argsL := [(.ref a2)]) (rest := []) (lenOf pd227 rfl) rfl rfl (by show 2 * 0 + _ ≤ _; exact Nat.le_of_eq rfl) (hb hby d12_15) (by decide) (by decide) (by decide) (by decide)
  obtain ⟨rfl, N4q, e4⟩ := hQ4
  have N4 := Fr.app N0 N4q
  have e4' : T4.heap = h0 := e4
  obtain ⟨fs, hr, hrun, hended, hW, hsame⟩ := X4.leave (v := some (.int (0 : Int32))) (fun h => by rw [Bd.returns] at h; cases h)
  refine ⟨_, _, pre0 _ ?_, hrun, hended, _, _, rfl, ?_, ⟨_, rfl⟩, hW, hsame.mono (by decide) (by decide)⟩
  · show Steps p.tables e below (s₁.setTop (mkF m 0 #[.val (.ref a1), .val (.ref a2)] [])) _
    refine XS.aloadN X0.here hx rfl (hb hby d12_0) rfl rfl ?_
    refine st1 _ ?_
    refine st2 _ ?_
    refine Jvm.RoadKit.acmp (g := (mkF m 7 #[.val (.ref a1), .val (.ref a2)] [(.ref w8), (.ref w8)])) X2 hx rfl rfl rfl (pc0 := 7) (pc' := 10) (same := true) rfl (hb hby d12_7) rfl (decide_eq_true rfl) (by decide) (by decide) ?_
    show Steps p.tables e below (T2.setTop (mkF m 10 #[.val (.ref a1), .val (.ref a2)] [])) _
    refine XS.aloadN X2.here hx rfl (hb hby d12_10) rfl rfl ?_
    refine st3 _ ?_
    refine XS.aloadN X3.here hx rfl (hb hby d12_14) rfl rfl ?_
    refine st4 _ ?_
    show Steps p.tables e below (T4.setTop (mkF m 18 #[.val (.ref a1), .val (.ref a2)] [(.int (0 : Int32))])) _
    refine XS.ifYes X4.here hx rfl (pc0 := 18) (pc' := 25) rfl (hb hby d12_18) rfl ((if0 _ _).trans (teq (by decide : (0 : Int32) = (0 : Int32))).1) (by decide) (by decide) ?_
    refine XS.iconst X4.here hx rfl (hb hby d12_25) ?_
    exact retN X4 hx (t := .boolean) Bd.returns (by simp) (hb hby d12_26) hr
  · show Qrm43 Z w0 w1 w2 w3 w4 w5 w6 w7 w8 w9 w10 w11 a1 a2 a3 p4 p5 a6 a7 ck8 ck9 h0 n0 _ T4.heap _
    rw [e4']
    exact ⟨rfl, N4, rfl⟩
def Qrm44 (Z : State) (w0 : Addr) (w1 : Addr) (w2 : Addr) (w3 : Addr) (w4 : Addr) (w5 : Addr) (w6 : Addr) (w7 : Addr) (w8 : Addr) (w9 : Addr) (w10 : Int32) (w11 : Value) (a1 : Addr) (a2 : Addr) (p3 : Int32) (p4 : Int32) (ck5 : ClassId) (p6 : Int32) (ck7 : ClassId) (h0 : Heap) (n0 : Nat) (v : Option Value) (h : Heap) (L : List Loc) : Prop := v = some (.int (0 : Int32)) ∧ Fr n0 L ∧ h = h0
set_option maxRecDepth 65536 in
set_option maxHeartbeats 40000000 in
theorem rm44 (l : Launch) (Z : State) (a0 : Array Value) (hw : ∀ d ∈ tables_1, d.before a0 Z = true) (hj : ∀ d ∈ jdkStatics_1, d.before a0 Z = true) (w0 : Addr) (w1 : Addr) (w2 : Addr) (w3 : Addr) (w4 : Addr) (w5 : Addr) (w6 : Addr) (w7 : Addr) (w8 : Addr) (w9 : Addr) (w10 : Int32) (w11 : Value) (hS : SF Z w0 w1 w2 w3 w4 w5 w6 w7 w8 w9 w10 w11) (ws : List Jvm.Cond) (a1 : Addr) (a2 : Addr) (p3 : Int32) (p4 : Int32) (ck5 : ClassId) (p6 : Int32) (ck7 : ClassId) (h0 : Heap) (n0 : Nat) (O0 : Old Z n0 h0) (PV1 : Arv Z h0 a1 ck5 .byte (2 : Int32) [(.int p3), (.int p4)] (.int (0 : Int32))) (PV2 : Arv Z h0 a2 ck7 .byte (1 : Int32) [(.int p6)] (.int (0 : Int32))) :
    MetFree l (⟨z5, "equals", "([B[B)Z"⟩ : MethodName) (head1 (Jvm.Cond.code (⟨z5, "equals", "([B[B)Z"⟩ : MethodName) jdk_43_method_13_code 3 (some .boolean) :: ws) ({ frames := 0, cells := 0, slots := 0, locals := 0 } : Room)) (fun a U => a = #[(.ref a1), (.ref a2)] ∧ Z.Warmed39 U.vm ∧ U.heap = h0) (fun _ _ _ _ _ => True) (fun _ U o U' => ∃ v L, o = .returned v ∧ Qrm44 Z w0 w1 w2 w3 w4 w5 w6 w7 w8 w9 w10 w11 a1 a2 p3 p4 ck5 p6 ck7 h0 n0 v U'.heap L ∧ FrameEnd U o U' L ({ frames := 0, cells := 0, slots := 0, locals := 0 } : Room).cells ({ frames := 0, cells := 0, slots := 0, locals := 0 } : Room).slots) := by
  refine MetFree.of_bodySF (plainFor_of_name pn217) hisR ?_
  intro p e s m args below meth c s₁ Bd hml0 hP hK
  obtain ⟨rfl, hZ, hh⟩ := hP
  have hx := Bd.exec
  have hby := Bd.bytes
  have hml : c.maxLocals = 3 := hml0
  have hown : s.vm.findClass z5 = some m.cls := findClass_of_methodNamed Bd.named
  have hnm := (name_of_methodNamed Bd.named Bd.method).1
  have X0 : Stand p l e ({ frames := 0, cells := 0, slots := 0, locals := 0 } : Room) s m #[(.ref a1), (.ref a2)] below meth c s₁ [] 0 0 := Stand.of_body Bd
  have e0 : s₁.heap = h0 := by rw [← hh, Bd.state]; rfl
  have N0 := Fr.nil n0
  have pre0 : ∀ t, Steps p.tables e below (s₁.setTop (mkF m 0 #[.val (.ref a1), .val (.ref a2), .unset] [])) t → Steps p.tables e below (s₁.setTop (entryFrame m #[(.ref a1), (.ref a2)] 3)) t := fun t k => castTop (ef216 m a1 a2) k
  obtain ⟨fs, hr, hrun, hended, hW, hsame⟩ := X0.leave (v := some (.int (0 : Int32))) (fun h => by rw [Bd.returns] at h; cases h)
  refine ⟨_, _, pre0 _ ?_, hrun, hended, _, _, rfl, ?_, ⟨_, rfl⟩, hW, hsame.mono (by decide) (by decide)⟩
  · show Steps p.tables e below (s₁.setTop (mkF m 0 #[.val (.ref a1), .val (.ref a2), .unset] [])) _
    refine XS.aloadN X0.here hx rfl (hb hby d17_0) rfl rfl ?_
    refine own_alen X0 hx hZ e0 PV1 (g := (mkF m 1 #[.val (.ref a1), .val (.ref a2), .unset] [(.ref a1)])) rfl rfl (hb hby d17_1) ?_
    refine XS.aloadN X0.here hx rfl (hb hby d17_2) rfl rfl ?_
    refine own_alen X0 hx hZ e0 PV2 (g := (mkF m 3 #[.val (.ref a1), .val (.ref a2), .unset] [(.ref a2), (.int (2 : Int32))])) rfl rfl (hb hby d17_3) ?_
    show Steps p.tables e below (s₁.setTop (mkF m 4 #[.val (.ref a1), .val (.ref a2), .unset] [(.int (1 : Int32)), (.int (2 : Int32))])) _
    refine XS.icmpYes X0.here hx rfl (pc0 := 4) (pc' := 34) rfl (hb hby d17_4) rfl (feq (by decide : ¬ ((2 : Int32) = (1 : Int32)))).2 (by decide) (by decide) ?_
    refine XS.iconst X0.here hx rfl (hb hby d17_34) ?_
    exact retN X0 hx (t := .boolean) Bd.returns (by simp) (hb hby d17_35) hr
  · show Qrm44 Z w0 w1 w2 w3 w4 w5 w6 w7 w8 w9 w10 w11 a1 a2 p3 p4 ck5 p6 ck7 h0 n0 _ s₁.heap _
    rw [e0]
    exact ⟨rfl, N0, rfl⟩
def Qrm45 (Z : State) (w0 : Addr) (w1 : Addr) (w2 : Addr) (w3 : Addr) (w4 : Addr) (w5 : Addr) (w6 : Addr) (w7 : Addr) (w8 : Addr) (w9 : Addr) (w10 : Int32) (w11 : Value) (a1 : Addr) (a2 : Addr) (a3 : Addr) (a4 : Addr) (p5 : Int32) (p6 : Int32) (p7 : Int32) (ck8 : ClassId) (ck9 : ClassId) (h0 : Heap) (n0 : Nat) (v : Option Value) (h : Heap) (L : List Loc) : Prop := v = some (.int (0 : Int32)) ∧ Fr n0 L ∧ h = h0
set_option maxRecDepth 65536 in
set_option maxHeartbeats 40000000 in
theorem rm45 (l : Launch) (Z : State) (a0 : Array Value) (hw : ∀ d ∈ tables_1, d.before a0 Z = true) (hj : ∀ d ∈ jdkStatics_1, d.before a0 Z = true) (w0 : Addr) (w1 : Addr) (w2 : Addr) (w3 : Addr) (w4 : Addr) (w5 : Addr) (w6 : Addr) (w7 : Addr) (w8 : Addr) (w9 : Addr) (w10 : Int32) (w11 : Value) (hS : SF Z w0 w1 w2 w3 w4 w5 w6 w7 w8 w9 w10 w11) (ws : List Jvm.Cond) (a1 : Addr) (a2 : Addr) (a3 : Addr) (a4 : Addr) (p5 : Int32) (p6 : Int32) (p7 : Int32) (ck8 : ClassId) (ck9 : ClassId) (h0 : Heap) (n0 : Nat) (O0 : Old Z n0 h0) (pne1 : a1 ≠ a2) (PE2 : Exa Z h0 a2 z0) (PF3 : Fld Z h0 a1 z0 "coder" "B" (.int (0 : Int32))) (PF4 : Fld Z h0 a2 z0 "coder" "B" (.int (0 : Int32))) (PF5 : Fld Z h0 a1 z0 "value" "[B" (.ref a3)) (PF6 : Fld Z h0 a2 z0 "value" "[B" (.ref a4)) (PV7 : Arv Z h0 a3 ck8 .byte (2 : Int32) [(.int p5), (.int p6)] (.int (0 : Int32))) (PV8 : Arv Z h0 a4 ck9 .byte (1 : Int32) [(.int p7)] (.int (0 : Int32))) :
    MetFree l (⟨z0, "equals", z7⟩ : MethodName) (head1 (Jvm.Cond.code (⟨z0, "equals", z7⟩ : MethodName) jdk_42_method_66_code 3 (some .boolean) :: ws) ({ frames := 1, cells := 0, slots := 0, locals := 14 } : Room)) (fun a U => a = #[(.ref a1), (.ref a2)] ∧ Z.Warmed39 U.vm ∧ U.heap = h0) (fun _ _ _ _ _ => True) (fun _ U o U' => ∃ v L, o = .returned v ∧ Qrm45 Z w0 w1 w2 w3 w4 w5 w6 w7 w8 w9 w10 w11 a1 a2 a3 a4 p5 p6 p7 ck8 ck9 h0 n0 v U'.heap L ∧ FrameEnd U o U' L ({ frames := 1, cells := 0, slots := 0, locals := 14 } : Room).cells ({ frames := 1, cells := 0, slots := 0, locals := 14 } : Room).slots) := by
  refine MetFree.of_bodySF (plainFor_of_name pn101) hisR ?_
  intro p e s m args below meth c s₁ Bd hml0 hP hK
  obtain ⟨rfl, hZ, hh⟩ := hP
  have hx := Bd.exec
  have hby := Bd.bytes
  have hml : c.maxLocals = 3 := hml0
  have hown : s.vm.findClass z0 = some m.cls := findClass_of_methodNamed Bd.named
  have hnm := (name_of_methodNamed Bd.named Bd.method).1
  have X0 : Stand p l e ({ frames := 1, cells := 0, slots := 0, locals := 14 } : Room) s m #[(.ref a1), (.ref a2)] below meth c s₁ [] 0 0 := Stand.of_body Bd
  have e0 : s₁.heap = h0 := by rw [← hh, Bd.state]; rfl
  have N0 := Fr.nil n0
  have pre0 : ∀ t, Steps p.tables e below (s₁.setTop (mkF m 0 #[.val (.ref a1), .val (.ref a2), .unset] [])) t → Steps p.tables e below (s₁.setTop (entryFrame m #[(.ref a1), (.ref a2)] 3)) t := fun t k => castTop (ef216 m a1 a2) k
  obtain ⟨T1, X1, e1, st1⟩ := instY X0 hx hZ hown (hw _ m14) e0 (Ins.self PE2) (g := (mkF m 8 #[.val (.ref a1), .val (.ref a2), .unset] [(.ref a2)])) rfl rfl (hb hby d13_8)
  obtain ⟨T2, X2, e2, st2⟩ := castY X1 hx hZ hown (hw _ m14) e1 (Ins.self PE2) (g := (mkF m 15 #[.val (.ref a1), .val (.ref a2), .unset] [(.ref a2)])) rfl rfl (hb hby d13_15)
  obtain ⟨T3, X3, e3, st3⟩ := getS2 X2 hx hZ hown (host := "") (Or.inl (hw _ m9)) Via.refl e2 (hS.2.2.2.2.2.2.2.2.2.2.2.2.2.2.2.2.2.2.2.2.2.2.2.2.2.2.2.2.2.2.1.ext O0.2) (g := (mkF m 19 #[.val (.ref a1), .val (.ref a2), .val (.ref a2)] [])) rfl (hb hby d13_19)
  obtain ⟨T4, X4, e4, st4⟩ := getF X3 hx hZ hown (host := "") (Or.inl (hw _ m29)) Via.refl e3 PF3 (g := (mkF m 26 #[.val (.ref a1), .val (.ref a2), .val (.ref a2)] [(.ref a1)])) rfl rfl (hb hby d13_26)
  obtain ⟨T5, X5, e5, st5⟩ := getF X4 hx hZ hown (host := "") (Or.inl (hw _ m29)) Via.refl e4 PF4 (g := (mkF m 30 #[.val (.ref a1), .val (.ref a2), .val (.ref a2)] [(.ref a2), (.int (0 : Int32))])) rfl rfl (hb hby d13_30)
  obtain ⟨T6, X6, e6, st6⟩ := getF X5 hx hZ hown (host := "") (Or.inl (hw _ m27)) Via.refl e5 PF5 (g := (mkF m 37 #[.val (.ref a1), .val (.ref a2), .val (.ref a2)] [(.ref a1)])) rfl rfl (hb hby d13_37)
  obtain ⟨T7, X7, e7, st7⟩ := getF X6 hx hZ hown (host := "") (Or.inl (hw _ m27)) Via.refl e6 PF6 (g := (mkF m 41 #[.val (.ref a1), .val (.ref a2), .val (.ref a2)] [(.ref a2), (.ref a3)])) rfl rfl (hb hby d13_41)
  obtain ⟨_, T8, L8, hQ8, X8, st8⟩ := own_callS X7 hx hZ (W := 0) hown (hw _ m105) (hw _ m106) (hw _ m12) (hw _ m107) (by decide) (rm44 l Z a0 hw hj w0 w1 w2 w3 w4 w5 w6 w7 w8 w9 w10 w11 hS [] a3 a4 p5 p6 ck8 p7 ck9 h0 n0 O0 PV7 PV8) e7 (g := (mkF m 44 #[.val (.ref a1), .val (.ref a2), .val (.ref a2)] [(.ref a4), (.ref a3)])) rfl (by rw [hml]; rfl) (argsL := [(.ref a3), (.ref a4)]) (rest := []) (lenOf pd220 rfl) rfl rfl (by show 2 * 0 + _ ≤ _; exact Nat.le_of_eq rfl) (hb hby d13_44) (by decide) (by decide) (by decide) (by decide)
  obtain ⟨rfl, N8q, e8⟩ := hQ8
  have N8 := Fr.app N0 N8q
  have e8' : T8.heap = h0 := e8
  obtain ⟨fs, hr, hrun, hended, hW, hsame⟩ := X8.leave (v := some (.int (0 : Int32))) (fun h => by rw [Bd.returns] at h; cases h)
  refine ⟨_, _, pre0 _ ?_, hrun, hended, _, _, rfl, ?_, ⟨_, rfl⟩, hW, hsame.mono (by decide) (by decide)⟩
  · show Steps p.tables e below (s₁.setTop (mkF m 0 #[.val (.ref a1), .val (.ref a2), .unset] [])) _
    refine XS.aloadN X0.here hx rfl (hb hby d13_0) rfl rfl ?_
    refine XS.aloadN X0.here hx rfl (hb hby d13_1) rfl rfl ?_
    refine Jvm.RoadKit.acmp (g := (mkF m 2 #[.val (.ref a1), .val (.ref a2), .unset] [(.ref a2), (.ref a1)])) X0 hx rfl rfl rfl (pc0 := 2) (pc' := 7) (same := false) rfl (hb hby d13_2) rfl (decide_eq_false fun q => pne1 (Value.ref.inj q)) (by decide) (by decide) ?_
    refine XS.aloadN X0.here hx rfl (hb hby d13_7) rfl rfl ?_
    show Steps p.tables e below (s₁.setTop (mkF m 8 #[.val (.ref a1), .val (.ref a2), .unset] [(.ref a2)])) _
    refine st1 _ ?_
    refine XS.ifNo X1.here hx rfl (hb hby d13_11) rfl ((if0 _ _).trans (feq (by decide : ¬ ((1 : Int32) = (0 : Int32)))).1) ?_
    refine XS.aloadN X1.here hx rfl (hb hby d13_14) rfl rfl ?_
    refine st2 _ ?_
    show Steps p.tables e below (T2.setTop (mkF m 18 #[.val (.ref a1), .val (.ref a2), .unset] [(.ref a2)])) _
    refine XS.astoreN X2.here hx rfl (hb hby d13_18) rfl rfl (l' := #[.val (.ref a1), .val (.ref a2), .val (.ref a2)]) rfl ?_
    refine st3 _ ?_
    refine XS.ifNo X3.here hx rfl (hb hby d13_22) rfl ((if0 _ _).trans (feq hS.2.2.2.2.2.2.2.2.2.2.2.2.2.2.2.2.2.2.2.2.2.2.2.2.2.2.2.2.2.2.2.1).1) ?_
    refine XS.aloadN X3.here hx rfl (hb hby d13_25) rfl rfl ?_
    show Steps p.tables e below (T3.setTop (mkF m 26 #[.val (.ref a1), .val (.ref a2), .val (.ref a2)] [(.ref a1)])) _
    refine st4 _ ?_
    refine XS.aloadN X4.here hx rfl (hb hby d13_29) rfl rfl ?_
    refine st5 _ ?_
    refine XS.icmpNo X5.here hx rfl (hb hby d13_33) rfl (teq (by decide : (0 : Int32) = (0 : Int32))).2 ?_
    show Steps p.tables e below (T5.setTop (mkF m 36 #[.val (.ref a1), .val (.ref a2), .val (.ref a2)] [])) _
    refine XS.aloadN X5.here hx rfl (hb hby d13_36) rfl rfl ?_
    refine st6 _ ?_
    refine XS.aloadN X6.here hx rfl (hb hby d13_40) rfl rfl ?_
    refine st7 _ ?_
    show Steps p.tables e below (T7.setTop (mkF m 44 #[.val (.ref a1), .val (.ref a2), .val (.ref a2)] [(.ref a4), (.ref a3)])) _
    refine st8 _ ?_
    refine XS.ifYes X8.here hx rfl (pc0 := 47) (pc' := 54) rfl (hb hby d13_47) rfl ((if0 _ _).trans (teq (by decide : (0 : Int32) = (0 : Int32))).1) (by decide) (by decide) ?_
    refine XS.iconst X8.here hx rfl (hb hby d13_54) ?_
    exact retN X8 hx (t := .boolean) Bd.returns (by simp) (hb hby d13_55) hr
  · show Qrm45 Z w0 w1 w2 w3 w4 w5 w6 w7 w8 w9 w10 w11 a1 a2 a3 a4 p5 p6 p7 ck8 ck9 h0 n0 _ T8.heap _
    rw [e8']
    exact ⟨rfl, N8, rfl⟩
def Qrm46 (Z : State) (w0 : Addr) (w1 : Addr) (w2 : Addr) (w3 : Addr) (w4 : Addr) (w5 : Addr) (w6 : Addr) (w7 : Addr) (w8 : Addr) (w9 : Addr) (w10 : Int32) (w11 : Value) (a1 : Addr) (a2 : Addr) (a3 : Addr) (p4 : Int32) (p5 : Int32) (p6 : Int32) (a7 : Addr) (a8 : Addr) (ck9 : ClassId) (ck10 : ClassId) (h0 : Heap) (n0 : Nat) (v : Option Value) (h : Heap) (L : List Loc) : Prop := v = some (.int (0 : Int32)) ∧ Fr n0 L ∧ h = h0
set_option maxRecDepth 65536 in
set_option maxHeartbeats 40000000 in
theorem rm46 (l : Launch) (Z : State) (a0 : Array Value) (hw : ∀ d ∈ tables_1, d.before a0 Z = true) (hj : ∀ d ∈ jdkStatics_1, d.before a0 Z = true) (w0 : Addr) (w1 : Addr) (w2 : Addr) (w3 : Addr) (w4 : Addr) (w5 : Addr) (w6 : Addr) (w7 : Addr) (w8 : Addr) (w9 : Addr) (w10 : Int32) (w11 : Value) (hS : SF Z w0 w1 w2 w3 w4 w5 w6 w7 w8 w9 w10 w11) (ws : List Jvm.Cond) (a1 : Addr) (a2 : Addr) (a3 : Addr) (p4 : Int32) (p5 : Int32) (p6 : Int32) (a7 : Addr) (a8 : Addr) (ck9 : ClassId) (ck10 : ClassId) (h0 : Heap) (n0 : Nat) (O0 : Old Z n0 h0) (PF1 : Fld Z h0 a1 z1 "type" z3 (.ref w8)) (PF2 : Fld Z h0 a1 z1 "text" z8 (.ref a3)) (pne3 : a3 ≠ a2) (PE4 : Exa Z h0 a2 z0) (PF5 : Fld Z h0 a3 z0 "coder" "B" (.int (0 : Int32))) (PF6 : Fld Z h0 a2 z0 "coder" "B" (.int (0 : Int32))) (PF7 : Fld Z h0 a3 z0 "value" "[B" (.ref a7)) (PF8 : Fld Z h0 a2 z0 "value" "[B" (.ref a8)) (PV9 : Arv Z h0 a7 ck9 .byte (2 : Int32) [(.int p4), (.int p5)] (.int (0 : Int32))) (PV10 : Arv Z h0 a8 ck10 .byte (1 : Int32) [(.int p6)] (.int (0 : Int32))) (PE11 : Exa Z h0 a3 z0) :
    MetFree l (⟨z1, "isSymbol", z6⟩ : MethodName) (head1 (Jvm.Cond.code (⟨z1, "isSymbol", z6⟩ : MethodName) prog_65_method_3_code 2 (some .boolean) :: ws) ({ frames := 2, cells := 0, slots := 0, locals := 28 } : Room)) (fun a U => a = #[(.ref a1), (.ref a2)] ∧ Z.Warmed39 U.vm ∧ U.heap = h0) (fun _ _ _ _ _ => True) (fun _ U o U' => ∃ v L, o = .returned v ∧ Qrm46 Z w0 w1 w2 w3 w4 w5 w6 w7 w8 w9 w10 w11 a1 a2 a3 p4 p5 p6 a7 a8 ck9 ck10 h0 n0 v U'.heap L ∧ FrameEnd U o U' L ({ frames := 2, cells := 0, slots := 0, locals := 28 } : Room).cells ({ frames := 2, cells := 0, slots := 0, locals := 28 } : Room).slots) := by
  refine MetFree.of_bodySF (plainFor_of_name pn162) hisR ?_
  intro p e s m args below meth c s₁ Bd hml0 hP hK
  obtain ⟨rfl, hZ, hh⟩ := hP
  have hx := Bd.exec
  have hby := Bd.bytes
  have hml : c.maxLocals = 2 := hml0
  have hown : s.vm.findClass z1 = some m.cls := findClass_of_methodNamed Bd.named
  have hnm := (name_of_methodNamed Bd.named Bd.method).1
  have X0 : Stand p l e ({ frames := 2, cells := 0, slots := 0, locals := 28 } : Room) s m #[(.ref a1), (.ref a2)] below meth c s₁ [] 0 0 := Stand.of_body Bd
  have e0 : s₁.heap = h0 := by rw [← hh, Bd.state]; rfl
  have N0 := Fr.nil n0
  have pre0 : ∀ t, Steps p.tables e below (s₁.setTop (mkF m 0 #[.val (.ref a1), .val (.ref a2)] [])) t → Steps p.tables e below (s₁.setTop (entryFrame m #[(.ref a1), (.ref a2)] 2)) t := fun t k => castTop (ef106 m a1 a2) k
  obtain ⟨T1, X1, e1, st1⟩ := getF X0 hx hZ hown (host := "") (Or.inl (hw _ m60)) Via.refl e0 PF1 (g := (mkF m 1 #[.val (.ref a1), .val (.ref a2)] [(.ref a1)])) rfl rfl (hb hby d12_1)
  obtain ⟨T2, X2, e2, st2⟩ := getS2 X1 hx hZ hown (host := "") (Or.inl (hw _ m73)) Via.refl e1 (hS.2.2.2.2.2.2.2.2.2.2.2.2.2.2.2.2.2.2.2.2.2.2.2.2.1.ext O0.2) (g := (mkF m 4 #[.val (.ref a1), .val (.ref a2)] [(.ref w8)])) rfl (hb hby d12_4)
  obtain ⟨T3, X3, e3, st3⟩ := getF X2 hx hZ hown (host := "") (Or.inl (hw _ m62)) Via.refl e2 PF2 (g := (mkF m 11 #[.val (.ref a1), .val (.ref a2)] [(.ref a1)])) rfl rfl (hb hby d12_11)
  obtain ⟨_, T4, L4, hQ4, X4, st4⟩ := own_virtual X3 hx hZ (W := 0) hown (hw _ m80) (hw _ m81) (notFace_of_selects (args := #[]) (mvT hZ (hw _ m83))) (hw _ m83) (hw _ m82) (hw _ m7) (hw _ m84) (by decide) (rm45 l Z a0 hw hj w0 w1 w2 w3 w4 w5 w6 w7 w8 w9 w10 w11 hS [] a3 a2 a7 a8 p4 p5 p6 ck9 ck10 h0 n0 O0 pne3 PE4 PF5 PF6 PF7 PF8 PV9 PV10) e3 PE11 (g := (mkF m 15 #[.val (.ref a1), .val (.ref a2)] [(.ref a2), (.ref a3)])) rfl (by rw [hml]; rfl) (argsL := [(.ref a2)]) (rest := []) (lenOf pd227 rfl) rfl rfl (by show 2 * 0 + _ ≤ _; exact Nat.le_of_eq rfl) (hb hby d12_15) (by decide) (by decide) (by decide) (by decide)
  obtain ⟨rfl, N4q, e4⟩ := hQ4
  have N4 := Fr.app N0 N4q
  have e4' : T4.heap = h0 := e4
  obtain ⟨fs, hr, hrun, hended, hW, hsame⟩ := X4.leave (v := some (.int (0 : Int32))) (fun h => by rw [Bd.returns] at h; cases h)
  refine ⟨_, _, pre0 _ ?_, hrun, hended, _, _, rfl, ?_, ⟨_, rfl⟩, hW, hsame.mono (by decide) (by decide)⟩
  · show Steps p.tables e below (s₁.setTop (mkF m 0 #[.val (.ref a1), .val (.ref a2)] [])) _
    refine XS.aloadN X0.here hx rfl (hb hby d12_0) rfl rfl ?_
    refine st1 _ ?_
    refine st2 _ ?_
    refine Jvm.RoadKit.acmp (g := (mkF m 7 #[.val (.ref a1), .val (.ref a2)] [(.ref w8), (.ref w8)])) X2 hx rfl rfl rfl (pc0 := 7) (pc' := 10) (same := true) rfl (hb hby d12_7) rfl (decide_eq_true rfl) (by decide) (by decide) ?_
    show Steps p.tables e below (T2.setTop (mkF m 10 #[.val (.ref a1), .val (.ref a2)] [])) _
    refine XS.aloadN X2.here hx rfl (hb hby d12_10) rfl rfl ?_
    refine st3 _ ?_
    refine XS.aloadN X3.here hx rfl (hb hby d12_14) rfl rfl ?_
    refine st4 _ ?_
    show Steps p.tables e below (T4.setTop (mkF m 18 #[.val (.ref a1), .val (.ref a2)] [(.int (0 : Int32))])) _
    refine XS.ifYes X4.here hx rfl (pc0 := 18) (pc' := 25) rfl (hb hby d12_18) rfl ((if0 _ _).trans (teq (by decide : (0 : Int32) = (0 : Int32))).1) (by decide) (by decide) ?_
    refine XS.iconst X4.here hx rfl (hb hby d12_25) ?_
    exact retN X4 hx (t := .boolean) Bd.returns (by simp) (hb hby d12_26) hr
  · show Qrm46 Z w0 w1 w2 w3 w4 w5 w6 w7 w8 w9 w10 w11 a1 a2 a3 p4 p5 p6 a7 a8 ck9 ck10 h0 n0 _ T4.heap _
    rw [e4']
    exact ⟨rfl, N4, rfl⟩
def Qrm47 (Z : State) (w0 : Addr) (w1 : Addr) (w2 : Addr) (w3 : Addr) (w4 : Addr) (w5 : Addr) (w6 : Addr) (w7 : Addr) (w8 : Addr) (w9 : Addr) (w10 : Int32) (w11 : Value) (a1 : Addr) (a2 : Addr) (p3 : Int32) (p4 : Int32) (ck5 : ClassId) (p6 : Int32) (p7 : Int32) (ck8 : ClassId) (h0 : Heap) (n0 : Nat) (v : Option Value) (h : Heap) (L : List Loc) : Prop := v = some (.int (1 : Int32)) ∧ Fr n0 L ∧ h = h0
set_option maxRecDepth 65536 in
set_option maxHeartbeats 40000000 in
theorem rm47 (l : Launch) (Z : State) (a0 : Array Value) (hw : ∀ d ∈ tables_1, d.before a0 Z = true) (hj : ∀ d ∈ jdkStatics_1, d.before a0 Z = true) (w0 : Addr) (w1 : Addr) (w2 : Addr) (w3 : Addr) (w4 : Addr) (w5 : Addr) (w6 : Addr) (w7 : Addr) (w8 : Addr) (w9 : Addr) (w10 : Int32) (w11 : Value) (hS : SF Z w0 w1 w2 w3 w4 w5 w6 w7 w8 w9 w10 w11) (ws : List Jvm.Cond) (a1 : Addr) (a2 : Addr) (p3 : Int32) (p4 : Int32) (ck5 : ClassId) (p6 : Int32) (p7 : Int32) (ck8 : ClassId) (h0 : Heap) (n0 : Nat) (O0 : Old Z n0 h0) (PV1 : Arv Z h0 a1 ck5 .byte (2 : Int32) [(.int p3), (.int p4)] (.int (0 : Int32))) (PV2 : Arv Z h0 a2 ck8 .byte (2 : Int32) [(.int p6), (.int p7)] (.int (0 : Int32))) (hc3 : p3 = p6) (hc4 : p4 = p7) :
    MetFree l (⟨z5, "equals", "([B[B)Z"⟩ : MethodName) (head1 (Jvm.Cond.code (⟨z5, "equals", "([B[B)Z"⟩ : MethodName) jdk_43_method_13_code 3 (some .boolean) :: ws) ({ frames := 0, cells := 0, slots := 0, locals := 0 } : Room)) (fun a U => a = #[(.ref a1), (.ref a2)] ∧ Z.Warmed39 U.vm ∧ U.heap = h0) (fun _ _ _ _ _ => True) (fun _ U o U' => ∃ v L, o = .returned v ∧ Qrm47 Z w0 w1 w2 w3 w4 w5 w6 w7 w8 w9 w10 w11 a1 a2 p3 p4 ck5 p6 p7 ck8 h0 n0 v U'.heap L ∧ FrameEnd U o U' L ({ frames := 0, cells := 0, slots := 0, locals := 0 } : Room).cells ({ frames := 0, cells := 0, slots := 0, locals := 0 } : Room).slots) := by
  refine MetFree.of_bodySF (plainFor_of_name pn217) hisR ?_
  intro p e s m args below meth c s₁ Bd hml0 hP hK
  obtain ⟨rfl, hZ, hh⟩ := hP
  have hx := Bd.exec
  have hby := Bd.bytes
  have hml : c.maxLocals = 3 := hml0
  have hown : s.vm.findClass z5 = some m.cls := findClass_of_methodNamed Bd.named
  have hnm := (name_of_methodNamed Bd.named Bd.method).1
  have X0 : Stand p l e ({ frames := 0, cells := 0, slots := 0, locals := 0 } : Room) s m #[(.ref a1), (.ref a2)] below meth c s₁ [] 0 0 := Stand.of_body Bd
  have e0 : s₁.heap = h0 := by rw [← hh, Bd.state]; rfl
  have N0 := Fr.nil n0
  have pre0 : ∀ t, Steps p.tables e below (s₁.setTop (mkF m 0 #[.val (.ref a1), .val (.ref a2), .unset] [])) t → Steps p.tables e below (s₁.setTop (entryFrame m #[(.ref a1), (.ref a2)] 3)) t := fun t k => castTop (ef216 m a1 a2) k
  obtain ⟨fs, hr, hrun, hended, hW, hsame⟩ := X0.leave (v := some (.int (1 : Int32))) (fun h => by rw [Bd.returns] at h; cases h)
  refine ⟨_, _, pre0 _ ?_, hrun, hended, _, _, rfl, ?_, ⟨_, rfl⟩, hW, hsame.mono (by decide) (by decide)⟩
  · show Steps p.tables e below (s₁.setTop (mkF m 0 #[.val (.ref a1), .val (.ref a2), .unset] [])) _
    refine XS.aloadN X0.here hx rfl (hb hby d17_0) rfl rfl ?_
    refine own_alen X0 hx hZ e0 PV1 (g := (mkF m 1 #[.val (.ref a1), .val (.ref a2), .unset] [(.ref a1)])) rfl rfl (hb hby d17_1) ?_
    refine XS.aloadN X0.here hx rfl (hb hby d17_2) rfl rfl ?_
    refine own_alen X0 hx hZ e0 PV2 (g := (mkF m 3 #[.val (.ref a1), .val (.ref a2), .unset] [(.ref a2), (.int (2 : Int32))])) rfl rfl (hb hby d17_3) ?_
    show Steps p.tables e below (s₁.setTop (mkF m 4 #[.val (.ref a1), .val (.ref a2), .unset] [(.int (2 : Int32)), (.int (2 : Int32))])) _
    refine XS.icmpNo X0.here hx rfl (hb hby d17_4) rfl (teq (by decide : (2 : Int32) = (2 : Int32))).2 ?_
    refine XS.iconst X0.here hx rfl (hb hby d17_7) ?_
    refine XS.istoreN X0.here hx rfl (hb hby d17_8) rfl (l' := #[.val (.ref a1), .val (.ref a2), .val (.int (0 : Int32))]) rfl ?_
    refine XS.iloadN X0.here hx rfl (hb hby d17_9) rfl ?_
    show Steps p.tables e below (s₁.setTop (mkF m 10 #[.val (.ref a1), .val (.ref a2), .val (.int (0 : Int32))] [(.int (0 : Int32))])) _
    refine XS.aloadN X0.here hx rfl (hb hby d17_10) rfl rfl ?_
    refine own_alen X0 hx hZ e0 PV1 (g := (mkF m 11 #[.val (.ref a1), .val (.ref a2), .val (.int (0 : Int32))] [(.ref a1), (.int (0 : Int32))])) rfl rfl (hb hby d17_11) ?_
    refine XS.icmpNo X0.here hx rfl (hb hby d17_12) rfl (tlt (by decide : (0 : Int32) < (2 : Int32))).2.1 ?_
    refine XS.aloadN X0.here hx rfl (hb hby d17_15) rfl rfl ?_
    show Steps p.tables e below (s₁.setTop (mkF m 16 #[.val (.ref a1), .val (.ref a2), .val (.int (0 : Int32))] [(.ref a1)])) _
    refine XS.iloadN X0.here hx rfl (hb hby d17_16) rfl ?_
    refine own_baloadB X0 hx hZ e0 PV1 (j := (0 : Int32)) (by decide) (v := (.int p3)) rfl (g := (mkF m 17 #[.val (.ref a1), .val (.ref a2), .val (.int (0 : Int32))] [(.int (0 : Int32)), (.ref a1)])) rfl rfl (hb hby d17_17) ?_
    refine XS.aloadN X0.here hx rfl (hb hby d17_18) rfl rfl ?_
    refine XS.iloadN X0.here hx rfl (hb hby d17_19) rfl ?_
    show Steps p.tables e below (s₁.setTop (mkF m 20 #[.val (.ref a1), .val (.ref a2), .val (.int (0 : Int32))] [(.int (0 : Int32)), (.ref a2), (.int p3)])) _
    refine own_baloadB X0 hx hZ e0 PV2 (j := (0 : Int32)) (by decide) (v := (.int p6)) rfl (g := (mkF m 20 #[.val (.ref a1), .val (.ref a2), .val (.int (0 : Int32))] [(.int (0 : Int32)), (.ref a2), (.int p3)])) rfl rfl (hb hby d17_20) ?_
    refine XS.icmpYes X0.here hx rfl (pc0 := 21) (pc' := 26) rfl (hb hby d17_21) rfl (teq hc3).1 (by decide) (by decide) ?_
    refine Own.iinc X0.here hx rfl (hb hby d17_26) rfl (by decide : ((0 : Int32) + (1 : Int32)) = (1 : Int32)) (l' := #[.val (.ref a1), .val (.ref a2), .val (.int (1 : Int32))]) rfl ?_
    refine XS.goto X0.here hx rfl (pc0 := 29) (pc' := 9) rfl (hb hby d17_29) (by decide) (by decide) ?_
    show Steps p.tables e below (s₁.setTop (mkF m 9 #[.val (.ref a1), .val (.ref a2), .val (.int (1 : Int32))] [])) _
    refine XS.iloadN X0.here hx rfl (hb hby d17_9) rfl ?_
    refine XS.aloadN X0.here hx rfl (hb hby d17_10) rfl rfl ?_
    refine own_alen X0 hx hZ e0 PV1 (g := (mkF m 11 #[.val (.ref a1), .val (.ref a2), .val (.int (1 : Int32))] [(.ref a1), (.int (1 : Int32))])) rfl rfl (hb hby d17_11) ?_
    refine XS.icmpNo X0.here hx rfl (hb hby d17_12) rfl (tlt (by decide : (1 : Int32) < (2 : Int32))).2.1 ?_
    show Steps p.tables e below (s₁.setTop (mkF m 15 #[.val (.ref a1), .val (.ref a2), .val (.int (1 : Int32))] [])) _
    refine XS.aloadN X0.here hx rfl (hb hby d17_15) rfl rfl ?_
    refine XS.iloadN X0.here hx rfl (hb hby d17_16) rfl ?_
    refine own_baloadB X0 hx hZ e0 PV1 (j := (1 : Int32)) (by decide) (v := (.int p4)) rfl (g := (mkF m 17 #[.val (.ref a1), .val (.ref a2), .val (.int (1 : Int32))] [(.int (1 : Int32)), (.ref a1)])) rfl rfl (hb hby d17_17) ?_
    refine XS.aloadN X0.here hx rfl (hb hby d17_18) rfl rfl ?_
    show Steps p.tables e below (s₁.setTop (mkF m 19 #[.val (.ref a1), .val (.ref a2), .val (.int (1 : Int32))] [(.ref a2), (.int p4)])) _
    refine XS.iloadN X0.here hx rfl (hb hby d17_19) rfl ?_
    refine own_baloadB X0 hx hZ e0 PV2 (j := (1 : Int32)) (by decide) (v := (.int p7)) rfl (g := (mkF m 20 #[.val (.ref a1), .val (.ref a2), .val (.int (1 : Int32))] [(.int (1 : Int32)), (.ref a2), (.int p4)])) rfl rfl (hb hby d17_20) ?_
    refine XS.icmpYes X0.here hx rfl (pc0 := 21) (pc' := 26) rfl (hb hby d17_21) rfl (teq hc4).1 (by decide) (by decide) ?_
    refine Own.iinc X0.here hx rfl (hb hby d17_26) rfl (by decide : ((1 : Int32) + (1 : Int32)) = (2 : Int32)) (l' := #[.val (.ref a1), .val (.ref a2), .val (.int (2 : Int32))]) rfl ?_
    show Steps p.tables e below (s₁.setTop (mkF m 29 #[.val (.ref a1), .val (.ref a2), .val (.int (2 : Int32))] [])) _
    refine XS.goto X0.here hx rfl (pc0 := 29) (pc' := 9) rfl (hb hby d17_29) (by decide) (by decide) ?_
    refine XS.iloadN X0.here hx rfl (hb hby d17_9) rfl ?_
    refine XS.aloadN X0.here hx rfl (hb hby d17_10) rfl rfl ?_
    refine own_alen X0 hx hZ e0 PV1 (g := (mkF m 11 #[.val (.ref a1), .val (.ref a2), .val (.int (2 : Int32))] [(.ref a1), (.int (2 : Int32))])) rfl rfl (hb hby d17_11) ?_
    show Steps p.tables e below (s₁.setTop (mkF m 12 #[.val (.ref a1), .val (.ref a2), .val (.int (2 : Int32))] [(.int (2 : Int32)), (.int (2 : Int32))])) _
    refine XS.icmpYes X0.here hx rfl (pc0 := 12) (pc' := 32) rfl (hb hby d17_12) rfl (flt (by decide : ¬ ((2 : Int32) < (2 : Int32)))).2.1 (by decide) (by decide) ?_
    refine XS.iconst X0.here hx rfl (hb hby d17_32) ?_
    exact retN X0 hx (t := .boolean) Bd.returns (by simp) (hb hby d17_33) hr
  · show Qrm47 Z w0 w1 w2 w3 w4 w5 w6 w7 w8 w9 w10 w11 a1 a2 p3 p4 ck5 p6 p7 ck8 h0 n0 _ s₁.heap _
    rw [e0]
    exact ⟨rfl, N0, rfl⟩
def Qrm48 (Z : State) (w0 : Addr) (w1 : Addr) (w2 : Addr) (w3 : Addr) (w4 : Addr) (w5 : Addr) (w6 : Addr) (w7 : Addr) (w8 : Addr) (w9 : Addr) (w10 : Int32) (w11 : Value) (a1 : Addr) (a2 : Addr) (a3 : Addr) (a4 : Addr) (p5 : Int32) (p6 : Int32) (p7 : Int32) (p8 : Int32) (ck9 : ClassId) (ck10 : ClassId) (h0 : Heap) (n0 : Nat) (v : Option Value) (h : Heap) (L : List Loc) : Prop := v = some (.int (1 : Int32)) ∧ Fr n0 L ∧ h = h0
set_option maxRecDepth 65536 in
set_option maxHeartbeats 40000000 in
theorem rm48 (l : Launch) (Z : State) (a0 : Array Value) (hw : ∀ d ∈ tables_1, d.before a0 Z = true) (hj : ∀ d ∈ jdkStatics_1, d.before a0 Z = true) (w0 : Addr) (w1 : Addr) (w2 : Addr) (w3 : Addr) (w4 : Addr) (w5 : Addr) (w6 : Addr) (w7 : Addr) (w8 : Addr) (w9 : Addr) (w10 : Int32) (w11 : Value) (hS : SF Z w0 w1 w2 w3 w4 w5 w6 w7 w8 w9 w10 w11) (ws : List Jvm.Cond) (a1 : Addr) (a2 : Addr) (a3 : Addr) (a4 : Addr) (p5 : Int32) (p6 : Int32) (p7 : Int32) (p8 : Int32) (ck9 : ClassId) (ck10 : ClassId) (h0 : Heap) (n0 : Nat) (O0 : Old Z n0 h0) (pne1 : a1 ≠ a2) (PE2 : Exa Z h0 a2 z0) (PF3 : Fld Z h0 a1 z0 "coder" "B" (.int (0 : Int32))) (PF4 : Fld Z h0 a2 z0 "coder" "B" (.int (0 : Int32))) (PF5 : Fld Z h0 a1 z0 "value" "[B" (.ref a3)) (PF6 : Fld Z h0 a2 z0 "value" "[B" (.ref a4)) (PV7 : Arv Z h0 a3 ck9 .byte (2 : Int32) [(.int p5), (.int p6)] (.int (0 : Int32))) (PV8 : Arv Z h0 a4 ck10 .byte (2 : Int32) [(.int p7), (.int p8)] (.int (0 : Int32))) (hc9 : p5 = p7) (hc10 : p6 = p8) :
    MetFree l (⟨z0, "equals", z7⟩ : MethodName) (head1 (Jvm.Cond.code (⟨z0, "equals", z7⟩ : MethodName) jdk_42_method_66_code 3 (some .boolean) :: ws) ({ frames := 1, cells := 0, slots := 0, locals := 14 } : Room)) (fun a U => a = #[(.ref a1), (.ref a2)] ∧ Z.Warmed39 U.vm ∧ U.heap = h0) (fun _ _ _ _ _ => True) (fun _ U o U' => ∃ v L, o = .returned v ∧ Qrm48 Z w0 w1 w2 w3 w4 w5 w6 w7 w8 w9 w10 w11 a1 a2 a3 a4 p5 p6 p7 p8 ck9 ck10 h0 n0 v U'.heap L ∧ FrameEnd U o U' L ({ frames := 1, cells := 0, slots := 0, locals := 14 } : Room).cells ({ frames := 1, cells := 0, slots := 0, locals := 14 } : Room).slots) := by
  refine MetFree.of_bodySF (plainFor_of_name pn101) hisR ?_
  intro p e s m args below meth c s₁ Bd hml0 hP hK
  obtain ⟨rfl, hZ, hh⟩ := hP
  have hx := Bd.exec
  have hby := Bd.bytes
  have hml : c.maxLocals = 3 := hml0
  have hown : s.vm.findClass z0 = some m.cls := findClass_of_methodNamed Bd.named
  have hnm := (name_of_methodNamed Bd.named Bd.method).1
  have X0 : Stand p l e ({ frames := 1, cells := 0, slots := 0, locals := 14 } : Room) s m #[(.ref a1), (.ref a2)] below meth c s₁ [] 0 0 := Stand.of_body Bd
  have e0 : s₁.heap = h0 := by rw [← hh, Bd.state]; rfl
  have N0 := Fr.nil n0
  have pre0 : ∀ t, Steps p.tables e below (s₁.setTop (mkF m 0 #[.val (.ref a1), .val (.ref a2), .unset] [])) t → Steps p.tables e below (s₁.setTop (entryFrame m #[(.ref a1), (.ref a2)] 3)) t := fun t k => castTop (ef216 m a1 a2) k
  obtain ⟨T1, X1, e1, st1⟩ := instY X0 hx hZ hown (hw _ m14) e0 (Ins.self PE2) (g := (mkF m 8 #[.val (.ref a1), .val (.ref a2), .unset] [(.ref a2)])) rfl rfl (hb hby d13_8)
  obtain ⟨T2, X2, e2, st2⟩ := castY X1 hx hZ hown (hw _ m14) e1 (Ins.self PE2) (g := (mkF m 15 #[.val (.ref a1), .val (.ref a2), .unset] [(.ref a2)])) rfl rfl (hb hby d13_15)
  obtain ⟨T3, X3, e3, st3⟩ := getS2 X2 hx hZ hown (host := "") (Or.inl (hw _ m9)) Via.refl e2 (hS.2.2.2.2.2.2.2.2.2.2.2.2.2.2.2.2.2.2.2.2.2.2.2.2.2.2.2.2.2.2.1.ext O0.2) (g := (mkF m 19 #[.val (.ref a1), .val (.ref a2), .val (.ref a2)] [])) rfl (hb hby d13_19)
  obtain ⟨T4, X4, e4, st4⟩ := getF X3 hx hZ hown (host := "") (Or.inl (hw _ m29)) Via.refl e3 PF3 (g := (mkF m 26 #[.val (.ref a1), .val (.ref a2), .val (.ref a2)] [(.ref a1)])) rfl rfl (hb hby d13_26)
  obtain ⟨T5, X5, e5, st5⟩ := getF X4 hx hZ hown (host := "") (Or.inl (hw _ m29)) Via.refl e4 PF4 (g := (mkF m 30 #[.val (.ref a1), .val (.ref a2), .val (.ref a2)] [(.ref a2), (.int (0 : Int32))])) rfl rfl (hb hby d13_30)
  obtain ⟨T6, X6, e6, st6⟩ := getF X5 hx hZ hown (host := "") (Or.inl (hw _ m27)) Via.refl e5 PF5 (g := (mkF m 37 #[.val (.ref a1), .val (.ref a2), .val (.ref a2)] [(.ref a1)])) rfl rfl (hb hby d13_37)
  obtain ⟨T7, X7, e7, st7⟩ := getF X6 hx hZ hown (host := "") (Or.inl (hw _ m27)) Via.refl e6 PF6 (g := (mkF m 41 #[.val (.ref a1), .val (.ref a2), .val (.ref a2)] [(.ref a2), (.ref a3)])) rfl rfl (hb hby d13_41)
  obtain ⟨_, T8, L8, hQ8, X8, st8⟩ := own_callS X7 hx hZ (W := 0) hown (hw _ m105) (hw _ m106) (hw _ m12) (hw _ m107) (by decide) (rm47 l Z a0 hw hj w0 w1 w2 w3 w4 w5 w6 w7 w8 w9 w10 w11 hS [] a3 a4 p5 p6 ck9 p7 p8 ck10 h0 n0 O0 PV7 PV8 hc9 hc10) e7 (g := (mkF m 44 #[.val (.ref a1), .val (.ref a2), .val (.ref a2)] [(.ref a4), (.ref a3)])) rfl (by rw [hml]; rfl) (argsL := [(.ref a3), (.ref a4)]) (rest := []) (lenOf pd220 rfl) rfl rfl (by show 2 * 0 + _ ≤ _; exact Nat.le_of_eq rfl) (hb hby d13_44) (by decide) (by decide) (by decide) (by decide)
  obtain ⟨rfl, N8q, e8⟩ := hQ8
  have N8 := Fr.app N0 N8q
  have e8' : T8.heap = h0 := e8
  obtain ⟨fs, hr, hrun, hended, hW, hsame⟩ := X8.leave (v := some (.int (1 : Int32))) (fun h => by rw [Bd.returns] at h; cases h)
  refine ⟨_, _, pre0 _ ?_, hrun, hended, _, _, rfl, ?_, ⟨_, rfl⟩, hW, hsame.mono (by decide) (by decide)⟩
  · show Steps p.tables e below (s₁.setTop (mkF m 0 #[.val (.ref a1), .val (.ref a2), .unset] [])) _
    refine XS.aloadN X0.here hx rfl (hb hby d13_0) rfl rfl ?_
    refine XS.aloadN X0.here hx rfl (hb hby d13_1) rfl rfl ?_
    refine Jvm.RoadKit.acmp (g := (mkF m 2 #[.val (.ref a1), .val (.ref a2), .unset] [(.ref a2), (.ref a1)])) X0 hx rfl rfl rfl (pc0 := 2) (pc' := 7) (same := false) rfl (hb hby d13_2) rfl (decide_eq_false fun q => pne1 (Value.ref.inj q)) (by decide) (by decide) ?_
    refine XS.aloadN X0.here hx rfl (hb hby d13_7) rfl rfl ?_
    show Steps p.tables e below (s₁.setTop (mkF m 8 #[.val (.ref a1), .val (.ref a2), .unset] [(.ref a2)])) _
    refine st1 _ ?_
    refine XS.ifNo X1.here hx rfl (hb hby d13_11) rfl ((if0 _ _).trans (feq (by decide : ¬ ((1 : Int32) = (0 : Int32)))).1) ?_
    refine XS.aloadN X1.here hx rfl (hb hby d13_14) rfl rfl ?_
    refine st2 _ ?_
    show Steps p.tables e below (T2.setTop (mkF m 18 #[.val (.ref a1), .val (.ref a2), .unset] [(.ref a2)])) _
    refine XS.astoreN X2.here hx rfl (hb hby d13_18) rfl rfl (l' := #[.val (.ref a1), .val (.ref a2), .val (.ref a2)]) rfl ?_
    refine st3 _ ?_
    refine XS.ifNo X3.here hx rfl (hb hby d13_22) rfl ((if0 _ _).trans (feq hS.2.2.2.2.2.2.2.2.2.2.2.2.2.2.2.2.2.2.2.2.2.2.2.2.2.2.2.2.2.2.2.1).1) ?_
    refine XS.aloadN X3.here hx rfl (hb hby d13_25) rfl rfl ?_
    show Steps p.tables e below (T3.setTop (mkF m 26 #[.val (.ref a1), .val (.ref a2), .val (.ref a2)] [(.ref a1)])) _
    refine st4 _ ?_
    refine XS.aloadN X4.here hx rfl (hb hby d13_29) rfl rfl ?_
    refine st5 _ ?_
    refine XS.icmpNo X5.here hx rfl (hb hby d13_33) rfl (teq (by decide : (0 : Int32) = (0 : Int32))).2 ?_
    show Steps p.tables e below (T5.setTop (mkF m 36 #[.val (.ref a1), .val (.ref a2), .val (.ref a2)] [])) _
    refine XS.aloadN X5.here hx rfl (hb hby d13_36) rfl rfl ?_
    refine st6 _ ?_
    refine XS.aloadN X6.here hx rfl (hb hby d13_40) rfl rfl ?_
    refine st7 _ ?_
    show Steps p.tables e below (T7.setTop (mkF m 44 #[.val (.ref a1), .val (.ref a2), .val (.ref a2)] [(.ref a4), (.ref a3)])) _
    refine st8 _ ?_
    refine XS.ifNo X8.here hx rfl (hb hby d13_47) rfl ((if0 _ _).trans (feq (by decide : ¬ ((1 : Int32) = (0 : Int32)))).1) ?_
    refine XS.iconst X8.here hx rfl (hb hby d13_50) ?_
    refine XS.goto X8.here hx rfl (pc0 := 51) (pc' := 55) rfl (hb hby d13_51) (by decide) (by decide) ?_
    show Steps p.tables e below (T8.setTop (mkF m 55 #[.val (.ref a1), .val (.ref a2), .val (.ref a2)] [(.int (1 : Int32))])) _
    exact retN X8 hx (t := .boolean) Bd.returns (by simp) (hb hby d13_55) hr
  · show Qrm48 Z w0 w1 w2 w3 w4 w5 w6 w7 w8 w9 w10 w11 a1 a2 a3 a4 p5 p6 p7 p8 ck9 ck10 h0 n0 _ T8.heap _
    rw [e8']
    exact ⟨rfl, N8, rfl⟩
def Qrm49 (Z : State) (w0 : Addr) (w1 : Addr) (w2 : Addr) (w3 : Addr) (w4 : Addr) (w5 : Addr) (w6 : Addr) (w7 : Addr) (w8 : Addr) (w9 : Addr) (w10 : Int32) (w11 : Value) (a1 : Addr) (a2 : Addr) (a3 : Addr) (p4 : Int32) (p5 : Int32) (p6 : Int32) (p7 : Int32) (a8 : Addr) (a9 : Addr) (ck10 : ClassId) (ck11 : ClassId) (h0 : Heap) (n0 : Nat) (v : Option Value) (h : Heap) (L : List Loc) : Prop := v = some (.int (1 : Int32)) ∧ Fr n0 L ∧ h = h0
set_option maxRecDepth 65536 in
set_option maxHeartbeats 40000000 in
theorem rm49 (l : Launch) (Z : State) (a0 : Array Value) (hw : ∀ d ∈ tables_1, d.before a0 Z = true) (hj : ∀ d ∈ jdkStatics_1, d.before a0 Z = true) (w0 : Addr) (w1 : Addr) (w2 : Addr) (w3 : Addr) (w4 : Addr) (w5 : Addr) (w6 : Addr) (w7 : Addr) (w8 : Addr) (w9 : Addr) (w10 : Int32) (w11 : Value) (hS : SF Z w0 w1 w2 w3 w4 w5 w6 w7 w8 w9 w10 w11) (ws : List Jvm.Cond) (a1 : Addr) (a2 : Addr) (a3 : Addr) (p4 : Int32) (p5 : Int32) (p6 : Int32) (p7 : Int32) (a8 : Addr) (a9 : Addr) (ck10 : ClassId) (ck11 : ClassId) (h0 : Heap) (n0 : Nat) (O0 : Old Z n0 h0) (PF1 : Fld Z h0 a1 z1 "type" z3 (.ref w8)) (PF2 : Fld Z h0 a1 z1 "text" z8 (.ref a3)) (pne3 : a3 ≠ a2) (PE4 : Exa Z h0 a2 z0) (PF5 : Fld Z h0 a3 z0 "coder" "B" (.int (0 : Int32))) (PF6 : Fld Z h0 a2 z0 "coder" "B" (.int (0 : Int32))) (PF7 : Fld Z h0 a3 z0 "value" "[B" (.ref a8)) (PF8 : Fld Z h0 a2 z0 "value" "[B" (.ref a9)) (PV9 : Arv Z h0 a8 ck10 .byte (2 : Int32) [(.int p4), (.int p5)] (.int (0 : Int32))) (PV10 : Arv Z h0 a9 ck11 .byte (2 : Int32) [(.int p6), (.int p7)] (.int (0 : Int32))) (hc11 : p4 = p6) (hc12 : p5 = p7) (PE13 : Exa Z h0 a3 z0) :
    MetFree l (⟨z1, "isSymbol", z6⟩ : MethodName) (head1 (Jvm.Cond.code (⟨z1, "isSymbol", z6⟩ : MethodName) prog_65_method_3_code 2 (some .boolean) :: ws) ({ frames := 2, cells := 0, slots := 0, locals := 28 } : Room)) (fun a U => a = #[(.ref a1), (.ref a2)] ∧ Z.Warmed39 U.vm ∧ U.heap = h0) (fun _ _ _ _ _ => True) (fun _ U o U' => ∃ v L, o = .returned v ∧ Qrm49 Z w0 w1 w2 w3 w4 w5 w6 w7 w8 w9 w10 w11 a1 a2 a3 p4 p5 p6 p7 a8 a9 ck10 ck11 h0 n0 v U'.heap L ∧ FrameEnd U o U' L ({ frames := 2, cells := 0, slots := 0, locals := 28 } : Room).cells ({ frames := 2, cells := 0, slots := 0, locals := 28 } : Room).slots) := by
  refine MetFree.of_bodySF (plainFor_of_name pn162) hisR ?_
  intro p e s m args below meth c s₁ Bd hml0 hP hK
  obtain ⟨rfl, hZ, hh⟩ := hP
  have hx := Bd.exec
  have hby := Bd.bytes
  have hml : c.maxLocals = 2 := hml0
  have hown : s.vm.findClass z1 = some m.cls := findClass_of_methodNamed Bd.named
  have hnm := (name_of_methodNamed Bd.named Bd.method).1
  have X0 : Stand p l e ({ frames := 2, cells := 0, slots := 0, locals := 28 } : Room) s m #[(.ref a1), (.ref a2)] below meth c s₁ [] 0 0 := Stand.of_body Bd
  have e0 : s₁.heap = h0 := by rw [← hh, Bd.state]; rfl
  have N0 := Fr.nil n0
  have pre0 : ∀ t, Steps p.tables e below (s₁.setTop (mkF m 0 #[.val (.ref a1), .val (.ref a2)] [])) t → Steps p.tables e below (s₁.setTop (entryFrame m #[(.ref a1), (.ref a2)] 2)) t := fun t k => castTop (ef106 m a1 a2) k
  obtain ⟨T1, X1, e1, st1⟩ := getF X0 hx hZ hown (host := "") (Or.inl (hw _ m60)) Via.refl e0 PF1 (g := (mkF m 1 #[.val (.ref a1), .val (.ref a2)] [(.ref a1)])) rfl rfl (hb hby d12_1)
  obtain ⟨T2, X2, e2, st2⟩ := getS2 X1 hx hZ hown (host := "") (Or.inl (hw _ m73)) Via.refl e1 (hS.2.2.2.2.2.2.2.2.2.2.2.2.2.2.2.2.2.2.2.2.2.2.2.2.1.ext O0.2) (g := (mkF m 4 #[.val (.ref a1), .val (.ref a2)] [(.ref w8)])) rfl (hb hby d12_4)
  obtain ⟨T3, X3, e3, st3⟩ := getF X2 hx hZ hown (host := "") (Or.inl (hw _ m62)) Via.refl e2 PF2 (g := (mkF m 11 #[.val (.ref a1), .val (.ref a2)] [(.ref a1)])) rfl rfl (hb hby d12_11)
  obtain ⟨_, T4, L4, hQ4, X4, st4⟩ := own_virtual X3 hx hZ (W := 0) hown (hw _ m80) (hw _ m81) (notFace_of_selects (args := #[]) (mvT hZ (hw _ m83))) (hw _ m83) (hw _ m82) (hw _ m7) (hw _ m84) (by decide) (rm48 l Z a0 hw hj w0 w1 w2 w3 w4 w5 w6 w7 w8 w9 w10 w11 hS [] a3 a2 a8 a9 p4 p5 p6 p7 ck10 ck11 h0 n0 O0 pne3 PE4 PF5 PF6 PF7 PF8 PV9 PV10 hc11 hc12) e3 PE13 (g := (mkF m 15 #[.val (.ref a1), .val (.ref a2)] [(.ref a2), (.ref a3)])) rfl (by rw [hml]; rfl) (argsL := [(.ref a2)]) (rest := []) (lenOf pd227 rfl) rfl rfl (by show 2 * 0 + _ ≤ _; exact Nat.le_of_eq rfl) (hb hby d12_15) (by decide) (by decide) (by decide) (by decide)
  obtain ⟨rfl, N4q, e4⟩ := hQ4
  have N4 := Fr.app N0 N4q
  have e4' : T4.heap = h0 := e4
  obtain ⟨fs, hr, hrun, hended, hW, hsame⟩ := X4.leave (v := some (.int (1 : Int32))) (fun h => by rw [Bd.returns] at h; cases h)
  refine ⟨_, _, pre0 _ ?_, hrun, hended, _, _, rfl, ?_, ⟨_, rfl⟩, hW, hsame.mono (by decide) (by decide)⟩
  · show Steps p.tables e below (s₁.setTop (mkF m 0 #[.val (.ref a1), .val (.ref a2)] [])) _
    refine XS.aloadN X0.here hx rfl (hb hby d12_0) rfl rfl ?_
    refine st1 _ ?_
    refine st2 _ ?_
    refine Jvm.RoadKit.acmp (g := (mkF m 7 #[.val (.ref a1), .val (.ref a2)] [(.ref w8), (.ref w8)])) X2 hx rfl rfl rfl (pc0 := 7) (pc' := 10) (same := true) rfl (hb hby d12_7) rfl (decide_eq_true rfl) (by decide) (by decide) ?_
    show Steps p.tables e below (T2.setTop (mkF m 10 #[.val (.ref a1), .val (.ref a2)] [])) _
    refine XS.aloadN X2.here hx rfl (hb hby d12_10) rfl rfl ?_
    refine st3 _ ?_
    refine XS.aloadN X3.here hx rfl (hb hby d12_14) rfl rfl ?_
    refine st4 _ ?_
    show Steps p.tables e below (T4.setTop (mkF m 18 #[.val (.ref a1), .val (.ref a2)] [(.int (1 : Int32))])) _
    refine XS.ifNo X4.here hx rfl (hb hby d12_18) rfl ((if0 _ _).trans (feq (by decide : ¬ ((1 : Int32) = (0 : Int32)))).1) ?_
    refine XS.iconst X4.here hx rfl (hb hby d12_21) ?_
    refine XS.goto X4.here hx rfl (pc0 := 22) (pc' := 26) rfl (hb hby d12_22) (by decide) (by decide) ?_
    exact retN X4 hx (t := .boolean) Bd.returns (by simp) (hb hby d12_26) hr
  · show Qrm49 Z w0 w1 w2 w3 w4 w5 w6 w7 w8 w9 w10 w11 a1 a2 a3 p4 p5 p6 p7 a8 a9 ck10 ck11 h0 n0 _ T4.heap _
    rw [e4']
    exact ⟨rfl, N4, rfl⟩
def Qrm50 (Z : State) (w0 : Addr) (w1 : Addr) (w2 : Addr) (w3 : Addr) (w4 : Addr) (w5 : Addr) (w6 : Addr) (w7 : Addr) (w8 : Addr) (w9 : Addr) (w10 : Int32) (w11 : Value) (a1 : Addr) (a2 : Addr) (p3 : Int32) (p4 : Int32) (ck5 : ClassId) (p6 : Int32) (p7 : Int32) (ck8 : ClassId) (h0 : Heap) (n0 : Nat) (v : Option Value) (h : Heap) (L : List Loc) : Prop := v = some (.int (0 : Int32)) ∧ Fr n0 L ∧ h = h0
set_option maxRecDepth 65536 in
set_option maxHeartbeats 40000000 in
theorem rm50 (l : Launch) (Z : State) (a0 : Array Value) (hw : ∀ d ∈ tables_1, d.before a0 Z = true) (hj : ∀ d ∈ jdkStatics_1, d.before a0 Z = true) (w0 : Addr) (w1 : Addr) (w2 : Addr) (w3 : Addr) (w4 : Addr) (w5 : Addr) (w6 : Addr) (w7 : Addr) (w8 : Addr) (w9 : Addr) (w10 : Int32) (w11 : Value) (hS : SF Z w0 w1 w2 w3 w4 w5 w6 w7 w8 w9 w10 w11) (ws : List Jvm.Cond) (a1 : Addr) (a2 : Addr) (p3 : Int32) (p4 : Int32) (ck5 : ClassId) (p6 : Int32) (p7 : Int32) (ck8 : ClassId) (h0 : Heap) (n0 : Nat) (O0 : Old Z n0 h0) (PV1 : Arv Z h0 a1 ck5 .byte (2 : Int32) [(.int p3), (.int p4)] (.int (0 : Int32))) (PV2 : Arv Z h0 a2 ck8 .byte (2 : Int32) [(.int p6), (.int p7)] (.int (0 : Int32))) (hc3 : p3 = p6) (hc4 : ¬ (p4 = p7)) :
    MetFree l (⟨z5, "equals", "([B[B)Z"⟩ : MethodName) (head1 (Jvm.Cond.code (⟨z5, "equals", "([B[B)Z"⟩ : MethodName) jdk_43_method_13_code 3 (some .boolean) :: ws) ({ frames := 0, cells := 0, slots := 0, locals := 0 } : Room)) (fun a U => a = #[(.ref a1), (.ref a2)] ∧ Z.Warmed39 U.vm ∧ U.heap = h0) (fun _ _ _ _ _ => True) (fun _ U o U' => ∃ v L, o = .returned v ∧ Qrm50 Z w0 w1 w2 w3 w4 w5 w6 w7 w8 w9 w10 w11 a1 a2 p3 p4 ck5 p6 p7 ck8 h0 n0 v U'.heap L ∧ FrameEnd U o U' L ({ frames := 0, cells := 0, slots := 0, locals := 0 } : Room).cells ({ frames := 0, cells := 0, slots := 0, locals := 0 } : Room).slots) := by
  refine MetFree.of_bodySF (plainFor_of_name pn217) hisR ?_
  intro p e s m args below meth c s₁ Bd hml0 hP hK
  obtain ⟨rfl, hZ, hh⟩ := hP
  have hx := Bd.exec
  have hby := Bd.bytes
  have hml : c.maxLocals = 3 := hml0
  have hown : s.vm.findClass z5 = some m.cls := findClass_of_methodNamed Bd.named
  have hnm := (name_of_methodNamed Bd.named Bd.method).1
  have X0 : Stand p l e ({ frames := 0, cells := 0, slots := 0, locals := 0 } : Room) s m #[(.ref a1), (.ref a2)] below meth c s₁ [] 0 0 := Stand.of_body Bd
  have e0 : s₁.heap = h0 := by rw [← hh, Bd.state]; rfl
  have N0 := Fr.nil n0
  have pre0 : ∀ t, Steps p.tables e below (s₁.setTop (mkF m 0 #[.val (.ref a1), .val (.ref a2), .unset] [])) t → Steps p.tables e below (s₁.setTop (entryFrame m #[(.ref a1), (.ref a2)] 3)) t := fun t k => castTop (ef216 m a1 a2) k
  obtain ⟨fs, hr, hrun, hended, hW, hsame⟩ := X0.leave (v := some (.int (0 : Int32))) (fun h => by rw [Bd.returns] at h; cases h)
  refine ⟨_, _, pre0 _ ?_, hrun, hended, _, _, rfl, ?_, ⟨_, rfl⟩, hW, hsame.mono (by decide) (by decide)⟩
  · show Steps p.tables e below (s₁.setTop (mkF m 0 #[.val (.ref a1), .val (.ref a2), .unset] [])) _
    refine XS.aloadN X0.here hx rfl (hb hby d17_0) rfl rfl ?_
    refine own_alen X0 hx hZ e0 PV1 (g := (mkF m 1 #[.val (.ref a1), .val (.ref a2), .unset] [(.ref a1)])) rfl rfl (hb hby d17_1) ?_
    refine XS.aloadN X0.here hx rfl (hb hby d17_2) rfl rfl ?_
    refine own_alen X0 hx hZ e0 PV2 (g := (mkF m 3 #[.val (.ref a1), .val (.ref a2), .unset] [(.ref a2), (.int (2 : Int32))])) rfl rfl (hb hby d17_3) ?_
    show Steps p.tables e below (s₁.setTop (mkF m 4 #[.val (.ref a1), .val (.ref a2), .unset] [(.int (2 : Int32)), (.int (2 : Int32))])) _
    refine XS.icmpNo X0.here hx rfl (hb hby d17_4) rfl (teq (by decide : (2 : Int32) = (2 : Int32))).2 ?_
    refine XS.iconst X0.here hx rfl (hb hby d17_7) ?_
    refine XS.istoreN X0.here hx rfl (hb hby d17_8) rfl (l' := #[.val (.ref a1), .val (.ref a2), .val (.int (0 : Int32))]) rfl ?_
    refine XS.iloadN X0.here hx rfl (hb hby d17_9) rfl ?_
    show Steps p.tables e below (s₁.setTop (mkF m 10 #[.val (.ref a1), .val (.ref a2), .val (.int (0 : Int32))] [(.int (0 : Int32))])) _
    refine XS.aloadN X0.here hx rfl (hb hby d17_10) rfl rfl ?_
    refine own_alen X0 hx hZ e0 PV1 (g := (mkF m 11 #[.val (.ref a1), .val (.ref a2), .val (.int (0 : Int32))] [(.ref a1), (.int (0 : Int32))])) rfl rfl (hb hby d17_11) ?_
    refine XS.icmpNo X0.here hx rfl (hb hby d17_12) rfl (tlt (by decide : (0 : Int32) < (2 : Int32))).2.1 ?_
    refine XS.aloadN X0.here hx rfl (hb hby d17_15) rfl rfl ?_
    show Steps p.tables e below (s₁.setTop (mkF m 16 #[.val (.ref a1), .val (.ref a2), .val (.int (0 : Int32))] [(.ref a1)])) _
    refine XS.iloadN X0.here hx rfl (hb hby d17_16) rfl ?_
    refine own_baloadB X0 hx hZ e0 PV1 (j := (0 : Int32)) (by decide) (v := (.int p3)) rfl (g := (mkF m 17 #[.val (.ref a1), .val (.ref a2), .val (.int (0 : Int32))] [(.int (0 : Int32)), (.ref a1)])) rfl rfl (hb hby d17_17) ?_
    refine XS.aloadN X0.here hx rfl (hb hby d17_18) rfl rfl ?_
    refine XS.iloadN X0.here hx rfl (hb hby d17_19) rfl ?_
    show Steps p.tables e below (s₁.setTop (mkF m 20 #[.val (.ref a1), .val (.ref a2), .val (.int (0 : Int32))] [(.int (0 : Int32)), (.ref a2), (.int p3)])) _
    refine own_baloadB X0 hx hZ e0 PV2 (j := (0 : Int32)) (by decide) (v := (.int p6)) rfl (g := (mkF m 20 #[.val (.ref a1), .val (.ref a2), .val (.int (0 : Int32))] [(.int (0 : Int32)), (.ref a2), (.int p3)])) rfl rfl (hb hby d17_20) ?_
    refine XS.icmpYes X0.here hx rfl (pc0 := 21) (pc' := 26) rfl (hb hby d17_21) rfl (teq hc3).1 (by decide) (by decide) ?_
    refine Own.iinc X0.here hx rfl (hb hby d17_26) rfl (by decide : ((0 : Int32) + (1 : Int32)) = (1 : Int32)) (l' := #[.val (.ref a1), .val (.ref a2), .val (.int (1 : Int32))]) rfl ?_
    refine XS.goto X0.here hx rfl (pc0 := 29) (pc' := 9) rfl (hb hby d17_29) (by decide) (by decide) ?_
    show Steps p.tables e below (s₁.setTop (mkF m 9 #[.val (.ref a1), .val (.ref a2), .val (.int (1 : Int32))] [])) _
    refine XS.iloadN X0.here hx rfl (hb hby d17_9) rfl ?_
    refine XS.aloadN X0.here hx rfl (hb hby d17_10) rfl rfl ?_
    refine own_alen X0 hx hZ e0 PV1 (g := (mkF m 11 #[.val (.ref a1), .val (.ref a2), .val (.int (1 : Int32))] [(.ref a1), (.int (1 : Int32))])) rfl rfl (hb hby d17_11) ?_
    refine XS.icmpNo X0.here hx rfl (hb hby d17_12) rfl (tlt (by decide : (1 : Int32) < (2 : Int32))).2.1 ?_
    show Steps p.tables e below (s₁.setTop (mkF m 15 #[.val (.ref a1), .val (.ref a2), .val (.int (1 : Int32))] [])) _
    refine XS.aloadN X0.here hx rfl (hb hby d17_15) rfl rfl ?_
    refine XS.iloadN X0.here hx rfl (hb hby d17_16) rfl ?_
    refine own_baloadB X0 hx hZ e0 PV1 (j := (1 : Int32)) (by decide) (v := (.int p4)) rfl (g := (mkF m 17 #[.val (.ref a1), .val (.ref a2), .val (.int (1 : Int32))] [(.int (1 : Int32)), (.ref a1)])) rfl rfl (hb hby d17_17) ?_
    refine XS.aloadN X0.here hx rfl (hb hby d17_18) rfl rfl ?_
    show Steps p.tables e below (s₁.setTop (mkF m 19 #[.val (.ref a1), .val (.ref a2), .val (.int (1 : Int32))] [(.ref a2), (.int p4)])) _
    refine XS.iloadN X0.here hx rfl (hb hby d17_19) rfl ?_
    refine own_baloadB X0 hx hZ e0 PV2 (j := (1 : Int32)) (by decide) (v := (.int p7)) rfl (g := (mkF m 20 #[.val (.ref a1), .val (.ref a2), .val (.int (1 : Int32))] [(.int (1 : Int32)), (.ref a2), (.int p4)])) rfl rfl (hb hby d17_20) ?_
    refine XS.icmpNo X0.here hx rfl (hb hby d17_21) rfl (feq hc4).1 ?_
    refine XS.iconst X0.here hx rfl (hb hby d17_24) ?_
    show Steps p.tables e below (s₁.setTop (mkF m 25 #[.val (.ref a1), .val (.ref a2), .val (.int (1 : Int32))] [(.int (0 : Int32))])) _
    exact retN X0 hx (t := .boolean) Bd.returns (by simp) (hb hby d17_25) hr
  · show Qrm50 Z w0 w1 w2 w3 w4 w5 w6 w7 w8 w9 w10 w11 a1 a2 p3 p4 ck5 p6 p7 ck8 h0 n0 _ s₁.heap _
    rw [e0]
    exact ⟨rfl, N0, rfl⟩
def Qrm51 (Z : State) (w0 : Addr) (w1 : Addr) (w2 : Addr) (w3 : Addr) (w4 : Addr) (w5 : Addr) (w6 : Addr) (w7 : Addr) (w8 : Addr) (w9 : Addr) (w10 : Int32) (w11 : Value) (a1 : Addr) (a2 : Addr) (a3 : Addr) (a4 : Addr) (p5 : Int32) (p6 : Int32) (p7 : Int32) (p8 : Int32) (ck9 : ClassId) (ck10 : ClassId) (h0 : Heap) (n0 : Nat) (v : Option Value) (h : Heap) (L : List Loc) : Prop := v = some (.int (0 : Int32)) ∧ Fr n0 L ∧ h = h0
set_option maxRecDepth 65536 in
set_option maxHeartbeats 40000000 in
theorem rm51 (l : Launch) (Z : State) (a0 : Array Value) (hw : ∀ d ∈ tables_1, d.before a0 Z = true) (hj : ∀ d ∈ jdkStatics_1, d.before a0 Z = true) (w0 : Addr) (w1 : Addr) (w2 : Addr) (w3 : Addr) (w4 : Addr) (w5 : Addr) (w6 : Addr) (w7 : Addr) (w8 : Addr) (w9 : Addr) (w10 : Int32) (w11 : Value) (hS : SF Z w0 w1 w2 w3 w4 w5 w6 w7 w8 w9 w10 w11) (ws : List Jvm.Cond) (a1 : Addr) (a2 : Addr) (a3 : Addr) (a4 : Addr) (p5 : Int32) (p6 : Int32) (p7 : Int32) (p8 : Int32) (ck9 : ClassId) (ck10 : ClassId) (h0 : Heap) (n0 : Nat) (O0 : Old Z n0 h0) (pne1 : a1 ≠ a2) (PE2 : Exa Z h0 a2 z0) (PF3 : Fld Z h0 a1 z0 "coder" "B" (.int (0 : Int32))) (PF4 : Fld Z h0 a2 z0 "coder" "B" (.int (0 : Int32))) (PF5 : Fld Z h0 a1 z0 "value" "[B" (.ref a3)) (PF6 : Fld Z h0 a2 z0 "value" "[B" (.ref a4)) (PV7 : Arv Z h0 a3 ck9 .byte (2 : Int32) [(.int p5), (.int p6)] (.int (0 : Int32))) (PV8 : Arv Z h0 a4 ck10 .byte (2 : Int32) [(.int p7), (.int p8)] (.int (0 : Int32))) (hc9 : p5 = p7) (hc10 : ¬ (p6 = p8)) :
    MetFree l (⟨z0, "equals", z7⟩ : MethodName) (head1 (Jvm.Cond.code (⟨z0, "equals", z7⟩ : MethodName) jdk_42_method_66_code 3 (some .boolean) :: ws) ({ frames := 1, cells := 0, slots := 0, locals := 14 } : Room)) (fun a U => a = #[(.ref a1), (.ref a2)] ∧ Z.Warmed39 U.vm ∧ U.heap = h0) (fun _ _ _ _ _ => True) (fun _ U o U' => ∃ v L, o = .returned v ∧ Qrm51 Z w0 w1 w2 w3 w4 w5 w6 w7 w8 w9 w10 w11 a1 a2 a3 a4 p5 p6 p7 p8 ck9 ck10 h0 n0 v U'.heap L ∧ FrameEnd U o U' L ({ frames := 1, cells := 0, slots := 0, locals := 14 } : Room).cells ({ frames := 1, cells := 0, slots := 0, locals := 14 } : Room).slots) := by
  refine MetFree.of_bodySF (plainFor_of_name pn101) hisR ?_
  intro p e s m args below meth c s₁ Bd hml0 hP hK
  obtain ⟨rfl, hZ, hh⟩ := hP
  have hx := Bd.exec
  have hby := Bd.bytes
  have hml : c.maxLocals = 3 := hml0
  have hown : s.vm.findClass z0 = some m.cls := findClass_of_methodNamed Bd.named
  have hnm := (name_of_methodNamed Bd.named Bd.method).1
  have X0 : Stand p l e ({ frames := 1, cells := 0, slots := 0, locals := 14 } : Room) s m #[(.ref a1), (.ref a2)] below meth c s₁ [] 0 0 := Stand.of_body Bd
  have e0 : s₁.heap = h0 := by rw [← hh, Bd.state]; rfl
  have N0 := Fr.nil n0
  have pre0 : ∀ t, Steps p.tables e below (s₁.setTop (mkF m 0 #[.val (.ref a1), .val (.ref a2), .unset] [])) t → Steps p.tables e below (s₁.setTop (entryFrame m #[(.ref a1), (.ref a2)] 3)) t := fun t k => castTop (ef216 m a1 a2) k
  obtain ⟨T1, X1, e1, st1⟩ := instY X0 hx hZ hown (hw _ m14) e0 (Ins.self PE2) (g := (mkF m 8 #[.val (.ref a1), .val (.ref a2), .unset] [(.ref a2)])) rfl rfl (hb hby d13_8)
  obtain ⟨T2, X2, e2, st2⟩ := castY X1 hx hZ hown (hw _ m14) e1 (Ins.self PE2) (g := (mkF m 15 #[.val (.ref a1), .val (.ref a2), .unset] [(.ref a2)])) rfl rfl (hb hby d13_15)
  obtain ⟨T3, X3, e3, st3⟩ := getS2 X2 hx hZ hown (host := "") (Or.inl (hw _ m9)) Via.refl e2 (hS.2.2.2.2.2.2.2.2.2.2.2.2.2.2.2.2.2.2.2.2.2.2.2.2.2.2.2.2.2.2.1.ext O0.2) (g := (mkF m 19 #[.val (.ref a1), .val (.ref a2), .val (.ref a2)] [])) rfl (hb hby d13_19)
  obtain ⟨T4, X4, e4, st4⟩ := getF X3 hx hZ hown (host := "") (Or.inl (hw _ m29)) Via.refl e3 PF3 (g := (mkF m 26 #[.val (.ref a1), .val (.ref a2), .val (.ref a2)] [(.ref a1)])) rfl rfl (hb hby d13_26)
  obtain ⟨T5, X5, e5, st5⟩ := getF X4 hx hZ hown (host := "") (Or.inl (hw _ m29)) Via.refl e4 PF4 (g := (mkF m 30 #[.val (.ref a1), .val (.ref a2), .val (.ref a2)] [(.ref a2), (.int (0 : Int32))])) rfl rfl (hb hby d13_30)
  obtain ⟨T6, X6, e6, st6⟩ := getF X5 hx hZ hown (host := "") (Or.inl (hw _ m27)) Via.refl e5 PF5 (g := (mkF m 37 #[.val (.ref a1), .val (.ref a2), .val (.ref a2)] [(.ref a1)])) rfl rfl (hb hby d13_37)
  obtain ⟨T7, X7, e7, st7⟩ := getF X6 hx hZ hown (host := "") (Or.inl (hw _ m27)) Via.refl e6 PF6 (g := (mkF m 41 #[.val (.ref a1), .val (.ref a2), .val (.ref a2)] [(.ref a2), (.ref a3)])) rfl rfl (hb hby d13_41)
  obtain ⟨_, T8, L8, hQ8, X8, st8⟩ := own_callS X7 hx hZ (W := 0) hown (hw _ m105) (hw _ m106) (hw _ m12) (hw _ m107) (by decide) (rm50 l Z a0 hw hj w0 w1 w2 w3 w4 w5 w6 w7 w8 w9 w10 w11 hS [] a3 a4 p5 p6 ck9 p7 p8 ck10 h0 n0 O0 PV7 PV8 hc9 hc10) e7 (g := (mkF m 44 #[.val (.ref a1), .val (.ref a2), .val (.ref a2)] [(.ref a4), (.ref a3)])) rfl (by rw [hml]; rfl) (argsL := [(.ref a3), (.ref a4)]) (rest := []) (lenOf pd220 rfl) rfl rfl (by show 2 * 0 + _ ≤ _; exact Nat.le_of_eq rfl) (hb hby d13_44) (by decide) (by decide) (by decide) (by decide)
  obtain ⟨rfl, N8q, e8⟩ := hQ8
  have N8 := Fr.app N0 N8q
  have e8' : T8.heap = h0 := e8
  obtain ⟨fs, hr, hrun, hended, hW, hsame⟩ := X8.leave (v := some (.int (0 : Int32))) (fun h => by rw [Bd.returns] at h; cases h)
  refine ⟨_, _, pre0 _ ?_, hrun, hended, _, _, rfl, ?_, ⟨_, rfl⟩, hW, hsame.mono (by decide) (by decide)⟩
  · show Steps p.tables e below (s₁.setTop (mkF m 0 #[.val (.ref a1), .val (.ref a2), .unset] [])) _
    refine XS.aloadN X0.here hx rfl (hb hby d13_0) rfl rfl ?_
    refine XS.aloadN X0.here hx rfl (hb hby d13_1) rfl rfl ?_
    refine Jvm.RoadKit.acmp (g := (mkF m 2 #[.val (.ref a1), .val (.ref a2), .unset] [(.ref a2), (.ref a1)])) X0 hx rfl rfl rfl (pc0 := 2) (pc' := 7) (same := false) rfl (hb hby d13_2) rfl (decide_eq_false fun q => pne1 (Value.ref.inj q)) (by decide) (by decide) ?_
    refine XS.aloadN X0.here hx rfl (hb hby d13_7) rfl rfl ?_
    show Steps p.tables e below (s₁.setTop (mkF m 8 #[.val (.ref a1), .val (.ref a2), .unset] [(.ref a2)])) _
    refine st1 _ ?_
    refine XS.ifNo X1.here hx rfl (hb hby d13_11) rfl ((if0 _ _).trans (feq (by decide : ¬ ((1 : Int32) = (0 : Int32)))).1) ?_
    refine XS.aloadN X1.here hx rfl (hb hby d13_14) rfl rfl ?_
    refine st2 _ ?_
    show Steps p.tables e below (T2.setTop (mkF m 18 #[.val (.ref a1), .val (.ref a2), .unset] [(.ref a2)])) _
    refine XS.astoreN X2.here hx rfl (hb hby d13_18) rfl rfl (l' := #[.val (.ref a1), .val (.ref a2), .val (.ref a2)]) rfl ?_
    refine st3 _ ?_
    refine XS.ifNo X3.here hx rfl (hb hby d13_22) rfl ((if0 _ _).trans (feq hS.2.2.2.2.2.2.2.2.2.2.2.2.2.2.2.2.2.2.2.2.2.2.2.2.2.2.2.2.2.2.2.1).1) ?_
    refine XS.aloadN X3.here hx rfl (hb hby d13_25) rfl rfl ?_
    show Steps p.tables e below (T3.setTop (mkF m 26 #[.val (.ref a1), .val (.ref a2), .val (.ref a2)] [(.ref a1)])) _
    refine st4 _ ?_
    refine XS.aloadN X4.here hx rfl (hb hby d13_29) rfl rfl ?_
    refine st5 _ ?_
    refine XS.icmpNo X5.here hx rfl (hb hby d13_33) rfl (teq (by decide : (0 : Int32) = (0 : Int32))).2 ?_
    show Steps p.tables e below (T5.setTop (mkF m 36 #[.val (.ref a1), .val (.ref a2), .val (.ref a2)] [])) _
    refine XS.aloadN X5.here hx rfl (hb hby d13_36) rfl rfl ?_
    refine st6 _ ?_
    refine XS.aloadN X6.here hx rfl (hb hby d13_40) rfl rfl ?_
    refine st7 _ ?_
    show Steps p.tables e below (T7.setTop (mkF m 44 #[.val (.ref a1), .val (.ref a2), .val (.ref a2)] [(.ref a4), (.ref a3)])) _
    refine st8 _ ?_
    refine XS.ifYes X8.here hx rfl (pc0 := 47) (pc' := 54) rfl (hb hby d13_47) rfl ((if0 _ _).trans (teq (by decide : (0 : Int32) = (0 : Int32))).1) (by decide) (by decide) ?_
    refine XS.iconst X8.here hx rfl (hb hby d13_54) ?_
    exact retN X8 hx (t := .boolean) Bd.returns (by simp) (hb hby d13_55) hr
  · show Qrm51 Z w0 w1 w2 w3 w4 w5 w6 w7 w8 w9 w10 w11 a1 a2 a3 a4 p5 p6 p7 p8 ck9 ck10 h0 n0 _ T8.heap _
    rw [e8']
    exact ⟨rfl, N8, rfl⟩
def Qrm52 (Z : State) (w0 : Addr) (w1 : Addr) (w2 : Addr) (w3 : Addr) (w4 : Addr) (w5 : Addr) (w6 : Addr) (w7 : Addr) (w8 : Addr) (w9 : Addr) (w10 : Int32) (w11 : Value) (a1 : Addr) (a2 : Addr) (a3 : Addr) (p4 : Int32) (p5 : Int32) (p6 : Int32) (p7 : Int32) (a8 : Addr) (a9 : Addr) (ck10 : ClassId) (ck11 : ClassId) (h0 : Heap) (n0 : Nat) (v : Option Value) (h : Heap) (L : List Loc) : Prop := v = some (.int (0 : Int32)) ∧ Fr n0 L ∧ h = h0
set_option maxRecDepth 65536 in
set_option maxHeartbeats 40000000 in
theorem rm52 (l : Launch) (Z : State) (a0 : Array Value) (hw : ∀ d ∈ tables_1, d.before a0 Z = true) (hj : ∀ d ∈ jdkStatics_1, d.before a0 Z = true) (w0 : Addr) (w1 : Addr) (w2 : Addr) (w3 : Addr) (w4 : Addr) (w5 : Addr) (w6 : Addr) (w7 : Addr) (w8 : Addr) (w9 : Addr) (w10 : Int32) (w11 : Value) (hS : SF Z w0 w1 w2 w3 w4 w5 w6 w7 w8 w9 w10 w11) (ws : List Jvm.Cond) (a1 : Addr) (a2 : Addr) (a3 : Addr) (p4 : Int32) (p5 : Int32) (p6 : Int32) (p7 : Int32) (a8 : Addr) (a9 : Addr) (ck10 : ClassId) (ck11 : ClassId) (h0 : Heap) (n0 : Nat) (O0 : Old Z n0 h0) (PF1 : Fld Z h0 a1 z1 "type" z3 (.ref w8)) (PF2 : Fld Z h0 a1 z1 "text" z8 (.ref a3)) (pne3 : a3 ≠ a2) (PE4 : Exa Z h0 a2 z0) (PF5 : Fld Z h0 a3 z0 "coder" "B" (.int (0 : Int32))) (PF6 : Fld Z h0 a2 z0 "coder" "B" (.int (0 : Int32))) (PF7 : Fld Z h0 a3 z0 "value" "[B" (.ref a8)) (PF8 : Fld Z h0 a2 z0 "value" "[B" (.ref a9)) (PV9 : Arv Z h0 a8 ck10 .byte (2 : Int32) [(.int p4), (.int p5)] (.int (0 : Int32))) (PV10 : Arv Z h0 a9 ck11 .byte (2 : Int32) [(.int p6), (.int p7)] (.int (0 : Int32))) (hc11 : p4 = p6) (hc12 : ¬ (p5 = p7)) (PE13 : Exa Z h0 a3 z0) :
    MetFree l (⟨z1, "isSymbol", z6⟩ : MethodName) (head1 (Jvm.Cond.code (⟨z1, "isSymbol", z6⟩ : MethodName) prog_65_method_3_code 2 (some .boolean) :: ws) ({ frames := 2, cells := 0, slots := 0, locals := 28 } : Room)) (fun a U => a = #[(.ref a1), (.ref a2)] ∧ Z.Warmed39 U.vm ∧ U.heap = h0) (fun _ _ _ _ _ => True) (fun _ U o U' => ∃ v L, o = .returned v ∧ Qrm52 Z w0 w1 w2 w3 w4 w5 w6 w7 w8 w9 w10 w11 a1 a2 a3 p4 p5 p6 p7 a8 a9 ck10 ck11 h0 n0 v U'.heap L ∧ FrameEnd U o U' L ({ frames := 2, cells := 0, slots := 0, locals := 28 } : Room).cells ({ frames := 2, cells := 0, slots := 0, locals := 28 } : Room).slots) := by
  refine MetFree.of_bodySF (plainFor_of_name pn162) hisR ?_
  intro p e s m args below meth c s₁ Bd hml0 hP hK
  obtain ⟨rfl, hZ, hh⟩ := hP
  have hx := Bd.exec
  have hby := Bd.bytes
  have hml : c.maxLocals = 2 := hml0
  have hown : s.vm.findClass z1 = some m.cls := findClass_of_methodNamed Bd.named
  have hnm := (name_of_methodNamed Bd.named Bd.method).1
  have X0 : Stand p l e ({ frames := 2, cells := 0, slots := 0, locals := 28 } : Room) s m #[(.ref a1), (.ref a2)] below meth c s₁ [] 0 0 := Stand.of_body Bd
  have e0 : s₁.heap = h0 := by rw [← hh, Bd.state]; rfl
  have N0 := Fr.nil n0
  have pre0 : ∀ t, Steps p.tables e below (s₁.setTop (mkF m 0 #[.val (.ref a1), .val (.ref a2)] [])) t → Steps p.tables e below (s₁.setTop (entryFrame m #[(.ref a1), (.ref a2)] 2)) t := fun t k => castTop (ef106 m a1 a2) k
  obtain ⟨T1, X1, e1, st1⟩ := getF X0 hx hZ hown (host := "") (Or.inl (hw _ m60)) Via.refl e0 PF1 (g := (mkF m 1 #[.val (.ref a1), .val (.ref a2)] [(.ref a1)])) rfl rfl (hb hby d12_1)
  obtain ⟨T2, X2, e2, st2⟩ := getS2 X1 hx hZ hown (host := "") (Or.inl (hw _ m73)) Via.refl e1 (hS.2.2.2.2.2.2.2.2.2.2.2.2.2.2.2.2.2.2.2.2.2.2.2.2.1.ext O0.2) (g := (mkF m 4 #[.val (.ref a1), .val (.ref a2)] [(.ref w8)])) rfl (hb hby d12_4)
  obtain ⟨T3, X3, e3, st3⟩ := getF X2 hx hZ hown (host := "") (Or.inl (hw _ m62)) Via.refl e2 PF2 (g := (mkF m 11 #[.val (.ref a1), .val (.ref a2)] [(.ref a1)])) rfl rfl (hb hby d12_11)
  obtain ⟨_, T4, L4, hQ4, X4, st4⟩ := own_virtual X3 hx hZ (W := 0) hown (hw _ m80) (hw _ m81) (notFace_of_selects (args := #[]) (mvT hZ (hw _ m83))) (hw _ m83) (hw _ m82) (hw _ m7) (hw _ m84) (by decide) (rm51 l Z a0 hw hj w0 w1 w2 w3 w4 w5 w6 w7 w8 w9 w10 w11 hS [] a3 a2 a8 a9 p4 p5 p6 p7 ck10 ck11 h0 n0 O0 pne3 PE4 PF5 PF6 PF7 PF8 PV9 PV10 hc11 hc12) e3 PE13 (g := (mkF m 15 #[.val (.ref a1), .val (.ref a2)] [(.ref a2), (.ref a3)])) rfl (by rw [hml]; rfl) (argsL := [(.ref a2)]) (rest := []) (lenOf pd227 rfl) rfl rfl (by show 2 * 0 + _ ≤ _; exact Nat.le_of_eq rfl) (hb hby d12_15) (by decide) (by decide) (by decide) (by decide)
  obtain ⟨rfl, N4q, e4⟩ := hQ4
  have N4 := Fr.app N0 N4q
  have e4' : T4.heap = h0 := e4
  obtain ⟨fs, hr, hrun, hended, hW, hsame⟩ := X4.leave (v := some (.int (0 : Int32))) (fun h => by rw [Bd.returns] at h; cases h)
  refine ⟨_, _, pre0 _ ?_, hrun, hended, _, _, rfl, ?_, ⟨_, rfl⟩, hW, hsame.mono (by decide) (by decide)⟩
  · show Steps p.tables e below (s₁.setTop (mkF m 0 #[.val (.ref a1), .val (.ref a2)] [])) _
    refine XS.aloadN X0.here hx rfl (hb hby d12_0) rfl rfl ?_
    refine st1 _ ?_
    refine st2 _ ?_
    refine Jvm.RoadKit.acmp (g := (mkF m 7 #[.val (.ref a1), .val (.ref a2)] [(.ref w8), (.ref w8)])) X2 hx rfl rfl rfl (pc0 := 7) (pc' := 10) (same := true) rfl (hb hby d12_7) rfl (decide_eq_true rfl) (by decide) (by decide) ?_
    show Steps p.tables e below (T2.setTop (mkF m 10 #[.val (.ref a1), .val (.ref a2)] [])) _
    refine XS.aloadN X2.here hx rfl (hb hby d12_10) rfl rfl ?_
    refine st3 _ ?_
    refine XS.aloadN X3.here hx rfl (hb hby d12_14) rfl rfl ?_
    refine st4 _ ?_
    show Steps p.tables e below (T4.setTop (mkF m 18 #[.val (.ref a1), .val (.ref a2)] [(.int (0 : Int32))])) _
    refine XS.ifYes X4.here hx rfl (pc0 := 18) (pc' := 25) rfl (hb hby d12_18) rfl ((if0 _ _).trans (teq (by decide : (0 : Int32) = (0 : Int32))).1) (by decide) (by decide) ?_
    refine XS.iconst X4.here hx rfl (hb hby d12_25) ?_
    exact retN X4 hx (t := .boolean) Bd.returns (by simp) (hb hby d12_26) hr
  · show Qrm52 Z w0 w1 w2 w3 w4 w5 w6 w7 w8 w9 w10 w11 a1 a2 a3 p4 p5 p6 p7 a8 a9 ck10 ck11 h0 n0 _ T4.heap _
    rw [e4']
    exact ⟨rfl, N4, rfl⟩
def Qrm53 (Z : State) (w0 : Addr) (w1 : Addr) (w2 : Addr) (w3 : Addr) (w4 : Addr) (w5 : Addr) (w6 : Addr) (w7 : Addr) (w8 : Addr) (w9 : Addr) (w10 : Int32) (w11 : Value) (a1 : Addr) (a2 : Addr) (p3 : Int32) (p4 : Int32) (ck5 : ClassId) (p6 : Int32) (p7 : Int32) (ck8 : ClassId) (h0 : Heap) (n0 : Nat) (v : Option Value) (h : Heap) (L : List Loc) : Prop := v = some (.int (0 : Int32)) ∧ Fr n0 L ∧ h = h0
set_option maxRecDepth 65536 in
set_option maxHeartbeats 40000000 in
theorem rm53 (l : Launch) (Z : State) (a0 : Array Value) (hw : ∀ d ∈ tables_1, d.before a0 Z = true) (hj : ∀ d ∈ jdkStatics_1, d.before a0 Z = true) (w0 : Addr) (w1 : Addr) (w2 : Addr) (w3 : Addr) (w4 : Addr) (w5 : Addr) (w6 : Addr) (w7 : Addr) (w8 : Addr) (w9 : Addr) (w10 : Int32) (w11 : Value) (hS : SF Z w0 w1 w2 w3 w4 w5 w6 w7 w8 w9 w10 w11) (ws : List Jvm.Cond) (a1 : Addr) (a2 : Addr) (p3 : Int32) (p4 : Int32) (ck5 : ClassId) (p6 : Int32) (p7 : Int32) (ck8 : ClassId) (h0 : Heap) (n0 : Nat) (O0 : Old Z n0 h0) (PV1 : Arv Z h0 a1 ck5 .byte (2 : Int32) [(.int p3), (.int p4)] (.int (0 : Int32))) (PV2 : Arv Z h0 a2 ck8 .byte (2 : Int32) [(.int p6), (.int p7)] (.int (0 : Int32))) (hc3 : ¬ (p3 = p6)) :
    MetFree l (⟨z5, "equals", "([B[B)Z"⟩ : MethodName) (head1 (Jvm.Cond.code (⟨z5, "equals", "([B[B)Z"⟩ : MethodName) jdk_43_method_13_code 3 (some .boolean) :: ws) ({ frames := 0, cells := 0, slots := 0, locals := 0 } : Room)) (fun a U => a = #[(.ref a1), (.ref a2)] ∧ Z.Warmed39 U.vm ∧ U.heap = h0) (fun _ _ _ _ _ => True) (fun _ U o U' => ∃ v L, o = .returned v ∧ Qrm53 Z w0 w1 w2 w3 w4 w5 w6 w7 w8 w9 w10 w11 a1 a2 p3 p4 ck5 p6 p7 ck8 h0 n0 v U'.heap L ∧ FrameEnd U o U' L ({ frames := 0, cells := 0, slots := 0, locals := 0 } : Room).cells ({ frames := 0, cells := 0, slots := 0, locals := 0 } : Room).slots) := by
  refine MetFree.of_bodySF (plainFor_of_name pn217) hisR ?_
  intro p e s m args below meth c s₁ Bd hml0 hP hK
  obtain ⟨rfl, hZ, hh⟩ := hP
  have hx := Bd.exec
  have hby := Bd.bytes
  have hml : c.maxLocals = 3 := hml0
  have hown : s.vm.findClass z5 = some m.cls := findClass_of_methodNamed Bd.named
  have hnm := (name_of_methodNamed Bd.named Bd.method).1
  have X0 : Stand p l e ({ frames := 0, cells := 0, slots := 0, locals := 0 } : Room) s m #[(.ref a1), (.ref a2)] below meth c s₁ [] 0 0 := Stand.of_body Bd
  have e0 : s₁.heap = h0 := by rw [← hh, Bd.state]; rfl
  have N0 := Fr.nil n0
  have pre0 : ∀ t, Steps p.tables e below (s₁.setTop (mkF m 0 #[.val (.ref a1), .val (.ref a2), .unset] [])) t → Steps p.tables e below (s₁.setTop (entryFrame m #[(.ref a1), (.ref a2)] 3)) t := fun t k => castTop (ef216 m a1 a2) k
  obtain ⟨fs, hr, hrun, hended, hW, hsame⟩ := X0.leave (v := some (.int (0 : Int32))) (fun h => by rw [Bd.returns] at h; cases h)
  refine ⟨_, _, pre0 _ ?_, hrun, hended, _, _, rfl, ?_, ⟨_, rfl⟩, hW, hsame.mono (by decide) (by decide)⟩
  · show Steps p.tables e below (s₁.setTop (mkF m 0 #[.val (.ref a1), .val (.ref a2), .unset] [])) _
    refine XS.aloadN X0.here hx rfl (hb hby d17_0) rfl rfl ?_
    refine own_alen X0 hx hZ e0 PV1 (g := (mkF m 1 #[.val (.ref a1), .val (.ref a2), .unset] [(.ref a1)])) rfl rfl (hb hby d17_1) ?_
    refine XS.aloadN X0.here hx rfl (hb hby d17_2) rfl rfl ?_
    refine own_alen X0 hx hZ e0 PV2 (g := (mkF m 3 #[.val (.ref a1), .val (.ref a2), .unset] [(.ref a2), (.int (2 : Int32))])) rfl rfl (hb hby d17_3) ?_
    show Steps p.tables e below (s₁.setTop (mkF m 4 #[.val (.ref a1), .val (.ref a2), .unset] [(.int (2 : Int32)), (.int (2 : Int32))])) _
    refine XS.icmpNo X0.here hx rfl (hb hby d17_4) rfl (teq (by decide : (2 : Int32) = (2 : Int32))).2 ?_
    refine XS.iconst X0.here hx rfl (hb hby d17_7) ?_
    refine XS.istoreN X0.here hx rfl (hb hby d17_8) rfl (l' := #[.val (.ref a1), .val (.ref a2), .val (.int (0 : Int32))]) rfl ?_
    refine XS.iloadN X0.here hx rfl (hb hby d17_9) rfl ?_
    show Steps p.tables e below (s₁.setTop (mkF m 10 #[.val (.ref a1), .val (.ref a2), .val (.int (0 : Int32))] [(.int (0 : Int32))])) _
    refine XS.aloadN X0.here hx rfl (hb hby d17_10) rfl rfl ?_
    refine own_alen X0 hx hZ e0 PV1 (g := (mkF m 11 #[.val (.ref a1), .val (.ref a2), .val (.int (0 : Int32))] [(.ref a1), (.int (0 : Int32))])) rfl rfl (hb hby d17_11) ?_
    refine XS.icmpNo X0.here hx rfl (hb hby d17_12) rfl (tlt (by decide : (0 : Int32) < (2 : Int32))).2.1 ?_
    refine XS.aloadN X0.here hx rfl (hb hby d17_15) rfl rfl ?_
    show Steps p.tables e below (s₁.setTop (mkF m 16 #[.val (.ref a1), .val (.ref a2), .val (.int (0 : Int32))] [(.ref a1)])) _
    refine XS.iloadN X0.here hx rfl (hb hby d17_16) rfl ?_
    refine own_baloadB X0 hx hZ e0 PV1 (j := (0 : Int32)) (by decide) (v := (.int p3)) rfl (g := (mkF m 17 #[.val (.ref a1), .val (.ref a2), .val (.int (0 : Int32))] [(.int (0 : Int32)), (.ref a1)])) rfl rfl (hb hby d17_17) ?_
    refine XS.aloadN X0.here hx rfl (hb hby d17_18) rfl rfl ?_
    refine XS.iloadN X0.here hx rfl (hb hby d17_19) rfl ?_
    show Steps p.tables e below (s₁.setTop (mkF m 20 #[.val (.ref a1), .val (.ref a2), .val (.int (0 : Int32))] [(.int (0 : Int32)), (.ref a2), (.int p3)])) _
    refine own_baloadB X0 hx hZ e0 PV2 (j := (0 : Int32)) (by decide) (v := (.int p6)) rfl (g := (mkF m 20 #[.val (.ref a1), .val (.ref a2), .val (.int (0 : Int32))] [(.int (0 : Int32)), (.ref a2), (.int p3)])) rfl rfl (hb hby d17_20) ?_
    refine XS.icmpNo X0.here hx rfl (hb hby d17_21) rfl (feq hc3).1 ?_
    refine XS.iconst X0.here hx rfl (hb hby d17_24) ?_
    exact retN X0 hx (t := .boolean) Bd.returns (by simp) (hb hby d17_25) hr
  · show Qrm53 Z w0 w1 w2 w3 w4 w5 w6 w7 w8 w9 w10 w11 a1 a2 p3 p4 ck5 p6 p7 ck8 h0 n0 _ s₁.heap _
    rw [e0]
    exact ⟨rfl, N0, rfl⟩
def Qrm54 (Z : State) (w0 : Addr) (w1 : Addr) (w2 : Addr) (w3 : Addr) (w4 : Addr) (w5 : Addr) (w6 : Addr) (w7 : Addr) (w8 : Addr) (w9 : Addr) (w10 : Int32) (w11 : Value) (a1 : Addr) (a2 : Addr) (a3 : Addr) (a4 : Addr) (p5 : Int32) (p6 : Int32) (p7 : Int32) (p8 : Int32) (ck9 : ClassId) (ck10 : ClassId) (h0 : Heap) (n0 : Nat) (v : Option Value) (h : Heap) (L : List Loc) : Prop := v = some (.int (0 : Int32)) ∧ Fr n0 L ∧ h = h0
set_option maxRecDepth 65536 in
set_option maxHeartbeats 40000000 in
theorem rm54 (l : Launch) (Z : State) (a0 : Array Value) (hw : ∀ d ∈ tables_1, d.before a0 Z = true) (hj : ∀ d ∈ jdkStatics_1, d.before a0 Z = true) (w0 : Addr) (w1 : Addr) (w2 : Addr) (w3 : Addr) (w4 : Addr) (w5 : Addr) (w6 : Addr) (w7 : Addr) (w8 : Addr) (w9 : Addr) (w10 : Int32) (w11 : Value) (hS : SF Z w0 w1 w2 w3 w4 w5 w6 w7 w8 w9 w10 w11) (ws : List Jvm.Cond) (a1 : Addr) (a2 : Addr) (a3 : Addr) (a4 : Addr) (p5 : Int32) (p6 : Int32) (p7 : Int32) (p8 : Int32) (ck9 : ClassId) (ck10 : ClassId) (h0 : Heap) (n0 : Nat) (O0 : Old Z n0 h0) (pne1 : a1 ≠ a2) (PE2 : Exa Z h0 a2 z0) (PF3 : Fld Z h0 a1 z0 "coder" "B" (.int (0 : Int32))) (PF4 : Fld Z h0 a2 z0 "coder" "B" (.int (0 : Int32))) (PF5 : Fld Z h0 a1 z0 "value" "[B" (.ref a3)) (PF6 : Fld Z h0 a2 z0 "value" "[B" (.ref a4)) (PV7 : Arv Z h0 a3 ck9 .byte (2 : Int32) [(.int p5), (.int p6)] (.int (0 : Int32))) (PV8 : Arv Z h0 a4 ck10 .byte (2 : Int32) [(.int p7), (.int p8)] (.int (0 : Int32))) (hc9 : ¬ (p5 = p7)) :
    MetFree l (⟨z0, "equals", z7⟩ : MethodName) (head1 (Jvm.Cond.code (⟨z0, "equals", z7⟩ : MethodName) jdk_42_method_66_code 3 (some .boolean) :: ws) ({ frames := 1, cells := 0, slots := 0, locals := 14 } : Room)) (fun a U => a = #[(.ref a1), (.ref a2)] ∧ Z.Warmed39 U.vm ∧ U.heap = h0) (fun _ _ _ _ _ => True) (fun _ U o U' => ∃ v L, o = .returned v ∧ Qrm54 Z w0 w1 w2 w3 w4 w5 w6 w7 w8 w9 w10 w11 a1 a2 a3 a4 p5 p6 p7 p8 ck9 ck10 h0 n0 v U'.heap L ∧ FrameEnd U o U' L ({ frames := 1, cells := 0, slots := 0, locals := 14 } : Room).cells ({ frames := 1, cells := 0, slots := 0, locals := 14 } : Room).slots) := by
  refine MetFree.of_bodySF (plainFor_of_name pn101) hisR ?_
  intro p e s m args below meth c s₁ Bd hml0 hP hK
  obtain ⟨rfl, hZ, hh⟩ := hP
  have hx := Bd.exec
  have hby := Bd.bytes
  have hml : c.maxLocals = 3 := hml0
  have hown : s.vm.findClass z0 = some m.cls := findClass_of_methodNamed Bd.named
  have hnm := (name_of_methodNamed Bd.named Bd.method).1
  have X0 : Stand p l e ({ frames := 1, cells := 0, slots := 0, locals := 14 } : Room) s m #[(.ref a1), (.ref a2)] below meth c s₁ [] 0 0 := Stand.of_body Bd
  have e0 : s₁.heap = h0 := by rw [← hh, Bd.state]; rfl
  have N0 := Fr.nil n0
  have pre0 : ∀ t, Steps p.tables e below (s₁.setTop (mkF m 0 #[.val (.ref a1), .val (.ref a2), .unset] [])) t → Steps p.tables e below (s₁.setTop (entryFrame m #[(.ref a1), (.ref a2)] 3)) t := fun t k => castTop (ef216 m a1 a2) k
  obtain ⟨T1, X1, e1, st1⟩ := instY X0 hx hZ hown (hw _ m14) e0 (Ins.self PE2) (g := (mkF m 8 #[.val (.ref a1), .val (.ref a2), .unset] [(.ref a2)])) rfl rfl (hb hby d13_8)
  obtain ⟨T2, X2, e2, st2⟩ := castY X1 hx hZ hown (hw _ m14) e1 (Ins.self PE2) (g := (mkF m 15 #[.val (.ref a1), .val (.ref a2), .unset] [(.ref a2)])) rfl rfl (hb hby d13_15)
  obtain ⟨T3, X3, e3, st3⟩ := getS2 X2 hx hZ hown (host := "") (Or.inl (hw _ m9)) Via.refl e2 (hS.2.2.2.2.2.2.2.2.2.2.2.2.2.2.2.2.2.2.2.2.2.2.2.2.2.2.2.2.2.2.1.ext O0.2) (g := (mkF m 19 #[.val (.ref a1), .val (.ref a2), .val (.ref a2)] [])) rfl (hb hby d13_19)
  obtain ⟨T4, X4, e4, st4⟩ := getF X3 hx hZ hown (host := "") (Or.inl (hw _ m29)) Via.refl e3 PF3 (g := (mkF m 26 #[.val (.ref a1), .val (.ref a2), .val (.ref a2)] [(.ref a1)])) rfl rfl (hb hby d13_26)
  obtain ⟨T5, X5, e5, st5⟩ := getF X4 hx hZ hown (host := "") (Or.inl (hw _ m29)) Via.refl e4 PF4 (g := (mkF m 30 #[.val (.ref a1), .val (.ref a2), .val (.ref a2)] [(.ref a2), (.int (0 : Int32))])) rfl rfl (hb hby d13_30)
  obtain ⟨T6, X6, e6, st6⟩ := getF X5 hx hZ hown (host := "") (Or.inl (hw _ m27)) Via.refl e5 PF5 (g := (mkF m 37 #[.val (.ref a1), .val (.ref a2), .val (.ref a2)] [(.ref a1)])) rfl rfl (hb hby d13_37)
  obtain ⟨T7, X7, e7, st7⟩ := getF X6 hx hZ hown (host := "") (Or.inl (hw _ m27)) Via.refl e6 PF6 (g := (mkF m 41 #[.val (.ref a1), .val (.ref a2), .val (.ref a2)] [(.ref a2), (.ref a3)])) rfl rfl (hb hby d13_41)
  obtain ⟨_, T8, L8, hQ8, X8, st8⟩ := own_callS X7 hx hZ (W := 0) hown (hw _ m105) (hw _ m106) (hw _ m12) (hw _ m107) (by decide) (rm53 l Z a0 hw hj w0 w1 w2 w3 w4 w5 w6 w7 w8 w9 w10 w11 hS [] a3 a4 p5 p6 ck9 p7 p8 ck10 h0 n0 O0 PV7 PV8 hc9) e7 (g := (mkF m 44 #[.val (.ref a1), .val (.ref a2), .val (.ref a2)] [(.ref a4), (.ref a3)])) rfl (by rw [hml]; rfl) (argsL := [(.ref a3), (.ref a4)]) (rest := []) (lenOf pd220 rfl) rfl rfl (by show 2 * 0 + _ ≤ _; exact Nat.le_of_eq rfl) (hb hby d13_44) (by decide) (by decide) (by decide) (by decide)
  obtain ⟨rfl, N8q, e8⟩ := hQ8
  have N8 := Fr.app N0 N8q
  have e8' : T8.heap = h0 := e8
  obtain ⟨fs, hr, hrun, hended, hW, hsame⟩ := X8.leave (v := some (.int (0 : Int32))) (fun h => by rw [Bd.returns] at h; cases h)
  refine ⟨_, _, pre0 _ ?_, hrun, hended, _, _, rfl, ?_, ⟨_, rfl⟩, hW, hsame.mono (by decide) (by decide)⟩
  · show Steps p.tables e below (s₁.setTop (mkF m 0 #[.val (.ref a1), .val (.ref a2), .unset] [])) _
    refine XS.aloadN X0.here hx rfl (hb hby d13_0) rfl rfl ?_
    refine XS.aloadN X0.here hx rfl (hb hby d13_1) rfl rfl ?_
    refine Jvm.RoadKit.acmp (g := (mkF m 2 #[.val (.ref a1), .val (.ref a2), .unset] [(.ref a2), (.ref a1)])) X0 hx rfl rfl rfl (pc0 := 2) (pc' := 7) (same := false) rfl (hb hby d13_2) rfl (decide_eq_false fun q => pne1 (Value.ref.inj q)) (by decide) (by decide) ?_
    refine XS.aloadN X0.here hx rfl (hb hby d13_7) rfl rfl ?_
    show Steps p.tables e below (s₁.setTop (mkF m 8 #[.val (.ref a1), .val (.ref a2), .unset] [(.ref a2)])) _
    refine st1 _ ?_
    refine XS.ifNo X1.here hx rfl (hb hby d13_11) rfl ((if0 _ _).trans (feq (by decide : ¬ ((1 : Int32) = (0 : Int32)))).1) ?_
    refine XS.aloadN X1.here hx rfl (hb hby d13_14) rfl rfl ?_
    refine st2 _ ?_
    show Steps p.tables e below (T2.setTop (mkF m 18 #[.val (.ref a1), .val (.ref a2), .unset] [(.ref a2)])) _
    refine XS.astoreN X2.here hx rfl (hb hby d13_18) rfl rfl (l' := #[.val (.ref a1), .val (.ref a2), .val (.ref a2)]) rfl ?_
    refine st3 _ ?_
    refine XS.ifNo X3.here hx rfl (hb hby d13_22) rfl ((if0 _ _).trans (feq hS.2.2.2.2.2.2.2.2.2.2.2.2.2.2.2.2.2.2.2.2.2.2.2.2.2.2.2.2.2.2.2.1).1) ?_
    refine XS.aloadN X3.here hx rfl (hb hby d13_25) rfl rfl ?_
    show Steps p.tables e below (T3.setTop (mkF m 26 #[.val (.ref a1), .val (.ref a2), .val (.ref a2)] [(.ref a1)])) _
    refine st4 _ ?_
    refine XS.aloadN X4.here hx rfl (hb hby d13_29) rfl rfl ?_
    refine st5 _ ?_
    refine XS.icmpNo X5.here hx rfl (hb hby d13_33) rfl (teq (by decide : (0 : Int32) = (0 : Int32))).2 ?_
    show Steps p.tables e below (T5.setTop (mkF m 36 #[.val (.ref a1), .val (.ref a2), .val (.ref a2)] [])) _
    refine XS.aloadN X5.here hx rfl (hb hby d13_36) rfl rfl ?_
    refine st6 _ ?_
    refine XS.aloadN X6.here hx rfl (hb hby d13_40) rfl rfl ?_
    refine st7 _ ?_
    show Steps p.tables e below (T7.setTop (mkF m 44 #[.val (.ref a1), .val (.ref a2), .val (.ref a2)] [(.ref a4), (.ref a3)])) _
    refine st8 _ ?_
    refine XS.ifYes X8.here hx rfl (pc0 := 47) (pc' := 54) rfl (hb hby d13_47) rfl ((if0 _ _).trans (teq (by decide : (0 : Int32) = (0 : Int32))).1) (by decide) (by decide) ?_
    refine XS.iconst X8.here hx rfl (hb hby d13_54) ?_
    exact retN X8 hx (t := .boolean) Bd.returns (by simp) (hb hby d13_55) hr
  · show Qrm54 Z w0 w1 w2 w3 w4 w5 w6 w7 w8 w9 w10 w11 a1 a2 a3 a4 p5 p6 p7 p8 ck9 ck10 h0 n0 _ T8.heap _
    rw [e8']
    exact ⟨rfl, N8, rfl⟩
def Qrm55 (Z : State) (w0 : Addr) (w1 : Addr) (w2 : Addr) (w3 : Addr) (w4 : Addr) (w5 : Addr) (w6 : Addr) (w7 : Addr) (w8 : Addr) (w9 : Addr) (w10 : Int32) (w11 : Value) (a1 : Addr) (a2 : Addr) (a3 : Addr) (p4 : Int32) (p5 : Int32) (p6 : Int32) (p7 : Int32) (a8 : Addr) (a9 : Addr) (ck10 : ClassId) (ck11 : ClassId) (h0 : Heap) (n0 : Nat) (v : Option Value) (h : Heap) (L : List Loc) : Prop := v = some (.int (0 : Int32)) ∧ Fr n0 L ∧ h = h0
set_option maxRecDepth 65536 in
set_option maxHeartbeats 40000000 in
theorem rm55 (l : Launch) (Z : State) (a0 : Array Value) (hw : ∀ d ∈ tables_1, d.before a0 Z = true) (hj : ∀ d ∈ jdkStatics_1, d.before a0 Z = true) (w0 : Addr) (w1 : Addr) (w2 : Addr) (w3 : Addr) (w4 : Addr) (w5 : Addr) (w6 : Addr) (w7 : Addr) (w8 : Addr) (w9 : Addr) (w10 : Int32) (w11 : Value) (hS : SF Z w0 w1 w2 w3 w4 w5 w6 w7 w8 w9 w10 w11) (ws : List Jvm.Cond) (a1 : Addr) (a2 : Addr) (a3 : Addr) (p4 : Int32) (p5 : Int32) (p6 : Int32) (p7 : Int32) (a8 : Addr) (a9 : Addr) (ck10 : ClassId) (ck11 : ClassId) (h0 : Heap) (n0 : Nat) (O0 : Old Z n0 h0) (PF1 : Fld Z h0 a1 z1 "type" z3 (.ref w8)) (PF2 : Fld Z h0 a1 z1 "text" z8 (.ref a3)) (pne3 : a3 ≠ a2) (PE4 : Exa Z h0 a2 z0) (PF5 : Fld Z h0 a3 z0 "coder" "B" (.int (0 : Int32))) (PF6 : Fld Z h0 a2 z0 "coder" "B" (.int (0 : Int32))) (PF7 : Fld Z h0 a3 z0 "value" "[B" (.ref a8)) (PF8 : Fld Z h0 a2 z0 "value" "[B" (.ref a9)) (PV9 : Arv Z h0 a8 ck10 .byte (2 : Int32) [(.int p4), (.int p5)] (.int (0 : Int32))) (PV10 : Arv Z h0 a9 ck11 .byte (2 : Int32) [(.int p6), (.int p7)] (.int (0 : Int32))) (hc11 : ¬ (p4 = p6)) (PE12 : Exa Z h0 a3 z0) :
    MetFree l (⟨z1, "isSymbol", z6⟩ : MethodName) (head1 (Jvm.Cond.code (⟨z1, "isSymbol", z6⟩ : MethodName) prog_65_method_3_code 2 (some .boolean) :: ws) ({ frames := 2, cells := 0, slots := 0, locals := 28 } : Room)) (fun a U => a = #[(.ref a1), (.ref a2)] ∧ Z.Warmed39 U.vm ∧ U.heap = h0) (fun _ _ _ _ _ => True) (fun _ U o U' => ∃ v L, o = .returned v ∧ Qrm55 Z w0 w1 w2 w3 w4 w5 w6 w7 w8 w9 w10 w11 a1 a2 a3 p4 p5 p6 p7 a8 a9 ck10 ck11 h0 n0 v U'.heap L ∧ FrameEnd U o U' L ({ frames := 2, cells := 0, slots := 0, locals := 28 } : Room).cells ({ frames := 2, cells := 0, slots := 0, locals := 28 } : Room).slots) := by
  refine MetFree.of_bodySF (plainFor_of_name pn162) hisR ?_
  intro p e s m args below meth c s₁ Bd hml0 hP hK
  obtain ⟨rfl, hZ, hh⟩ := hP
  have hx := Bd.exec
  have hby := Bd.bytes
  have hml : c.maxLocals = 2 := hml0
  have hown : s.vm.findClass z1 = some m.cls := findClass_of_methodNamed Bd.named
  have hnm := (name_of_methodNamed Bd.named Bd.method).1
  have X0 : Stand p l e ({ frames := 2, cells := 0, slots := 0, locals := 28 } : Room) s m #[(.ref a1), (.ref a2)] below meth c s₁ [] 0 0 := Stand.of_body Bd
  have e0 : s₁.heap = h0 := by rw [← hh, Bd.state]; rfl
  have N0 := Fr.nil n0
  have pre0 : ∀ t, Steps p.tables e below (s₁.setTop (mkF m 0 #[.val (.ref a1), .val (.ref a2)] [])) t → Steps p.tables e below (s₁.setTop (entryFrame m #[(.ref a1), (.ref a2)] 2)) t := fun t k => castTop (ef106 m a1 a2) k
  obtain ⟨T1, X1, e1, st1⟩ := getF X0 hx hZ hown (host := "") (Or.inl (hw _ m60)) Via.refl e0 PF1 (g := (mkF m 1 #[.val (.ref a1), .val (.ref a2)] [(.ref a1)])) rfl rfl (hb hby d12_1)
  obtain ⟨T2, X2, e2, st2⟩ := getS2 X1 hx hZ hown (host := "") (Or.inl (hw _ m73)) Via.refl e1 (hS.2.2.2.2.2.2.2.2.2.2.2.2.2.2.2.2.2.2.2.2.2.2.2.2.1.ext O0.2) (g := (mkF m 4 #[.val (.ref a1), .val (.ref a2)] [(.ref w8)])) rfl (hb hby d12_4)
  obtain ⟨T3, X3, e3, st3⟩ := getF X2 hx hZ hown (host := "") (Or.inl (hw _ m62)) Via.refl e2 PF2 (g := (mkF m 11 #[.val (.ref a1), .val (.ref a2)] [(.ref a1)])) rfl rfl (hb hby d12_11)
  obtain ⟨_, T4, L4, hQ4, X4, st4⟩ := own_virtual X3 hx hZ (W := 0) hown (hw _ m80) (hw _ m81) (notFace_of_selects (args := #[]) (mvT hZ (hw _ m83))) (hw _ m83) (hw _ m82) (hw _ m7) (hw _ m84) (by decide) (rm54 l Z a0 hw hj w0 w1 w2 w3 w4 w5 w6 w7 w8 w9 w10 w11 hS [] a3 a2 a8 a9 p4 p5 p6 p7 ck10 ck11 h0 n0 O0 pne3 PE4 PF5 PF6 PF7 PF8 PV9 PV10 hc11) e3 PE12 (g := (mkF m 15 #[.val (.ref a1), .val (.ref a2)] [(.ref a2), (.ref a3)])) rfl (by rw [hml]; rfl) (argsL := [(.ref a2)]) (rest := []) (lenOf pd227 rfl) rfl rfl (by show 2 * 0 + _ ≤ _; exact Nat.le_of_eq rfl) (hb hby d12_15) (by decide) (by decide) (by decide) (by decide)
  obtain ⟨rfl, N4q, e4⟩ := hQ4
  have N4 := Fr.app N0 N4q
  have e4' : T4.heap = h0 := e4
  obtain ⟨fs, hr, hrun, hended, hW, hsame⟩ := X4.leave (v := some (.int (0 : Int32))) (fun h => by rw [Bd.returns] at h; cases h)
  refine ⟨_, _, pre0 _ ?_, hrun, hended, _, _, rfl, ?_, ⟨_, rfl⟩, hW, hsame.mono (by decide) (by decide)⟩
  · show Steps p.tables e below (s₁.setTop (mkF m 0 #[.val (.ref a1), .val (.ref a2)] [])) _
    refine XS.aloadN X0.here hx rfl (hb hby d12_0) rfl rfl ?_
    refine st1 _ ?_
    refine st2 _ ?_
    refine Jvm.RoadKit.acmp (g := (mkF m 7 #[.val (.ref a1), .val (.ref a2)] [(.ref w8), (.ref w8)])) X2 hx rfl rfl rfl (pc0 := 7) (pc' := 10) (same := true) rfl (hb hby d12_7) rfl (decide_eq_true rfl) (by decide) (by decide) ?_
    show Steps p.tables e below (T2.setTop (mkF m 10 #[.val (.ref a1), .val (.ref a2)] [])) _
    refine XS.aloadN X2.here hx rfl (hb hby d12_10) rfl rfl ?_
    refine st3 _ ?_
    refine XS.aloadN X3.here hx rfl (hb hby d12_14) rfl rfl ?_
    refine st4 _ ?_
    show Steps p.tables e below (T4.setTop (mkF m 18 #[.val (.ref a1), .val (.ref a2)] [(.int (0 : Int32))])) _
    refine XS.ifYes X4.here hx rfl (pc0 := 18) (pc' := 25) rfl (hb hby d12_18) rfl ((if0 _ _).trans (teq (by decide : (0 : Int32) = (0 : Int32))).1) (by decide) (by decide) ?_
    refine XS.iconst X4.here hx rfl (hb hby d12_25) ?_
    exact retN X4 hx (t := .boolean) Bd.returns (by simp) (hb hby d12_26) hr
  · show Qrm55 Z w0 w1 w2 w3 w4 w5 w6 w7 w8 w9 w10 w11 a1 a2 a3 p4 p5 p6 p7 a8 a9 ck10 ck11 h0 n0 _ T4.heap _
    rw [e4']
    exact ⟨rfl, N4, rfl⟩
def Qrm56 (Z : State) (w0 : Addr) (w1 : Addr) (w2 : Addr) (w3 : Addr) (w4 : Addr) (w5 : Addr) (w6 : Addr) (w7 : Addr) (w8 : Addr) (w9 : Addr) (w10 : Int32) (w11 : Value) (a1 : Addr) (h0 : Heap) (n0 : Nat) (v : Option Value) (h : Heap) (L : List Loc) : Prop := v = some (.int (0 : Int32)) ∧ Fr n0 L ∧ h = h0
set_option maxRecDepth 65536 in
set_option maxHeartbeats 40000000 in
theorem rm56 (l : Launch) (Z : State) (a0 : Array Value) (hw : ∀ d ∈ tables_1, d.before a0 Z = true) (hj : ∀ d ∈ jdkStatics_1, d.before a0 Z = true) (w0 : Addr) (w1 : Addr) (w2 : Addr) (w3 : Addr) (w4 : Addr) (w5 : Addr) (w6 : Addr) (w7 : Addr) (w8 : Addr) (w9 : Addr) (w10 : Int32) (w11 : Value) (hS : SF Z w0 w1 w2 w3 w4 w5 w6 w7 w8 w9 w10 w11) (ws : List Jvm.Cond) (a1 : Addr) (h0 : Heap) (n0 : Nat) (O0 : Old Z n0 h0) :
    MetFree l (⟨z0, "equals", z7⟩ : MethodName) (head1 (Jvm.Cond.code (⟨z0, "equals", z7⟩ : MethodName) jdk_42_method_66_code 3 (some .boolean) :: ws) ({ frames := 0, cells := 0, slots := 0, locals := 0 } : Room)) (fun a U => a = #[(.ref a1), .null] ∧ Z.Warmed39 U.vm ∧ U.heap = h0) (fun _ _ _ _ _ => True) (fun _ U o U' => ∃ v L, o = .returned v ∧ Qrm56 Z w0 w1 w2 w3 w4 w5 w6 w7 w8 w9 w10 w11 a1 h0 n0 v U'.heap L ∧ FrameEnd U o U' L ({ frames := 0, cells := 0, slots := 0, locals := 0 } : Room).cells ({ frames := 0, cells := 0, slots := 0, locals := 0 } : Room).slots) := by
  refine MetFree.of_bodySF (plainFor_of_name pn101) hisR ?_
  intro p e s m args below meth c s₁ Bd hml0 hP hK
  obtain ⟨rfl, hZ, hh⟩ := hP
  have hx := Bd.exec
  have hby := Bd.bytes
  have hml : c.maxLocals = 3 := hml0
  have hown : s.vm.findClass z0 = some m.cls := findClass_of_methodNamed Bd.named
  have hnm := (name_of_methodNamed Bd.named Bd.method).1
  have X0 : Stand p l e ({ frames := 0, cells := 0, slots := 0, locals := 0 } : Room) s m #[(.ref a1), .null] below meth c s₁ [] 0 0 := Stand.of_body Bd
  have e0 : s₁.heap = h0 := by rw [← hh, Bd.state]; rfl
  have N0 := Fr.nil n0
  have pre0 : ∀ t, Steps p.tables e below (s₁.setTop (mkF m 0 #[.val (.ref a1), .val .null, .unset] [])) t → Steps p.tables e below (s₁.setTop (entryFrame m #[(.ref a1), .null] 3)) t := fun t k => castTop (ef408 m a1) k
  obtain ⟨fs, hr, hrun, hended, hW, hsame⟩ := X0.leave (v := some (.int (0 : Int32))) (fun h => by rw [Bd.returns] at h; cases h)
  refine ⟨_, _, pre0 _ ?_, hrun, hended, _, _, rfl, ?_, ⟨_, rfl⟩, hW, hsame.mono (by decide) (by decide)⟩
  · show Steps p.tables e below (s₁.setTop (mkF m 0 #[.val (.ref a1), .val .null, .unset] [])) _
    refine XS.aloadN X0.here hx rfl (hb hby d13_0) rfl rfl ?_
    refine XS.aloadN X0.here hx rfl (hb hby d13_1) rfl rfl ?_
    refine Jvm.RoadKit.acmp (g := (mkF m 2 #[.val (.ref a1), .val .null, .unset] [.null, (.ref a1)])) X0 hx rfl rfl rfl (pc0 := 2) (pc' := 7) (same := false) rfl (hb hby d13_2) rfl (decide_eq_false nofun) (by decide) (by decide) ?_
    refine XS.aloadN X0.here hx rfl (hb hby d13_7) rfl rfl ?_
    show Steps p.tables e below (s₁.setTop (mkF m 8 #[.val (.ref a1), .val .null, .unset] [.null])) _
    refine X0.instanceofNull hx (g := (mkF m 8 #[.val (.ref a1), .val .null, .unset] [.null])) rfl rfl (hb hby d13_8) _ ?_
    refine XS.ifYes X0.here hx rfl (pc0 := 11) (pc' := 54) rfl (hb hby d13_11) rfl ((if0 _ _).trans (teq (by decide : (0 : Int32) = (0 : Int32))).1) (by decide) (by decide) ?_
    refine XS.iconst X0.here hx rfl (hb hby d13_54) ?_
    exact retN X0 hx (t := .boolean) Bd.returns (by simp) (hb hby d13_55) hr
  · show Qrm56 Z w0 w1 w2 w3 w4 w5 w6 w7 w8 w9 w10 w11 a1 h0 n0 _ s₁.heap _
    rw [e0]
    exact ⟨rfl, N0, rfl⟩
def Qrm57 (Z : State) (w0 : Addr) (w1 : Addr) (w2 : Addr) (w3 : Addr) (w4 : Addr) (w5 : Addr) (w6 : Addr) (w7 : Addr) (w8 : Addr) (w9 : Addr) (w10 : Int32) (w11 : Value) (a1 : Addr) (a2 : Addr) (h0 : Heap) (n0 : Nat) (v : Option Value) (h : Heap) (L : List Loc) : Prop := v = some (.int (0 : Int32)) ∧ Fr n0 L ∧ h = h0
set_option maxRecDepth 65536 in
set_option maxHeartbeats 40000000 in
theorem rm57 (l : Launch) (Z : State) (a0 : Array Value) (hw : ∀ d ∈ tables_1, d.before a0 Z = true) (hj : ∀ d ∈ jdkStatics_1, d.before a0 Z = true) (w0 : Addr) (w1 : Addr) (w2 : Addr) (w3 : Addr) (w4 : Addr) (w5 : Addr) (w6 : Addr) (w7 : Addr) (w8 : Addr) (w9 : Addr) (w10 : Int32) (w11 : Value) (hS : SF Z w0 w1 w2 w3 w4 w5 w6 w7 w8 w9 w10 w11) (ws : List Jvm.Cond) (a1 : Addr) (a2 : Addr) (h0 : Heap) (n0 : Nat) (O0 : Old Z n0 h0) (PF1 : Fld Z h0 a1 z1 "type" z3 (.ref w8)) (PF2 : Fld Z h0 a1 z1 "text" z8 (.ref a2)) (PE3 : Exa Z h0 a2 z0) :
    MetFree l (⟨z1, "isSymbol", z6⟩ : MethodName) (head1 (Jvm.Cond.code (⟨z1, "isSymbol", z6⟩ : MethodName) prog_65_method_3_code 2 (some .boolean) :: ws) ({ frames := 1, cells := 0, slots := 0, locals := 14 } : Room)) (fun a U => a = #[(.ref a1), .null] ∧ Z.Warmed39 U.vm ∧ U.heap = h0) (fun _ _ _ _ _ => True) (fun _ U o U' => ∃ v L, o = .returned v ∧ Qrm57 Z w0 w1 w2 w3 w4 w5 w6 w7 w8 w9 w10 w11 a1 a2 h0 n0 v U'.heap L ∧ FrameEnd U o U' L ({ frames := 1, cells := 0, slots := 0, locals := 14 } : Room).cells ({ frames := 1, cells := 0, slots := 0, locals := 14 } : Room).slots) := by
  refine MetFree.of_bodySF (plainFor_of_name pn162) hisR ?_
  intro p e s m args below meth c s₁ Bd hml0 hP hK
  obtain ⟨rfl, hZ, hh⟩ := hP
  have hx := Bd.exec
  have hby := Bd.bytes
  have hml : c.maxLocals = 2 := hml0
  have hown : s.vm.findClass z1 = some m.cls := findClass_of_methodNamed Bd.named
  have hnm := (name_of_methodNamed Bd.named Bd.method).1
  have X0 : Stand p l e ({ frames := 1, cells := 0, slots := 0, locals := 14 } : Room) s m #[(.ref a1), .null] below meth c s₁ [] 0 0 := Stand.of_body Bd
  have e0 : s₁.heap = h0 := by rw [← hh, Bd.state]; rfl
  have N0 := Fr.nil n0
  have pre0 : ∀ t, Steps p.tables e below (s₁.setTop (mkF m 0 #[.val (.ref a1), .val .null] [])) t → Steps p.tables e below (s₁.setTop (entryFrame m #[(.ref a1), .null] 2)) t := fun t k => castTop (ef409 m a1) k
  obtain ⟨T1, X1, e1, st1⟩ := getF X0 hx hZ hown (host := "") (Or.inl (hw _ m60)) Via.refl e0 PF1 (g := (mkF m 1 #[.val (.ref a1), .val .null] [(.ref a1)])) rfl rfl (hb hby d12_1)
  obtain ⟨T2, X2, e2, st2⟩ := getS2 X1 hx hZ hown (host := "") (Or.inl (hw _ m73)) Via.refl e1 (hS.2.2.2.2.2.2.2.2.2.2.2.2.2.2.2.2.2.2.2.2.2.2.2.2.1.ext O0.2) (g := (mkF m 4 #[.val (.ref a1), .val .null] [(.ref w8)])) rfl (hb hby d12_4)
  obtain ⟨T3, X3, e3, st3⟩ := getF X2 hx hZ hown (host := "") (Or.inl (hw _ m62)) Via.refl e2 PF2 (g := (mkF m 11 #[.val (.ref a1), .val .null] [(.ref a1)])) rfl rfl (hb hby d12_11)
  obtain ⟨_, T4, L4, hQ4, X4, st4⟩ := own_virtual X3 hx hZ (W := 0) hown (hw _ m80) (hw _ m81) (notFace_of_selects (args := #[]) (mvT hZ (hw _ m83))) (hw _ m83) (hw _ m82) (hw _ m7) (hw _ m84) (by decide) (rm56 l Z a0 hw hj w0 w1 w2 w3 w4 w5 w6 w7 w8 w9 w10 w11 hS [] a2 h0 n0 O0) e3 PE3 (g := (mkF m 15 #[.val (.ref a1), .val .null] [.null, (.ref a2)])) rfl (by rw [hml]; rfl) (argsL := [.null]) (rest := []) (lenOf pd227 rfl) rfl rfl (by show 2 * 0 + _ ≤ _; exact Nat.le_of_eq rfl) (hb hby d12_15) (by decide) (by decide) (by decide) (by decide)
  obtain ⟨rfl, N4q, e4⟩ := hQ4
  have N4 := Fr.app N0 N4q
  have e4' : T4.heap = h0 := e4
  obtain ⟨fs, hr, hrun, hended, hW, hsame⟩ := X4.leave (v := some (.int (0 : Int32))) (fun h => by rw [Bd.returns] at h; cases h)
  refine ⟨_, _, pre0 _ ?_, hrun, hended, _, _, rfl, ?_, ⟨_, rfl⟩, hW, hsame.mono (by decide) (by decide)⟩
  · show Steps p.tables e below (s₁.setTop (mkF m 0 #[.val (.ref a1), .val .null] [])) _
    refine XS.aloadN X0.here hx rfl (hb hby d12_0) rfl rfl ?_
    refine st1 _ ?_
    refine st2 _ ?_
    refine Jvm.RoadKit.acmp (g := (mkF m 7 #[.val (.ref a1), .val .null] [(.ref w8), (.ref w8)])) X2 hx rfl rfl rfl (pc0 := 7) (pc' := 10) (same := true) rfl (hb hby d12_7) rfl (decide_eq_true rfl) (by decide) (by decide) ?_
    show Steps p.tables e below (T2.setTop (mkF m 10 #[.val (.ref a1), .val .null] [])) _
    refine XS.aloadN X2.here hx rfl (hb hby d12_10) rfl rfl ?_
    refine st3 _ ?_
    refine XS.aloadN X3.here hx rfl (hb hby d12_14) rfl rfl ?_
    refine st4 _ ?_
    show Steps p.tables e below (T4.setTop (mkF m 18 #[.val (.ref a1), .val .null] [(.int (0 : Int32))])) _
    refine XS.ifYes X4.here hx rfl (pc0 := 18) (pc' := 25) rfl (hb hby d12_18) rfl ((if0 _ _).trans (teq (by decide : (0 : Int32) = (0 : Int32))).1) (by decide) (by decide) ?_
    refine XS.iconst X4.here hx rfl (hb hby d12_25) ?_
    exact retN X4 hx (t := .boolean) Bd.returns (by simp) (hb hby d12_26) hr
  · show Qrm57 Z w0 w1 w2 w3 w4 w5 w6 w7 w8 w9 w10 w11 a1 a2 h0 n0 _ T4.heap _
    rw [e4']
    exact ⟨rfl, N4, rfl⟩
def Qrm58 (Z : State) (w0 : Addr) (w1 : Addr) (w2 : Addr) (w3 : Addr) (w4 : Addr) (w5 : Addr) (w6 : Addr) (w7 : Addr) (w8 : Addr) (w9 : Addr) (w10 : Int32) (w11 : Value) (a1 : Addr) (a2 : Addr) (h0 : Heap) (n0 : Nat) (v : Option Value) (h : Heap) (L : List Loc) : Prop := v = some (.int (0 : Int32)) ∧ Fr n0 L ∧ h = h0
set_option maxRecDepth 65536 in
set_option maxHeartbeats 40000000 in
theorem rm58 (l : Launch) (Z : State) (a0 : Array Value) (hw : ∀ d ∈ tables_1, d.before a0 Z = true) (hj : ∀ d ∈ jdkStatics_1, d.before a0 Z = true) (w0 : Addr) (w1 : Addr) (w2 : Addr) (w3 : Addr) (w4 : Addr) (w5 : Addr) (w6 : Addr) (w7 : Addr) (w8 : Addr) (w9 : Addr) (w10 : Int32) (w11 : Value) (hS : SF Z w0 w1 w2 w3 w4 w5 w6 w7 w8 w9 w10 w11) (ws : List Jvm.Cond) (a1 : Addr) (a2 : Addr) (h0 : Heap) (n0 : Nat) (O0 : Old Z n0 h0) (PF1 : Fld Z h0 a1 z1 "type" z3 (.ref a2)) (pne2 : a2 ≠ w8) :
    MetFree l (⟨z1, "isSymbol", z6⟩ : MethodName) (head1 (Jvm.Cond.code (⟨z1, "isSymbol", z6⟩ : MethodName) prog_65_method_3_code 2 (some .boolean) :: ws) ({ frames := 0, cells := 0, slots := 0, locals := 0 } : Room)) (fun a U => a = #[(.ref a1), .null] ∧ Z.Warmed39 U.vm ∧ U.heap = h0) (fun _ _ _ _ _ => True) (fun _ U o U' => ∃ v L, o = .returned v ∧ Qrm58 Z w0 w1 w2 w3 w4 w5 w6 w7 w8 w9 w10 w11 a1 a2 h0 n0 v U'.heap L ∧ FrameEnd U o U' L ({ frames := 0, cells := 0, slots := 0, locals := 0 } : Room).cells ({ frames := 0, cells := 0, slots := 0, locals := 0 } : Room).slots) := by
  refine MetFree.of_bodySF (plainFor_of_name pn162) hisR ?_
  intro p e s m args below meth c s₁ Bd hml0 hP hK
  obtain ⟨rfl, hZ, hh⟩ := hP
  have hx := Bd.exec
  have hby := Bd.bytes
  have hml : c.maxLocals = 2 := hml0
  have hown : s.vm.findClass z1 = some m.cls := findClass_of_methodNamed Bd.named
  have hnm := (name_of_methodNamed Bd.named Bd.method).1
  have X0 : Stand p l e ({ frames := 0, cells := 0, slots := 0, locals := 0 } : Room) s m #[(.ref a1), .null] below meth c s₁ [] 0 0 := Stand.of_body Bd
  have e0 : s₁.heap = h0 := by rw [← hh, Bd.state]; rfl
  have N0 := Fr.nil n0
  have pre0 : ∀ t, Steps p.tables e below (s₁.setTop (mkF m 0 #[.val (.ref a1), .val .null] [])) t → Steps p.tables e below (s₁.setTop (entryFrame m #[(.ref a1), .null] 2)) t := fun t k => castTop (ef409 m a1) k
  obtain ⟨T1, X1, e1, st1⟩ := getF X0 hx hZ hown (host := "") (Or.inl (hw _ m60)) Via.refl e0 PF1 (g := (mkF m 1 #[.val (.ref a1), .val .null] [(.ref a1)])) rfl rfl (hb hby d12_1)
  obtain ⟨T2, X2, e2, st2⟩ := getS2 X1 hx hZ hown (host := "") (Or.inl (hw _ m73)) Via.refl e1 (hS.2.2.2.2.2.2.2.2.2.2.2.2.2.2.2.2.2.2.2.2.2.2.2.2.1.ext O0.2) (g := (mkF m 4 #[.val (.ref a1), .val .null] [(.ref a2)])) rfl (hb hby d12_4)
  obtain ⟨fs, hr, hrun, hended, hW, hsame⟩ := X2.leave (v := some (.int (0 : Int32))) (fun h => by rw [Bd.returns] at h; cases h)
  refine ⟨_, _, pre0 _ ?_, hrun, hended, _, _, rfl, ?_, ⟨_, rfl⟩, hW, hsame.mono (by decide) (by decide)⟩
  · show Steps p.tables e below (s₁.setTop (mkF m 0 #[.val (.ref a1), .val .null] [])) _
    refine XS.aloadN X0.here hx rfl (hb hby d12_0) rfl rfl ?_
    refine st1 _ ?_
    refine st2 _ ?_
    refine Jvm.RoadKit.acmp (g := (mkF m 7 #[.val (.ref a1), .val .null] [(.ref w8), (.ref a2)])) X2 hx rfl rfl rfl (pc0 := 7) (pc' := 25) (same := false) rfl (hb hby d12_7) rfl (decide_eq_false fun q => pne2 (Value.ref.inj q)) (by decide) (by decide) ?_
    show Steps p.tables e below (T2.setTop (mkF m 25 #[.val (.ref a1), .val .null] [])) _
    refine XS.iconst X2.here hx rfl (hb hby d12_25) ?_
    exact retN X2 hx (t := .boolean) Bd.returns (by simp) (hb hby d12_26) hr
  · show Qrm58 Z w0 w1 w2 w3 w4 w5 w6 w7 w8 w9 w10 w11 a1 a2 h0 n0 _ T2.heap _
    rw [e2]
    exact ⟨rfl, N0, rfl⟩
def QL (n0 : Nat) (v : Option Value) (h : Heap) (L : List Loc) : Prop := v = some (.int (1 : Int32)) ∧ Fr n0 L
set_option maxRecDepth 65536 in
set_option maxHeartbeats 40000000 in
theorem rm0 (l : Launch) (Z : State) (a0 : Array Value) (hw : ∀ d ∈ tables_1, d.before a0 Z = true) (hj : ∀ d ∈ jdkStatics_1, d.before a0 Z = true) (w0 : Addr) (w1 : Addr) (w2 : Addr) (w3 : Addr) (w4 : Addr) (w5 : Addr) (w6 : Addr) (w7 : Addr) (w8 : Addr) (w9 : Addr) (w10 : Int32) (w11 : Value) (hS : SF Z w0 w1 w2 w3 w4 w5 w6 w7 w8 w9 w10 w11) (ws : List Jvm.Cond) (i0 : Int32) (i1 : Int32) (i2 : Int32) (i3 : Int32) (i4 : Int32) (i5 : Int32) (h0 : Heap) (n0 : Nat) (O0 : Old Z n0 h0) :
    MetFree l x (head1 (Jvm.Cond.code x code maxLocals ret :: ws) room_1) (fun a U => a = #[(.int i0), (.int i1), (.int i2), (.int i3), (.int i4), (.int i5)] ∧ Z.Warmed39 U.vm ∧ U.heap = h0 ∧ CHv Z EL U.vm h0 ∧ ∀ x ∈ ([] : List Addr), Safe Z EL U.vm h0 x) (fun _ _ _ _ _ => True) (fun _ U o U' => ∃ v L, o = .returned v ∧ QL n0 v U'.heap L ∧ ReturnedEndW U o U' L room_1.cells room_1.slots) := by
  refine MetFree.of_bodySF (plainFor_of_name pn54) hisR ?_
  intro p e s m args below meth c s₁ Bd hml0 hP hK
  obtain ⟨rfl, hZ, hh, H0, hsx⟩ := hP
  have hx := Bd.exec
  have hby := Bd.bytes
  have hml : c.maxLocals = 19 := hml0
  have hown : s.vm.findClass z4 = some m.cls := findClass_of_methodNamed Bd.named
  have hnm := (name_of_methodNamed Bd.named Bd.method).1
  have X0 : Stand p l e room_1 (s.setVm s.vm) m #[(.int i0), (.int i1), (.int i2), (.int i3), (.int i4), (.int i5)] below meth c s₁ [] 0 0 := Stand.of_body Bd
  have e0 : s₁.heap = h0 := by rw [← hh, Bd.state]; rfl
  have N0 := Fr.nil n0
  have pre0 : ∀ t, Steps p.tables e below (s₁.setTop (mkF m 0 #[.val (.int i0), .val (.int i1), .val (.int i2), .val (.int i3), .val (.int i4), .val (.int i5), .unset, .unset, .unset, .unset, .unset, .unset, .unset, .unset, .unset, .unset, .unset, .unset, .unset] [])) t → Steps p.tables e below (s₁.setTop (entryFrame m #[(.int i0), (.int i1), (.int i2), (.int i3), (.int i4), (.int i5)] maxLocals)) t := fun t k => castTop (ef238 m i0 i1 i2 i3 i4 i5) k
  have hS0 : s.Since s.vm h0.size := (State.WarmedH.refl s).since _
  have C0 : CHr Z EL s.vm h0 s.vm h0 := CHr.refl H0
  obtain ⟨x1, hx1⟩ : ∃ z, (i0 &&& (2147483647 : Int32)) = z := ⟨_, rfl⟩
  have rx1 : 0 ≤ x1.toInt ∧ x1.toInt ≤ 2147483647 := hx1 ▸ (own_mask i0 (2147483647 : Int32) (by decide) : 0 ≤ ((i0 &&& (2147483647 : Int32))).toInt ∧ ((i0 &&& (2147483647 : Int32))).toInt ≤ 2147483647)
  obtain ⟨x2, hx2⟩ : ∃ z, (x1 % (10 : Int32)) = z := ⟨_, rfl⟩
  have rx2 : 0 ≤ x2.toInt ∧ x2.toInt ≤ 9 := hx2 ▸ (own_rem x1 (10 : Int32) 10 (by decide) (by have q0 := rx1; omega : 0 ≤ (x1).toInt ∧ (x1).toInt ≤ 2147483647) (by decide) : 0 ≤ ((x1 % (10 : Int32))).toInt ∧ ((x1 % (10 : Int32))).toInt ≤ 9)
  obtain ⟨x3, hx3⟩ : ∃ z, (i3 &&& (3 : Int32)) = z := ⟨_, rfl⟩
  have rx3 : 0 ≤ x3.toInt ∧ x3.toInt ≤ 3 := hx3 ▸ (own_mask i3 (3 : Int32) (by decide) : 0 ≤ ((i3 &&& (3 : Int32))).toInt ∧ ((i3 &&& (3 : Int32))).toInt ≤ 3)
  obtain ⟨x4, hx4⟩ : ∃ z, (x3 % (3 : Int32)) = z := ⟨_, rfl⟩
  have rx4 : 0 ≤ x4.toInt ∧ x4.toInt ≤ 2 := hx4 ▸ (own_rem x3 (3 : Int32) 3 (by decide) (by have q0 := rx3; omega : 0 ≤ (x3).toInt ∧ (x3).toInt ≤ 3) (by decide) : 0 ≤ ((x3 % (3 : Int32))).toInt ∧ ((x3 % (3 : Int32))).toInt ≤ 2)
  obtain ⟨x5, hx5⟩ : ∃ z, ((i3.toUInt32 >>> ((2 : Int32) &&& 31).toUInt32).toInt32) = z := ⟨_, rfl⟩
  have rx5 : 0 ≤ x5.toInt ∧ x5.toInt ≤ 1073741823 := hx5 ▸ (by have q0 := own_rng i3; have q1 := (by decide : ((2 : Int32)).toInt = 2); have q2 := c_iushr i3 (2 : Int32) 2 (by decide) (by decide); omega : 0 ≤ (((i3.toUInt32 >>> ((2 : Int32) &&& 31).toUInt32).toInt32)).toInt ∧ (((i3.toUInt32 >>> ((2 : Int32) &&& 31).toUInt32).toInt32)).toInt ≤ 1073741823)
  obtain ⟨x6, hx6⟩ : ∃ z, (x5 &&& (3 : Int32)) = z := ⟨_, rfl⟩
  have rx6 : 0 ≤ x6.toInt ∧ x6.toInt ≤ 3 := hx6 ▸ (own_mask x5 (3 : Int32) (by decide) : 0 ≤ ((x5 &&& (3 : Int32))).toInt ∧ ((x5 &&& (3 : Int32))).toInt ≤ 3)
  obtain ⟨x7, hx7⟩ : ∃ z, (x6 % (3 : Int32)) = z := ⟨_, rfl⟩
  have rx7 : 0 ≤ x7.toInt ∧ x7.toInt ≤ 2 := hx7 ▸ (own_rem x6 (3 : Int32) 3 (by decide) (by have q0 := rx6; omega : 0 ≤ (x6).toInt ∧ (x6).toInt ≤ 3) (by decide) : 0 ≤ ((x6 % (3 : Int32))).toInt ∧ ((x6 % (3 : Int32))).toInt ≤ 2)
  obtain ⟨x8, hx8⟩ : ∃ z, (i3 &&& (16 : Int32)) = z := ⟨_, rfl⟩
  have rx8 : 0 ≤ x8.toInt ∧ x8.toInt ≤ 16 := hx8 ▸ (own_mask i3 (16 : Int32) (by decide) : 0 ≤ ((i3 &&& (16 : Int32))).toInt ∧ ((i3 &&& (16 : Int32))).toInt ≤ 16)
  have pre1 : ∀ t, Steps p.tables e below (s₁.setTop (mkF m 29 #[.val (.int i0), .val (.int i1), .val (.int i2), .val (.int i3), .val (.int i4), .val (.int i5), .val (.int x2), .val (.int x4), .val (.int x7), .unset, .unset, .unset, .unset, .unset, .unset, .unset, .unset, .unset, .unset] [(.int x8)])) t → Steps p.tables e below (s₁.setTop (entryFrame m #[(.int i0), (.int i1), (.int i2), (.int i3), (.int i4), (.int i5)] maxLocals)) t := fun t kt => pre0 _ (by
      show Steps p.tables e below (s₁.setTop (mkF m 0 #[.val (.int i0), .val (.int i1), .val (.int i2), .val (.int i3), .val (.int i4), .val (.int i5), .unset, .unset, .unset, .unset, .unset, .unset, .unset, .unset, .unset, .unset, .unset, .unset, .unset] [])) _
      refine XS.iloadN X0.here hx rfl (hb hby at_0) rfl ?_
      refine X0.ldcInt hx hown (mvT hZ (hw _ m0)) (g := (mkF m 1 #[.val (.int i0), .val (.int i1), .val (.int i2), .val (.int i3), .val (.int i4), .val (.int i5), .unset, .unset, .unset, .unset, .unset, .unset, .unset, .unset, .unset, .unset, .unset, .unset, .unset] [(.int i0)])) rfl (hb hby at_1) _ ?_
      refine Own.iand X0.here hx rfl (hb hby at_3) rfl hx1 ?_
      refine XS.bipush X0.here hx rfl (hb hby at_4) ?_
      show Steps p.tables e below (s₁.setTop (mkF m 6 #[.val (.int i0), .val (.int i1), .val (.int i2), .val (.int i3), .val (.int i4), .val (.int i5), .unset, .unset, .unset, .unset, .unset, .unset, .unset, .unset, .unset, .unset, .unset, .unset, .unset] [(.int (10 : Int32)), (.int x1)])) _
      refine own_irem X0 hx rfl (hb hby at_6) rfl (by decide : ¬ ((10 : Int32) = (0 : Int32))) hx2 ?_
      refine XS.istore X0.here hx rfl (hb hby at_7) rfl (l' := #[.val (.int i0), .val (.int i1), .val (.int i2), .val (.int i3), .val (.int i4), .val (.int i5), .val (.int x2), .unset, .unset, .unset, .unset, .unset, .unset, .unset, .unset, .unset, .unset, .unset, .unset]) rfl ?_
      refine XS.iloadN X0.here hx rfl (hb hby at_9) rfl ?_
      refine XS.iconst X0.here hx rfl (hb hby at_10) ?_
      show Steps p.tables e below (s₁.setTop (mkF m 11 #[.val (.int i0), .val (.int i1), .val (.int i2), .val (.int i3), .val (.int i4), .val (.int i5), .val (.int x2), .unset, .unset, .unset, .unset, .unset, .unset, .unset, .unset, .unset, .unset, .unset, .unset] [(.int (3 : Int32)), (.int i3)])) _
      refine Own.iand X0.here hx rfl (hb hby at_11) rfl hx3 ?_
      refine XS.iconst X0.here hx rfl (hb hby at_12) ?_
      refine own_irem X0 hx rfl (hb hby at_13) rfl (by decide : ¬ ((3 : Int32) = (0 : Int32))) hx4 ?_
      refine XS.istore X0.here hx rfl (hb hby at_14) rfl (l' := #[.val (.int i0), .val (.int i1), .val (.int i2), .val (.int i3), .val (.int i4), .val (.int i5), .val (.int x2), .val (.int x4), .unset, .unset, .unset, .unset, .unset, .unset, .unset, .unset, .unset, .unset, .unset]) rfl ?_
      show Steps p.tables e below (s₁.setTop (mkF m 16 #[.val (.int i0), .val (.int i1), .val (.int i2), .val (.int i3), .val (.int i4), .val (.int i5), .val (.int x2), .val (.int x4), .unset, .unset, .unset, .unset, .unset, .unset, .unset, .unset, .unset, .unset, .unset] [])) _
      refine XS.iloadN X0.here hx rfl (hb hby at_16) rfl ?_
      refine XS.iconst X0.here hx rfl (hb hby at_17) ?_
      refine Own.iushr X0.here hx rfl (hb hby at_18) rfl hx5 ?_
      refine XS.iconst X0.here hx rfl (hb hby at_19) ?_
      show Steps p.tables e below (s₁.setTop (mkF m 20 #[.val (.int i0), .val (.int i1), .val (.int i2), .val (.int i3), .val (.int i4), .val (.int i5), .val (.int x2), .val (.int x4), .unset, .unset, .unset, .unset, .unset, .unset, .unset, .unset, .unset, .unset, .unset] [(.int (3 : Int32)), (.int x5)])) _
      refine Own.iand X0.here hx rfl (hb hby at_20) rfl hx6 ?_
      refine XS.iconst X0.here hx rfl (hb hby at_21) ?_
      refine own_irem X0 hx rfl (hb hby at_22) rfl (by decide : ¬ ((3 : Int32) = (0 : Int32))) hx7 ?_
      refine XS.istore X0.here hx rfl (hb hby at_23) rfl (l' := #[.val (.int i0), .val (.int i1), .val (.int i2), .val (.int i3), .val (.int i4), .val (.int i5), .val (.int x2), .val (.int x4), .val (.int x7), .unset, .unset, .unset, .unset, .unset, .unset, .unset, .unset, .unset, .unset]) rfl ?_
      show Steps p.tables e below (s₁.setTop (mkF m 25 #[.val (.int i0), .val (.int i1), .val (.int i2), .val (.int i3), .val (.int i4), .val (.int i5), .val (.int x2), .val (.int x4), .val (.int x7), .unset, .unset, .unset, .unset, .unset, .unset, .unset, .unset, .unset, .unset] [])) _
      refine XS.iloadN X0.here hx rfl (hb hby at_25) rfl ?_
      refine XS.bipush X0.here hx rfl (hb hby at_26) ?_
      refine Own.iand X0.here hx rfl (hb hby at_28) rfl hx8 ?_
      exact kt)
  rcases Decidable.em (x8 = (0 : Int32)) with hp0 | hp0
  · obtain ⟨x9, hx9⟩ : ∃ z, (i1 &&& (255 : Int32)) = z := ⟨_, rfl⟩
    have rx9 : 0 ≤ x9.toInt ∧ x9.toInt ≤ 255 := hx9 ▸ (own_mask i1 (255 : Int32) (by decide) : 0 ≤ ((i1 &&& (255 : Int32))).toInt ∧ ((i1 &&& (255 : Int32))).toInt ≤ 255)
    have hd10 : ¬ (x9 < (0 : Int32)) := (by have q0 := rx9; have q1 := (by decide : ((0 : Int32)).toInt = 0); exact own_ltF (by omega) : ¬ (x9 < (0 : Int32)))
    have hd11 : ¬ ((65535 : Int32) < x9) := (by have q0 := (by decide : ((65535 : Int32)).toInt = 65535); have q1 := rx9; exact own_ltF (by omega) : ¬ ((65535 : Int32) < x9))
    obtain ⟨x12, hx12⟩ : ∃ z, ((i1.toUInt32 >>> ((8 : Int32) &&& 31).toUInt32).toInt32) = z := ⟨_, rfl⟩
    have rx12 : 0 ≤ x12.toInt ∧ x12.toInt ≤ 16777215 := hx12 ▸ (by have q0 := own_rng i1; have q1 := (by decide : ((8 : Int32)).toInt = 8); have q2 := c_iushr i1 (8 : Int32) 8 (by decide) (by decide); omega : 0 ≤ (((i1.toUInt32 >>> ((8 : Int32) &&& 31).toUInt32).toInt32)).toInt ∧ (((i1.toUInt32 >>> ((8 : Int32) &&& 31).toUInt32).toInt32)).toInt ≤ 16777215)
    obtain ⟨x13, hx13⟩ : ∃ z, (x12 &&& (255 : Int32)) = z := ⟨_, rfl⟩
    have rx13 : 0 ≤ x13.toInt ∧ x13.toInt ≤ 255 := hx13 ▸ (own_mask x12 (255 : Int32) (by decide) : 0 ≤ ((x12 &&& (255 : Int32))).toInt ∧ ((x12 &&& (255 : Int32))).toInt ≤ 255)
    have hd14 : ¬ (x13 < (0 : Int32)) := (by have q0 := rx13; have q1 := (by decide : ((0 : Int32)).toInt = 0); exact own_ltF (by omega) : ¬ (x13 < (0 : Int32)))
    have hd15 : ¬ ((65535 : Int32) < x13) := (by have q0 := (by decide : ((65535 : Int32)).toInt = 65535); have q1 := rx13; exact own_ltF (by omega) : ¬ ((65535 : Int32) < x13))
    obtain ⟨x16, hx16⟩ : ∃ z, (i2 &&& (255 : Int32)) = z := ⟨_, rfl⟩
    have rx16 : 0 ≤ x16.toInt ∧ x16.toInt ≤ 255 := hx16 ▸ (own_mask i2 (255 : Int32) (by decide) : 0 ≤ ((i2 &&& (255 : Int32))).toInt ∧ ((i2 &&& (255 : Int32))).toInt ≤ 255)
    obtain ⟨x17, hx17⟩ : ∃ z, (x9 ^^^ x16) = z := ⟨_, rfl⟩
    have rx17 : 0 ≤ x17.toInt ∧ x17.toInt ≤ 255 := hx17 ▸ (by have q0 := rx9; have q1 := rx16; have q2 := own_xor x9 x16 8 (by decide) (by have q0 := rx9; omega) (by have q0 := rx16; omega); omega : 0 ≤ ((x9 ^^^ x16)).toInt ∧ ((x9 ^^^ x16)).toInt ≤ 255)
    have hd18 : ¬ (x17 < (0 : Int32)) := (by have q0 := rx17; have q1 := (by decide : ((0 : Int32)).toInt = 0); exact own_ltF (by omega) : ¬ (x17 < (0 : Int32)))
    have hd19 : ¬ ((65535 : Int32) < x17) := (by have q0 := (by decide : ((65535 : Int32)).toInt = 65535); have q1 := rx17; exact own_ltF (by omega) : ¬ ((65535 : Int32) < x17))
    obtain ⟨x20, hx20⟩ : ∃ z, ((i2.toUInt32 >>> ((8 : Int32) &&& 31).toUInt32).toInt32) = z := ⟨_, rfl⟩
    have rx20 : 0 ≤ x20.toInt ∧ x20.toInt ≤ 16777215 := hx20 ▸ (by have q0 := own_rng i2; have q1 := (by decide : ((8 : Int32)).toInt = 8); have q2 := c_iushr i2 (8 : Int32) 8 (by decide) (by decide); omega : 0 ≤ (((i2.toUInt32 >>> ((8 : Int32) &&& 31).toUInt32).toInt32)).toInt ∧ (((i2.toUInt32 >>> ((8 : Int32) &&& 31).toUInt32).toInt32)).toInt ≤ 16777215)
    obtain ⟨x21, hx21⟩ : ∃ z, (x20 &&& (255 : Int32)) = z := ⟨_, rfl⟩
    have rx21 : 0 ≤ x21.toInt ∧ x21.toInt ≤ 255 := hx21 ▸ (own_mask x20 (255 : Int32) (by decide) : 0 ≤ ((x20 &&& (255 : Int32))).toInt ∧ ((x20 &&& (255 : Int32))).toInt ≤ 255)
    obtain ⟨x22, hx22⟩ : ∃ z, (x13 ^^^ x21) = z := ⟨_, rfl⟩
    have rx22 : 0 ≤ x22.toInt ∧ x22.toInt ≤ 255 := hx22 ▸ (by have q0 := rx13; have q1 := rx21; have q2 := own_xor x13 x21 8 (by decide) (by have q0 := rx13; omega) (by have q0 := rx21; omega); omega : 0 ≤ ((x13 ^^^ x21)).toInt ∧ ((x13 ^^^ x21)).toInt ≤ 255)
    have hd23 : ¬ (x22 < (0 : Int32)) := (by have q0 := rx22; have q1 := (by decide : ((0 : Int32)).toInt = 0); exact own_ltF (by omega) : ¬ (x22 < (0 : Int32)))
    have hd24 : ¬ ((65535 : Int32) < x22) := (by have q0 := (by decide : ((65535 : Int32)).toInt = 65535); have q1 := rx22; exact own_ltF (by omega) : ¬ ((65535 : Int32) < x22))
    have pre2 : ∀ t, Steps p.tables e below (s₁.setTop (mkF m 83 #[.val (.int i0), .val (.int i1), .val (.int i2), .val (.int i3), .val (.int i4), .val (.int i5), .val (.int x2), .val (.int x4), .val (.int x7), .val (.int (0 : Int32)), .val (.int x9), .val (.int x13), .val (.int x17), .val (.int x22), .unset, .unset, .unset, .unset, .unset] [])) t → Steps p.tables e below (s₁.setTop (entryFrame m #[(.int i0), (.int i1), (.int i2), (.int i3), (.int i4), (.int i5)] maxLocals)) t := fun t kt => pre1 _ (by
        show Steps p.tables e below (s₁.setTop (mkF m 29 #[.val (.int i0), .val (.int i1), .val (.int i2), .val (.int i3), .val (.int i4), .val (.int i5), .val (.int x2), .val (.int x4), .val (.int x7), .unset, .unset, .unset, .unset, .unset, .unset, .unset, .unset, .unset, .unset] [(.int x8)])) _
        rw [hp0]
        show Steps p.tables e below (s₁.setTop (mkF m 29 #[.val (.int i0), .val (.int i1), .val (.int i2), .val (.int i3), .val (.int i4), .val (.int i5), .val (.int x2), .val (.int x4), .val (.int x7), .unset, .unset, .unset, .unset, .unset, .unset, .unset, .unset, .unset, .unset] [(.int (0 : Int32))])) _
        refine XS.ifYes X0.here hx rfl (pc0 := 29) (pc' := 36) rfl (hb hby at_29) rfl ((if0 _ _).trans (teq (by decide : (0 : Int32) = (0 : Int32))).1) (by decide) (by decide) ?_
        refine XS.iconst X0.here hx rfl (hb hby at_36) ?_
        refine XS.istore X0.here hx rfl (hb hby at_37) rfl (l' := #[.val (.int i0), .val (.int i1), .val (.int i2), .val (.int i3), .val (.int i4), .val (.int i5), .val (.int x2), .val (.int x4), .val (.int x7), .val (.int (0 : Int32)), .unset, .unset, .unset, .unset, .unset, .unset, .unset, .unset, .unset]) rfl ?_
        refine XS.iloadN X0.here hx rfl (hb hby at_39) rfl ?_
        show Steps p.tables e below (s₁.setTop (mkF m 40 #[.val (.int i0), .val (.int i1), .val (.int i2), .val (.int i3), .val (.int i4), .val (.int i5), .val (.int x2), .val (.int x4), .val (.int x7), .val (.int (0 : Int32)), .unset, .unset, .unset, .unset, .unset, .unset, .unset, .unset, .unset] [(.int i1)])) _
        refine XS.sipush X0.here hx rfl (hb hby at_40) ?_
        refine Own.iand X0.here hx rfl (hb hby at_43) rfl hx9 ?_
        refine Own.i2c X0.here hx rfl (hb hby at_44) rfl (own_i2c hd10 hd11) ?_
        refine XS.istore X0.here hx rfl (hb hby at_45) rfl (l' := #[.val (.int i0), .val (.int i1), .val (.int i2), .val (.int i3), .val (.int i4), .val (.int i5), .val (.int x2), .val (.int x4), .val (.int x7), .val (.int (0 : Int32)), .val (.int x9), .unset, .unset, .unset, .unset, .unset, .unset, .unset, .unset]) rfl ?_
        show Steps p.tables e below (s₁.setTop (mkF m 47 #[.val (.int i0), .val (.int i1), .val (.int i2), .val (.int i3), .val (.int i4), .val (.int i5), .val (.int x2), .val (.int x4), .val (.int x7), .val (.int (0 : Int32)), .val (.int x9), .unset, .unset, .unset, .unset, .unset, .unset, .unset, .unset] [])) _
        refine XS.iloadN X0.here hx rfl (hb hby at_47) rfl ?_
        refine XS.bipush X0.here hx rfl (hb hby at_48) ?_
        refine Own.iushr X0.here hx rfl (hb hby at_50) rfl hx12 ?_
        refine XS.sipush X0.here hx rfl (hb hby at_51) ?_
        show Steps p.tables e below (s₁.setTop (mkF m 54 #[.val (.int i0), .val (.int i1), .val (.int i2), .val (.int i3), .val (.int i4), .val (.int i5), .val (.int x2), .val (.int x4), .val (.int x7), .val (.int (0 : Int32)), .val (.int x9), .unset, .unset, .unset, .unset, .unset, .unset, .unset, .unset] [(.int (255 : Int32)), (.int x12)])) _
        refine Own.iand X0.here hx rfl (hb hby at_54) rfl hx13 ?_
        refine Own.i2c X0.here hx rfl (hb hby at_55) rfl (own_i2c hd14 hd15) ?_
        refine XS.istore X0.here hx rfl (hb hby at_56) rfl (l' := #[.val (.int i0), .val (.int i1), .val (.int i2), .val (.int i3), .val (.int i4), .val (.int i5), .val (.int x2), .val (.int x4), .val (.int x7), .val (.int (0 : Int32)), .val (.int x9), .val (.int x13), .unset, .unset, .unset, .unset, .unset, .unset, .unset]) rfl ?_
        refine XS.iload X0.here hx rfl (hb hby at_58) rfl ?_
        show Steps p.tables e below (s₁.setTop (mkF m 60 #[.val (.int i0), .val (.int i1), .val (.int i2), .val (.int i3), .val (.int i4), .val (.int i5), .val (.int x2), .val (.int x4), .val (.int x7), .val (.int (0 : Int32)), .val (.int x9), .val (.int x13), .unset, .unset, .unset, .unset, .unset, .unset, .unset] [(.int x9)])) _
        refine XS.iloadN X0.here hx rfl (hb hby at_60) rfl ?_
        refine XS.sipush X0.here hx rfl (hb hby at_61) ?_
        refine Own.iand X0.here hx rfl (hb hby at_64) rfl hx16 ?_
        refine Own.ixor X0.here hx rfl (hb hby at_65) rfl hx17 ?_
        show Steps p.tables e below (s₁.setTop (mkF m 66 #[.val (.int i0), .val (.int i1), .val (.int i2), .val (.int i3), .val (.int i4), .val (.int i5), .val (.int x2), .val (.int x4), .val (.int x7), .val (.int (0 : Int32)), .val (.int x9), .val (.int x13), .unset, .unset, .unset, .unset, .unset, .unset, .unset] [(.int x17)])) _
        refine Own.i2c X0.here hx rfl (hb hby at_66) rfl (own_i2c hd18 hd19) ?_
        refine XS.istore X0.here hx rfl (hb hby at_67) rfl (l' := #[.val (.int i0), .val (.int i1), .val (.int i2), .val (.int i3), .val (.int i4), .val (.int i5), .val (.int x2), .val (.int x4), .val (.int x7), .val (.int (0 : Int32)), .val (.int x9), .val (.int x13), .val (.int x17), .unset, .unset, .unset, .unset, .unset, .unset]) rfl ?_
        refine XS.iload X0.here hx rfl (hb hby at_69) rfl ?_
        refine XS.iloadN X0.here hx rfl (hb hby at_71) rfl ?_
        show Steps p.tables e below (s₁.setTop (mkF m 72 #[.val (.int i0), .val (.int i1), .val (.int i2), .val (.int i3), .val (.int i4), .val (.int i5), .val (.int x2), .val (.int x4), .val (.int x7), .val (.int (0 : Int32)), .val (.int x9), .val (.int x13), .val (.int x17), .unset, .unset, .unset, .unset, .unset, .unset] [(.int i2), (.int x13)])) _
        refine XS.bipush X0.here hx rfl (hb hby at_72) ?_
        refine Own.iushr X0.here hx rfl (hb hby at_74) rfl hx20 ?_
        refine XS.sipush X0.here hx rfl (hb hby at_75) ?_
        refine Own.iand X0.here hx rfl (hb hby at_78) rfl hx21 ?_
        show Steps p.tables e below (s₁.setTop (mkF m 79 #[.val (.int i0), .val (.int i1), .val (.int i2), .val (.int i3), .val (.int i4), .val (.int i5), .val (.int x2), .val (.int x4), .val (.int x7), .val (.int (0 : Int32)), .val (.int x9), .val (.int x13), .val (.int x17), .unset, .unset, .unset, .unset, .unset, .unset] [(.int x21), (.int x13)])) _
        refine Own.ixor X0.here hx rfl (hb hby at_79) rfl hx22 ?_
        refine Own.i2c X0.here hx rfl (hb hby at_80) rfl (own_i2c hd23 hd24) ?_
        refine XS.istore X0.here hx rfl (hb hby at_81) rfl (l' := #[.val (.int i0), .val (.int i1), .val (.int i2), .val (.int i3), .val (.int i4), .val (.int i5), .val (.int x2), .val (.int x4), .val (.int x7), .val (.int (0 : Int32)), .val (.int x9), .val (.int x13), .val (.int x17), .val (.int x22), .unset, .unset, .unset, .unset, .unset]) rfl ?_
        exact kt)
    rcases en_60 x4 (by have q0 := own_rng i3; have q1 := (by decide : ((3 : Int32)).toInt = 3); have q2 := (own_mask i3 (3 : Int32) (by decide) : 0 ≤ ((i3 &&& (3 : Int32))).toInt ∧ ((i3 &&& (3 : Int32))).toInt ≤ 3); have q3 := congrArg Int32.toInt hx3; have q4 := rx3; have q5 := (own_rem x3 (3 : Int32) 3 (by decide) (by have q0 := rx3; omega : 0 ≤ (x3).toInt ∧ (x3).toInt ≤ 3) (by decide) : 0 ≤ ((x3 % (3 : Int32))).toInt ∧ ((x3 % (3 : Int32))).toInt ≤ 2); have q6 := congrArg Int32.toInt hx4; have q7 := rx4; omega) with hp1 | hp1 | hp1
    · obtain ⟨_, T25, L25, hQ25, hS25, hZ25, hown25, Cq25, X25, st25⟩ := own_callSW X0 hx hZ (W := 0) hown (hw _ m1) (hw _ m2) (hw _ m3) (hw _ m4) (by decide) (rm3 l Z a0 hw hj w0 w1 w2 w3 w4 w5 w6 w7 w8 w9 w10 w11 hS [] x9 x13 h0 n0 O0) e0 hS0 (Nat.le_refl _) (own_EW hw hj) C0.1 own_sx0 (g := (mkF m 89 #[.val (.int i0), .val (.int i1), .val (.int i2), .val (.int i3), .val (.int i4), .val (.int i5), .val (.int x2), .val (.int x4), .val (.int x7), .val (.int (0 : Int32)), .val (.int x9), .val (.int x13), .val (.int x17), .val (.int x22), .unset, .unset, .unset, .unset, .unset] [(.int x13), (.int x9), (.int (0 : Int32))])) rfl (by rw [hml]; rfl) (argsL := [(.int (0 : Int32)), (.int x9), (.int x13)]) (rest := []) (lenOf pd114 rfl) rfl rfl (by show 2 * 0 + _ ≤ _; exact Nat.le_of_eq rfl) (hb hby at_89) (by decide) (by decide) (by decide) (by decide)
      obtain ⟨c25_0, c25_1, k25_2, rfl, N25q, Kq25, lo25_0, q25_0, q25_1, q25_2, q25_3⟩ := hQ25
      have N25 := Fr.app N0 N25q
      have C25 := C0.trans Cq25
      have O25 : Old Z n0 T25.heap := O0.keep Kq25 all0
      have K25 : Keep h0 T25.heap [] := (Keep.refl h0 []).trans Kq25 all0
      have pre3 : ∀ t, Steps p.tables e below (T25.setTop (mkF m 103 #[.val (.int i0), .val (.int i1), .val (.int i2), .val (.int i3), .val (.int i4), .val (.int i5), .val (.int x2), .val (.int x4), .val (.int x7), .val (.int (0 : Int32)), .val (.int x9), .val (.int x13), .val (.int x17), .val (.int x22), .val (.ref c25_0), .unset, .unset, .unset, .unset] [])) t → Steps p.tables e below (s₁.setTop (entryFrame m #[(.int i0), (.int i1), (.int i2), (.int i3), (.int i4), (.int i5)] maxLocals)) t := fun t kt => pre2 _ (by
          refine Own.iload X0.here hx rfl (hb hby at_83) rfl hp1 ?_
          show Steps p.tables e below (s₁.setTop (mkF m 85 #[.val (.int i0), .val (.int i1), .val (.int i2), .val (.int i3), .val (.int i4), .val (.int i5), .val (.int x2), .val (.int x4), .val (.int x7), .val (.int (0 : Int32)), .val (.int x9), .val (.int x13), .val (.int x17), .val (.int x22), .unset, .unset, .unset, .unset, .unset] [(.int (0 : Int32))])) _
          refine XS.iload X0.here hx rfl (hb hby at_85) rfl ?_
          refine XS.iload X0.here hx rfl (hb hby at_87) rfl ?_
          refine st25 _ ?_
          refine XS.astore X25.here hx rfl (hb hby at_92) rfl rfl (l' := #[.val (.int i0), .val (.int i1), .val (.int i2), .val (.int i3), .val (.int i4), .val (.int i5), .val (.int x2), .val (.int x4), .val (.int x7), .val (.int (0 : Int32)), .val (.int x9), .val (.int x13), .val (.int x17), .val (.int x22), .val (.ref c25_0), .unset, .unset, .unset, .unset]) rfl ?_
          show Steps p.tables e below (T25.setTop (mkF m 94 #[.val (.int i0), .val (.int i1), .val (.int i2), .val (.int i3), .val (.int i4), .val (.int i5), .val (.int x2), .val (.int x4), .val (.int x7), .val (.int (0 : Int32)), .val (.int x9), .val (.int x13), .val (.int x17), .val (.int x22), .val (.ref c25_0), .unset, .unset, .unset, .unset] [])) _
          refine XS.iload X25.here hx rfl (hb hby at_94) rfl ?_
          refine XS.ifYes X25.here hx rfl (pc0 := 96) (pc' := 103) rfl (hb hby at_96) rfl ((if0 _ _).trans (teq (by decide : (0 : Int32) = (0 : Int32))).1) (by decide) (by decide) ?_
          exact kt)
      rcases en_60 x7 (by have q0 := own_rng i3; have q1 := (by decide : ((2 : Int32)).toInt = 2); have q2 := c_iushr i3 (2 : Int32) 2 (by decide) (by decide); have q3 := congrArg Int32.toInt hx5; have q4 := rx5; have q5 := (by decide : ((3 : Int32)).toInt = 3); have q6 := (own_mask x5 (3 : Int32) (by decide) : 0 ≤ ((x5 &&& (3 : Int32))).toInt ∧ ((x5 &&& (3 : Int32))).toInt ≤ 3); have q7 := congrArg Int32.toInt hx6; have q8 := rx6; have q9 := (own_rem x6 (3 : Int32) 3 (by decide) (by have q0 := rx6; omega : 0 ≤ (x6).toInt ∧ (x6).toInt ≤ 3) (by decide) : 0 ≤ ((x6 % (3 : Int32))).toInt ∧ ((x6 % (3 : Int32))).toInt ≤ 2); have q10 := congrArg Int32.toInt hx7; have q11 := rx7; omega) with hp2 | hp2 | hp2
      · obtain ⟨_, T26, L26, hQ26, hS26, hZ26, hown26, Cq26, X26, st26⟩ := own_callSW X25 hx hZ25 (W := 0) hown25 (hw _ m1) (hw _ m2) (hw _ m3) (hw _ m4) (by decide) (rm3 l Z a0 hw hj w0 w1 w2 w3 w4 w5 w6 w7 w8 w9 w10 w11 hS [] x17 x22 T25.heap n0 O25) (rfl : T25.heap = T25.heap) hS25 (Nat.le_refl _) (own_EW hw hj) C25.1 own_sx0 (g := (mkF m 109 #[.val (.int i0), .val (.int i1), .val (.int i2), .val (.int i3), .val (.int i4), .val (.int i5), .val (.int x2), .val (.int x4), .val (.int x7), .val (.int (0 : Int32)), .val (.int x9), .val (.int x13), .val (.int x17), .val (.int x22), .val (.ref c25_0), .unset, .unset, .unset, .unset] [(.int x22), (.int x17), (.int (0 : Int32))])) rfl (by rw [hml]; rfl) (argsL := [(.int (0 : Int32)), (.int x17), (.int x22)]) (rest := []) (lenOf pd114 rfl) rfl rfl (by show 2 * 0 + _ ≤ _; exact Nat.le_of_eq rfl) (hb hby at_109) (by decide) (by decide) (by decide) (by decide)
        obtain ⟨c26_0, c26_1, k26_2, rfl, N26q, Kq26, lo26_0, q26_0, q26_1, q26_2, q26_3⟩ := hQ26
        have N26 := Fr.app N25 N26q
        have C26 := C25.trans Cq26
        have O26 : Old Z n0 T26.heap := O25.keep Kq26 all0
        have K26 : Keep h0 T26.heap [] := K25.trans Kq26 all0
        obtain ⟨T27, h27, b27, X27, e27, E27, A27, D27, g27, O27, K27, st27⟩ := own_newO X26 hx hZ26 hown26 (hw _ m42) (hw _ m43) (hw _ m44) (rfl : T26.heap = T26.heap) O26 K26 (g := (mkF m 114 #[.val (.int i0), .val (.int i1), .val (.int i2), .val (.int i3), .val (.int i4), .val (.int i5), .val (.int x2), .val (.int x4), .val (.int x7), .val (.int (0 : Int32)), .val (.int x9), .val (.int x13), .val (.int x17), .val (.int x22), .val (.ref c25_0), .val (.ref c26_0), .unset, .unset, .unset] [])) rfl (hb hby at_114) (by decide) (by decide)
        have C27 := C26.trans (CHr.ext E27 C26.1)
        have F27_1 : Fld Z h27 b27 z1 "type" z3 .null := D27 (Or.inr (hw _ m61)) (ty := (.object z2)) (by decide)
        have F27_2 : Fld Z h27 b27 z1 "text" z8 .null := D27 (Or.inr (hw _ m63)) (ty := (.object z0)) (by decide)
        have F27_3 : Fld Z h27 b27 z1 "line" "I" (.int (0 : Int32)) := D27 (Or.inr (hw _ m65)) (ty := .int) (by decide)
        have F27_4 : Fld Z h27 b27 z1 "column" "I" (.int (0 : Int32)) := D27 (Or.inr (hw _ m67)) (ty := .int) (by decide)
        have pre4 : ∀ t, Steps p.tables e below (T27.setTop (mkF m 118 #[.val (.int i0), .val (.int i1), .val (.int i2), .val (.int i3), .val (.int i4), .val (.int i5), .val (.int x2), .val (.int x4), .val (.int x7), .val (.int (0 : Int32)), .val (.int x9), .val (.int x13), .val (.int x17), .val (.int x22), .val (.ref c25_0), .val (.ref c26_0), .unset, .unset, .unset] [(.ref b27), (.ref b27)])) t → Steps p.tables e below (s₁.setTop (entryFrame m #[(.int i0), (.int i1), (.int i2), (.int i3), (.int i4), (.int i5)] maxLocals)) t := fun t kt => pre3 _ (by
            refine Own.iload X25.here hx rfl (hb hby at_103) rfl hp2 ?_
            refine XS.iload X25.here hx rfl (hb hby at_105) rfl ?_
            show Steps p.tables e below (T25.setTop (mkF m 107 #[.val (.int i0), .val (.int i1), .val (.int i2), .val (.int i3), .val (.int i4), .val (.int i5), .val (.int x2), .val (.int x4), .val (.int x7), .val (.int (0 : Int32)), .val (.int x9), .val (.int x13), .val (.int x17), .val (.int x22), .val (.ref c25_0), .unset, .unset, .unset, .unset] [(.int x17), (.int (0 : Int32))])) _
            refine XS.iload X25.here hx rfl (hb hby at_107) rfl ?_
            refine st26 _ ?_
            refine XS.astore X26.here hx rfl (hb hby at_112) rfl rfl (l' := #[.val (.int i0), .val (.int i1), .val (.int i2), .val (.int i3), .val (.int i4), .val (.int i5), .val (.int x2), .val (.int x4), .val (.int x7), .val (.int (0 : Int32)), .val (.int x9), .val (.int x13), .val (.int x17), .val (.int x22), .val (.ref c25_0), .val (.ref c26_0), .unset, .unset, .unset]) rfl ?_
            refine st27 _ ?_
            show Steps p.tables e below (T27.setTop (mkF m 117 #[.val (.int i0), .val (.int i1), .val (.int i2), .val (.int i3), .val (.int i4), .val (.int i5), .val (.int x2), .val (.int x4), .val (.int x7), .val (.int (0 : Int32)), .val (.int x9), .val (.int x13), .val (.int x17), .val (.int x22), .val (.ref c25_0), .val (.ref c26_0), .unset, .unset, .unset] [(.ref b27)])) _
            refine XS.dup X27.here hx rfl (hb hby at_117) rfl rfl ?_
            exact kt)
        rcases Decidable.em (x2 = (8 : Int32)) with hp3 | hp3
        · have sf28 := (sf0 : ∀ x ∈ [], Safe Z EL T26.vm h27 x)
          obtain ⟨_, T28, L28, hQ28, X28, st28⟩ := own_callS X27 hx hZ26 (W := 2) hown26 (hw _ m45) (hw _ m46) (hw _ m3) (hw _ m47) (by decide) (rm4 l Z a0 hw hj w0 w1 w2 w3 w4 w5 w6 w7 w8 w9 w10 w11 hS [] h27 n0 O27) e27 (g := (mkF m 120 #[.val (.int i0), .val (.int i1), .val (.int i2), .val (.int i3), .val (.int i4), .val (.int i5), .val (.int x2), .val (.int x4), .val (.int x7), .val (.int (0 : Int32)), .val (.int x9), .val (.int x13), .val (.int x17), .val (.int x22), .val (.ref c25_0), .val (.ref c26_0), .unset, .unset, .unset] [(.int (8 : Int32)), (.ref b27), (.ref b27)])) rfl (by rw [hml]; rfl) (argsL := [(.int (8 : Int32))]) (rest := [(.ref b27), (.ref b27)]) (lenOf pd128 rfl) rfl rfl (by show 2 * 0 + _ ≤ _; exact Nat.le_of_eq rfl) (hb hby at_120) (by decide) (by decide) (by decide) (by decide)
          obtain ⟨rfl, N28q, e28⟩ := hQ28
          have N28 := Fr.app N26 N28q
          have e28' : T28.heap = h27 := e28
          have sf29 := ((sfS (Safe.exa (EL := EL) hZ26.alike A27 (by decide) (by decide)) sf0) : ∀ x ∈ [b27], Safe Z EL T26.vm h27 x)
          obtain ⟨_, T29, L29, hQ29, X29, st29⟩ := own_special X28 hx hZ26 (W := 1) rfl hown26 (hw _ m51) (hw _ m52) (hw _ m44) (hw _ m53) (by decide) (rm6 l Z a0 hw hj w0 w1 w2 w3 w4 w5 w6 w7 w8 w9 w10 w11 hS [] i4 i5 b27 c25_0 h27 n0 O27 A27 F27_1 F27_2 F27_3 F27_4 (Nat.le_trans (own_old_le O26) g27)) e28' (a := b27) (g := (mkF m 129 #[.val (.int i0), .val (.int i1), .val (.int i2), .val (.int i3), .val (.int i4), .val (.int i5), .val (.int x2), .val (.int x4), .val (.int x7), .val (.int (0 : Int32)), .val (.int x9), .val (.int x13), .val (.int x17), .val (.int x22), .val (.ref c25_0), .val (.ref c26_0), .unset, .unset, .unset] [(.int i5), (.int i4), (.ref c25_0), (.ref w8), (.ref b27), (.ref b27)])) rfl (by rw [hml]; rfl) (argsL := [(.ref w8), (.ref c25_0), (.int i4), (.int i5)]) (rest := [(.ref b27)]) (lenOf pd164 rfl) rfl rfl (by show 2 * 0 + _ ≤ _; exact Nat.le_of_eq rfl) (hb hby at_129) (by decide) (by decide) (by decide) (by decide)
          obtain ⟨rfl, N29q, Kq29, q29_0, q29_1, q29_2, q29_3⟩ := hQ29
          have N29 := Fr.app N28 N29q
          have C29 := C27.trans (CHr.keep Kq29 sf29 C27.1)
          have O29 : Old Z n0 T29.heap := O27.keep Kq29 (allS (Nat.le_trans (own_old_le O26) g27) all0)
          have K29 : Keep h0 T29.heap [] := K27.trans Kq29 (allS (Or.inr (Nat.le_trans K26.1 g27)) all0)
          have f31 : Exa Z T29.heap c26_0 z0 := ((q26_0.ext E27).keep Kq29)
          have ne32 : c25_0 ≠ b27 := (Nat.ne_of_lt (Nat.lt_of_lt_of_le (Nat.lt_of_lt_of_le q25_0.lt Kq26.1) g27))
          have f33 : Fld Z T29.heap c25_0 z0 "coder" "B" (.int (0 : Int32)) := (((q25_2.keep Kq26 nin0).ext E27).keep Kq29 (ninS ne32 nin0))
          have f34 : Fld Z T29.heap c26_0 z0 "coder" "B" (.int (0 : Int32)) := ((q26_2.ext E27).keep Kq29 (ninS (Nat.ne_of_lt (Nat.lt_of_lt_of_le q26_0.lt g27)) nin0))
          have f35 : Fld Z T29.heap c25_0 z0 "value" "[B" (.ref c25_1) := (((q25_1.keep Kq26 nin0).ext E27).keep Kq29 (ninS ne32 nin0))
          have f36 : Fld Z T29.heap c26_0 z0 "value" "[B" (.ref c26_1) := ((q26_1.ext E27).keep Kq29 (ninS (Nat.ne_of_lt (Nat.lt_of_lt_of_le q26_0.lt g27)) nin0))
          have ne37 : c25_1 ≠ b27 := (Nat.ne_of_lt (Nat.lt_of_lt_of_le (Nat.lt_of_lt_of_le q25_3.lt Kq26.1) g27))
          have f38 : Arv Z T29.heap c25_1 k25_2 .byte (0 : Int32) [] (.int (0 : Int32)) := (((q25_3.keep Kq26 nin0).ext E27).keep Kq29 (ninS ne37 nin0))
          have f39 : Arv Z T29.heap c26_1 k26_2 .byte (0 : Int32) [] (.int (0 : Int32)) := ((q26_3.ext E27).keep Kq29 (ninS (Nat.ne_of_lt (Nat.lt_of_lt_of_le q26_3.lt g27)) nin0))
          have f40 : Exa Z T29.heap c25_0 z0 := (((q25_0.keep Kq26).ext E27).keep Kq29)
          have sf30 := (sf0 : ∀ x ∈ [], Safe Z EL T26.vm T29.heap x)
          have f41 : Exa Z T29.heap b27 z1 := (A27.keep Kq29)
          obtain ⟨_, T30, L30, hQ30, X30, st30⟩ := own_virtual X29 hx hZ26 (W := 0) hown26 (hw _ m68) (hw _ m69) (notFace_of_selects (args := #[]) (mvT hZ26 (hw _ m71))) (hw _ m71) (hw _ m70) (hw _ m44) (hw _ m72) (by decide) (rm9 l Z a0 hw hj w0 w1 w2 w3 w4 w5 w6 w7 w8 w9 w10 w11 hS [] b27 c26_0 c25_0 c25_1 c26_1 k25_2 k26_2 T29.heap n0 O29 q29_0 q29_1 (Nat.ne_of_lt (Nat.lt_of_lt_of_le q25_0.lt lo26_0)) f31 f33 f34 f35 f36 f38 f39 f40) (rfl : T29.heap = T29.heap) f41 (g := (mkF m 138 #[.val (.int i0), .val (.int i1), .val (.int i2), .val (.int i3), .val (.int i4), .val (.int i5), .val (.int x2), .val (.int x4), .val (.int x7), .val (.int (0 : Int32)), .val (.int x9), .val (.int x13), .val (.int x17), .val (.int x22), .val (.ref c25_0), .val (.ref c26_0), .val (.ref b27), .unset, .unset] [(.ref c26_0), (.ref b27)])) rfl (by rw [hml]; rfl) (argsL := [(.ref c26_0)]) (rest := []) (lenOf pd235 rfl) rfl rfl (by show 2 * 0 + _ ≤ _; exact Nat.le_of_eq rfl) (hb hby at_138) (by decide) (by decide) (by decide) (by decide)
          obtain ⟨rfl, N30q, e30⟩ := hQ30
          have N30 := Fr.app N29 N30q
          have e30' : T30.heap = T29.heap := e30
          obtain ⟨fs, hr, hrun, hended, hRW⟩ := X30.leaveW hS26 (by rw [e30']; exact (Nat.le_trans (Nat.le_refl _) (Nat.le_trans E27.1 Kq29.1))) (v := some (.int (1 : Int32))) (fun h => by rw [Bd.returns] at h; cases h)
          refine ⟨_, _, pre4 _ ?_, hrun, hended, _, _, rfl, ?_, own_rwm hRW (by decide) (by decide)⟩
          · refine Own.iload X27.here hx rfl (hb hby at_118) rfl hp3 ?_
            refine st28 _ ?_
            refine XS.aload X28.here hx rfl (hb hby at_123) rfl rfl ?_
            show Steps p.tables e below (T28.setTop (mkF m 125 #[.val (.int i0), .val (.int i1), .val (.int i2), .val (.int i3), .val (.int i4), .val (.int i5), .val (.int x2), .val (.int x4), .val (.int x7), .val (.int (0 : Int32)), .val (.int x9), .val (.int x13), .val (.int x17), .val (.int x22), .val (.ref c25_0), .val (.ref c26_0), .unset, .unset, .unset] [(.ref c25_0), (.ref w8), (.ref b27), (.ref b27)])) _
            refine XS.iload X28.here hx rfl (hb hby at_125) rfl ?_
            refine XS.iload X28.here hx rfl (hb hby at_127) rfl ?_
            refine st29 _ ?_
            refine XS.astore X29.here hx rfl (hb hby at_132) rfl rfl (l' := #[.val (.int i0), .val (.int i1), .val (.int i2), .val (.int i3), .val (.int i4), .val (.int i5), .val (.int x2), .val (.int x4), .val (.int x7), .val (.int (0 : Int32)), .val (.int x9), .val (.int x13), .val (.int x17), .val (.int x22), .val (.ref c25_0), .val (.ref c26_0), .val (.ref b27), .unset, .unset]) rfl ?_
            show Steps p.tables e below (T29.setTop (mkF m 134 #[.val (.int i0), .val (.int i1), .val (.int i2), .val (.int i3), .val (.int i4), .val (.int i5), .val (.int x2), .val (.int x4), .val (.int x7), .val (.int (0 : Int32)), .val (.int x9), .val (.int x13), .val (.int x17), .val (.int x22), .val (.ref c25_0), .val (.ref c26_0), .val (.ref b27), .unset, .unset] [])) _
            refine XS.aload X29.here hx rfl (hb hby at_134) rfl rfl ?_
            refine XS.aload X29.here hx rfl (hb hby at_136) rfl rfl ?_
            refine st30 _ ?_
            refine XS.istore X30.here hx rfl (hb hby at_141) rfl (l' := #[.val (.int i0), .val (.int i1), .val (.int i2), .val (.int i3), .val (.int i4), .val (.int i5), .val (.int x2), .val (.int x4), .val (.int x7), .val (.int (0 : Int32)), .val (.int x9), .val (.int x13), .val (.int x17), .val (.int x22), .val (.ref c25_0), .val (.ref c26_0), .val (.ref b27), .val (.int (1 : Int32)), .unset]) rfl ?_
            show Steps p.tables e below (T30.setTop (mkF m 143 #[.val (.int i0), .val (.int i1), .val (.int i2), .val (.int i3), .val (.int i4), .val (.int i5), .val (.int x2), .val (.int x4), .val (.int x7), .val (.int (0 : Int32)), .val (.int x9), .val (.int x13), .val (.int x17), .val (.int x22), .val (.ref c25_0), .val (.ref c26_0), .val (.ref b27), .val (.int (1 : Int32)), .unset] [])) _
            refine Own.iload X30.here hx rfl (hb hby at_143) rfl hp3 ?_
            refine XS.bipush X30.here hx rfl (hb hby at_145) ?_
            refine XS.icmpNo X30.here hx rfl (hb hby at_147) rfl (teq (by decide : (8 : Int32) = (8 : Int32))).2 ?_
            refine XS.iload X30.here hx rfl (hb hby at_150) rfl ?_
            show Steps p.tables e below (T30.setTop (mkF m 152 #[.val (.int i0), .val (.int i1), .val (.int i2), .val (.int i3), .val (.int i4), .val (.int i5), .val (.int x2), .val (.int x4), .val (.int x7), .val (.int (0 : Int32)), .val (.int x9), .val (.int x13), .val (.int x17), .val (.int x22), .val (.ref c25_0), .val (.ref c26_0), .val (.ref b27), .val (.int (1 : Int32)), .unset] [(.int (0 : Int32))])) _
            refine XS.ifNo X30.here hx rfl (hb hby at_152) rfl ((if0 _ _).trans (teq (by decide : (0 : Int32) = (0 : Int32))).2) ?_
            refine Own.iload X30.here hx rfl (hb hby at_155) rfl hp1 ?_
            refine Own.iload X30.here hx rfl (hb hby at_157) rfl hp2 ?_
            refine XS.icmpNo X30.here hx rfl (hb hby at_159) rfl (teq (by decide : (0 : Int32) = (0 : Int32))).2 ?_
            show Steps p.tables e below (T30.setTop (mkF m 162 #[.val (.int i0), .val (.int i1), .val (.int i2), .val (.int i3), .val (.int i4), .val (.int i5), .val (.int x2), .val (.int x4), .val (.int x7), .val (.int (0 : Int32)), .val (.int x9), .val (.int x13), .val (.int x17), .val (.int x22), .val (.ref c25_0), .val (.ref c26_0), .val (.ref b27), .val (.int (1 : Int32)), .unset] [])) _
            refine Own.iload X30.here hx rfl (hb hby at_162) rfl hp1 ?_
            refine XS.iconst X30.here hx rfl (hb hby at_164) ?_
            refine XS.icmpYes X30.here hx rfl (pc0 := 165) (pc' := 175) rfl (hb hby at_165) rfl (tlt (by decide : (0 : Int32) < (1 : Int32))).1 (by decide) (by decide) ?_
            refine Own.iload X30.here hx rfl (hb hby at_175) rfl hp1 ?_
            show Steps p.tables e below (T30.setTop (mkF m 177 #[.val (.int i0), .val (.int i1), .val (.int i2), .val (.int i3), .val (.int i4), .val (.int i5), .val (.int x2), .val (.int x4), .val (.int x7), .val (.int (0 : Int32)), .val (.int x9), .val (.int x13), .val (.int x17), .val (.int x22), .val (.ref c25_0), .val (.ref c26_0), .val (.ref b27), .val (.int (1 : Int32)), .unset] [(.int (0 : Int32))])) _
            refine XS.iconst X30.here hx rfl (hb hby at_177) ?_
            refine XS.icmpYes X30.here hx rfl (pc0 := 178) (pc' := 188) rfl (hb hby at_178) rfl (tlt (by decide : (0 : Int32) < (2 : Int32))).1 (by decide) (by decide) ?_
            refine XS.iconst X30.here hx rfl (hb hby at_188) ?_
            refine XS.goto X30.here hx rfl (pc0 := 189) (pc' := 193) rfl (hb hby at_189) (by decide) (by decide) ?_
            show Steps p.tables e below (T30.setTop (mkF m 193 #[.val (.int i0), .val (.int i1), .val (.int i2), .val (.int i3), .val (.int i4), .val (.int i5), .val (.int x2), .val (.int x4), .val (.int x7), .val (.int (0 : Int32)), .val (.int x9), .val (.int x13), .val (.int x17), .val (.int x22), .val (.ref c25_0), .val (.ref c26_0), .val (.ref b27), .val (.int (1 : Int32)), .unset] [(.int (1 : Int32))])) _
            refine XS.istore X30.here hx rfl (hb hby at_193) rfl (l' := #[.val (.int i0), .val (.int i1), .val (.int i2), .val (.int i3), .val (.int i4), .val (.int i5), .val (.int x2), .val (.int x4), .val (.int x7), .val (.int (0 : Int32)), .val (.int x9), .val (.int x13), .val (.int x17), .val (.int x22), .val (.ref c25_0), .val (.ref c26_0), .val (.ref b27), .val (.int (1 : Int32)), .val (.int (1 : Int32))]) rfl ?_
            refine XS.iload X30.here hx rfl (hb hby at_195) rfl ?_
            refine XS.iload X30.here hx rfl (hb hby at_197) rfl ?_
            refine XS.icmpNo X30.here hx rfl (hb hby at_199) rfl (teq (by decide : (1 : Int32) = (1 : Int32))).2 ?_
            show Steps p.tables e below (T30.setTop (mkF m 202 #[.val (.int i0), .val (.int i1), .val (.int i2), .val (.int i3), .val (.int i4), .val (.int i5), .val (.int x2), .val (.int x4), .val (.int x7), .val (.int (0 : Int32)), .val (.int x9), .val (.int x13), .val (.int x17), .val (.int x22), .val (.ref c25_0), .val (.ref c26_0), .val (.ref b27), .val (.int (1 : Int32)), .val (.int (1 : Int32))] [])) _
            refine XS.iconst X30.here hx rfl (hb hby at_202) ?_
            refine XS.goto X30.here hx rfl (pc0 := 203) (pc' := 207) rfl (hb hby at_203) (by decide) (by decide) ?_
            exact retN X30 hx (t := .boolean) Bd.returns (by simp) (hb hby at_207) hr
          · show QL n0 _ T30.heap _
            exact ⟨rfl, N30⟩
        · have hd28 : ¬ (x2 < (0 : Int32)) := (by have q0 := rx2; have q1 := (by decide : ((0 : Int32)).toInt = 0); exact own_ltF (by omega) : ¬ (x2 < (0 : Int32)))
          have hd29 : ¬ ((9 : Int32) < x2) := (by have q0 := (by decide : ((9 : Int32)).toInt = 9); have q1 := rx2; exact own_ltF (by omega) : ¬ ((9 : Int32) < x2))
          obtain ⟨_, T30, L30, ⟨z30, rfl, N30q, hz30_0, hz30_1, e30⟩, X30, st30⟩ := own_callS X27 hx hZ26 (W := 2) hown26 (hw _ m45) (hw _ m46) (hw _ m3) (hw _ m47) (by decide) (jm0 l Z a0 hw hj w0 w1 w2 w3 w4 w5 w6 w7 w8 w9 w10 w11 hS [] x2 h27 n0 O27 hd28 hd29 hp3) e27 (g := (mkF m 120 #[.val (.int i0), .val (.int i1), .val (.int i2), .val (.int i3), .val (.int i4), .val (.int i5), .val (.int x2), .val (.int x4), .val (.int x7), .val (.int (0 : Int32)), .val (.int x9), .val (.int x13), .val (.int x17), .val (.int x22), .val (.ref c25_0), .val (.ref c26_0), .unset, .unset, .unset] [(.int x2), (.ref b27), (.ref b27)])) rfl (by rw [hml]; rfl) (argsL := [(.int x2)]) (rest := [(.ref b27), (.ref b27)]) (lenOf pd128 rfl) rfl rfl (by show 2 * 0 + _ ≤ _; exact Nat.le_of_eq rfl) (hb hby at_120) (by decide) (by decide) (by decide) (by decide)
          have N30 := Fr.app N26 N30q
          have e30' : T30.heap = h27 := e30
          have sf31 := ((sfS (Safe.exa (EL := EL) hZ26.alike A27 (by decide) (by decide)) sf0) : ∀ x ∈ [b27], Safe Z EL T26.vm h27 x)
          obtain ⟨_, T31, L31, hQ31, X31, st31⟩ := own_special X30 hx hZ26 (W := 1) rfl hown26 (hw _ m51) (hw _ m52) (hw _ m44) (hw _ m53) (by decide) (rm10 l Z a0 hw hj w0 w1 w2 w3 w4 w5 w6 w7 w8 w9 w10 w11 hS [] i4 i5 b27 z30 c25_0 h27 n0 O27 A27 F27_1 F27_2 F27_3 F27_4 (Nat.le_trans (own_old_le O26) g27)) e30' (a := b27) (g := (mkF m 129 #[.val (.int i0), .val (.int i1), .val (.int i2), .val (.int i3), .val (.int i4), .val (.int i5), .val (.int x2), .val (.int x4), .val (.int x7), .val (.int (0 : Int32)), .val (.int x9), .val (.int x13), .val (.int x17), .val (.int x22), .val (.ref c25_0), .val (.ref c26_0), .unset, .unset, .unset] [(.int i5), (.int i4), (.ref c25_0), (.ref z30), (.ref b27), (.ref b27)])) rfl (by rw [hml]; rfl) (argsL := [(.ref z30), (.ref c25_0), (.int i4), (.int i5)]) (rest := [(.ref b27)]) (lenOf pd164 rfl) rfl rfl (by show 2 * 0 + _ ≤ _; exact Nat.le_of_eq rfl) (hb hby at_129) (by decide) (by decide) (by decide) (by decide)
          obtain ⟨rfl, N31q, Kq31, q31_0, q31_1, q31_2, q31_3⟩ := hQ31
          have N31 := Fr.app N30 N31q
          have C31 := C27.trans (CHr.keep Kq31 sf31 C27.1)
          have O31 : Old Z n0 T31.heap := O27.keep Kq31 (allS (Nat.le_trans (own_old_le O26) g27) all0)
          have K31 : Keep h0 T31.heap [] := K27.trans Kq31 (allS (Or.inr (Nat.le_trans K26.1 g27)) all0)
          have sf32 := (sf0 : ∀ x ∈ [], Safe Z EL T26.vm T31.heap x)
          have f33 : Exa Z T31.heap b27 z1 := (A27.keep Kq31)
          obtain ⟨_, T32, L32, hQ32, X32, st32⟩ := own_virtual X31 hx hZ26 (W := 0) hown26 (hw _ m68) (hw _ m69) (notFace_of_selects (args := #[]) (mvT hZ26 (hw _ m71))) (hw _ m71) (hw _ m70) (hw _ m44) (hw _ m72) (by decide) (rm11 l Z a0 hw hj w0 w1 w2 w3 w4 w5 w6 w7 w8 w9 w10 w11 hS [] b27 c26_0 z30 T31.heap n0 O31 q31_0 hz30_1) (rfl : T31.heap = T31.heap) f33 (g := (mkF m 138 #[.val (.int i0), .val (.int i1), .val (.int i2), .val (.int i3), .val (.int i4), .val (.int i5), .val (.int x2), .val (.int x4), .val (.int x7), .val (.int (0 : Int32)), .val (.int x9), .val (.int x13), .val (.int x17), .val (.int x22), .val (.ref c25_0), .val (.ref c26_0), .val (.ref b27), .unset, .unset] [(.ref c26_0), (.ref b27)])) rfl (by rw [hml]; rfl) (argsL := [(.ref c26_0)]) (rest := []) (lenOf pd235 rfl) rfl rfl (by show 2 * 0 + _ ≤ _; exact Nat.le_of_eq rfl) (hb hby at_138) (by decide) (by decide) (by decide) (by decide)
          obtain ⟨rfl, N32q, e32⟩ := hQ32
          have N32 := Fr.app N31 N32q
          have e32' : T32.heap = T31.heap := e32
          obtain ⟨fs, hr, hrun, hended, hRW⟩ := X32.leaveW hS26 (by rw [e32']; exact (Nat.le_trans (Nat.le_refl _) (Nat.le_trans E27.1 Kq31.1))) (v := some (.int (1 : Int32))) (fun h => by rw [Bd.returns] at h; cases h)
          refine ⟨_, _, pre4 _ ?_, hrun, hended, _, _, rfl, ?_, own_rwm hRW (by decide) (by decide)⟩
          · refine XS.iload X27.here hx rfl (hb hby at_118) rfl ?_
            refine st30 _ ?_
            refine XS.aload X30.here hx rfl (hb hby at_123) rfl rfl ?_
            show Steps p.tables e below (T30.setTop (mkF m 125 #[.val (.int i0), .val (.int i1), .val (.int i2), .val (.int i3), .val (.int i4), .val (.int i5), .val (.int x2), .val (.int x4), .val (.int x7), .val (.int (0 : Int32)), .val (.int x9), .val (.int x13), .val (.int x17), .val (.int x22), .val (.ref c25_0), .val (.ref c26_0), .unset, .unset, .unset] [(.ref c25_0), (.ref z30), (.ref b27), (.ref b27)])) _
            refine XS.iload X30.here hx rfl (hb hby at_125) rfl ?_
            refine XS.iload X30.here hx rfl (hb hby at_127) rfl ?_
            refine st31 _ ?_
            refine XS.astore X31.here hx rfl (hb hby at_132) rfl rfl (l' := #[.val (.int i0), .val (.int i1), .val (.int i2), .val (.int i3), .val (.int i4), .val (.int i5), .val (.int x2), .val (.int x4), .val (.int x7), .val (.int (0 : Int32)), .val (.int x9), .val (.int x13), .val (.int x17), .val (.int x22), .val (.ref c25_0), .val (.ref c26_0), .val (.ref b27), .unset, .unset]) rfl ?_
            show Steps p.tables e below (T31.setTop (mkF m 134 #[.val (.int i0), .val (.int i1), .val (.int i2), .val (.int i3), .val (.int i4), .val (.int i5), .val (.int x2), .val (.int x4), .val (.int x7), .val (.int (0 : Int32)), .val (.int x9), .val (.int x13), .val (.int x17), .val (.int x22), .val (.ref c25_0), .val (.ref c26_0), .val (.ref b27), .unset, .unset] [])) _
            refine XS.aload X31.here hx rfl (hb hby at_134) rfl rfl ?_
            refine XS.aload X31.here hx rfl (hb hby at_136) rfl rfl ?_
            refine st32 _ ?_
            refine XS.istore X32.here hx rfl (hb hby at_141) rfl (l' := #[.val (.int i0), .val (.int i1), .val (.int i2), .val (.int i3), .val (.int i4), .val (.int i5), .val (.int x2), .val (.int x4), .val (.int x7), .val (.int (0 : Int32)), .val (.int x9), .val (.int x13), .val (.int x17), .val (.int x22), .val (.ref c25_0), .val (.ref c26_0), .val (.ref b27), .val (.int (0 : Int32)), .unset]) rfl ?_
            show Steps p.tables e below (T32.setTop (mkF m 143 #[.val (.int i0), .val (.int i1), .val (.int i2), .val (.int i3), .val (.int i4), .val (.int i5), .val (.int x2), .val (.int x4), .val (.int x7), .val (.int (0 : Int32)), .val (.int x9), .val (.int x13), .val (.int x17), .val (.int x22), .val (.ref c25_0), .val (.ref c26_0), .val (.ref b27), .val (.int (0 : Int32)), .unset] [])) _
            refine XS.iload X32.here hx rfl (hb hby at_143) rfl ?_
            refine XS.bipush X32.here hx rfl (hb hby at_145) ?_
            refine XS.icmpYes X32.here hx rfl (pc0 := 147) (pc' := 192) rfl (hb hby at_147) rfl (feq hp3).2 (by decide) (by decide) ?_
            refine XS.iconst X32.here hx rfl (hb hby at_192) ?_
            show Steps p.tables e below (T32.setTop (mkF m 193 #[.val (.int i0), .val (.int i1), .val (.int i2), .val (.int i3), .val (.int i4), .val (.int i5), .val (.int x2), .val (.int x4), .val (.int x7), .val (.int (0 : Int32)), .val (.int x9), .val (.int x13), .val (.int x17), .val (.int x22), .val (.ref c25_0), .val (.ref c26_0), .val (.ref b27), .val (.int (0 : Int32)), .unset] [(.int (0 : Int32))])) _
            refine XS.istore X32.here hx rfl (hb hby at_193) rfl (l' := #[.val (.int i0), .val (.int i1), .val (.int i2), .val (.int i3), .val (.int i4), .val (.int i5), .val (.int x2), .val (.int x4), .val (.int x7), .val (.int (0 : Int32)), .val (.int x9), .val (.int x13), .val (.int x17), .val (.int x22), .val (.ref c25_0), .val (.ref c26_0), .val (.ref b27), .val (.int (0 : Int32)), .val (.int (0 : Int32))]) rfl ?_
            refine XS.iload X32.here hx rfl (hb hby at_195) rfl ?_
            refine XS.iload X32.here hx rfl (hb hby at_197) rfl ?_
            refine XS.icmpNo X32.here hx rfl (hb hby at_199) rfl (teq (by decide : (0 : Int32) = (0 : Int32))).2 ?_
            show Steps p.tables e below (T32.setTop (mkF m 202 #[.val (.int i0), .val (.int i1), .val (.int i2), .val (.int i3), .val (.int i4), .val (.int i5), .val (.int x2), .val (.int x4), .val (.int x7), .val (.int (0 : Int32)), .val (.int x9), .val (.int x13), .val (.int x17), .val (.int x22), .val (.ref c25_0), .val (.ref c26_0), .val (.ref b27), .val (.int (0 : Int32)), .val (.int (0 : Int32))] [])) _
            refine XS.iconst X32.here hx rfl (hb hby at_202) ?_
            refine XS.goto X32.here hx rfl (pc0 := 203) (pc' := 207) rfl (hb hby at_203) (by decide) (by decide) ?_
            exact retN X32 hx (t := .boolean) Bd.returns (by simp) (hb hby at_207) hr
          · show QL n0 _ T32.heap _
            exact ⟨rfl, N32⟩
      · have hd27 : ¬ ((255 : Int32) < x17) := (by have q0 := (by decide : ((255 : Int32)).toInt = 255); have q1 := rx17; exact own_ltF (by omega) : ¬ ((255 : Int32) < x17))
        have sf26 := (sf0 : ∀ x ∈ [], Safe Z EL T25.vm T25.heap x)
        obtain ⟨_, T26, L26, hQ26, X26, st26⟩ := own_callS X25 hx hZ25 (W := 0) hown25 (hw _ m1) (hw _ m2) (hw _ m3) (hw _ m4) (by decide) (rm16 l Z a0 hw hj w0 w1 w2 w3 w4 w5 w6 w7 w8 w9 w10 w11 hS [] x17 x22 T25.heap n0 O25 hd27) (rfl : T25.heap = T25.heap) (g := (mkF m 109 #[.val (.int i0), .val (.int i1), .val (.int i2), .val (.int i3), .val (.int i4), .val (.int i5), .val (.int x2), .val (.int x4), .val (.int x7), .val (.int (0 : Int32)), .val (.int x9), .val (.int x13), .val (.int x17), .val (.int x22), .val (.ref c25_0), .unset, .unset, .unset, .unset] [(.int x22), (.int x17), (.int (1 : Int32))])) rfl (by rw [hml]; rfl) (argsL := [(.int (1 : Int32)), (.int x17), (.int x22)]) (rest := []) (lenOf pd114 rfl) rfl rfl (by show 2 * 0 + _ ≤ _; exact Nat.le_of_eq rfl) (hb hby at_109) (by decide) (by decide) (by decide) (by decide)
        obtain ⟨c26_0, c26_1, k26_2, rfl, N26q, Kq26, lo26_0, lo26_1, q26_0, q26_1, q26_2, q26_3⟩ := hQ26
        have N26 := Fr.app N25 N26q
        have C26 := C25.trans (CHr.keep Kq26 sf26 C25.1)
        have O26 : Old Z n0 T26.heap := O25.keep Kq26 all0
        have K26 : Keep h0 T26.heap [] := K25.trans Kq26 all0
        obtain ⟨T28, h28, b28, X28, e28, E28, A28, D28, g28, O28, K28, st28⟩ := own_newO X26 hx hZ25 hown25 (hw _ m42) (hw _ m43) (hw _ m44) (rfl : T26.heap = T26.heap) O26 K26 (g := (mkF m 114 #[.val (.int i0), .val (.int i1), .val (.int i2), .val (.int i3), .val (.int i4), .val (.int i5), .val (.int x2), .val (.int x4), .val (.int x7), .val (.int (0 : Int32)), .val (.int x9), .val (.int x13), .val (.int x17), .val (.int x22), .val (.ref c25_0), .val (.ref c26_0), .unset, .unset, .unset] [])) rfl (hb hby at_114) (by decide) (by decide)
        have C28 := C26.trans (CHr.ext E28 C26.1)
        have F28_1 : Fld Z h28 b28 z1 "type" z3 .null := D28 (Or.inr (hw _ m61)) (ty := (.object z2)) (by decide)
        have F28_2 : Fld Z h28 b28 z1 "text" z8 .null := D28 (Or.inr (hw _ m63)) (ty := (.object z0)) (by decide)
        have F28_3 : Fld Z h28 b28 z1 "line" "I" (.int (0 : Int32)) := D28 (Or.inr (hw _ m65)) (ty := .int) (by decide)
        have F28_4 : Fld Z h28 b28 z1 "column" "I" (.int (0 : Int32)) := D28 (Or.inr (hw _ m67)) (ty := .int) (by decide)
        have pre4 : ∀ t, Steps p.tables e below (T28.setTop (mkF m 118 #[.val (.int i0), .val (.int i1), .val (.int i2), .val (.int i3), .val (.int i4), .val (.int i5), .val (.int x2), .val (.int x4), .val (.int x7), .val (.int (0 : Int32)), .val (.int x9), .val (.int x13), .val (.int x17), .val (.int x22), .val (.ref c25_0), .val (.ref c26_0), .unset, .unset, .unset] [(.ref b28), (.ref b28)])) t → Steps p.tables e below (s₁.setTop (entryFrame m #[(.int i0), (.int i1), (.int i2), (.int i3), (.int i4), (.int i5)] maxLocals)) t := fun t kt => pre3 _ (by
            refine Own.iload X25.here hx rfl (hb hby at_103) rfl hp2 ?_
            refine XS.iload X25.here hx rfl (hb hby at_105) rfl ?_
            show Steps p.tables e below (T25.setTop (mkF m 107 #[.val (.int i0), .val (.int i1), .val (.int i2), .val (.int i3), .val (.int i4), .val (.int i5), .val (.int x2), .val (.int x4), .val (.int x7), .val (.int (0 : Int32)), .val (.int x9), .val (.int x13), .val (.int x17), .val (.int x22), .val (.ref c25_0), .unset, .unset, .unset, .unset] [(.int x17), (.int (1 : Int32))])) _
            refine XS.iload X25.here hx rfl (hb hby at_107) rfl ?_
            refine st26 _ ?_
            refine XS.astore X26.here hx rfl (hb hby at_112) rfl rfl (l' := #[.val (.int i0), .val (.int i1), .val (.int i2), .val (.int i3), .val (.int i4), .val (.int i5), .val (.int x2), .val (.int x4), .val (.int x7), .val (.int (0 : Int32)), .val (.int x9), .val (.int x13), .val (.int x17), .val (.int x22), .val (.ref c25_0), .val (.ref c26_0), .unset, .unset, .unset]) rfl ?_
            refine st28 _ ?_
            show Steps p.tables e below (T28.setTop (mkF m 117 #[.val (.int i0), .val (.int i1), .val (.int i2), .val (.int i3), .val (.int i4), .val (.int i5), .val (.int x2), .val (.int x4), .val (.int x7), .val (.int (0 : Int32)), .val (.int x9), .val (.int x13), .val (.int x17), .val (.int x22), .val (.ref c25_0), .val (.ref c26_0), .unset, .unset, .unset] [(.ref b28)])) _
            refine XS.dup X28.here hx rfl (hb hby at_117) rfl rfl ?_
            exact kt)
        rcases Decidable.em (x2 = (8 : Int32)) with hp3 | hp3
        · have sf29 := (sf0 : ∀ x ∈ [], Safe Z EL T25.vm h28 x)
          obtain ⟨_, T29, L29, hQ29, X29, st29⟩ := own_callS X28 hx hZ25 (W := 2) hown25 (hw _ m45) (hw _ m46) (hw _ m3) (hw _ m47) (by decide) (rm4 l Z a0 hw hj w0 w1 w2 w3 w4 w5 w6 w7 w8 w9 w10 w11 hS [] h28 n0 O28) e28 (g := (mkF m 120 #[.val (.int i0), .val (.int i1), .val (.int i2), .val (.int i3), .val (.int i4), .val (.int i5), .val (.int x2), .val (.int x4), .val (.int x7), .val (.int (0 : Int32)), .val (.int x9), .val (.int x13), .val (.int x17), .val (.int x22), .val (.ref c25_0), .val (.ref c26_0), .unset, .unset, .unset] [(.int (8 : Int32)), (.ref b28), (.ref b28)])) rfl (by rw [hml]; rfl) (argsL := [(.int (8 : Int32))]) (rest := [(.ref b28), (.ref b28)]) (lenOf pd128 rfl) rfl rfl (by show 2 * 0 + _ ≤ _; exact Nat.le_of_eq rfl) (hb hby at_120) (by decide) (by decide) (by decide) (by decide)
          obtain ⟨rfl, N29q, e29⟩ := hQ29
          have N29 := Fr.app N26 N29q
          have e29' : T29.heap = h28 := e29
          have sf30 := ((sfS (Safe.exa (EL := EL) hZ25.alike A28 (by decide) (by decide)) sf0) : ∀ x ∈ [b28], Safe Z EL T25.vm h28 x)
          obtain ⟨_, T30, L30, hQ30, X30, st30⟩ := own_special X29 hx hZ25 (W := 1) rfl hown25 (hw _ m51) (hw _ m52) (hw _ m44) (hw _ m53) (by decide) (rm6 l Z a0 hw hj w0 w1 w2 w3 w4 w5 w6 w7 w8 w9 w10 w11 hS [] i4 i5 b28 c25_0 h28 n0 O28 A28 F28_1 F28_2 F28_3 F28_4 (Nat.le_trans (own_old_le O26) g28)) e29' (a := b28) (g := (mkF m 129 #[.val (.int i0), .val (.int i1), .val (.int i2), .val (.int i3), .val (.int i4), .val (.int i5), .val (.int x2), .val (.int x4), .val (.int x7), .val (.int (0 : Int32)), .val (.int x9), .val (.int x13), .val (.int x17), .val (.int x22), .val (.ref c25_0), .val (.ref c26_0), .unset, .unset, .unset] [(.int i5), (.int i4), (.ref c25_0), (.ref w8), (.ref b28), (.ref b28)])) rfl (by rw [hml]; rfl) (argsL := [(.ref w8), (.ref c25_0), (.int i4), (.int i5)]) (rest := [(.ref b28)]) (lenOf pd164 rfl) rfl rfl (by show 2 * 0 + _ ≤ _; exact Nat.le_of_eq rfl) (hb hby at_129) (by decide) (by decide) (by decide) (by decide)
          obtain ⟨rfl, N30q, Kq30, q30_0, q30_1, q30_2, q30_3⟩ := hQ30
          have N30 := Fr.app N29 N30q
          have C30 := C28.trans (CHr.keep Kq30 sf30 C28.1)
          have O30 : Old Z n0 T30.heap := O28.keep Kq30 (allS (Nat.le_trans (own_old_le O26) g28) all0)
          have K30 : Keep h0 T30.heap [] := K28.trans Kq30 (allS (Or.inr (Nat.le_trans K26.1 g28)) all0)
          have f32 : Exa Z T30.heap c26_0 z0 := ((q26_0.ext E28).keep Kq30)
          have ne33 : c25_0 ≠ b28 := (Nat.ne_of_lt (Nat.lt_of_lt_of_le (Nat.lt_of_lt_of_le q25_0.lt Kq26.1) g28))
          have f34 : Fld Z T30.heap c25_0 z0 "coder" "B" (.int (0 : Int32)) := (((q25_2.keep Kq26 nin0).ext E28).keep Kq30 (ninS ne33 nin0))
          have f35 : Fld Z T30.heap c26_0 z0 "coder" "B" (.int (0 : Int32)) := ((q26_2.ext E28).keep Kq30 (ninS (Nat.ne_of_lt (Nat.lt_of_lt_of_le q26_0.lt g28)) nin0))
          have f36 : Fld Z T30.heap c25_0 z0 "value" "[B" (.ref c25_1) := (((q25_1.keep Kq26 nin0).ext E28).keep Kq30 (ninS ne33 nin0))
          have f37 : Fld Z T30.heap c26_0 z0 "value" "[B" (.ref c26_1) := ((q26_1.ext E28).keep Kq30 (ninS (Nat.ne_of_lt (Nat.lt_of_lt_of_le q26_0.lt g28)) nin0))
          have ne38 : c25_1 ≠ b28 := (Nat.ne_of_lt (Nat.lt_of_lt_of_le (Nat.lt_of_lt_of_le q25_3.lt Kq26.1) g28))
          have f39 : Arv Z T30.heap c25_1 k25_2 .byte (0 : Int32) [] (.int (0 : Int32)) := (((q25_3.keep Kq26 nin0).ext E28).keep Kq30 (ninS ne38 nin0))
          have f40 : Arv Z T30.heap c26_1 k26_2 .byte (1 : Int32) [(.int (x17.toInt8.toInt32))] (.int (0 : Int32)) := ((q26_3.ext E28).keep Kq30 (ninS (Nat.ne_of_lt (Nat.lt_of_lt_of_le q26_3.lt g28)) nin0))
          have f41 : Exa Z T30.heap c25_0 z0 := (((q25_0.keep Kq26).ext E28).keep Kq30)
          have sf31 := (sf0 : ∀ x ∈ [], Safe Z EL T25.vm T30.heap x)
          have f42 : Exa Z T30.heap b28 z1 := (A28.keep Kq30)
          obtain ⟨_, T31, L31, hQ31, X31, st31⟩ := own_virtual X30 hx hZ25 (W := 0) hown25 (hw _ m68) (hw _ m69) (notFace_of_selects (args := #[]) (mvT hZ25 (hw _ m71))) (hw _ m71) (hw _ m70) (hw _ m44) (hw _ m72) (by decide) (rm19 l Z a0 hw hj w0 w1 w2 w3 w4 w5 w6 w7 w8 w9 w10 w11 hS [] b28 c26_0 c25_0 (x17.toInt8.toInt32) c25_1 c26_1 k25_2 k26_2 T30.heap n0 O30 q30_0 q30_1 (Nat.ne_of_lt (Nat.lt_of_lt_of_le q25_0.lt lo26_0)) f32 f34 f35 f36 f37 f39 f40 f41) (rfl : T30.heap = T30.heap) f42 (g := (mkF m 138 #[.val (.int i0), .val (.int i1), .val (.int i2), .val (.int i3), .val (.int i4), .val (.int i5), .val (.int x2), .val (.int x4), .val (.int x7), .val (.int (0 : Int32)), .val (.int x9), .val (.int x13), .val (.int x17), .val (.int x22), .val (.ref c25_0), .val (.ref c26_0), .val (.ref b28), .unset, .unset] [(.ref c26_0), (.ref b28)])) rfl (by rw [hml]; rfl) (argsL := [(.ref c26_0)]) (rest := []) (lenOf pd235 rfl) rfl rfl (by show 2 * 0 + _ ≤ _; exact Nat.le_of_eq rfl) (hb hby at_138) (by decide) (by decide) (by decide) (by decide)
          obtain ⟨rfl, N31q, e31⟩ := hQ31
          have N31 := Fr.app N30 N31q
          have e31' : T31.heap = T30.heap := e31
          obtain ⟨fs, hr, hrun, hended, hRW⟩ := X31.leaveW hS25 (by rw [e31']; exact (Nat.le_trans (Nat.le_refl _) (Nat.le_trans (Nat.le_trans Kq26.1 E28.1) Kq30.1))) (v := some (.int (1 : Int32))) (fun h => by rw [Bd.returns] at h; cases h)
          refine ⟨_, _, pre4 _ ?_, hrun, hended, _, _, rfl, ?_, own_rwm hRW (by decide) (by decide)⟩
          · refine Own.iload X28.here hx rfl (hb hby at_118) rfl hp3 ?_
            refine st29 _ ?_
            refine XS.aload X29.here hx rfl (hb hby at_123) rfl rfl ?_
            show Steps p.tables e below (T29.setTop (mkF m 125 #[.val (.int i0), .val (.int i1), .val (.int i2), .val (.int i3), .val (.int i4), .val (.int i5), .val (.int x2), .val (.int x4), .val (.int x7), .val (.int (0 : Int32)), .val (.int x9), .val (.int x13), .val (.int x17), .val (.int x22), .val (.ref c25_0), .val (.ref c26_0), .unset, .unset, .unset] [(.ref c25_0), (.ref w8), (.ref b28), (.ref b28)])) _
            refine XS.iload X29.here hx rfl (hb hby at_125) rfl ?_
            refine XS.iload X29.here hx rfl (hb hby at_127) rfl ?_
            refine st30 _ ?_
            refine XS.astore X30.here hx rfl (hb hby at_132) rfl rfl (l' := #[.val (.int i0), .val (.int i1), .val (.int i2), .val (.int i3), .val (.int i4), .val (.int i5), .val (.int x2), .val (.int x4), .val (.int x7), .val (.int (0 : Int32)), .val (.int x9), .val (.int x13), .val (.int x17), .val (.int x22), .val (.ref c25_0), .val (.ref c26_0), .val (.ref b28), .unset, .unset]) rfl ?_
            show Steps p.tables e below (T30.setTop (mkF m 134 #[.val (.int i0), .val (.int i1), .val (.int i2), .val (.int i3), .val (.int i4), .val (.int i5), .val (.int x2), .val (.int x4), .val (.int x7), .val (.int (0 : Int32)), .val (.int x9), .val (.int x13), .val (.int x17), .val (.int x22), .val (.ref c25_0), .val (.ref c26_0), .val (.ref b28), .unset, .unset] [])) _
            refine XS.aload X30.here hx rfl (hb hby at_134) rfl rfl ?_
            refine XS.aload X30.here hx rfl (hb hby at_136) rfl rfl ?_
            refine st31 _ ?_
            refine XS.istore X31.here hx rfl (hb hby at_141) rfl (l' := #[.val (.int i0), .val (.int i1), .val (.int i2), .val (.int i3), .val (.int i4), .val (.int i5), .val (.int x2), .val (.int x4), .val (.int x7), .val (.int (0 : Int32)), .val (.int x9), .val (.int x13), .val (.int x17), .val (.int x22), .val (.ref c25_0), .val (.ref c26_0), .val (.ref b28), .val (.int (0 : Int32)), .unset]) rfl ?_
            show Steps p.tables e below (T31.setTop (mkF m 143 #[.val (.int i0), .val (.int i1), .val (.int i2), .val (.int i3), .val (.int i4), .val (.int i5), .val (.int x2), .val (.int x4), .val (.int x7), .val (.int (0 : Int32)), .val (.int x9), .val (.int x13), .val (.int x17), .val (.int x22), .val (.ref c25_0), .val (.ref c26_0), .val (.ref b28), .val (.int (0 : Int32)), .unset] [])) _
            refine Own.iload X31.here hx rfl (hb hby at_143) rfl hp3 ?_
            refine XS.bipush X31.here hx rfl (hb hby at_145) ?_
            refine XS.icmpNo X31.here hx rfl (hb hby at_147) rfl (teq (by decide : (8 : Int32) = (8 : Int32))).2 ?_
            refine XS.iload X31.here hx rfl (hb hby at_150) rfl ?_
            show Steps p.tables e below (T31.setTop (mkF m 152 #[.val (.int i0), .val (.int i1), .val (.int i2), .val (.int i3), .val (.int i4), .val (.int i5), .val (.int x2), .val (.int x4), .val (.int x7), .val (.int (0 : Int32)), .val (.int x9), .val (.int x13), .val (.int x17), .val (.int x22), .val (.ref c25_0), .val (.ref c26_0), .val (.ref b28), .val (.int (0 : Int32)), .unset] [(.int (0 : Int32))])) _
            refine XS.ifNo X31.here hx rfl (hb hby at_152) rfl ((if0 _ _).trans (teq (by decide : (0 : Int32) = (0 : Int32))).2) ?_
            refine Own.iload X31.here hx rfl (hb hby at_155) rfl hp1 ?_
            refine Own.iload X31.here hx rfl (hb hby at_157) rfl hp2 ?_
            refine XS.icmpYes X31.here hx rfl (pc0 := 159) (pc' := 192) rfl (hb hby at_159) rfl (feq (by decide : ¬ ((0 : Int32) = (1 : Int32)))).2 (by decide) (by decide) ?_
            show Steps p.tables e below (T31.setTop (mkF m 192 #[.val (.int i0), .val (.int i1), .val (.int i2), .val (.int i3), .val (.int i4), .val (.int i5), .val (.int x2), .val (.int x4), .val (.int x7), .val (.int (0 : Int32)), .val (.int x9), .val (.int x13), .val (.int x17), .val (.int x22), .val (.ref c25_0), .val (.ref c26_0), .val (.ref b28), .val (.int (0 : Int32)), .unset] [])) _
            refine XS.iconst X31.here hx rfl (hb hby at_192) ?_
            refine XS.istore X31.here hx rfl (hb hby at_193) rfl (l' := #[.val (.int i0), .val (.int i1), .val (.int i2), .val (.int i3), .val (.int i4), .val (.int i5), .val (.int x2), .val (.int x4), .val (.int x7), .val (.int (0 : Int32)), .val (.int x9), .val (.int x13), .val (.int x17), .val (.int x22), .val (.ref c25_0), .val (.ref c26_0), .val (.ref b28), .val (.int (0 : Int32)), .val (.int (0 : Int32))]) rfl ?_
            refine XS.iload X31.here hx rfl (hb hby at_195) rfl ?_
            refine XS.iload X31.here hx rfl (hb hby at_197) rfl ?_
            show Steps p.tables e below (T31.setTop (mkF m 199 #[.val (.int i0), .val (.int i1), .val (.int i2), .val (.int i3), .val (.int i4), .val (.int i5), .val (.int x2), .val (.int x4), .val (.int x7), .val (.int (0 : Int32)), .val (.int x9), .val (.int x13), .val (.int x17), .val (.int x22), .val (.ref c25_0), .val (.ref c26_0), .val (.ref b28), .val (.int (0 : Int32)), .val (.int (0 : Int32))] [(.int (0 : Int32)), (.int (0 : Int32))])) _
            refine XS.icmpNo X31.here hx rfl (hb hby at_199) rfl (teq (by decide : (0 : Int32) = (0 : Int32))).2 ?_
            refine XS.iconst X31.here hx rfl (hb hby at_202) ?_
            refine XS.goto X31.here hx rfl (pc0 := 203) (pc' := 207) rfl (hb hby at_203) (by decide) (by decide) ?_
            exact retN X31 hx (t := .boolean) Bd.returns (by simp) (hb hby at_207) hr
          · show QL n0 _ T31.heap _
            exact ⟨rfl, N31⟩
        · have hd29 : ¬ (x2 < (0 : Int32)) := (by have q0 := rx2; have q1 := (by decide : ((0 : Int32)).toInt = 0); exact own_ltF (by omega) : ¬ (x2 < (0 : Int32)))
          have hd30 : ¬ ((9 : Int32) < x2) := (by have q0 := (by decide : ((9 : Int32)).toInt = 9); have q1 := rx2; exact own_ltF (by omega) : ¬ ((9 : Int32) < x2))
          obtain ⟨_, T31, L31, ⟨z31, rfl, N31q, hz31_0, hz31_1, e31⟩, X31, st31⟩ := own_callS X28 hx hZ25 (W := 2) hown25 (hw _ m45) (hw _ m46) (hw _ m3) (hw _ m47) (by decide) (jm0 l Z a0 hw hj w0 w1 w2 w3 w4 w5 w6 w7 w8 w9 w10 w11 hS [] x2 h28 n0 O28 hd29 hd30 hp3) e28 (g := (mkF m 120 #[.val (.int i0), .val (.int i1), .val (.int i2), .val (.int i3), .val (.int i4), .val (.int i5), .val (.int x2), .val (.int x4), .val (.int x7), .val (.int (0 : Int32)), .val (.int x9), .val (.int x13), .val (.int x17), .val (.int x22), .val (.ref c25_0), .val (.ref c26_0), .unset, .unset, .unset] [(.int x2), (.ref b28), (.ref b28)])) rfl (by rw [hml]; rfl) (argsL := [(.int x2)]) (rest := [(.ref b28), (.ref b28)]) (lenOf pd128 rfl) rfl rfl (by show 2 * 0 + _ ≤ _; exact Nat.le_of_eq rfl) (hb hby at_120) (by decide) (by decide) (by decide) (by decide)
          have N31 := Fr.app N26 N31q
          have e31' : T31.heap = h28 := e31
          have sf32 := ((sfS (Safe.exa (EL := EL) hZ25.alike A28 (by decide) (by decide)) sf0) : ∀ x ∈ [b28], Safe Z EL T25.vm h28 x)
          obtain ⟨_, T32, L32, hQ32, X32, st32⟩ := own_special X31 hx hZ25 (W := 1) rfl hown25 (hw _ m51) (hw _ m52) (hw _ m44) (hw _ m53) (by decide) (rm10 l Z a0 hw hj w0 w1 w2 w3 w4 w5 w6 w7 w8 w9 w10 w11 hS [] i4 i5 b28 z31 c25_0 h28 n0 O28 A28 F28_1 F28_2 F28_3 F28_4 (Nat.le_trans (own_old_le O26) g28)) e31' (a := b28) (g := (mkF m 129 #[.val (.int i0), .val (.int i1), .val (.int i2), .val (.int i3), .val (.int i4), .val (.int i5), .val (.int x2), .val (.int x4), .val (.int x7), .val (.int (0 : Int32)), .val (.int x9), .val (.int x13), .val (.int x17), .val (.int x22), .val (.ref c25_0), .val (.ref c26_0), .unset, .unset, .unset] [(.int i5), (.int i4), (.ref c25_0), (.ref z31), (.ref b28), (.ref b28)])) rfl (by rw [hml]; rfl) (argsL := [(.ref z31), (.ref c25_0), (.int i4), (.int i5)]) (rest := [(.ref b28)]) (lenOf pd164 rfl) rfl rfl (by show 2 * 0 + _ ≤ _; exact Nat.le_of_eq rfl) (hb hby at_129) (by decide) (by decide) (by decide) (by decide)
          obtain ⟨rfl, N32q, Kq32, q32_0, q32_1, q32_2, q32_3⟩ := hQ32
          have N32 := Fr.app N31 N32q
          have C32 := C28.trans (CHr.keep Kq32 sf32 C28.1)
          have O32 : Old Z n0 T32.heap := O28.keep Kq32 (allS (Nat.le_trans (own_old_le O26) g28) all0)
          have K32 : Keep h0 T32.heap [] := K28.trans Kq32 (allS (Or.inr (Nat.le_trans K26.1 g28)) all0)
          have sf33 := (sf0 : ∀ x ∈ [], Safe Z EL T25.vm T32.heap x)
          have f34 : Exa Z T32.heap b28 z1 := (A28.keep Kq32)
          obtain ⟨_, T33, L33, hQ33, X33, st33⟩ := own_virtual X32 hx hZ25 (W := 0) hown25 (hw _ m68) (hw _ m69) (notFace_of_selects (args := #[]) (mvT hZ25 (hw _ m71))) (hw _ m71) (hw _ m70) (hw _ m44) (hw _ m72) (by decide) (rm11 l Z a0 hw hj w0 w1 w2 w3 w4 w5 w6 w7 w8 w9 w10 w11 hS [] b28 c26_0 z31 T32.heap n0 O32 q32_0 hz31_1) (rfl : T32.heap = T32.heap) f34 (g := (mkF m 138 #[.val (.int i0), .val (.int i1), .val (.int i2), .val (.int i3), .val (.int i4), .val (.int i5), .val (.int x2), .val (.int x4), .val (.int x7), .val (.int (0 : Int32)), .val (.int x9), .val (.int x13), .val (.int x17), .val (.int x22), .val (.ref c25_0), .val (.ref c26_0), .val (.ref b28), .unset, .unset] [(.ref c26_0), (.ref b28)])) rfl (by rw [hml]; rfl) (argsL := [(.ref c26_0)]) (rest := []) (lenOf pd235 rfl) rfl rfl (by show 2 * 0 + _ ≤ _; exact Nat.le_of_eq rfl) (hb hby at_138) (by decide) (by decide) (by decide) (by decide)
          obtain ⟨rfl, N33q, e33⟩ := hQ33
          have N33 := Fr.app N32 N33q
          have e33' : T33.heap = T32.heap := e33
          obtain ⟨fs, hr, hrun, hended, hRW⟩ := X33.leaveW hS25 (by rw [e33']; exact (Nat.le_trans (Nat.le_refl _) (Nat.le_trans (Nat.le_trans Kq26.1 E28.1) Kq32.1))) (v := some (.int (1 : Int32))) (fun h => by rw [Bd.returns] at h; cases h)
          refine ⟨_, _, pre4 _ ?_, hrun, hended, _, _, rfl, ?_, own_rwm hRW (by decide) (by decide)⟩
          · refine XS.iload X28.here hx rfl (hb hby at_118) rfl ?_
            refine st31 _ ?_
            refine XS.aload X31.here hx rfl (hb hby at_123) rfl rfl ?_
            show Steps p.tables e below (T31.setTop (mkF m 125 #[.val (.int i0), .val (.int i1), .val (.int i2), .val (.int i3), .val (.int i4), .val (.int i5), .val (.int x2), .val (.int x4), .val (.int x7), .val (.int (0 : Int32)), .val (.int x9), .val (.int x13), .val (.int x17), .val (.int x22), .val (.ref c25_0), .val (.ref c26_0), .unset, .unset, .unset] [(.ref c25_0), (.ref z31), (.ref b28), (.ref b28)])) _
            refine XS.iload X31.here hx rfl (hb hby at_125) rfl ?_
            refine XS.iload X31.here hx rfl (hb hby at_127) rfl ?_
            refine st32 _ ?_
            refine XS.astore X32.here hx rfl (hb hby at_132) rfl rfl (l' := #[.val (.int i0), .val (.int i1), .val (.int i2), .val (.int i3), .val (.int i4), .val (.int i5), .val (.int x2), .val (.int x4), .val (.int x7), .val (.int (0 : Int32)), .val (.int x9), .val (.int x13), .val (.int x17), .val (.int x22), .val (.ref c25_0), .val (.ref c26_0), .val (.ref b28), .unset, .unset]) rfl ?_
            show Steps p.tables e below (T32.setTop (mkF m 134 #[.val (.int i0), .val (.int i1), .val (.int i2), .val (.int i3), .val (.int i4), .val (.int i5), .val (.int x2), .val (.int x4), .val (.int x7), .val (.int (0 : Int32)), .val (.int x9), .val (.int x13), .val (.int x17), .val (.int x22), .val (.ref c25_0), .val (.ref c26_0), .val (.ref b28), .unset, .unset] [])) _
            refine XS.aload X32.here hx rfl (hb hby at_134) rfl rfl ?_
            refine XS.aload X32.here hx rfl (hb hby at_136) rfl rfl ?_
            refine st33 _ ?_
            refine XS.istore X33.here hx rfl (hb hby at_141) rfl (l' := #[.val (.int i0), .val (.int i1), .val (.int i2), .val (.int i3), .val (.int i4), .val (.int i5), .val (.int x2), .val (.int x4), .val (.int x7), .val (.int (0 : Int32)), .val (.int x9), .val (.int x13), .val (.int x17), .val (.int x22), .val (.ref c25_0), .val (.ref c26_0), .val (.ref b28), .val (.int (0 : Int32)), .unset]) rfl ?_
            show Steps p.tables e below (T33.setTop (mkF m 143 #[.val (.int i0), .val (.int i1), .val (.int i2), .val (.int i3), .val (.int i4), .val (.int i5), .val (.int x2), .val (.int x4), .val (.int x7), .val (.int (0 : Int32)), .val (.int x9), .val (.int x13), .val (.int x17), .val (.int x22), .val (.ref c25_0), .val (.ref c26_0), .val (.ref b28), .val (.int (0 : Int32)), .unset] [])) _
            refine XS.iload X33.here hx rfl (hb hby at_143) rfl ?_
            refine XS.bipush X33.here hx rfl (hb hby at_145) ?_
            refine XS.icmpYes X33.here hx rfl (pc0 := 147) (pc' := 192) rfl (hb hby at_147) rfl (feq hp3).2 (by decide) (by decide) ?_
            refine XS.iconst X33.here hx rfl (hb hby at_192) ?_
            show Steps p.tables e below (T33.setTop (mkF m 193 #[.val (.int i0), .val (.int i1), .val (.int i2), .val (.int i3), .val (.int i4), .val (.int i5), .val (.int x2), .val (.int x4), .val (.int x7), .val (.int (0 : Int32)), .val (.int x9), .val (.int x13), .val (.int x17), .val (.int x22), .val (.ref c25_0), .val (.ref c26_0), .val (.ref b28), .val (.int (0 : Int32)), .unset] [(.int (0 : Int32))])) _
            refine XS.istore X33.here hx rfl (hb hby at_193) rfl (l' := #[.val (.int i0), .val (.int i1), .val (.int i2), .val (.int i3), .val (.int i4), .val (.int i5), .val (.int x2), .val (.int x4), .val (.int x7), .val (.int (0 : Int32)), .val (.int x9), .val (.int x13), .val (.int x17), .val (.int x22), .val (.ref c25_0), .val (.ref c26_0), .val (.ref b28), .val (.int (0 : Int32)), .val (.int (0 : Int32))]) rfl ?_
            refine XS.iload X33.here hx rfl (hb hby at_195) rfl ?_
            refine XS.iload X33.here hx rfl (hb hby at_197) rfl ?_
            refine XS.icmpNo X33.here hx rfl (hb hby at_199) rfl (teq (by decide : (0 : Int32) = (0 : Int32))).2 ?_
            show Steps p.tables e below (T33.setTop (mkF m 202 #[.val (.int i0), .val (.int i1), .val (.int i2), .val (.int i3), .val (.int i4), .val (.int i5), .val (.int x2), .val (.int x4), .val (.int x7), .val (.int (0 : Int32)), .val (.int x9), .val (.int x13), .val (.int x17), .val (.int x22), .val (.ref c25_0), .val (.ref c26_0), .val (.ref b28), .val (.int (0 : Int32)), .val (.int (0 : Int32))] [])) _
            refine XS.iconst X33.here hx rfl (hb hby at_202) ?_
            refine XS.goto X33.here hx rfl (pc0 := 203) (pc' := 207) rfl (hb hby at_203) (by decide) (by decide) ?_
            exact retN X33 hx (t := .boolean) Bd.returns (by simp) (hb hby at_207) hr
          · show QL n0 _ T33.heap _
            exact ⟨rfl, N33⟩
      · have hd27 : ¬ ((255 : Int32) < x17) := (by have q0 := (by decide : ((255 : Int32)).toInt = 255); have q1 := rx17; exact own_ltF (by omega) : ¬ ((255 : Int32) < x17))
        have hd28 : ¬ ((255 : Int32) < x22) := (by have q0 := (by decide : ((255 : Int32)).toInt = 255); have q1 := rx22; exact own_ltF (by omega) : ¬ ((255 : Int32) < x22))
        have sf26 := (sf0 : ∀ x ∈ [], Safe Z EL T25.vm T25.heap x)
        obtain ⟨_, T26, L26, hQ26, X26, st26⟩ := own_callS X25 hx hZ25 (W := 0) hown25 (hw _ m1) (hw _ m2) (hw _ m3) (hw _ m4) (by decide) (rm25 l Z a0 hw hj w0 w1 w2 w3 w4 w5 w6 w7 w8 w9 w10 w11 hS [] x17 x22 T25.heap n0 O25 hd18 hd19 hd23 hd24 hd27 hd28) (rfl : T25.heap = T25.heap) (g := (mkF m 109 #[.val (.int i0), .val (.int i1), .val (.int i2), .val (.int i3), .val (.int i4), .val (.int i5), .val (.int x2), .val (.int x4), .val (.int x7), .val (.int (0 : Int32)), .val (.int x9), .val (.int x13), .val (.int x17), .val (.int x22), .val (.ref c25_0), .unset, .unset, .unset, .unset] [(.int x22), (.int x17), (.int (2 : Int32))])) rfl (by rw [hml]; rfl) (argsL := [(.int (2 : Int32)), (.int x17), (.int x22)]) (rest := []) (lenOf pd114 rfl) rfl rfl (by show 2 * 0 + _ ≤ _; exact Nat.le_of_eq rfl) (hb hby at_109) (by decide) (by decide) (by decide) (by decide)
        obtain ⟨c26_0, c26_1, k26_2, rfl, N26q, Kq26, lo26_0, lo26_1, q26_0, q26_1, q26_2, q26_3⟩ := hQ26
        have N26 := Fr.app N25 N26q
        have C26 := C25.trans (CHr.keep Kq26 sf26 C25.1)
        have O26 : Old Z n0 T26.heap := O25.keep Kq26 all0
        have K26 : Keep h0 T26.heap [] := K25.trans Kq26 all0
        obtain ⟨T29, h29, b29, X29, e29, E29, A29, D29, g29, O29, K29, st29⟩ := own_newO X26 hx hZ25 hown25 (hw _ m42) (hw _ m43) (hw _ m44) (rfl : T26.heap = T26.heap) O26 K26 (g := (mkF m 114 #[.val (.int i0), .val (.int i1), .val (.int i2), .val (.int i3), .val (.int i4), .val (.int i5), .val (.int x2), .val (.int x4), .val (.int x7), .val (.int (0 : Int32)), .val (.int x9), .val (.int x13), .val (.int x17), .val (.int x22), .val (.ref c25_0), .val (.ref c26_0), .unset, .unset, .unset] [])) rfl (hb hby at_114) (by decide) (by decide)
        have C29 := C26.trans (CHr.ext E29 C26.1)
        have F29_1 : Fld Z h29 b29 z1 "type" z3 .null := D29 (Or.inr (hw _ m61)) (ty := (.object z2)) (by decide)
        have F29_2 : Fld Z h29 b29 z1 "text" z8 .null := D29 (Or.inr (hw _ m63)) (ty := (.object z0)) (by decide)
        have F29_3 : Fld Z h29 b29 z1 "line" "I" (.int (0 : Int32)) := D29 (Or.inr (hw _ m65)) (ty := .int) (by decide)
        have F29_4 : Fld Z h29 b29 z1 "column" "I" (.int (0 : Int32)) := D29 (Or.inr (hw _ m67)) (ty := .int) (by decide)
        have pre4 : ∀ t, Steps p.tables e below (T29.setTop (mkF m 118 #[.val (.int i0), .val (.int i1), .val (.int i2), .val (.int i3), .val (.int i4), .val (.int i5), .val (.int x2), .val (.int x4), .val (.int x7), .val (.int (0 : Int32)), .val (.int x9), .val (.int x13), .val (.int x17), .val (.int x22), .val (.ref c25_0), .val (.ref c26_0), .unset, .unset, .unset] [(.ref b29), (.ref b29)])) t → Steps p.tables e below (s₁.setTop (entryFrame m #[(.int i0), (.int i1), (.int i2), (.int i3), (.int i4), (.int i5)] maxLocals)) t := fun t kt => pre3 _ (by
            refine Own.iload X25.here hx rfl (hb hby at_103) rfl hp2 ?_
            refine XS.iload X25.here hx rfl (hb hby at_105) rfl ?_
            show Steps p.tables e below (T25.setTop (mkF m 107 #[.val (.int i0), .val (.int i1), .val (.int i2), .val (.int i3), .val (.int i4), .val (.int i5), .val (.int x2), .val (.int x4), .val (.int x7), .val (.int (0 : Int32)), .val (.int x9), .val (.int x13), .val (.int x17), .val (.int x22), .val (.ref c25_0), .unset, .unset, .unset, .unset] [(.int x17), (.int (2 : Int32))])) _
            refine XS.iload X25.here hx rfl (hb hby at_107) rfl ?_
            refine st26 _ ?_
            refine XS.astore X26.here hx rfl (hb hby at_112) rfl rfl (l' := #[.val (.int i0), .val (.int i1), .val (.int i2), .val (.int i3), .val (.int i4), .val (.int i5), .val (.int x2), .val (.int x4), .val (.int x7), .val (.int (0 : Int32)), .val (.int x9), .val (.int x13), .val (.int x17), .val (.int x22), .val (.ref c25_0), .val (.ref c26_0), .unset, .unset, .unset]) rfl ?_
            refine st29 _ ?_
            show Steps p.tables e below (T29.setTop (mkF m 117 #[.val (.int i0), .val (.int i1), .val (.int i2), .val (.int i3), .val (.int i4), .val (.int i5), .val (.int x2), .val (.int x4), .val (.int x7), .val (.int (0 : Int32)), .val (.int x9), .val (.int x13), .val (.int x17), .val (.int x22), .val (.ref c25_0), .val (.ref c26_0), .unset, .unset, .unset] [(.ref b29)])) _
            refine XS.dup X29.here hx rfl (hb hby at_117) rfl rfl ?_
            exact kt)
        rcases Decidable.em (x2 = (8 : Int32)) with hp3 | hp3
        · have sf30 := (sf0 : ∀ x ∈ [], Safe Z EL T25.vm h29 x)
          obtain ⟨_, T30, L30, hQ30, X30, st30⟩ := own_callS X29 hx hZ25 (W := 2) hown25 (hw _ m45) (hw _ m46) (hw _ m3) (hw _ m47) (by decide) (rm4 l Z a0 hw hj w0 w1 w2 w3 w4 w5 w6 w7 w8 w9 w10 w11 hS [] h29 n0 O29) e29 (g := (mkF m 120 #[.val (.int i0), .val (.int i1), .val (.int i2), .val (.int i3), .val (.int i4), .val (.int i5), .val (.int x2), .val (.int x4), .val (.int x7), .val (.int (0 : Int32)), .val (.int x9), .val (.int x13), .val (.int x17), .val (.int x22), .val (.ref c25_0), .val (.ref c26_0), .unset, .unset, .unset] [(.int (8 : Int32)), (.ref b29), (.ref b29)])) rfl (by rw [hml]; rfl) (argsL := [(.int (8 : Int32))]) (rest := [(.ref b29), (.ref b29)]) (lenOf pd128 rfl) rfl rfl (by show 2 * 0 + _ ≤ _; exact Nat.le_of_eq rfl) (hb hby at_120) (by decide) (by decide) (by decide) (by decide)
          obtain ⟨rfl, N30q, e30⟩ := hQ30
          have N30 := Fr.app N26 N30q
          have e30' : T30.heap = h29 := e30
          have sf31 := ((sfS (Safe.exa (EL := EL) hZ25.alike A29 (by decide) (by decide)) sf0) : ∀ x ∈ [b29], Safe Z EL T25.vm h29 x)
          obtain ⟨_, T31, L31, hQ31, X31, st31⟩ := own_special X30 hx hZ25 (W := 1) rfl hown25 (hw _ m51) (hw _ m52) (hw _ m44) (hw _ m53) (by decide) (rm6 l Z a0 hw hj w0 w1 w2 w3 w4 w5 w6 w7 w8 w9 w10 w11 hS [] i4 i5 b29 c25_0 h29 n0 O29 A29 F29_1 F29_2 F29_3 F29_4 (Nat.le_trans (own_old_le O26) g29)) e30' (a := b29) (g := (mkF m 129 #[.val (.int i0), .val (.int i1), .val (.int i2), .val (.int i3), .val (.int i4), .val (.int i5), .val (.int x2), .val (.int x4), .val (.int x7), .val (.int (0 : Int32)), .val (.int x9), .val (.int x13), .val (.int x17), .val (.int x22), .val (.ref c25_0), .val (.ref c26_0), .unset, .unset, .unset] [(.int i5), (.int i4), (.ref c25_0), (.ref w8), (.ref b29), (.ref b29)])) rfl (by rw [hml]; rfl) (argsL := [(.ref w8), (.ref c25_0), (.int i4), (.int i5)]) (rest := [(.ref b29)]) (lenOf pd164 rfl) rfl rfl (by show 2 * 0 + _ ≤ _; exact Nat.le_of_eq rfl) (hb hby at_129) (by decide) (by decide) (by decide) (by decide)
          obtain ⟨rfl, N31q, Kq31, q31_0, q31_1, q31_2, q31_3⟩ := hQ31
          have N31 := Fr.app N30 N31q
          have C31 := C29.trans (CHr.keep Kq31 sf31 C29.1)
          have O31 : Old Z n0 T31.heap := O29.keep Kq31 (allS (Nat.le_trans (own_old_le O26) g29) all0)
          have K31 : Keep h0 T31.heap [] := K29.trans Kq31 (allS (Or.inr (Nat.le_trans K26.1 g29)) all0)
          have f33 : Exa Z T31.heap c26_0 z0 := ((q26_0.ext E29).keep Kq31)
          have ne34 : c25_0 ≠ b29 := (Nat.ne_of_lt (Nat.lt_of_lt_of_le (Nat.lt_of_lt_of_le q25_0.lt Kq26.1) g29))
          have f35 : Fld Z T31.heap c25_0 z0 "coder" "B" (.int (0 : Int32)) := (((q25_2.keep Kq26 nin0).ext E29).keep Kq31 (ninS ne34 nin0))
          have f36 : Fld Z T31.heap c26_0 z0 "coder" "B" (.int (0 : Int32)) := ((q26_2.ext E29).keep Kq31 (ninS (Nat.ne_of_lt (Nat.lt_of_lt_of_le q26_0.lt g29)) nin0))
          have f37 : Fld Z T31.heap c25_0 z0 "value" "[B" (.ref c25_1) := (((q25_1.keep Kq26 nin0).ext E29).keep Kq31 (ninS ne34 nin0))
          have f38 : Fld Z T31.heap c26_0 z0 "value" "[B" (.ref c26_1) := ((q26_1.ext E29).keep Kq31 (ninS (Nat.ne_of_lt (Nat.lt_of_lt_of_le q26_0.lt g29)) nin0))
          have ne39 : c25_1 ≠ b29 := (Nat.ne_of_lt (Nat.lt_of_lt_of_le (Nat.lt_of_lt_of_le q25_3.lt Kq26.1) g29))
          have f40 : Arv Z T31.heap c25_1 k25_2 .byte (0 : Int32) [] (.int (0 : Int32)) := (((q25_3.keep Kq26 nin0).ext E29).keep Kq31 (ninS ne39 nin0))
          have f41 : Arv Z T31.heap c26_1 k26_2 .byte (2 : Int32) [(.int (x17.toInt8.toInt32)), (.int (x22.toInt8.toInt32))] (.int (0 : Int32)) := ((q26_3.ext E29).keep Kq31 (ninS (Nat.ne_of_lt (Nat.lt_of_lt_of_le q26_3.lt g29)) nin0))
          have f42 : Exa Z T31.heap c25_0 z0 := (((q25_0.keep Kq26).ext E29).keep Kq31)
          have sf32 := (sf0 : ∀ x ∈ [], Safe Z EL T25.vm T31.heap x)
          have f43 : Exa Z T31.heap b29 z1 := (A29.keep Kq31)
          obtain ⟨_, T32, L32, hQ32, X32, st32⟩ := own_virtual X31 hx hZ25 (W := 0) hown25 (hw _ m68) (hw _ m69) (notFace_of_selects (args := #[]) (mvT hZ25 (hw _ m71))) (hw _ m71) (hw _ m70) (hw _ m44) (hw _ m72) (by decide) (rm28 l Z a0 hw hj w0 w1 w2 w3 w4 w5 w6 w7 w8 w9 w10 w11 hS [] b29 c26_0 c25_0 (x17.toInt8.toInt32) (x22.toInt8.toInt32) c25_1 c26_1 k25_2 k26_2 T31.heap n0 O31 q31_0 q31_1 (Nat.ne_of_lt (Nat.lt_of_lt_of_le q25_0.lt lo26_0)) f33 f35 f36 f37 f38 f40 f41 f42) (rfl : T31.heap = T31.heap) f43 (g := (mkF m 138 #[.val (.int i0), .val (.int i1), .val (.int i2), .val (.int i3), .val (.int i4), .val (.int i5), .val (.int x2), .val (.int x4), .val (.int x7), .val (.int (0 : Int32)), .val (.int x9), .val (.int x13), .val (.int x17), .val (.int x22), .val (.ref c25_0), .val (.ref c26_0), .val (.ref b29), .unset, .unset] [(.ref c26_0), (.ref b29)])) rfl (by rw [hml]; rfl) (argsL := [(.ref c26_0)]) (rest := []) (lenOf pd235 rfl) rfl rfl (by show 2 * 0 + _ ≤ _; exact Nat.le_of_eq rfl) (hb hby at_138) (by decide) (by decide) (by decide) (by decide)
          obtain ⟨rfl, N32q, e32⟩ := hQ32
          have N32 := Fr.app N31 N32q
          have e32' : T32.heap = T31.heap := e32
          obtain ⟨fs, hr, hrun, hended, hRW⟩ := X32.leaveW hS25 (by rw [e32']; exact (Nat.le_trans (Nat.le_refl _) (Nat.le_trans (Nat.le_trans Kq26.1 E29.1) Kq31.1))) (v := some (.int (1 : Int32))) (fun h => by rw [Bd.returns] at h; cases h)
          refine ⟨_, _, pre4 _ ?_, hrun, hended, _, _, rfl, ?_, own_rwm hRW (by decide) (by decide)⟩
          · refine Own.iload X29.here hx rfl (hb hby at_118) rfl hp3 ?_
            refine st30 _ ?_
            refine XS.aload X30.here hx rfl (hb hby at_123) rfl rfl ?_
            show Steps p.tables e below (T30.setTop (mkF m 125 #[.val (.int i0), .val (.int i1), .val (.int i2), .val (.int i3), .val (.int i4), .val (.int i5), .val (.int x2), .val (.int x4), .val (.int x7), .val (.int (0 : Int32)), .val (.int x9), .val (.int x13), .val (.int x17), .val (.int x22), .val (.ref c25_0), .val (.ref c26_0), .unset, .unset, .unset] [(.ref c25_0), (.ref w8), (.ref b29), (.ref b29)])) _
            refine XS.iload X30.here hx rfl (hb hby at_125) rfl ?_
            refine XS.iload X30.here hx rfl (hb hby at_127) rfl ?_
            refine st31 _ ?_
            refine XS.astore X31.here hx rfl (hb hby at_132) rfl rfl (l' := #[.val (.int i0), .val (.int i1), .val (.int i2), .val (.int i3), .val (.int i4), .val (.int i5), .val (.int x2), .val (.int x4), .val (.int x7), .val (.int (0 : Int32)), .val (.int x9), .val (.int x13), .val (.int x17), .val (.int x22), .val (.ref c25_0), .val (.ref c26_0), .val (.ref b29), .unset, .unset]) rfl ?_
            show Steps p.tables e below (T31.setTop (mkF m 134 #[.val (.int i0), .val (.int i1), .val (.int i2), .val (.int i3), .val (.int i4), .val (.int i5), .val (.int x2), .val (.int x4), .val (.int x7), .val (.int (0 : Int32)), .val (.int x9), .val (.int x13), .val (.int x17), .val (.int x22), .val (.ref c25_0), .val (.ref c26_0), .val (.ref b29), .unset, .unset] [])) _
            refine XS.aload X31.here hx rfl (hb hby at_134) rfl rfl ?_
            refine XS.aload X31.here hx rfl (hb hby at_136) rfl rfl ?_
            refine st32 _ ?_
            refine XS.istore X32.here hx rfl (hb hby at_141) rfl (l' := #[.val (.int i0), .val (.int i1), .val (.int i2), .val (.int i3), .val (.int i4), .val (.int i5), .val (.int x2), .val (.int x4), .val (.int x7), .val (.int (0 : Int32)), .val (.int x9), .val (.int x13), .val (.int x17), .val (.int x22), .val (.ref c25_0), .val (.ref c26_0), .val (.ref b29), .val (.int (0 : Int32)), .unset]) rfl ?_
            show Steps p.tables e below (T32.setTop (mkF m 143 #[.val (.int i0), .val (.int i1), .val (.int i2), .val (.int i3), .val (.int i4), .val (.int i5), .val (.int x2), .val (.int x4), .val (.int x7), .val (.int (0 : Int32)), .val (.int x9), .val (.int x13), .val (.int x17), .val (.int x22), .val (.ref c25_0), .val (.ref c26_0), .val (.ref b29), .val (.int (0 : Int32)), .unset] [])) _
            refine Own.iload X32.here hx rfl (hb hby at_143) rfl hp3 ?_
            refine XS.bipush X32.here hx rfl (hb hby at_145) ?_
            refine XS.icmpNo X32.here hx rfl (hb hby at_147) rfl (teq (by decide : (8 : Int32) = (8 : Int32))).2 ?_
            refine XS.iload X32.here hx rfl (hb hby at_150) rfl ?_
            show Steps p.tables e below (T32.setTop (mkF m 152 #[.val (.int i0), .val (.int i1), .val (.int i2), .val (.int i3), .val (.int i4), .val (.int i5), .val (.int x2), .val (.int x4), .val (.int x7), .val (.int (0 : Int32)), .val (.int x9), .val (.int x13), .val (.int x17), .val (.int x22), .val (.ref c25_0), .val (.ref c26_0), .val (.ref b29), .val (.int (0 : Int32)), .unset] [(.int (0 : Int32))])) _
            refine XS.ifNo X32.here hx rfl (hb hby at_152) rfl ((if0 _ _).trans (teq (by decide : (0 : Int32) = (0 : Int32))).2) ?_
            refine Own.iload X32.here hx rfl (hb hby at_155) rfl hp1 ?_
            refine Own.iload X32.here hx rfl (hb hby at_157) rfl hp2 ?_
            refine XS.icmpYes X32.here hx rfl (pc0 := 159) (pc' := 192) rfl (hb hby at_159) rfl (feq (by decide : ¬ ((0 : Int32) = (2 : Int32)))).2 (by decide) (by decide) ?_
            show Steps p.tables e below (T32.setTop (mkF m 192 #[.val (.int i0), .val (.int i1), .val (.int i2), .val (.int i3), .val (.int i4), .val (.int i5), .val (.int x2), .val (.int x4), .val (.int x7), .val (.int (0 : Int32)), .val (.int x9), .val (.int x13), .val (.int x17), .val (.int x22), .val (.ref c25_0), .val (.ref c26_0), .val (.ref b29), .val (.int (0 : Int32)), .unset] [])) _
            refine XS.iconst X32.here hx rfl (hb hby at_192) ?_
            refine XS.istore X32.here hx rfl (hb hby at_193) rfl (l' := #[.val (.int i0), .val (.int i1), .val (.int i2), .val (.int i3), .val (.int i4), .val (.int i5), .val (.int x2), .val (.int x4), .val (.int x7), .val (.int (0 : Int32)), .val (.int x9), .val (.int x13), .val (.int x17), .val (.int x22), .val (.ref c25_0), .val (.ref c26_0), .val (.ref b29), .val (.int (0 : Int32)), .val (.int (0 : Int32))]) rfl ?_
            refine XS.iload X32.here hx rfl (hb hby at_195) rfl ?_
            refine XS.iload X32.here hx rfl (hb hby at_197) rfl ?_
            show Steps p.tables e below (T32.setTop (mkF m 199 #[.val (.int i0), .val (.int i1), .val (.int i2), .val (.int i3), .val (.int i4), .val (.int i5), .val (.int x2), .val (.int x4), .val (.int x7), .val (.int (0 : Int32)), .val (.int x9), .val (.int x13), .val (.int x17), .val (.int x22), .val (.ref c25_0), .val (.ref c26_0), .val (.ref b29), .val (.int (0 : Int32)), .val (.int (0 : Int32))] [(.int (0 : Int32)), (.int (0 : Int32))])) _
            refine XS.icmpNo X32.here hx rfl (hb hby at_199) rfl (teq (by decide : (0 : Int32) = (0 : Int32))).2 ?_
            refine XS.iconst X32.here hx rfl (hb hby at_202) ?_
            refine XS.goto X32.here hx rfl (pc0 := 203) (pc' := 207) rfl (hb hby at_203) (by decide) (by decide) ?_
            exact retN X32 hx (t := .boolean) Bd.returns (by simp) (hb hby at_207) hr
          · show QL n0 _ T32.heap _
            exact ⟨rfl, N32⟩
        · have hd30 : ¬ (x2 < (0 : Int32)) := (by have q0 := rx2; have q1 := (by decide : ((0 : Int32)).toInt = 0); exact own_ltF (by omega) : ¬ (x2 < (0 : Int32)))
          have hd31 : ¬ ((9 : Int32) < x2) := (by have q0 := (by decide : ((9 : Int32)).toInt = 9); have q1 := rx2; exact own_ltF (by omega) : ¬ ((9 : Int32) < x2))
          obtain ⟨_, T32, L32, ⟨z32, rfl, N32q, hz32_0, hz32_1, e32⟩, X32, st32⟩ := own_callS X29 hx hZ25 (W := 2) hown25 (hw _ m45) (hw _ m46) (hw _ m3) (hw _ m47) (by decide) (jm0 l Z a0 hw hj w0 w1 w2 w3 w4 w5 w6 w7 w8 w9 w10 w11 hS [] x2 h29 n0 O29 hd30 hd31 hp3) e29 (g := (mkF m 120 #[.val (.int i0), .val (.int i1), .val (.int i2), .val (.int i3), .val (.int i4), .val (.int i5), .val (.int x2), .val (.int x4), .val (.int x7), .val (.int (0 : Int32)), .val (.int x9), .val (.int x13), .val (.int x17), .val (.int x22), .val (.ref c25_0), .val (.ref c26_0), .unset, .unset, .unset] [(.int x2), (.ref b29), (.ref b29)])) rfl (by rw [hml]; rfl) (argsL := [(.int x2)]) (rest := [(.ref b29), (.ref b29)]) (lenOf pd128 rfl) rfl rfl (by show 2 * 0 + _ ≤ _; exact Nat.le_of_eq rfl) (hb hby at_120) (by decide) (by decide) (by decide) (by decide)
          have N32 := Fr.app N26 N32q
          have e32' : T32.heap = h29 := e32
          have sf33 := ((sfS (Safe.exa (EL := EL) hZ25.alike A29 (by decide) (by decide)) sf0) : ∀ x ∈ [b29], Safe Z EL T25.vm h29 x)
          obtain ⟨_, T33, L33, hQ33, X33, st33⟩ := own_special X32 hx hZ25 (W := 1) rfl hown25 (hw _ m51) (hw _ m52) (hw _ m44) (hw _ m53) (by decide) (rm10 l Z a0 hw hj w0 w1 w2 w3 w4 w5 w6 w7 w8 w9 w10 w11 hS [] i4 i5 b29 z32 c25_0 h29 n0 O29 A29 F29_1 F29_2 F29_3 F29_4 (Nat.le_trans (own_old_le O26) g29)) e32' (a := b29) (g := (mkF m 129 #[.val (.int i0), .val (.int i1), .val (.int i2), .val (.int i3), .val (.int i4), .val (.int i5), .val (.int x2), .val (.int x4), .val (.int x7), .val (.int (0 : Int32)), .val (.int x9), .val (.int x13), .val (.int x17), .val (.int x22), .val (.ref c25_0), .val (.ref c26_0), .unset, .unset, .unset] [(.int i5), (.int i4), (.ref c25_0), (.ref z32), (.ref b29), (.ref b29)])) rfl (by rw [hml]; rfl) (argsL := [(.ref z32), (.ref c25_0), (.int i4), (.int i5)]) (rest := [(.ref b29)]) (lenOf pd164 rfl) rfl rfl (by show 2 * 0 + _ ≤ _; exact Nat.le_of_eq rfl) (hb hby at_129) (by decide) (by decide) (by decide) (by decide)
          obtain ⟨rfl, N33q, Kq33, q33_0, q33_1, q33_2, q33_3⟩ := hQ33
          have N33 := Fr.app N32 N33q
          have C33 := C29.trans (CHr.keep Kq33 sf33 C29.1)
          have O33 : Old Z n0 T33.heap := O29.keep Kq33 (allS (Nat.le_trans (own_old_le O26) g29) all0)
          have K33 : Keep h0 T33.heap [] := K29.trans Kq33 (allS (Or.inr (Nat.le_trans K26.1 g29)) all0)
          have sf34 := (sf0 : ∀ x ∈ [], Safe Z EL T25.vm T33.heap x)
          have f35 : Exa Z T33.heap b29 z1 := (A29.keep Kq33)
          obtain ⟨_, T34, L34, hQ34, X34, st34⟩ := own_virtual X33 hx hZ25 (W := 0) hown25 (hw _ m68) (hw _ m69) (notFace_of_selects (args := #[]) (mvT hZ25 (hw _ m71))) (hw _ m71) (hw _ m70) (hw _ m44) (hw _ m72) (by decide) (rm11 l Z a0 hw hj w0 w1 w2 w3 w4 w5 w6 w7 w8 w9 w10 w11 hS [] b29 c26_0 z32 T33.heap n0 O33 q33_0 hz32_1) (rfl : T33.heap = T33.heap) f35 (g := (mkF m 138 #[.val (.int i0), .val (.int i1), .val (.int i2), .val (.int i3), .val (.int i4), .val (.int i5), .val (.int x2), .val (.int x4), .val (.int x7), .val (.int (0 : Int32)), .val (.int x9), .val (.int x13), .val (.int x17), .val (.int x22), .val (.ref c25_0), .val (.ref c26_0), .val (.ref b29), .unset, .unset] [(.ref c26_0), (.ref b29)])) rfl (by rw [hml]; rfl) (argsL := [(.ref c26_0)]) (rest := []) (lenOf pd235 rfl) rfl rfl (by show 2 * 0 + _ ≤ _; exact Nat.le_of_eq rfl) (hb hby at_138) (by decide) (by decide) (by decide) (by decide)
          obtain ⟨rfl, N34q, e34⟩ := hQ34
          have N34 := Fr.app N33 N34q
          have e34' : T34.heap = T33.heap := e34
          obtain ⟨fs, hr, hrun, hended, hRW⟩ := X34.leaveW hS25 (by rw [e34']; exact (Nat.le_trans (Nat.le_refl _) (Nat.le_trans (Nat.le_trans Kq26.1 E29.1) Kq33.1))) (v := some (.int (1 : Int32))) (fun h => by rw [Bd.returns] at h; cases h)
          refine ⟨_, _, pre4 _ ?_, hrun, hended, _, _, rfl, ?_, own_rwm hRW (by decide) (by decide)⟩
          · refine XS.iload X29.here hx rfl (hb hby at_118) rfl ?_
            refine st32 _ ?_
            refine XS.aload X32.here hx rfl (hb hby at_123) rfl rfl ?_
            show Steps p.tables e below (T32.setTop (mkF m 125 #[.val (.int i0), .val (.int i1), .val (.int i2), .val (.int i3), .val (.int i4), .val (.int i5), .val (.int x2), .val (.int x4), .val (.int x7), .val (.int (0 : Int32)), .val (.int x9), .val (.int x13), .val (.int x17), .val (.int x22), .val (.ref c25_0), .val (.ref c26_0), .unset, .unset, .unset] [(.ref c25_0), (.ref z32), (.ref b29), (.ref b29)])) _
            refine XS.iload X32.here hx rfl (hb hby at_125) rfl ?_
            refine XS.iload X32.here hx rfl (hb hby at_127) rfl ?_
            refine st33 _ ?_
            refine XS.astore X33.here hx rfl (hb hby at_132) rfl rfl (l' := #[.val (.int i0), .val (.int i1), .val (.int i2), .val (.int i3), .val (.int i4), .val (.int i5), .val (.int x2), .val (.int x4), .val (.int x7), .val (.int (0 : Int32)), .val (.int x9), .val (.int x13), .val (.int x17), .val (.int x22), .val (.ref c25_0), .val (.ref c26_0), .val (.ref b29), .unset, .unset]) rfl ?_
            show Steps p.tables e below (T33.setTop (mkF m 134 #[.val (.int i0), .val (.int i1), .val (.int i2), .val (.int i3), .val (.int i4), .val (.int i5), .val (.int x2), .val (.int x4), .val (.int x7), .val (.int (0 : Int32)), .val (.int x9), .val (.int x13), .val (.int x17), .val (.int x22), .val (.ref c25_0), .val (.ref c26_0), .val (.ref b29), .unset, .unset] [])) _
            refine XS.aload X33.here hx rfl (hb hby at_134) rfl rfl ?_
            refine XS.aload X33.here hx rfl (hb hby at_136) rfl rfl ?_
            refine st34 _ ?_
            refine XS.istore X34.here hx rfl (hb hby at_141) rfl (l' := #[.val (.int i0), .val (.int i1), .val (.int i2), .val (.int i3), .val (.int i4), .val (.int i5), .val (.int x2), .val (.int x4), .val (.int x7), .val (.int (0 : Int32)), .val (.int x9), .val (.int x13), .val (.int x17), .val (.int x22), .val (.ref c25_0), .val (.ref c26_0), .val (.ref b29), .val (.int (0 : Int32)), .unset]) rfl ?_
            show Steps p.tables e below (T34.setTop (mkF m 143 #[.val (.int i0), .val (.int i1), .val (.int i2), .val (.int i3), .val (.int i4), .val (.int i5), .val (.int x2), .val (.int x4), .val (.int x7), .val (.int (0 : Int32)), .val (.int x9), .val (.int x13), .val (.int x17), .val (.int x22), .val (.ref c25_0), .val (.ref c26_0), .val (.ref b29), .val (.int (0 : Int32)), .unset] [])) _
            refine XS.iload X34.here hx rfl (hb hby at_143) rfl ?_
            refine XS.bipush X34.here hx rfl (hb hby at_145) ?_
            refine XS.icmpYes X34.here hx rfl (pc0 := 147) (pc' := 192) rfl (hb hby at_147) rfl (feq hp3).2 (by decide) (by decide) ?_
            refine XS.iconst X34.here hx rfl (hb hby at_192) ?_
            show Steps p.tables e below (T34.setTop (mkF m 193 #[.val (.int i0), .val (.int i1), .val (.int i2), .val (.int i3), .val (.int i4), .val (.int i5), .val (.int x2), .val (.int x4), .val (.int x7), .val (.int (0 : Int32)), .val (.int x9), .val (.int x13), .val (.int x17), .val (.int x22), .val (.ref c25_0), .val (.ref c26_0), .val (.ref b29), .val (.int (0 : Int32)), .unset] [(.int (0 : Int32))])) _
            refine XS.istore X34.here hx rfl (hb hby at_193) rfl (l' := #[.val (.int i0), .val (.int i1), .val (.int i2), .val (.int i3), .val (.int i4), .val (.int i5), .val (.int x2), .val (.int x4), .val (.int x7), .val (.int (0 : Int32)), .val (.int x9), .val (.int x13), .val (.int x17), .val (.int x22), .val (.ref c25_0), .val (.ref c26_0), .val (.ref b29), .val (.int (0 : Int32)), .val (.int (0 : Int32))]) rfl ?_
            refine XS.iload X34.here hx rfl (hb hby at_195) rfl ?_
            refine XS.iload X34.here hx rfl (hb hby at_197) rfl ?_
            refine XS.icmpNo X34.here hx rfl (hb hby at_199) rfl (teq (by decide : (0 : Int32) = (0 : Int32))).2 ?_
            show Steps p.tables e below (T34.setTop (mkF m 202 #[.val (.int i0), .val (.int i1), .val (.int i2), .val (.int i3), .val (.int i4), .val (.int i5), .val (.int x2), .val (.int x4), .val (.int x7), .val (.int (0 : Int32)), .val (.int x9), .val (.int x13), .val (.int x17), .val (.int x22), .val (.ref c25_0), .val (.ref c26_0), .val (.ref b29), .val (.int (0 : Int32)), .val (.int (0 : Int32))] [])) _
            refine XS.iconst X34.here hx rfl (hb hby at_202) ?_
            refine XS.goto X34.here hx rfl (pc0 := 203) (pc' := 207) rfl (hb hby at_203) (by decide) (by decide) ?_
            exact retN X34 hx (t := .boolean) Bd.returns (by simp) (hb hby at_207) hr
          · show QL n0 _ T34.heap _
            exact ⟨rfl, N34⟩
    · have hd26 : ¬ ((255 : Int32) < x9) := (by have q0 := (by decide : ((255 : Int32)).toInt = 255); have q1 := rx9; exact own_ltF (by omega) : ¬ ((255 : Int32) < x9))
      have sf25 := (sf0 : ∀ x ∈ [], Safe Z EL s.vm h0 x)
      obtain ⟨_, T25, L25, hQ25, X25, st25⟩ := own_callS X0 hx hZ (W := 0) hown (hw _ m1) (hw _ m2) (hw _ m3) (hw _ m4) (by decide) (rm16 l Z a0 hw hj w0 w1 w2 w3 w4 w5 w6 w7 w8 w9 w10 w11 hS [] x9 x13 h0 n0 O0 hd26) e0 (g := (mkF m 89 #[.val (.int i0), .val (.int i1), .val (.int i2), .val (.int i3), .val (.int i4), .val (.int i5), .val (.int x2), .val (.int x4), .val (.int x7), .val (.int (0 : Int32)), .val (.int x9), .val (.int x13), .val (.int x17), .val (.int x22), .unset, .unset, .unset, .unset, .unset] [(.int x13), (.int x9), (.int (1 : Int32))])) rfl (by rw [hml]; rfl) (argsL := [(.int (1 : Int32)), (.int x9), (.int x13)]) (rest := []) (lenOf pd114 rfl) rfl rfl (by show 2 * 0 + _ ≤ _; exact Nat.le_of_eq rfl) (hb hby at_89) (by decide) (by decide) (by decide) (by decide)
      obtain ⟨c25_0, c25_1, k25_2, rfl, N25q, Kq25, lo25_0, lo25_1, q25_0, q25_1, q25_2, q25_3⟩ := hQ25
      have N25 := Fr.app N0 N25q
      have C25 := C0.trans (CHr.keep Kq25 sf25 C0.1)
      have O25 : Old Z n0 T25.heap := O0.keep Kq25 all0
      have K25 : Keep h0 T25.heap [] := (Keep.refl h0 []).trans Kq25 all0
      have pre3 : ∀ t, Steps p.tables e below (T25.setTop (mkF m 103 #[.val (.int i0), .val (.int i1), .val (.int i2), .val (.int i3), .val (.int i4), .val (.int i5), .val (.int x2), .val (.int x4), .val (.int x7), .val (.int (0 : Int32)), .val (.int x9), .val (.int x13), .val (.int x17), .val (.int x22), .val (.ref c25_0), .unset, .unset, .unset, .unset] [])) t → Steps p.tables e below (s₁.setTop (entryFrame m #[(.int i0), (.int i1), (.int i2), (.int i3), (.int i4), (.int i5)] maxLocals)) t := fun t kt => pre2 _ (by
          refine Own.iload X0.here hx rfl (hb hby at_83) rfl hp1 ?_
          show Steps p.tables e below (s₁.setTop (mkF m 85 #[.val (.int i0), .val (.int i1), .val (.int i2), .val (.int i3), .val (.int i4), .val (.int i5), .val (.int x2), .val (.int x4), .val (.int x7), .val (.int (0 : Int32)), .val (.int x9), .val (.int x13), .val (.int x17), .val (.int x22), .unset, .unset, .unset, .unset, .unset] [(.int (1 : Int32))])) _
          refine XS.iload X0.here hx rfl (hb hby at_85) rfl ?_
          refine XS.iload X0.here hx rfl (hb hby at_87) rfl ?_
          refine st25 _ ?_
          refine XS.astore X25.here hx rfl (hb hby at_92) rfl rfl (l' := #[.val (.int i0), .val (.int i1), .val (.int i2), .val (.int i3), .val (.int i4), .val (.int i5), .val (.int x2), .val (.int x4), .val (.int x7), .val (.int (0 : Int32)), .val (.int x9), .val (.int x13), .val (.int x17), .val (.int x22), .val (.ref c25_0), .unset, .unset, .unset, .unset]) rfl ?_
          show Steps p.tables e below (T25.setTop (mkF m 94 #[.val (.int i0), .val (.int i1), .val (.int i2), .val (.int i3), .val (.int i4), .val (.int i5), .val (.int x2), .val (.int x4), .val (.int x7), .val (.int (0 : Int32)), .val (.int x9), .val (.int x13), .val (.int x17), .val (.int x22), .val (.ref c25_0), .unset, .unset, .unset, .unset] [])) _
          refine XS.iload X25.here hx rfl (hb hby at_94) rfl ?_
          refine XS.ifYes X25.here hx rfl (pc0 := 96) (pc' := 103) rfl (hb hby at_96) rfl ((if0 _ _).trans (teq (by decide : (0 : Int32) = (0 : Int32))).1) (by decide) (by decide) ?_
          exact kt)
      rcases en_60 x7 (by have q0 := own_rng i3; have q1 := (by decide : ((2 : Int32)).toInt = 2); have q2 := c_iushr i3 (2 : Int32) 2 (by decide) (by decide); have q3 := congrArg Int32.toInt hx5; have q4 := rx5; have q5 := (by decide : ((3 : Int32)).toInt = 3); have q6 := (own_mask x5 (3 : Int32) (by decide) : 0 ≤ ((x5 &&& (3 : Int32))).toInt ∧ ((x5 &&& (3 : Int32))).toInt ≤ 3); have q7 := congrArg Int32.toInt hx6; have q8 := rx6; have q9 := (own_rem x6 (3 : Int32) 3 (by decide) (by have q0 := rx6; omega : 0 ≤ (x6).toInt ∧ (x6).toInt ≤ 3) (by decide) : 0 ≤ ((x6 % (3 : Int32))).toInt ∧ ((x6 % (3 : Int32))).toInt ≤ 2); have q10 := congrArg Int32.toInt hx7; have q11 := rx7; omega) with hp2 | hp2 | hp2
      · obtain ⟨_, T27, L27, hQ27, hS27, hZ27, hown27, Cq27, X27, st27⟩ := own_callSW X25 hx hZ (W := 0) hown (hw _ m1) (hw _ m2) (hw _ m3) (hw _ m4) (by decide) (rm3 l Z a0 hw hj w0 w1 w2 w3 w4 w5 w6 w7 w8 w9 w10 w11 hS [] x17 x22 T25.heap n0 O25) (rfl : T25.heap = T25.heap) hS0 (Nat.le_trans (Nat.le_refl _) Kq25.1) (own_EW hw hj) C25.1 own_sx0 (g := (mkF m 109 #[.val (.int i0), .val (.int i1), .val (.int i2), .val (.int i3), .val (.int i4), .val (.int i5), .val (.int x2), .val (.int x4), .val (.int x7), .val (.int (0 : Int32)), .val (.int x9), .val (.int x13), .val (.int x17), .val (.int x22), .val (.ref c25_0), .unset, .unset, .unset, .unset] [(.int x22), (.int x17), (.int (0 : Int32))])) rfl (by rw [hml]; rfl) (argsL := [(.int (0 : Int32)), (.int x17), (.int x22)]) (rest := []) (lenOf pd114 rfl) rfl rfl (by show 2 * 0 + _ ≤ _; exact Nat.le_of_eq rfl) (hb hby at_109) (by decide) (by decide) (by decide) (by decide)
        obtain ⟨c27_0, c27_1, k27_2, rfl, N27q, Kq27, lo27_0, q27_0, q27_1, q27_2, q27_3⟩ := hQ27
        have N27 := Fr.app N25 N27q
        have C27 := C25.trans Cq27
        have O27 : Old Z n0 T27.heap := O25.keep Kq27 all0
        have K27 : Keep h0 T27.heap [] := K25.trans Kq27 all0
        obtain ⟨T28, h28, b28, X28, e28, E28, A28, D28, g28, O28, K28, st28⟩ := own_newO X27 hx hZ27 hown27 (hw _ m42) (hw _ m43) (hw _ m44) (rfl : T27.heap = T27.heap) O27 K27 (g := (mkF m 114 #[.val (.int i0), .val (.int i1), .val (.int i2), .val (.int i3), .val (.int i4), .val (.int i5), .val (.int x2), .val (.int x4), .val (.int x7), .val (.int (0 : Int32)), .val (.int x9), .val (.int x13), .val (.int x17), .val (.int x22), .val (.ref c25_0), .val (.ref c27_0), .unset, .unset, .unset] [])) rfl (hb hby at_114) (by decide) (by decide)
        have C28 := C27.trans (CHr.ext E28 C27.1)
        have F28_1 : Fld Z h28 b28 z1 "type" z3 .null := D28 (Or.inr (hw _ m61)) (ty := (.object z2)) (by decide)
        have F28_2 : Fld Z h28 b28 z1 "text" z8 .null := D28 (Or.inr (hw _ m63)) (ty := (.object z0)) (by decide)
        have F28_3 : Fld Z h28 b28 z1 "line" "I" (.int (0 : Int32)) := D28 (Or.inr (hw _ m65)) (ty := .int) (by decide)
        have F28_4 : Fld Z h28 b28 z1 "column" "I" (.int (0 : Int32)) := D28 (Or.inr (hw _ m67)) (ty := .int) (by decide)
        have pre4 : ∀ t, Steps p.tables e below (T28.setTop (mkF m 118 #[.val (.int i0), .val (.int i1), .val (.int i2), .val (.int i3), .val (.int i4), .val (.int i5), .val (.int x2), .val (.int x4), .val (.int x7), .val (.int (0 : Int32)), .val (.int x9), .val (.int x13), .val (.int x17), .val (.int x22), .val (.ref c25_0), .val (.ref c27_0), .unset, .unset, .unset] [(.ref b28), (.ref b28)])) t → Steps p.tables e below (s₁.setTop (entryFrame m #[(.int i0), (.int i1), (.int i2), (.int i3), (.int i4), (.int i5)] maxLocals)) t := fun t kt => pre3 _ (by
            refine Own.iload X25.here hx rfl (hb hby at_103) rfl hp2 ?_
            refine XS.iload X25.here hx rfl (hb hby at_105) rfl ?_
            show Steps p.tables e below (T25.setTop (mkF m 107 #[.val (.int i0), .val (.int i1), .val (.int i2), .val (.int i3), .val (.int i4), .val (.int i5), .val (.int x2), .val (.int x4), .val (.int x7), .val (.int (0 : Int32)), .val (.int x9), .val (.int x13), .val (.int x17), .val (.int x22), .val (.ref c25_0), .unset, .unset, .unset, .unset] [(.int x17), (.int (0 : Int32))])) _
            refine XS.iload X25.here hx rfl (hb hby at_107) rfl ?_
            refine st27 _ ?_
            refine XS.astore X27.here hx rfl (hb hby at_112) rfl rfl (l' := #[.val (.int i0), .val (.int i1), .val (.int i2), .val (.int i3), .val (.int i4), .val (.int i5), .val (.int x2), .val (.int x4), .val (.int x7), .val (.int (0 : Int32)), .val (.int x9), .val (.int x13), .val (.int x17), .val (.int x22), .val (.ref c25_0), .val (.ref c27_0), .unset, .unset, .unset]) rfl ?_
            refine st28 _ ?_
            show Steps p.tables e below (T28.setTop (mkF m 117 #[.val (.int i0), .val (.int i1), .val (.int i2), .val (.int i3), .val (.int i4), .val (.int i5), .val (.int x2), .val (.int x4), .val (.int x7), .val (.int (0 : Int32)), .val (.int x9), .val (.int x13), .val (.int x17), .val (.int x22), .val (.ref c25_0), .val (.ref c27_0), .unset, .unset, .unset] [(.ref b28)])) _
            refine XS.dup X28.here hx rfl (hb hby at_117) rfl rfl ?_
            exact kt)
        rcases Decidable.em (x2 = (8 : Int32)) with hp3 | hp3
        · have sf29 := (sf0 : ∀ x ∈ [], Safe Z EL T27.vm h28 x)
          obtain ⟨_, T29, L29, hQ29, X29, st29⟩ := own_callS X28 hx hZ27 (W := 2) hown27 (hw _ m45) (hw _ m46) (hw _ m3) (hw _ m47) (by decide) (rm4 l Z a0 hw hj w0 w1 w2 w3 w4 w5 w6 w7 w8 w9 w10 w11 hS [] h28 n0 O28) e28 (g := (mkF m 120 #[.val (.int i0), .val (.int i1), .val (.int i2), .val (.int i3), .val (.int i4), .val (.int i5), .val (.int x2), .val (.int x4), .val (.int x7), .val (.int (0 : Int32)), .val (.int x9), .val (.int x13), .val (.int x17), .val (.int x22), .val (.ref c25_0), .val (.ref c27_0), .unset, .unset, .unset] [(.int (8 : Int32)), (.ref b28), (.ref b28)])) rfl (by rw [hml]; rfl) (argsL := [(.int (8 : Int32))]) (rest := [(.ref b28), (.ref b28)]) (lenOf pd128 rfl) rfl rfl (by show 2 * 0 + _ ≤ _; exact Nat.le_of_eq rfl) (hb hby at_120) (by decide) (by decide) (by decide) (by decide)
          obtain ⟨rfl, N29q, e29⟩ := hQ29
          have N29 := Fr.app N27 N29q
          have e29' : T29.heap = h28 := e29
          have sf30 := ((sfS (Safe.exa (EL := EL) hZ27.alike A28 (by decide) (by decide)) sf0) : ∀ x ∈ [b28], Safe Z EL T27.vm h28 x)
          obtain ⟨_, T30, L30, hQ30, X30, st30⟩ := own_special X29 hx hZ27 (W := 1) rfl hown27 (hw _ m51) (hw _ m52) (hw _ m44) (hw _ m53) (by decide) (rm6 l Z a0 hw hj w0 w1 w2 w3 w4 w5 w6 w7 w8 w9 w10 w11 hS [] i4 i5 b28 c25_0 h28 n0 O28 A28 F28_1 F28_2 F28_3 F28_4 (Nat.le_trans (own_old_le O27) g28)) e29' (a := b28) (g := (mkF m 129 #[.val (.int i0), .val (.int i1), .val (.int i2), .val (.int i3), .val (.int i4), .val (.int i5), .val (.int x2), .val (.int x4), .val (.int x7), .val (.int (0 : Int32)), .val (.int x9), .val (.int x13), .val (.int x17), .val (.int x22), .val (.ref c25_0), .val (.ref c27_0), .unset, .unset, .unset] [(.int i5), (.int i4), (.ref c25_0), (.ref w8), (.ref b28), (.ref b28)])) rfl (by rw [hml]; rfl) (argsL := [(.ref w8), (.ref c25_0), (.int i4), (.int i5)]) (rest := [(.ref b28)]) (lenOf pd164 rfl) rfl rfl (by show 2 * 0 + _ ≤ _; exact Nat.le_of_eq rfl) (hb hby at_129) (by decide) (by decide) (by decide) (by decide)
          obtain ⟨rfl, N30q, Kq30, q30_0, q30_1, q30_2, q30_3⟩ := hQ30
          have N30 := Fr.app N29 N30q
          have C30 := C28.trans (CHr.keep Kq30 sf30 C28.1)
          have O30 : Old Z n0 T30.heap := O28.keep Kq30 (allS (Nat.le_trans (own_old_le O27) g28) all0)
          have K30 : Keep h0 T30.heap [] := K28.trans Kq30 (allS (Or.inr (Nat.le_trans K27.1 g28)) all0)
          have f32 : Exa Z T30.heap c27_0 z0 := ((q27_0.ext E28).keep Kq30)
          have ne33 : c25_0 ≠ b28 := (Nat.ne_of_lt (Nat.lt_of_lt_of_le (Nat.lt_of_lt_of_le q25_0.lt Kq27.1) g28))
          have f34 : Fld Z T30.heap c25_0 z0 "coder" "B" (.int (0 : Int32)) := (((q25_2.keep Kq27 nin0).ext E28).keep Kq30 (ninS ne33 nin0))
          have f35 : Fld Z T30.heap c27_0 z0 "coder" "B" (.int (0 : Int32)) := ((q27_2.ext E28).keep Kq30 (ninS (Nat.ne_of_lt (Nat.lt_of_lt_of_le q27_0.lt g28)) nin0))
          have f36 : Fld Z T30.heap c25_0 z0 "value" "[B" (.ref c25_1) := (((q25_1.keep Kq27 nin0).ext E28).keep Kq30 (ninS ne33 nin0))
          have f37 : Fld Z T30.heap c27_0 z0 "value" "[B" (.ref c27_1) := ((q27_1.ext E28).keep Kq30 (ninS (Nat.ne_of_lt (Nat.lt_of_lt_of_le q27_0.lt g28)) nin0))
          have ne38 : c25_1 ≠ b28 := (Nat.ne_of_lt (Nat.lt_of_lt_of_le (Nat.lt_of_lt_of_le q25_3.lt Kq27.1) g28))
          have f39 : Arv Z T30.heap c25_1 k25_2 .byte (1 : Int32) [(.int (x9.toInt8.toInt32))] (.int (0 : Int32)) := (((q25_3.keep Kq27 nin0).ext E28).keep Kq30 (ninS ne38 nin0))
          have f40 : Arv Z T30.heap c27_1 k27_2 .byte (0 : Int32) [] (.int (0 : Int32)) := ((q27_3.ext E28).keep Kq30 (ninS (Nat.ne_of_lt (Nat.lt_of_lt_of_le q27_3.lt g28)) nin0))
          have f41 : Exa Z T30.heap c25_0 z0 := (((q25_0.keep Kq27).ext E28).keep Kq30)
          have sf31 := (sf0 : ∀ x ∈ [], Safe Z EL T27.vm T30.heap x)
          have f42 : Exa Z T30.heap b28 z1 := (A28.keep Kq30)
          obtain ⟨_, T31, L31, hQ31, X31, st31⟩ := own_virtual X30 hx hZ27 (W := 0) hown27 (hw _ m68) (hw _ m69) (notFace_of_selects (args := #[]) (mvT hZ27 (hw _ m71))) (hw _ m71) (hw _ m70) (hw _ m44) (hw _ m72) (by decide) (rm31 l Z a0 hw hj w0 w1 w2 w3 w4 w5 w6 w7 w8 w9 w10 w11 hS [] b28 c27_0 c25_0 (x9.toInt8.toInt32) c25_1 c27_1 k25_2 k27_2 T30.heap n0 O30 q30_0 q30_1 (Nat.ne_of_lt (Nat.lt_of_lt_of_le q25_0.lt lo27_0)) f32 f34 f35 f36 f37 f39 f40 f41) (rfl : T30.heap = T30.heap) f42 (g := (mkF m 138 #[.val (.int i0), .val (.int i1), .val (.int i2), .val (.int i3), .val (.int i4), .val (.int i5), .val (.int x2), .val (.int x4), .val (.int x7), .val (.int (0 : Int32)), .val (.int x9), .val (.int x13), .val (.int x17), .val (.int x22), .val (.ref c25_0), .val (.ref c27_0), .val (.ref b28), .unset, .unset] [(.ref c27_0), (.ref b28)])) rfl (by rw [hml]; rfl) (argsL := [(.ref c27_0)]) (rest := []) (lenOf pd235 rfl) rfl rfl (by show 2 * 0 + _ ≤ _; exact Nat.le_of_eq rfl) (hb hby at_138) (by decide) (by decide) (by decide) (by decide)
          obtain ⟨rfl, N31q, e31⟩ := hQ31
          have N31 := Fr.app N30 N31q
          have e31' : T31.heap = T30.heap := e31
          obtain ⟨fs, hr, hrun, hended, hRW⟩ := X31.leaveW hS27 (by rw [e31']; exact (Nat.le_trans (Nat.le_refl _) (Nat.le_trans E28.1 Kq30.1))) (v := some (.int (1 : Int32))) (fun h => by rw [Bd.returns] at h; cases h)
          refine ⟨_, _, pre4 _ ?_, hrun, hended, _, _, rfl, ?_, own_rwm hRW (by decide) (by decide)⟩
          · refine Own.iload X28.here hx rfl (hb hby at_118) rfl hp3 ?_
            refine st29 _ ?_
            refine XS.aload X29.here hx rfl (hb hby at_123) rfl rfl ?_
            show Steps p.tables e below (T29.setTop (mkF m 125 #[.val (.int i0), .val (.int i1), .val (.int i2), .val (.int i3), .val (.int i4), .val (.int i5), .val (.int x2), .val (.int x4), .val (.int x7), .val (.int (0 : Int32)), .val (.int x9), .val (.int x13), .val (.int x17), .val (.int x22), .val (.ref c25_0), .val (.ref c27_0), .unset, .unset, .unset] [(.ref c25_0), (.ref w8), (.ref b28), (.ref b28)])) _
            refine XS.iload X29.here hx rfl (hb hby at_125) rfl ?_
            refine XS.iload X29.here hx rfl (hb hby at_127) rfl ?_
            refine st30 _ ?_
            refine XS.astore X30.here hx rfl (hb hby at_132) rfl rfl (l' := #[.val (.int i0), .val (.int i1), .val (.int i2), .val (.int i3), .val (.int i4), .val (.int i5), .val (.int x2), .val (.int x4), .val (.int x7), .val (.int (0 : Int32)), .val (.int x9), .val (.int x13), .val (.int x17), .val (.int x22), .val (.ref c25_0), .val (.ref c27_0), .val (.ref b28), .unset, .unset]) rfl ?_
            show Steps p.tables e below (T30.setTop (mkF m 134 #[.val (.int i0), .val (.int i1), .val (.int i2), .val (.int i3), .val (.int i4), .val (.int i5), .val (.int x2), .val (.int x4), .val (.int x7), .val (.int (0 : Int32)), .val (.int x9), .val (.int x13), .val (.int x17), .val (.int x22), .val (.ref c25_0), .val (.ref c27_0), .val (.ref b28), .unset, .unset] [])) _
            refine XS.aload X30.here hx rfl (hb hby at_134) rfl rfl ?_
            refine XS.aload X30.here hx rfl (hb hby at_136) rfl rfl ?_
            refine st31 _ ?_
            refine XS.istore X31.here hx rfl (hb hby at_141) rfl (l' := #[.val (.int i0), .val (.int i1), .val (.int i2), .val (.int i3), .val (.int i4), .val (.int i5), .val (.int x2), .val (.int x4), .val (.int x7), .val (.int (0 : Int32)), .val (.int x9), .val (.int x13), .val (.int x17), .val (.int x22), .val (.ref c25_0), .val (.ref c27_0), .val (.ref b28), .val (.int (0 : Int32)), .unset]) rfl ?_
            show Steps p.tables e below (T31.setTop (mkF m 143 #[.val (.int i0), .val (.int i1), .val (.int i2), .val (.int i3), .val (.int i4), .val (.int i5), .val (.int x2), .val (.int x4), .val (.int x7), .val (.int (0 : Int32)), .val (.int x9), .val (.int x13), .val (.int x17), .val (.int x22), .val (.ref c25_0), .val (.ref c27_0), .val (.ref b28), .val (.int (0 : Int32)), .unset] [])) _
            refine Own.iload X31.here hx rfl (hb hby at_143) rfl hp3 ?_
            refine XS.bipush X31.here hx rfl (hb hby at_145) ?_
            refine XS.icmpNo X31.here hx rfl (hb hby at_147) rfl (teq (by decide : (8 : Int32) = (8 : Int32))).2 ?_
            refine XS.iload X31.here hx rfl (hb hby at_150) rfl ?_
            show Steps p.tables e below (T31.setTop (mkF m 152 #[.val (.int i0), .val (.int i1), .val (.int i2), .val (.int i3), .val (.int i4), .val (.int i5), .val (.int x2), .val (.int x4), .val (.int x7), .val (.int (0 : Int32)), .val (.int x9), .val (.int x13), .val (.int x17), .val (.int x22), .val (.ref c25_0), .val (.ref c27_0), .val (.ref b28), .val (.int (0 : Int32)), .unset] [(.int (0 : Int32))])) _
            refine XS.ifNo X31.here hx rfl (hb hby at_152) rfl ((if0 _ _).trans (teq (by decide : (0 : Int32) = (0 : Int32))).2) ?_
            refine Own.iload X31.here hx rfl (hb hby at_155) rfl hp1 ?_
            refine Own.iload X31.here hx rfl (hb hby at_157) rfl hp2 ?_
            refine XS.icmpYes X31.here hx rfl (pc0 := 159) (pc' := 192) rfl (hb hby at_159) rfl (feq (by decide : ¬ ((1 : Int32) = (0 : Int32)))).2 (by decide) (by decide) ?_
            show Steps p.tables e below (T31.setTop (mkF m 192 #[.val (.int i0), .val (.int i1), .val (.int i2), .val (.int i3), .val (.int i4), .val (.int i5), .val (.int x2), .val (.int x4), .val (.int x7), .val (.int (0 : Int32)), .val (.int x9), .val (.int x13), .val (.int x17), .val (.int x22), .val (.ref c25_0), .val (.ref c27_0), .val (.ref b28), .val (.int (0 : Int32)), .unset] [])) _
            refine XS.iconst X31.here hx rfl (hb hby at_192) ?_
            refine XS.istore X31.here hx rfl (hb hby at_193) rfl (l' := #[.val (.int i0), .val (.int i1), .val (.int i2), .val (.int i3), .val (.int i4), .val (.int i5), .val (.int x2), .val (.int x4), .val (.int x7), .val (.int (0 : Int32)), .val (.int x9), .val (.int x13), .val (.int x17), .val (.int x22), .val (.ref c25_0), .val (.ref c27_0), .val (.ref b28), .val (.int (0 : Int32)), .val (.int (0 : Int32))]) rfl ?_
            refine XS.iload X31.here hx rfl (hb hby at_195) rfl ?_
            refine XS.iload X31.here hx rfl (hb hby at_197) rfl ?_
            show Steps p.tables e below (T31.setTop (mkF m 199 #[.val (.int i0), .val (.int i1), .val (.int i2), .val (.int i3), .val (.int i4), .val (.int i5), .val (.int x2), .val (.int x4), .val (.int x7), .val (.int (0 : Int32)), .val (.int x9), .val (.int x13), .val (.int x17), .val (.int x22), .val (.ref c25_0), .val (.ref c27_0), .val (.ref b28), .val (.int (0 : Int32)), .val (.int (0 : Int32))] [(.int (0 : Int32)), (.int (0 : Int32))])) _
            refine XS.icmpNo X31.here hx rfl (hb hby at_199) rfl (teq (by decide : (0 : Int32) = (0 : Int32))).2 ?_
            refine XS.iconst X31.here hx rfl (hb hby at_202) ?_
            refine XS.goto X31.here hx rfl (pc0 := 203) (pc' := 207) rfl (hb hby at_203) (by decide) (by decide) ?_
            exact retN X31 hx (t := .boolean) Bd.returns (by simp) (hb hby at_207) hr
          · show QL n0 _ T31.heap _
            exact ⟨rfl, N31⟩
        · have hd29 : ¬ (x2 < (0 : Int32)) := (by have q0 := rx2; have q1 := (by decide : ((0 : Int32)).toInt = 0); exact own_ltF (by omega) : ¬ (x2 < (0 : Int32)))
          have hd30 : ¬ ((9 : Int32) < x2) := (by have q0 := (by decide : ((9 : Int32)).toInt = 9); have q1 := rx2; exact own_ltF (by omega) : ¬ ((9 : Int32) < x2))
          obtain ⟨_, T31, L31, ⟨z31, rfl, N31q, hz31_0, hz31_1, e31⟩, X31, st31⟩ := own_callS X28 hx hZ27 (W := 2) hown27 (hw _ m45) (hw _ m46) (hw _ m3) (hw _ m47) (by decide) (jm0 l Z a0 hw hj w0 w1 w2 w3 w4 w5 w6 w7 w8 w9 w10 w11 hS [] x2 h28 n0 O28 hd29 hd30 hp3) e28 (g := (mkF m 120 #[.val (.int i0), .val (.int i1), .val (.int i2), .val (.int i3), .val (.int i4), .val (.int i5), .val (.int x2), .val (.int x4), .val (.int x7), .val (.int (0 : Int32)), .val (.int x9), .val (.int x13), .val (.int x17), .val (.int x22), .val (.ref c25_0), .val (.ref c27_0), .unset, .unset, .unset] [(.int x2), (.ref b28), (.ref b28)])) rfl (by rw [hml]; rfl) (argsL := [(.int x2)]) (rest := [(.ref b28), (.ref b28)]) (lenOf pd128 rfl) rfl rfl (by show 2 * 0 + _ ≤ _; exact Nat.le_of_eq rfl) (hb hby at_120) (by decide) (by decide) (by decide) (by decide)
          have N31 := Fr.app N27 N31q
          have e31' : T31.heap = h28 := e31
          have sf32 := ((sfS (Safe.exa (EL := EL) hZ27.alike A28 (by decide) (by decide)) sf0) : ∀ x ∈ [b28], Safe Z EL T27.vm h28 x)
          obtain ⟨_, T32, L32, hQ32, X32, st32⟩ := own_special X31 hx hZ27 (W := 1) rfl hown27 (hw _ m51) (hw _ m52) (hw _ m44) (hw _ m53) (by decide) (rm10 l Z a0 hw hj w0 w1 w2 w3 w4 w5 w6 w7 w8 w9 w10 w11 hS [] i4 i5 b28 z31 c25_0 h28 n0 O28 A28 F28_1 F28_2 F28_3 F28_4 (Nat.le_trans (own_old_le O27) g28)) e31' (a := b28) (g := (mkF m 129 #[.val (.int i0), .val (.int i1), .val (.int i2), .val (.int i3), .val (.int i4), .val (.int i5), .val (.int x2), .val (.int x4), .val (.int x7), .val (.int (0 : Int32)), .val (.int x9), .val (.int x13), .val (.int x17), .val (.int x22), .val (.ref c25_0), .val (.ref c27_0), .unset, .unset, .unset] [(.int i5), (.int i4), (.ref c25_0), (.ref z31), (.ref b28), (.ref b28)])) rfl (by rw [hml]; rfl) (argsL := [(.ref z31), (.ref c25_0), (.int i4), (.int i5)]) (rest := [(.ref b28)]) (lenOf pd164 rfl) rfl rfl (by show 2 * 0 + _ ≤ _; exact Nat.le_of_eq rfl) (hb hby at_129) (by decide) (by decide) (by decide) (by decide)
          obtain ⟨rfl, N32q, Kq32, q32_0, q32_1, q32_2, q32_3⟩ := hQ32
          have N32 := Fr.app N31 N32q
          have C32 := C28.trans (CHr.keep Kq32 sf32 C28.1)
          have O32 : Old Z n0 T32.heap := O28.keep Kq32 (allS (Nat.le_trans (own_old_le O27) g28) all0)
          have K32 : Keep h0 T32.heap [] := K28.trans Kq32 (allS (Or.inr (Nat.le_trans K27.1 g28)) all0)
          have sf33 := (sf0 : ∀ x ∈ [], Safe Z EL T27.vm T32.heap x)
          have f34 : Exa Z T32.heap b28 z1 := (A28.keep Kq32)
          obtain ⟨_, T33, L33, hQ33, X33, st33⟩ := own_virtual X32 hx hZ27 (W := 0) hown27 (hw _ m68) (hw _ m69) (notFace_of_selects (args := #[]) (mvT hZ27 (hw _ m71))) (hw _ m71) (hw _ m70) (hw _ m44) (hw _ m72) (by decide) (rm11 l Z a0 hw hj w0 w1 w2 w3 w4 w5 w6 w7 w8 w9 w10 w11 hS [] b28 c27_0 z31 T32.heap n0 O32 q32_0 hz31_1) (rfl : T32.heap = T32.heap) f34 (g := (mkF m 138 #[.val (.int i0), .val (.int i1), .val (.int i2), .val (.int i3), .val (.int i4), .val (.int i5), .val (.int x2), .val (.int x4), .val (.int x7), .val (.int (0 : Int32)), .val (.int x9), .val (.int x13), .val (.int x17), .val (.int x22), .val (.ref c25_0), .val (.ref c27_0), .val (.ref b28), .unset, .unset] [(.ref c27_0), (.ref b28)])) rfl (by rw [hml]; rfl) (argsL := [(.ref c27_0)]) (rest := []) (lenOf pd235 rfl) rfl rfl (by show 2 * 0 + _ ≤ _; exact Nat.le_of_eq rfl) (hb hby at_138) (by decide) (by decide) (by decide) (by decide)
          obtain ⟨rfl, N33q, e33⟩ := hQ33
          have N33 := Fr.app N32 N33q
          have e33' : T33.heap = T32.heap := e33
          obtain ⟨fs, hr, hrun, hended, hRW⟩ := X33.leaveW hS27 (by rw [e33']; exact (Nat.le_trans (Nat.le_refl _) (Nat.le_trans E28.1 Kq32.1))) (v := some (.int (1 : Int32))) (fun h => by rw [Bd.returns] at h; cases h)
          refine ⟨_, _, pre4 _ ?_, hrun, hended, _, _, rfl, ?_, own_rwm hRW (by decide) (by decide)⟩
          · refine XS.iload X28.here hx rfl (hb hby at_118) rfl ?_
            refine st31 _ ?_
            refine XS.aload X31.here hx rfl (hb hby at_123) rfl rfl ?_
            show Steps p.tables e below (T31.setTop (mkF m 125 #[.val (.int i0), .val (.int i1), .val (.int i2), .val (.int i3), .val (.int i4), .val (.int i5), .val (.int x2), .val (.int x4), .val (.int x7), .val (.int (0 : Int32)), .val (.int x9), .val (.int x13), .val (.int x17), .val (.int x22), .val (.ref c25_0), .val (.ref c27_0), .unset, .unset, .unset] [(.ref c25_0), (.ref z31), (.ref b28), (.ref b28)])) _
            refine XS.iload X31.here hx rfl (hb hby at_125) rfl ?_
            refine XS.iload X31.here hx rfl (hb hby at_127) rfl ?_
            refine st32 _ ?_
            refine XS.astore X32.here hx rfl (hb hby at_132) rfl rfl (l' := #[.val (.int i0), .val (.int i1), .val (.int i2), .val (.int i3), .val (.int i4), .val (.int i5), .val (.int x2), .val (.int x4), .val (.int x7), .val (.int (0 : Int32)), .val (.int x9), .val (.int x13), .val (.int x17), .val (.int x22), .val (.ref c25_0), .val (.ref c27_0), .val (.ref b28), .unset, .unset]) rfl ?_
            show Steps p.tables e below (T32.setTop (mkF m 134 #[.val (.int i0), .val (.int i1), .val (.int i2), .val (.int i3), .val (.int i4), .val (.int i5), .val (.int x2), .val (.int x4), .val (.int x7), .val (.int (0 : Int32)), .val (.int x9), .val (.int x13), .val (.int x17), .val (.int x22), .val (.ref c25_0), .val (.ref c27_0), .val (.ref b28), .unset, .unset] [])) _
            refine XS.aload X32.here hx rfl (hb hby at_134) rfl rfl ?_
            refine XS.aload X32.here hx rfl (hb hby at_136) rfl rfl ?_
            refine st33 _ ?_
            refine XS.istore X33.here hx rfl (hb hby at_141) rfl (l' := #[.val (.int i0), .val (.int i1), .val (.int i2), .val (.int i3), .val (.int i4), .val (.int i5), .val (.int x2), .val (.int x4), .val (.int x7), .val (.int (0 : Int32)), .val (.int x9), .val (.int x13), .val (.int x17), .val (.int x22), .val (.ref c25_0), .val (.ref c27_0), .val (.ref b28), .val (.int (0 : Int32)), .unset]) rfl ?_
            show Steps p.tables e below (T33.setTop (mkF m 143 #[.val (.int i0), .val (.int i1), .val (.int i2), .val (.int i3), .val (.int i4), .val (.int i5), .val (.int x2), .val (.int x4), .val (.int x7), .val (.int (0 : Int32)), .val (.int x9), .val (.int x13), .val (.int x17), .val (.int x22), .val (.ref c25_0), .val (.ref c27_0), .val (.ref b28), .val (.int (0 : Int32)), .unset] [])) _
            refine XS.iload X33.here hx rfl (hb hby at_143) rfl ?_
            refine XS.bipush X33.here hx rfl (hb hby at_145) ?_
            refine XS.icmpYes X33.here hx rfl (pc0 := 147) (pc' := 192) rfl (hb hby at_147) rfl (feq hp3).2 (by decide) (by decide) ?_
            refine XS.iconst X33.here hx rfl (hb hby at_192) ?_
            show Steps p.tables e below (T33.setTop (mkF m 193 #[.val (.int i0), .val (.int i1), .val (.int i2), .val (.int i3), .val (.int i4), .val (.int i5), .val (.int x2), .val (.int x4), .val (.int x7), .val (.int (0 : Int32)), .val (.int x9), .val (.int x13), .val (.int x17), .val (.int x22), .val (.ref c25_0), .val (.ref c27_0), .val (.ref b28), .val (.int (0 : Int32)), .unset] [(.int (0 : Int32))])) _
            refine XS.istore X33.here hx rfl (hb hby at_193) rfl (l' := #[.val (.int i0), .val (.int i1), .val (.int i2), .val (.int i3), .val (.int i4), .val (.int i5), .val (.int x2), .val (.int x4), .val (.int x7), .val (.int (0 : Int32)), .val (.int x9), .val (.int x13), .val (.int x17), .val (.int x22), .val (.ref c25_0), .val (.ref c27_0), .val (.ref b28), .val (.int (0 : Int32)), .val (.int (0 : Int32))]) rfl ?_
            refine XS.iload X33.here hx rfl (hb hby at_195) rfl ?_
            refine XS.iload X33.here hx rfl (hb hby at_197) rfl ?_
            refine XS.icmpNo X33.here hx rfl (hb hby at_199) rfl (teq (by decide : (0 : Int32) = (0 : Int32))).2 ?_
            show Steps p.tables e below (T33.setTop (mkF m 202 #[.val (.int i0), .val (.int i1), .val (.int i2), .val (.int i3), .val (.int i4), .val (.int i5), .val (.int x2), .val (.int x4), .val (.int x7), .val (.int (0 : Int32)), .val (.int x9), .val (.int x13), .val (.int x17), .val (.int x22), .val (.ref c25_0), .val (.ref c27_0), .val (.ref b28), .val (.int (0 : Int32)), .val (.int (0 : Int32))] [])) _
            refine XS.iconst X33.here hx rfl (hb hby at_202) ?_
            refine XS.goto X33.here hx rfl (pc0 := 203) (pc' := 207) rfl (hb hby at_203) (by decide) (by decide) ?_
            exact retN X33 hx (t := .boolean) Bd.returns (by simp) (hb hby at_207) hr
          · show QL n0 _ T33.heap _
            exact ⟨rfl, N33⟩
      · have hd28 : ¬ ((255 : Int32) < x17) := (by have q0 := (by decide : ((255 : Int32)).toInt = 255); have q1 := rx17; exact own_ltF (by omega) : ¬ ((255 : Int32) < x17))
        have sf27 := (sf0 : ∀ x ∈ [], Safe Z EL s.vm T25.heap x)
        obtain ⟨_, T27, L27, hQ27, X27, st27⟩ := own_callS X25 hx hZ (W := 0) hown (hw _ m1) (hw _ m2) (hw _ m3) (hw _ m4) (by decide) (rm16 l Z a0 hw hj w0 w1 w2 w3 w4 w5 w6 w7 w8 w9 w10 w11 hS [] x17 x22 T25.heap n0 O25 hd28) (rfl : T25.heap = T25.heap) (g := (mkF m 109 #[.val (.int i0), .val (.int i1), .val (.int i2), .val (.int i3), .val (.int i4), .val (.int i5), .val (.int x2), .val (.int x4), .val (.int x7), .val (.int (0 : Int32)), .val (.int x9), .val (.int x13), .val (.int x17), .val (.int x22), .val (.ref c25_0), .unset, .unset, .unset, .unset] [(.int x22), (.int x17), (.int (1 : Int32))])) rfl (by rw [hml]; rfl) (argsL := [(.int (1 : Int32)), (.int x17), (.int x22)]) (rest := []) (lenOf pd114 rfl) rfl rfl (by show 2 * 0 + _ ≤ _; exact Nat.le_of_eq rfl) (hb hby at_109) (by decide) (by decide) (by decide) (by decide)
        obtain ⟨c27_0, c27_1, k27_2, rfl, N27q, Kq27, lo27_0, lo27_1, q27_0, q27_1, q27_2, q27_3⟩ := hQ27
        have N27 := Fr.app N25 N27q
        have C27 := C25.trans (CHr.keep Kq27 sf27 C25.1)
        have O27 : Old Z n0 T27.heap := O25.keep Kq27 all0
        have K27 : Keep h0 T27.heap [] := K25.trans Kq27 all0
        obtain ⟨T29, h29, b29, X29, e29, E29, A29, D29, g29, O29, K29, st29⟩ := own_newO X27 hx hZ hown (hw _ m42) (hw _ m43) (hw _ m44) (rfl : T27.heap = T27.heap) O27 K27 (g := (mkF m 114 #[.val (.int i0), .val (.int i1), .val (.int i2), .val (.int i3), .val (.int i4), .val (.int i5), .val (.int x2), .val (.int x4), .val (.int x7), .val (.int (0 : Int32)), .val (.int x9), .val (.int x13), .val (.int x17), .val (.int x22), .val (.ref c25_0), .val (.ref c27_0), .unset, .unset, .unset] [])) rfl (hb hby at_114) (by decide) (by decide)
        have C29 := C27.trans (CHr.ext E29 C27.1)
        have F29_1 : Fld Z h29 b29 z1 "type" z3 .null := D29 (Or.inr (hw _ m61)) (ty := (.object z2)) (by decide)
        have F29_2 : Fld Z h29 b29 z1 "text" z8 .null := D29 (Or.inr (hw _ m63)) (ty := (.object z0)) (by decide)
        have F29_3 : Fld Z h29 b29 z1 "line" "I" (.int (0 : Int32)) := D29 (Or.inr (hw _ m65)) (ty := .int) (by decide)
        have F29_4 : Fld Z h29 b29 z1 "column" "I" (.int (0 : Int32)) := D29 (Or.inr (hw _ m67)) (ty := .int) (by decide)
        have pre4 : ∀ t, Steps p.tables e below (T29.setTop (mkF m 118 #[.val (.int i0), .val (.int i1), .val (.int i2), .val (.int i3), .val (.int i4), .val (.int i5), .val (.int x2), .val (.int x4), .val (.int x7), .val (.int (0 : Int32)), .val (.int x9), .val (.int x13), .val (.int x17), .val (.int x22), .val (.ref c25_0), .val (.ref c27_0), .unset, .unset, .unset] [(.ref b29), (.ref b29)])) t → Steps p.tables e below (s₁.setTop (entryFrame m #[(.int i0), (.int i1), (.int i2), (.int i3), (.int i4), (.int i5)] maxLocals)) t := fun t kt => pre3 _ (by
            refine Own.iload X25.here hx rfl (hb hby at_103) rfl hp2 ?_
            refine XS.iload X25.here hx rfl (hb hby at_105) rfl ?_
            show Steps p.tables e below (T25.setTop (mkF m 107 #[.val (.int i0), .val (.int i1), .val (.int i2), .val (.int i3), .val (.int i4), .val (.int i5), .val (.int x2), .val (.int x4), .val (.int x7), .val (.int (0 : Int32)), .val (.int x9), .val (.int x13), .val (.int x17), .val (.int x22), .val (.ref c25_0), .unset, .unset, .unset, .unset] [(.int x17), (.int (1 : Int32))])) _
            refine XS.iload X25.here hx rfl (hb hby at_107) rfl ?_
            refine st27 _ ?_
            refine XS.astore X27.here hx rfl (hb hby at_112) rfl rfl (l' := #[.val (.int i0), .val (.int i1), .val (.int i2), .val (.int i3), .val (.int i4), .val (.int i5), .val (.int x2), .val (.int x4), .val (.int x7), .val (.int (0 : Int32)), .val (.int x9), .val (.int x13), .val (.int x17), .val (.int x22), .val (.ref c25_0), .val (.ref c27_0), .unset, .unset, .unset]) rfl ?_
            refine st29 _ ?_
            show Steps p.tables e below (T29.setTop (mkF m 117 #[.val (.int i0), .val (.int i1), .val (.int i2), .val (.int i3), .val (.int i4), .val (.int i5), .val (.int x2), .val (.int x4), .val (.int x7), .val (.int (0 : Int32)), .val (.int x9), .val (.int x13), .val (.int x17), .val (.int x22), .val (.ref c25_0), .val (.ref c27_0), .unset, .unset, .unset] [(.ref b29)])) _
            refine XS.dup X29.here hx rfl (hb hby at_117) rfl rfl ?_
            exact kt)
        rcases Decidable.em (x2 = (8 : Int32)) with hp3 | hp3
        · have sf30 := (sf0 : ∀ x ∈ [], Safe Z EL s.vm h29 x)
          obtain ⟨_, T30, L30, hQ30, X30, st30⟩ := own_callS X29 hx hZ (W := 2) hown (hw _ m45) (hw _ m46) (hw _ m3) (hw _ m47) (by decide) (rm4 l Z a0 hw hj w0 w1 w2 w3 w4 w5 w6 w7 w8 w9 w10 w11 hS [] h29 n0 O29) e29 (g := (mkF m 120 #[.val (.int i0), .val (.int i1), .val (.int i2), .val (.int i3), .val (.int i4), .val (.int i5), .val (.int x2), .val (.int x4), .val (.int x7), .val (.int (0 : Int32)), .val (.int x9), .val (.int x13), .val (.int x17), .val (.int x22), .val (.ref c25_0), .val (.ref c27_0), .unset, .unset, .unset] [(.int (8 : Int32)), (.ref b29), (.ref b29)])) rfl (by rw [hml]; rfl) (argsL := [(.int (8 : Int32))]) (rest := [(.ref b29), (.ref b29)]) (lenOf pd128 rfl) rfl rfl (by show 2 * 0 + _ ≤ _; exact Nat.le_of_eq rfl) (hb hby at_120) (by decide) (by decide) (by decide) (by decide)
          obtain ⟨rfl, N30q, e30⟩ := hQ30
          have N30 := Fr.app N27 N30q
          have e30' : T30.heap = h29 := e30
          have sf31 := ((sfS (Safe.exa (EL := EL) hZ.alike A29 (by decide) (by decide)) sf0) : ∀ x ∈ [b29], Safe Z EL s.vm h29 x)
          obtain ⟨_, T31, L31, hQ31, X31, st31⟩ := own_special X30 hx hZ (W := 1) rfl hown (hw _ m51) (hw _ m52) (hw _ m44) (hw _ m53) (by decide) (rm6 l Z a0 hw hj w0 w1 w2 w3 w4 w5 w6 w7 w8 w9 w10 w11 hS [] i4 i5 b29 c25_0 h29 n0 O29 A29 F29_1 F29_2 F29_3 F29_4 (Nat.le_trans (own_old_le O27) g29)) e30' (a := b29) (g := (mkF m 129 #[.val (.int i0), .val (.int i1), .val (.int i2), .val (.int i3), .val (.int i4), .val (.int i5), .val (.int x2), .val (.int x4), .val (.int x7), .val (.int (0 : Int32)), .val (.int x9), .val (.int x13), .val (.int x17), .val (.int x22), .val (.ref c25_0), .val (.ref c27_0), .unset, .unset, .unset] [(.int i5), (.int i4), (.ref c25_0), (.ref w8), (.ref b29), (.ref b29)])) rfl (by rw [hml]; rfl) (argsL := [(.ref w8), (.ref c25_0), (.int i4), (.int i5)]) (rest := [(.ref b29)]) (lenOf pd164 rfl) rfl rfl (by show 2 * 0 + _ ≤ _; exact Nat.le_of_eq rfl) (hb hby at_129) (by decide) (by decide) (by decide) (by decide)
          obtain ⟨rfl, N31q, Kq31, q31_0, q31_1, q31_2, q31_3⟩ := hQ31
          have N31 := Fr.app N30 N31q
          have C31 := C29.trans (CHr.keep Kq31 sf31 C29.1)
          have O31 : Old Z n0 T31.heap := O29.keep Kq31 (allS (Nat.le_trans (own_old_le O27) g29) all0)
          have K31 : Keep h0 T31.heap [] := K29.trans Kq31 (allS (Or.inr (Nat.le_trans K27.1 g29)) all0)
          have pre5 : ∀ t, Steps p.tables e below (T31.setTop (mkF m 138 #[.val (.int i0), .val (.int i1), .val (.int i2), .val (.int i3), .val (.int i4), .val (.int i5), .val (.int x2), .val (.int x4), .val (.int x7), .val (.int (0 : Int32)), .val (.int x9), .val (.int x13), .val (.int x17), .val (.int x22), .val (.ref c25_0), .val (.ref c27_0), .val (.ref b29), .unset, .unset] [(.ref c27_0), (.ref b29)])) t → Steps p.tables e below (s₁.setTop (entryFrame m #[(.int i0), (.int i1), (.int i2), (.int i3), (.int i4), (.int i5)] maxLocals)) t := fun t kt => pre4 _ (by
              refine Own.iload X29.here hx rfl (hb hby at_118) rfl hp3 ?_
              refine st30 _ ?_
              refine XS.aload X30.here hx rfl (hb hby at_123) rfl rfl ?_
              show Steps p.tables e below (T30.setTop (mkF m 125 #[.val (.int i0), .val (.int i1), .val (.int i2), .val (.int i3), .val (.int i4), .val (.int i5), .val (.int x2), .val (.int x4), .val (.int x7), .val (.int (0 : Int32)), .val (.int x9), .val (.int x13), .val (.int x17), .val (.int x22), .val (.ref c25_0), .val (.ref c27_0), .unset, .unset, .unset] [(.ref c25_0), (.ref w8), (.ref b29), (.ref b29)])) _
              refine XS.iload X30.here hx rfl (hb hby at_125) rfl ?_
              refine XS.iload X30.here hx rfl (hb hby at_127) rfl ?_
              refine st31 _ ?_
              refine XS.astore X31.here hx rfl (hb hby at_132) rfl rfl (l' := #[.val (.int i0), .val (.int i1), .val (.int i2), .val (.int i3), .val (.int i4), .val (.int i5), .val (.int x2), .val (.int x4), .val (.int x7), .val (.int (0 : Int32)), .val (.int x9), .val (.int x13), .val (.int x17), .val (.int x22), .val (.ref c25_0), .val (.ref c27_0), .val (.ref b29), .unset, .unset]) rfl ?_
              show Steps p.tables e below (T31.setTop (mkF m 134 #[.val (.int i0), .val (.int i1), .val (.int i2), .val (.int i3), .val (.int i4), .val (.int i5), .val (.int x2), .val (.int x4), .val (.int x7), .val (.int (0 : Int32)), .val (.int x9), .val (.int x13), .val (.int x17), .val (.int x22), .val (.ref c25_0), .val (.ref c27_0), .val (.ref b29), .unset, .unset] [])) _
              refine XS.aload X31.here hx rfl (hb hby at_134) rfl rfl ?_
              refine XS.aload X31.here hx rfl (hb hby at_136) rfl rfl ?_
              exact kt)
          rcases Decidable.em (x9 = x17) with hp4 | hp4
          · have f33 : Exa Z T31.heap c27_0 z0 := ((q27_0.ext E29).keep Kq31)
            have ne34 : c25_0 ≠ b29 := (Nat.ne_of_lt (Nat.lt_of_lt_of_le (Nat.lt_of_lt_of_le q25_0.lt Kq27.1) g29))
            have f35 : Fld Z T31.heap c25_0 z0 "coder" "B" (.int (0 : Int32)) := (((q25_2.keep Kq27 nin0).ext E29).keep Kq31 (ninS ne34 nin0))
            have f36 : Fld Z T31.heap c27_0 z0 "coder" "B" (.int (0 : Int32)) := ((q27_2.ext E29).keep Kq31 (ninS (Nat.ne_of_lt (Nat.lt_of_lt_of_le q27_0.lt g29)) nin0))
            have f37 : Fld Z T31.heap c25_0 z0 "value" "[B" (.ref c25_1) := (((q25_1.keep Kq27 nin0).ext E29).keep Kq31 (ninS ne34 nin0))
            have f38 : Fld Z T31.heap c27_0 z0 "value" "[B" (.ref c27_1) := ((q27_1.ext E29).keep Kq31 (ninS (Nat.ne_of_lt (Nat.lt_of_lt_of_le q27_0.lt g29)) nin0))
            have ne39 : c25_1 ≠ b29 := (Nat.ne_of_lt (Nat.lt_of_lt_of_le (Nat.lt_of_lt_of_le q25_3.lt Kq27.1) g29))
            have f40 : Arv Z T31.heap c25_1 k25_2 .byte (1 : Int32) [(.int (x9.toInt8.toInt32))] (.int (0 : Int32)) := (((q25_3.keep Kq27 nin0).ext E29).keep Kq31 (ninS ne39 nin0))
            have f41 : Arv Z T31.heap c27_1 k27_2 .byte (1 : Int32) [(.int (x17.toInt8.toInt32))] (.int (0 : Int32)) := ((q27_3.ext E29).keep Kq31 (ninS (Nat.ne_of_lt (Nat.lt_of_lt_of_le q27_3.lt g29)) nin0))
            have hd42 : (x9.toInt8.toInt32) = (x17.toInt8.toInt32) := ((own_binj hd10 hd26 hd18 hd28).mpr hp4 : (x9.toInt8.toInt32) = (x17.toInt8.toInt32))
            have f43 : Exa Z T31.heap c25_0 z0 := (((q25_0.keep Kq27).ext E29).keep Kq31)
            have sf32 := (sf0 : ∀ x ∈ [], Safe Z EL s.vm T31.heap x)
            have f44 : Exa Z T31.heap b29 z1 := (A29.keep Kq31)
            obtain ⟨_, T32, L32, hQ32, X32, st32⟩ := own_virtual X31 hx hZ (W := 0) hown (hw _ m68) (hw _ m69) (notFace_of_selects (args := #[]) (mvT hZ (hw _ m71))) (hw _ m71) (hw _ m70) (hw _ m44) (hw _ m72) (by decide) (rm34 l Z a0 hw hj w0 w1 w2 w3 w4 w5 w6 w7 w8 w9 w10 w11 hS [] b29 c27_0 c25_0 (x9.toInt8.toInt32) (x17.toInt8.toInt32) c25_1 c27_1 k25_2 k27_2 T31.heap n0 O31 q31_0 q31_1 (Nat.ne_of_lt (Nat.lt_of_lt_of_le q25_0.lt lo27_0)) f33 f35 f36 f37 f38 f40 f41 hd42 f43) (rfl : T31.heap = T31.heap) f44 (g := (mkF m 138 #[.val (.int i0), .val (.int i1), .val (.int i2), .val (.int i3), .val (.int i4), .val (.int i5), .val (.int x2), .val (.int x4), .val (.int x7), .val (.int (0 : Int32)), .val (.int x9), .val (.int x13), .val (.int x17), .val (.int x22), .val (.ref c25_0), .val (.ref c27_0), .val (.ref b29), .unset, .unset] [(.ref c27_0), (.ref b29)])) rfl (by rw [hml]; rfl) (argsL := [(.ref c27_0)]) (rest := []) (lenOf pd235 rfl) rfl rfl (by show 2 * 0 + _ ≤ _; exact Nat.le_of_eq rfl) (hb hby at_138) (by decide) (by decide) (by decide) (by decide)
            obtain ⟨rfl, N32q, e32⟩ := hQ32
            have N32 := Fr.app N31 N32q
            have e32' : T32.heap = T31.heap := e32
            obtain ⟨fs, hr, hrun, hended, hRW⟩ := X32.leaveW hS0 (by rw [e32']; exact (Nat.le_trans (Nat.le_refl _) (Nat.le_trans (Nat.le_trans (Nat.le_trans Kq25.1 Kq27.1) E29.1) Kq31.1))) (v := some (.int (1 : Int32))) (fun h => by rw [Bd.returns] at h; cases h)
            refine ⟨_, _, pre5 _ ?_, hrun, hended, _, _, rfl, ?_, own_rwm hRW (by decide) (by decide)⟩
            · refine st32 _ ?_
              refine XS.istore X32.here hx rfl (hb hby at_141) rfl (l' := #[.val (.int i0), .val (.int i1), .val (.int i2), .val (.int i3), .val (.int i4), .val (.int i5), .val (.int x2), .val (.int x4), .val (.int x7), .val (.int (0 : Int32)), .val (.int x9), .val (.int x13), .val (.int x17), .val (.int x22), .val (.ref c25_0), .val (.ref c27_0), .val (.ref b29), .val (.int (1 : Int32)), .unset]) rfl ?_
              show Steps p.tables e below (T32.setTop (mkF m 143 #[.val (.int i0), .val (.int i1), .val (.int i2), .val (.int i3), .val (.int i4), .val (.int i5), .val (.int x2), .val (.int x4), .val (.int x7), .val (.int (0 : Int32)), .val (.int x9), .val (.int x13), .val (.int x17), .val (.int x22), .val (.ref c25_0), .val (.ref c27_0), .val (.ref b29), .val (.int (1 : Int32)), .unset] [])) _
              refine Own.iload X32.here hx rfl (hb hby at_143) rfl hp3 ?_
              refine XS.bipush X32.here hx rfl (hb hby at_145) ?_
              refine XS.icmpNo X32.here hx rfl (hb hby at_147) rfl (teq (by decide : (8 : Int32) = (8 : Int32))).2 ?_
              refine XS.iload X32.here hx rfl (hb hby at_150) rfl ?_
              show Steps p.tables e below (T32.setTop (mkF m 152 #[.val (.int i0), .val (.int i1), .val (.int i2), .val (.int i3), .val (.int i4), .val (.int i5), .val (.int x2), .val (.int x4), .val (.int x7), .val (.int (0 : Int32)), .val (.int x9), .val (.int x13), .val (.int x17), .val (.int x22), .val (.ref c25_0), .val (.ref c27_0), .val (.ref b29), .val (.int (1 : Int32)), .unset] [(.int (0 : Int32))])) _
              refine XS.ifNo X32.here hx rfl (hb hby at_152) rfl ((if0 _ _).trans (teq (by decide : (0 : Int32) = (0 : Int32))).2) ?_
              refine Own.iload X32.here hx rfl (hb hby at_155) rfl hp1 ?_
              refine Own.iload X32.here hx rfl (hb hby at_157) rfl hp2 ?_
              refine XS.icmpNo X32.here hx rfl (hb hby at_159) rfl (teq (by decide : (1 : Int32) = (1 : Int32))).2 ?_
              show Steps p.tables e below (T32.setTop (mkF m 162 #[.val (.int i0), .val (.int i1), .val (.int i2), .val (.int i3), .val (.int i4), .val (.int i5), .val (.int x2), .val (.int x4), .val (.int x7), .val (.int (0 : Int32)), .val (.int x9), .val (.int x13), .val (.int x17), .val (.int x22), .val (.ref c25_0), .val (.ref c27_0), .val (.ref b29), .val (.int (1 : Int32)), .unset] [])) _
              refine Own.iload X32.here hx rfl (hb hby at_162) rfl hp1 ?_
              refine XS.iconst X32.here hx rfl (hb hby at_164) ?_
              refine XS.icmpNo X32.here hx rfl (hb hby at_165) rfl (flt (by decide : ¬ ((1 : Int32) < (1 : Int32)))).1 ?_
              refine XS.iload X32.here hx rfl (hb hby at_168) rfl ?_
              show Steps p.tables e below (T32.setTop (mkF m 170 #[.val (.int i0), .val (.int i1), .val (.int i2), .val (.int i3), .val (.int i4), .val (.int i5), .val (.int x2), .val (.int x4), .val (.int x7), .val (.int (0 : Int32)), .val (.int x9), .val (.int x13), .val (.int x17), .val (.int x22), .val (.ref c25_0), .val (.ref c27_0), .val (.ref b29), .val (.int (1 : Int32)), .unset] [(.int x9)])) _
              refine XS.iload X32.here hx rfl (hb hby at_170) rfl ?_
              refine XS.icmpNo X32.here hx rfl (hb hby at_172) rfl (teq hp4).2 ?_
              refine Own.iload X32.here hx rfl (hb hby at_175) rfl hp1 ?_
              refine XS.iconst X32.here hx rfl (hb hby at_177) ?_
              show Steps p.tables e below (T32.setTop (mkF m 178 #[.val (.int i0), .val (.int i1), .val (.int i2), .val (.int i3), .val (.int i4), .val (.int i5), .val (.int x2), .val (.int x4), .val (.int x7), .val (.int (0 : Int32)), .val (.int x9), .val (.int x13), .val (.int x17), .val (.int x22), .val (.ref c25_0), .val (.ref c27_0), .val (.ref b29), .val (.int (1 : Int32)), .unset] [(.int (2 : Int32)), (.int (1 : Int32))])) _
              refine XS.icmpYes X32.here hx rfl (pc0 := 178) (pc' := 188) rfl (hb hby at_178) rfl (tlt (by decide : (1 : Int32) < (2 : Int32))).1 (by decide) (by decide) ?_
              refine XS.iconst X32.here hx rfl (hb hby at_188) ?_
              refine XS.goto X32.here hx rfl (pc0 := 189) (pc' := 193) rfl (hb hby at_189) (by decide) (by decide) ?_
              refine XS.istore X32.here hx rfl (hb hby at_193) rfl (l' := #[.val (.int i0), .val (.int i1), .val (.int i2), .val (.int i3), .val (.int i4), .val (.int i5), .val (.int x2), .val (.int x4), .val (.int x7), .val (.int (0 : Int32)), .val (.int x9), .val (.int x13), .val (.int x17), .val (.int x22), .val (.ref c25_0), .val (.ref c27_0), .val (.ref b29), .val (.int (1 : Int32)), .val (.int (1 : Int32))]) rfl ?_
              show Steps p.tables e below (T32.setTop (mkF m 195 #[.val (.int i0), .val (.int i1), .val (.int i2), .val (.int i3), .val (.int i4), .val (.int i5), .val (.int x2), .val (.int x4), .val (.int x7), .val (.int (0 : Int32)), .val (.int x9), .val (.int x13), .val (.int x17), .val (.int x22), .val (.ref c25_0), .val (.ref c27_0), .val (.ref b29), .val (.int (1 : Int32)), .val (.int (1 : Int32))] [])) _
              refine XS.iload X32.here hx rfl (hb hby at_195) rfl ?_
              refine XS.iload X32.here hx rfl (hb hby at_197) rfl ?_
              refine XS.icmpNo X32.here hx rfl (hb hby at_199) rfl (teq (by decide : (1 : Int32) = (1 : Int32))).2 ?_
              refine XS.iconst X32.here hx rfl (hb hby at_202) ?_
              show Steps p.tables e below (T32.setTop (mkF m 203 #[.val (.int i0), .val (.int i1), .val (.int i2), .val (.int i3), .val (.int i4), .val (.int i5), .val (.int x2), .val (.int x4), .val (.int x7), .val (.int (0 : Int32)), .val (.int x9), .val (.int x13), .val (.int x17), .val (.int x22), .val (.ref c25_0), .val (.ref c27_0), .val (.ref b29), .val (.int (1 : Int32)), .val (.int (1 : Int32))] [(.int (1 : Int32))])) _
              refine XS.goto X32.here hx rfl (pc0 := 203) (pc' := 207) rfl (hb hby at_203) (by decide) (by decide) ?_
              exact retN X32 hx (t := .boolean) Bd.returns (by simp) (hb hby at_207) hr
            · show QL n0 _ T32.heap _
              exact ⟨rfl, N32⟩
          · have f33 : Exa Z T31.heap c27_0 z0 := ((q27_0.ext E29).keep Kq31)
            have ne34 : c25_0 ≠ b29 := (Nat.ne_of_lt (Nat.lt_of_lt_of_le (Nat.lt_of_lt_of_le q25_0.lt Kq27.1) g29))
            have f35 : Fld Z T31.heap c25_0 z0 "coder" "B" (.int (0 : Int32)) := (((q25_2.keep Kq27 nin0).ext E29).keep Kq31 (ninS ne34 nin0))
            have f36 : Fld Z T31.heap c27_0 z0 "coder" "B" (.int (0 : Int32)) := ((q27_2.ext E29).keep Kq31 (ninS (Nat.ne_of_lt (Nat.lt_of_lt_of_le q27_0.lt g29)) nin0))
            have f37 : Fld Z T31.heap c25_0 z0 "value" "[B" (.ref c25_1) := (((q25_1.keep Kq27 nin0).ext E29).keep Kq31 (ninS ne34 nin0))
            have f38 : Fld Z T31.heap c27_0 z0 "value" "[B" (.ref c27_1) := ((q27_1.ext E29).keep Kq31 (ninS (Nat.ne_of_lt (Nat.lt_of_lt_of_le q27_0.lt g29)) nin0))
            have ne39 : c25_1 ≠ b29 := (Nat.ne_of_lt (Nat.lt_of_lt_of_le (Nat.lt_of_lt_of_le q25_3.lt Kq27.1) g29))
            have f40 : Arv Z T31.heap c25_1 k25_2 .byte (1 : Int32) [(.int (x9.toInt8.toInt32))] (.int (0 : Int32)) := (((q25_3.keep Kq27 nin0).ext E29).keep Kq31 (ninS ne39 nin0))
            have f41 : Arv Z T31.heap c27_1 k27_2 .byte (1 : Int32) [(.int (x17.toInt8.toInt32))] (.int (0 : Int32)) := ((q27_3.ext E29).keep Kq31 (ninS (Nat.ne_of_lt (Nat.lt_of_lt_of_le q27_3.lt g29)) nin0))
            have hd42 : ¬ ((x9.toInt8.toInt32) = (x17.toInt8.toInt32)) := ((fun q => hp4 ((own_binj hd10 hd26 hd18 hd28).mp q)) : ¬ ((x9.toInt8.toInt32) = (x17.toInt8.toInt32)))
            have f43 : Exa Z T31.heap c25_0 z0 := (((q25_0.keep Kq27).ext E29).keep Kq31)
            have sf32 := (sf0 : ∀ x ∈ [], Safe Z EL s.vm T31.heap x)
            have f44 : Exa Z T31.heap b29 z1 := (A29.keep Kq31)
            obtain ⟨_, T32, L32, hQ32, X32, st32⟩ := own_virtual X31 hx hZ (W := 0) hown (hw _ m68) (hw _ m69) (notFace_of_selects (args := #[]) (mvT hZ (hw _ m71))) (hw _ m71) (hw _ m70) (hw _ m44) (hw _ m72) (by decide) (rm37 l Z a0 hw hj w0 w1 w2 w3 w4 w5 w6 w7 w8 w9 w10 w11 hS [] b29 c27_0 c25_0 (x9.toInt8.toInt32) (x17.toInt8.toInt32) c25_1 c27_1 k25_2 k27_2 T31.heap n0 O31 q31_0 q31_1 (Nat.ne_of_lt (Nat.lt_of_lt_of_le q25_0.lt lo27_0)) f33 f35 f36 f37 f38 f40 f41 hd42 f43) (rfl : T31.heap = T31.heap) f44 (g := (mkF m 138 #[.val (.int i0), .val (.int i1), .val (.int i2), .val (.int i3), .val (.int i4), .val (.int i5), .val (.int x2), .val (.int x4), .val (.int x7), .val (.int (0 : Int32)), .val (.int x9), .val (.int x13), .val (.int x17), .val (.int x22), .val (.ref c25_0), .val (.ref c27_0), .val (.ref b29), .unset, .unset] [(.ref c27_0), (.ref b29)])) rfl (by rw [hml]; rfl) (argsL := [(.ref c27_0)]) (rest := []) (lenOf pd235 rfl) rfl rfl (by show 2 * 0 + _ ≤ _; exact Nat.le_of_eq rfl) (hb hby at_138) (by decide) (by decide) (by decide) (by decide)
            obtain ⟨rfl, N32q, e32⟩ := hQ32
            have N32 := Fr.app N31 N32q
            have e32' : T32.heap = T31.heap := e32
            obtain ⟨fs, hr, hrun, hended, hRW⟩ := X32.leaveW hS0 (by rw [e32']; exact (Nat.le_trans (Nat.le_refl _) (Nat.le_trans (Nat.le_trans (Nat.le_trans Kq25.1 Kq27.1) E29.1) Kq31.1))) (v := some (.int (1 : Int32))) (fun h => by rw [Bd.returns] at h; cases h)
            refine ⟨_, _, pre5 _ ?_, hrun, hended, _, _, rfl, ?_, own_rwm hRW (by decide) (by decide)⟩
            · refine st32 _ ?_
              refine XS.istore X32.here hx rfl (hb hby at_141) rfl (l' := #[.val (.int i0), .val (.int i1), .val (.int i2), .val (.int i3), .val (.int i4), .val (.int i5), .val (.int x2), .val (.int x4), .val (.int x7), .val (.int (0 : Int32)), .val (.int x9), .val (.int x13), .val (.int x17), .val (.int x22), .val (.ref c25_0), .val (.ref c27_0), .val (.ref b29), .val (.int (0 : Int32)), .unset]) rfl ?_
              show Steps p.tables e below (T32.setTop (mkF m 143 #[.val (.int i0), .val (.int i1), .val (.int i2), .val (.int i3), .val (.int i4), .val (.int i5), .val (.int x2), .val (.int x4), .val (.int x7), .val (.int (0 : Int32)), .val (.int x9), .val (.int x13), .val (.int x17), .val (.int x22), .val (.ref c25_0), .val (.ref c27_0), .val (.ref b29), .val (.int (0 : Int32)), .unset] [])) _
              refine Own.iload X32.here hx rfl (hb hby at_143) rfl hp3 ?_
              refine XS.bipush X32.here hx rfl (hb hby at_145) ?_
              refine XS.icmpNo X32.here hx rfl (hb hby at_147) rfl (teq (by decide : (8 : Int32) = (8 : Int32))).2 ?_
              refine XS.iload X32.here hx rfl (hb hby at_150) rfl ?_
              show Steps p.tables e below (T32.setTop (mkF m 152 #[.val (.int i0), .val (.int i1), .val (.int i2), .val (.int i3), .val (.int i4), .val (.int i5), .val (.int x2), .val (.int x4), .val (.int x7), .val (.int (0 : Int32)), .val (.int x9), .val (.int x13), .val (.int x17), .val (.int x22), .val (.ref c25_0), .val (.ref c27_0), .val (.ref b29), .val (.int (0 : Int32)), .unset] [(.int (0 : Int32))])) _
              refine XS.ifNo X32.here hx rfl (hb hby at_152) rfl ((if0 _ _).trans (teq (by decide : (0 : Int32) = (0 : Int32))).2) ?_
              refine Own.iload X32.here hx rfl (hb hby at_155) rfl hp1 ?_
              refine Own.iload X32.here hx rfl (hb hby at_157) rfl hp2 ?_
              refine XS.icmpNo X32.here hx rfl (hb hby at_159) rfl (teq (by decide : (1 : Int32) = (1 : Int32))).2 ?_
              show Steps p.tables e below (T32.setTop (mkF m 162 #[.val (.int i0), .val (.int i1), .val (.int i2), .val (.int i3), .val (.int i4), .val (.int i5), .val (.int x2), .val (.int x4), .val (.int x7), .val (.int (0 : Int32)), .val (.int x9), .val (.int x13), .val (.int x17), .val (.int x22), .val (.ref c25_0), .val (.ref c27_0), .val (.ref b29), .val (.int (0 : Int32)), .unset] [])) _
              refine Own.iload X32.here hx rfl (hb hby at_162) rfl hp1 ?_
              refine XS.iconst X32.here hx rfl (hb hby at_164) ?_
              refine XS.icmpNo X32.here hx rfl (hb hby at_165) rfl (flt (by decide : ¬ ((1 : Int32) < (1 : Int32)))).1 ?_
              refine XS.iload X32.here hx rfl (hb hby at_168) rfl ?_
              show Steps p.tables e below (T32.setTop (mkF m 170 #[.val (.int i0), .val (.int i1), .val (.int i2), .val (.int i3), .val (.int i4), .val (.int i5), .val (.int x2), .val (.int x4), .val (.int x7), .val (.int (0 : Int32)), .val (.int x9), .val (.int x13), .val (.int x17), .val (.int x22), .val (.ref c25_0), .val (.ref c27_0), .val (.ref b29), .val (.int (0 : Int32)), .unset] [(.int x9)])) _
              refine XS.iload X32.here hx rfl (hb hby at_170) rfl ?_
              refine XS.icmpYes X32.here hx rfl (pc0 := 172) (pc' := 192) rfl (hb hby at_172) rfl (feq hp4).2 (by decide) (by decide) ?_
              refine XS.iconst X32.here hx rfl (hb hby at_192) ?_
              refine XS.istore X32.here hx rfl (hb hby at_193) rfl (l' := #[.val (.int i0), .val (.int i1), .val (.int i2), .val (.int i3), .val (.int i4), .val (.int i5), .val (.int x2), .val (.int x4), .val (.int x7), .val (.int (0 : Int32)), .val (.int x9), .val (.int x13), .val (.int x17), .val (.int x22), .val (.ref c25_0), .val (.ref c27_0), .val (.ref b29), .val (.int (0 : Int32)), .val (.int (0 : Int32))]) rfl ?_
              show Steps p.tables e below (T32.setTop (mkF m 195 #[.val (.int i0), .val (.int i1), .val (.int i2), .val (.int i3), .val (.int i4), .val (.int i5), .val (.int x2), .val (.int x4), .val (.int x7), .val (.int (0 : Int32)), .val (.int x9), .val (.int x13), .val (.int x17), .val (.int x22), .val (.ref c25_0), .val (.ref c27_0), .val (.ref b29), .val (.int (0 : Int32)), .val (.int (0 : Int32))] [])) _
              refine XS.iload X32.here hx rfl (hb hby at_195) rfl ?_
              refine XS.iload X32.here hx rfl (hb hby at_197) rfl ?_
              refine XS.icmpNo X32.here hx rfl (hb hby at_199) rfl (teq (by decide : (0 : Int32) = (0 : Int32))).2 ?_
              refine XS.iconst X32.here hx rfl (hb hby at_202) ?_
              show Steps p.tables e below (T32.setTop (mkF m 203 #[.val (.int i0), .val (.int i1), .val (.int i2), .val (.int i3), .val (.int i4), .val (.int i5), .val (.int x2), .val (.int x4), .val (.int x7), .val (.int (0 : Int32)), .val (.int x9), .val (.int x13), .val (.int x17), .val (.int x22), .val (.ref c25_0), .val (.ref c27_0), .val (.ref b29), .val (.int (0 : Int32)), .val (.int (0 : Int32))] [(.int (1 : Int32))])) _
              refine XS.goto X32.here hx rfl (pc0 := 203) (pc' := 207) rfl (hb hby at_203) (by decide) (by decide) ?_
              exact retN X32 hx (t := .boolean) Bd.returns (by simp) (hb hby at_207) hr
            · show QL n0 _ T32.heap _
              exact ⟨rfl, N32⟩
        · have hd30 : ¬ (x2 < (0 : Int32)) := (by have q0 := rx2; have q1 := (by decide : ((0 : Int32)).toInt = 0); exact own_ltF (by omega) : ¬ (x2 < (0 : Int32)))
          have hd31 : ¬ ((9 : Int32) < x2) := (by have q0 := (by decide : ((9 : Int32)).toInt = 9); have q1 := rx2; exact own_ltF (by omega) : ¬ ((9 : Int32) < x2))
          obtain ⟨_, T32, L32, ⟨z32, rfl, N32q, hz32_0, hz32_1, e32⟩, X32, st32⟩ := own_callS X29 hx hZ (W := 2) hown (hw _ m45) (hw _ m46) (hw _ m3) (hw _ m47) (by decide) (jm0 l Z a0 hw hj w0 w1 w2 w3 w4 w5 w6 w7 w8 w9 w10 w11 hS [] x2 h29 n0 O29 hd30 hd31 hp3) e29 (g := (mkF m 120 #[.val (.int i0), .val (.int i1), .val (.int i2), .val (.int i3), .val (.int i4), .val (.int i5), .val (.int x2), .val (.int x4), .val (.int x7), .val (.int (0 : Int32)), .val (.int x9), .val (.int x13), .val (.int x17), .val (.int x22), .val (.ref c25_0), .val (.ref c27_0), .unset, .unset, .unset] [(.int x2), (.ref b29), (.ref b29)])) rfl (by rw [hml]; rfl) (argsL := [(.int x2)]) (rest := [(.ref b29), (.ref b29)]) (lenOf pd128 rfl) rfl rfl (by show 2 * 0 + _ ≤ _; exact Nat.le_of_eq rfl) (hb hby at_120) (by decide) (by decide) (by decide) (by decide)
          have N32 := Fr.app N27 N32q
          have e32' : T32.heap = h29 := e32
          have sf33 := ((sfS (Safe.exa (EL := EL) hZ.alike A29 (by decide) (by decide)) sf0) : ∀ x ∈ [b29], Safe Z EL s.vm h29 x)
          obtain ⟨_, T33, L33, hQ33, X33, st33⟩ := own_special X32 hx hZ (W := 1) rfl hown (hw _ m51) (hw _ m52) (hw _ m44) (hw _ m53) (by decide) (rm10 l Z a0 hw hj w0 w1 w2 w3 w4 w5 w6 w7 w8 w9 w10 w11 hS [] i4 i5 b29 z32 c25_0 h29 n0 O29 A29 F29_1 F29_2 F29_3 F29_4 (Nat.le_trans (own_old_le O27) g29)) e32' (a := b29) (g := (mkF m 129 #[.val (.int i0), .val (.int i1), .val (.int i2), .val (.int i3), .val (.int i4), .val (.int i5), .val (.int x2), .val (.int x4), .val (.int x7), .val (.int (0 : Int32)), .val (.int x9), .val (.int x13), .val (.int x17), .val (.int x22), .val (.ref c25_0), .val (.ref c27_0), .unset, .unset, .unset] [(.int i5), (.int i4), (.ref c25_0), (.ref z32), (.ref b29), (.ref b29)])) rfl (by rw [hml]; rfl) (argsL := [(.ref z32), (.ref c25_0), (.int i4), (.int i5)]) (rest := [(.ref b29)]) (lenOf pd164 rfl) rfl rfl (by show 2 * 0 + _ ≤ _; exact Nat.le_of_eq rfl) (hb hby at_129) (by decide) (by decide) (by decide) (by decide)
          obtain ⟨rfl, N33q, Kq33, q33_0, q33_1, q33_2, q33_3⟩ := hQ33
          have N33 := Fr.app N32 N33q
          have C33 := C29.trans (CHr.keep Kq33 sf33 C29.1)
          have O33 : Old Z n0 T33.heap := O29.keep Kq33 (allS (Nat.le_trans (own_old_le O27) g29) all0)
          have K33 : Keep h0 T33.heap [] := K29.trans Kq33 (allS (Or.inr (Nat.le_trans K27.1 g29)) all0)
          have sf34 := (sf0 : ∀ x ∈ [], Safe Z EL s.vm T33.heap x)
          have f35 : Exa Z T33.heap b29 z1 := (A29.keep Kq33)
          obtain ⟨_, T34, L34, hQ34, X34, st34⟩ := own_virtual X33 hx hZ (W := 0) hown (hw _ m68) (hw _ m69) (notFace_of_selects (args := #[]) (mvT hZ (hw _ m71))) (hw _ m71) (hw _ m70) (hw _ m44) (hw _ m72) (by decide) (rm11 l Z a0 hw hj w0 w1 w2 w3 w4 w5 w6 w7 w8 w9 w10 w11 hS [] b29 c27_0 z32 T33.heap n0 O33 q33_0 hz32_1) (rfl : T33.heap = T33.heap) f35 (g := (mkF m 138 #[.val (.int i0), .val (.int i1), .val (.int i2), .val (.int i3), .val (.int i4), .val (.int i5), .val (.int x2), .val (.int x4), .val (.int x7), .val (.int (0 : Int32)), .val (.int x9), .val (.int x13), .val (.int x17), .val (.int x22), .val (.ref c25_0), .val (.ref c27_0), .val (.ref b29), .unset, .unset] [(.ref c27_0), (.ref b29)])) rfl (by rw [hml]; rfl) (argsL := [(.ref c27_0)]) (rest := []) (lenOf pd235 rfl) rfl rfl (by show 2 * 0 + _ ≤ _; exact Nat.le_of_eq rfl) (hb hby at_138) (by decide) (by decide) (by decide) (by decide)
          obtain ⟨rfl, N34q, e34⟩ := hQ34
          have N34 := Fr.app N33 N34q
          have e34' : T34.heap = T33.heap := e34
          obtain ⟨fs, hr, hrun, hended, hRW⟩ := X34.leaveW hS0 (by rw [e34']; exact (Nat.le_trans (Nat.le_refl _) (Nat.le_trans (Nat.le_trans (Nat.le_trans Kq25.1 Kq27.1) E29.1) Kq33.1))) (v := some (.int (1 : Int32))) (fun h => by rw [Bd.returns] at h; cases h)
          refine ⟨_, _, pre4 _ ?_, hrun, hended, _, _, rfl, ?_, own_rwm hRW (by decide) (by decide)⟩
          · refine XS.iload X29.here hx rfl (hb hby at_118) rfl ?_
            refine st32 _ ?_
            refine XS.aload X32.here hx rfl (hb hby at_123) rfl rfl ?_
            show Steps p.tables e below (T32.setTop (mkF m 125 #[.val (.int i0), .val (.int i1), .val (.int i2), .val (.int i3), .val (.int i4), .val (.int i5), .val (.int x2), .val (.int x4), .val (.int x7), .val (.int (0 : Int32)), .val (.int x9), .val (.int x13), .val (.int x17), .val (.int x22), .val (.ref c25_0), .val (.ref c27_0), .unset, .unset, .unset] [(.ref c25_0), (.ref z32), (.ref b29), (.ref b29)])) _
            refine XS.iload X32.here hx rfl (hb hby at_125) rfl ?_
            refine XS.iload X32.here hx rfl (hb hby at_127) rfl ?_
            refine st33 _ ?_
            refine XS.astore X33.here hx rfl (hb hby at_132) rfl rfl (l' := #[.val (.int i0), .val (.int i1), .val (.int i2), .val (.int i3), .val (.int i4), .val (.int i5), .val (.int x2), .val (.int x4), .val (.int x7), .val (.int (0 : Int32)), .val (.int x9), .val (.int x13), .val (.int x17), .val (.int x22), .val (.ref c25_0), .val (.ref c27_0), .val (.ref b29), .unset, .unset]) rfl ?_
            show Steps p.tables e below (T33.setTop (mkF m 134 #[.val (.int i0), .val (.int i1), .val (.int i2), .val (.int i3), .val (.int i4), .val (.int i5), .val (.int x2), .val (.int x4), .val (.int x7), .val (.int (0 : Int32)), .val (.int x9), .val (.int x13), .val (.int x17), .val (.int x22), .val (.ref c25_0), .val (.ref c27_0), .val (.ref b29), .unset, .unset] [])) _
            refine XS.aload X33.here hx rfl (hb hby at_134) rfl rfl ?_
            refine XS.aload X33.here hx rfl (hb hby at_136) rfl rfl ?_
            refine st34 _ ?_
            refine XS.istore X34.here hx rfl (hb hby at_141) rfl (l' := #[.val (.int i0), .val (.int i1), .val (.int i2), .val (.int i3), .val (.int i4), .val (.int i5), .val (.int x2), .val (.int x4), .val (.int x7), .val (.int (0 : Int32)), .val (.int x9), .val (.int x13), .val (.int x17), .val (.int x22), .val (.ref c25_0), .val (.ref c27_0), .val (.ref b29), .val (.int (0 : Int32)), .unset]) rfl ?_
            show Steps p.tables e below (T34.setTop (mkF m 143 #[.val (.int i0), .val (.int i1), .val (.int i2), .val (.int i3), .val (.int i4), .val (.int i5), .val (.int x2), .val (.int x4), .val (.int x7), .val (.int (0 : Int32)), .val (.int x9), .val (.int x13), .val (.int x17), .val (.int x22), .val (.ref c25_0), .val (.ref c27_0), .val (.ref b29), .val (.int (0 : Int32)), .unset] [])) _
            refine XS.iload X34.here hx rfl (hb hby at_143) rfl ?_
            refine XS.bipush X34.here hx rfl (hb hby at_145) ?_
            refine XS.icmpYes X34.here hx rfl (pc0 := 147) (pc' := 192) rfl (hb hby at_147) rfl (feq hp3).2 (by decide) (by decide) ?_
            refine XS.iconst X34.here hx rfl (hb hby at_192) ?_
            show Steps p.tables e below (T34.setTop (mkF m 193 #[.val (.int i0), .val (.int i1), .val (.int i2), .val (.int i3), .val (.int i4), .val (.int i5), .val (.int x2), .val (.int x4), .val (.int x7), .val (.int (0 : Int32)), .val (.int x9), .val (.int x13), .val (.int x17), .val (.int x22), .val (.ref c25_0), .val (.ref c27_0), .val (.ref b29), .val (.int (0 : Int32)), .unset] [(.int (0 : Int32))])) _
            refine XS.istore X34.here hx rfl (hb hby at_193) rfl (l' := #[.val (.int i0), .val (.int i1), .val (.int i2), .val (.int i3), .val (.int i4), .val (.int i5), .val (.int x2), .val (.int x4), .val (.int x7), .val (.int (0 : Int32)), .val (.int x9), .val (.int x13), .val (.int x17), .val (.int x22), .val (.ref c25_0), .val (.ref c27_0), .val (.ref b29), .val (.int (0 : Int32)), .val (.int (0 : Int32))]) rfl ?_
            refine XS.iload X34.here hx rfl (hb hby at_195) rfl ?_
            refine XS.iload X34.here hx rfl (hb hby at_197) rfl ?_
            refine XS.icmpNo X34.here hx rfl (hb hby at_199) rfl (teq (by decide : (0 : Int32) = (0 : Int32))).2 ?_
            show Steps p.tables e below (T34.setTop (mkF m 202 #[.val (.int i0), .val (.int i1), .val (.int i2), .val (.int i3), .val (.int i4), .val (.int i5), .val (.int x2), .val (.int x4), .val (.int x7), .val (.int (0 : Int32)), .val (.int x9), .val (.int x13), .val (.int x17), .val (.int x22), .val (.ref c25_0), .val (.ref c27_0), .val (.ref b29), .val (.int (0 : Int32)), .val (.int (0 : Int32))] [])) _
            refine XS.iconst X34.here hx rfl (hb hby at_202) ?_
            refine XS.goto X34.here hx rfl (pc0 := 203) (pc' := 207) rfl (hb hby at_203) (by decide) (by decide) ?_
            exact retN X34 hx (t := .boolean) Bd.returns (by simp) (hb hby at_207) hr
          · show QL n0 _ T34.heap _
            exact ⟨rfl, N34⟩
      · have hd28 : ¬ ((255 : Int32) < x17) := (by have q0 := (by decide : ((255 : Int32)).toInt = 255); have q1 := rx17; exact own_ltF (by omega) : ¬ ((255 : Int32) < x17))
        have hd29 : ¬ ((255 : Int32) < x22) := (by have q0 := (by decide : ((255 : Int32)).toInt = 255); have q1 := rx22; exact own_ltF (by omega) : ¬ ((255 : Int32) < x22))
        have sf27 := (sf0 : ∀ x ∈ [], Safe Z EL s.vm T25.heap x)
        obtain ⟨_, T27, L27, hQ27, X27, st27⟩ := own_callS X25 hx hZ (W := 0) hown (hw _ m1) (hw _ m2) (hw _ m3) (hw _ m4) (by decide) (rm25 l Z a0 hw hj w0 w1 w2 w3 w4 w5 w6 w7 w8 w9 w10 w11 hS [] x17 x22 T25.heap n0 O25 hd18 hd19 hd23 hd24 hd28 hd29) (rfl : T25.heap = T25.heap) (g := (mkF m 109 #[.val (.int i0), .val (.int i1), .val (.int i2), .val (.int i3), .val (.int i4), .val (.int i5), .val (.int x2), .val (.int x4), .val (.int x7), .val (.int (0 : Int32)), .val (.int x9), .val (.int x13), .val (.int x17), .val (.int x22), .val (.ref c25_0), .unset, .unset, .unset, .unset] [(.int x22), (.int x17), (.int (2 : Int32))])) rfl (by rw [hml]; rfl) (argsL := [(.int (2 : Int32)), (.int x17), (.int x22)]) (rest := []) (lenOf pd114 rfl) rfl rfl (by show 2 * 0 + _ ≤ _; exact Nat.le_of_eq rfl) (hb hby at_109) (by decide) (by decide) (by decide) (by decide)
        obtain ⟨c27_0, c27_1, k27_2, rfl, N27q, Kq27, lo27_0, lo27_1, q27_0, q27_1, q27_2, q27_3⟩ := hQ27
        have N27 := Fr.app N25 N27q
        have C27 := C25.trans (CHr.keep Kq27 sf27 C25.1)
        have O27 : Old Z n0 T27.heap := O25.keep Kq27 all0
        have K27 : Keep h0 T27.heap [] := K25.trans Kq27 all0
        obtain ⟨T30, h30, b30, X30, e30, E30, A30, D30, g30, O30, K30, st30⟩ := own_newO X27 hx hZ hown (hw _ m42) (hw _ m43) (hw _ m44) (rfl : T27.heap = T27.heap) O27 K27 (g := (mkF m 114 #[.val (.int i0), .val (.int i1), .val (.int i2), .val (.int i3), .val (.int i4), .val (.int i5), .val (.int x2), .val (.int x4), .val (.int x7), .val (.int (0 : Int32)), .val (.int x9), .val (.int x13), .val (.int x17), .val (.int x22), .val (.ref c25_0), .val (.ref c27_0), .unset, .unset, .unset] [])) rfl (hb hby at_114) (by decide) (by decide)
        have C30 := C27.trans (CHr.ext E30 C27.1)
        have F30_1 : Fld Z h30 b30 z1 "type" z3 .null := D30 (Or.inr (hw _ m61)) (ty := (.object z2)) (by decide)
        have F30_2 : Fld Z h30 b30 z1 "text" z8 .null := D30 (Or.inr (hw _ m63)) (ty := (.object z0)) (by decide)
        have F30_3 : Fld Z h30 b30 z1 "line" "I" (.int (0 : Int32)) := D30 (Or.inr (hw _ m65)) (ty := .int) (by decide)
        have F30_4 : Fld Z h30 b30 z1 "column" "I" (.int (0 : Int32)) := D30 (Or.inr (hw _ m67)) (ty := .int) (by decide)
        have pre4 : ∀ t, Steps p.tables e below (T30.setTop (mkF m 118 #[.val (.int i0), .val (.int i1), .val (.int i2), .val (.int i3), .val (.int i4), .val (.int i5), .val (.int x2), .val (.int x4), .val (.int x7), .val (.int (0 : Int32)), .val (.int x9), .val (.int x13), .val (.int x17), .val (.int x22), .val (.ref c25_0), .val (.ref c27_0), .unset, .unset, .unset] [(.ref b30), (.ref b30)])) t → Steps p.tables e below (s₁.setTop (entryFrame m #[(.int i0), (.int i1), (.int i2), (.int i3), (.int i4), (.int i5)] maxLocals)) t := fun t kt => pre3 _ (by
            refine Own.iload X25.here hx rfl (hb hby at_103) rfl hp2 ?_
            refine XS.iload X25.here hx rfl (hb hby at_105) rfl ?_
            show Steps p.tables e below (T25.setTop (mkF m 107 #[.val (.int i0), .val (.int i1), .val (.int i2), .val (.int i3), .val (.int i4), .val (.int i5), .val (.int x2), .val (.int x4), .val (.int x7), .val (.int (0 : Int32)), .val (.int x9), .val (.int x13), .val (.int x17), .val (.int x22), .val (.ref c25_0), .unset, .unset, .unset, .unset] [(.int x17), (.int (2 : Int32))])) _
            refine XS.iload X25.here hx rfl (hb hby at_107) rfl ?_
            refine st27 _ ?_
            refine XS.astore X27.here hx rfl (hb hby at_112) rfl rfl (l' := #[.val (.int i0), .val (.int i1), .val (.int i2), .val (.int i3), .val (.int i4), .val (.int i5), .val (.int x2), .val (.int x4), .val (.int x7), .val (.int (0 : Int32)), .val (.int x9), .val (.int x13), .val (.int x17), .val (.int x22), .val (.ref c25_0), .val (.ref c27_0), .unset, .unset, .unset]) rfl ?_
            refine st30 _ ?_
            show Steps p.tables e below (T30.setTop (mkF m 117 #[.val (.int i0), .val (.int i1), .val (.int i2), .val (.int i3), .val (.int i4), .val (.int i5), .val (.int x2), .val (.int x4), .val (.int x7), .val (.int (0 : Int32)), .val (.int x9), .val (.int x13), .val (.int x17), .val (.int x22), .val (.ref c25_0), .val (.ref c27_0), .unset, .unset, .unset] [(.ref b30)])) _
            refine XS.dup X30.here hx rfl (hb hby at_117) rfl rfl ?_
            exact kt)
        rcases Decidable.em (x2 = (8 : Int32)) with hp3 | hp3
        · have sf31 := (sf0 : ∀ x ∈ [], Safe Z EL s.vm h30 x)
          obtain ⟨_, T31, L31, hQ31, X31, st31⟩ := own_callS X30 hx hZ (W := 2) hown (hw _ m45) (hw _ m46) (hw _ m3) (hw _ m47) (by decide) (rm4 l Z a0 hw hj w0 w1 w2 w3 w4 w5 w6 w7 w8 w9 w10 w11 hS [] h30 n0 O30) e30 (g := (mkF m 120 #[.val (.int i0), .val (.int i1), .val (.int i2), .val (.int i3), .val (.int i4), .val (.int i5), .val (.int x2), .val (.int x4), .val (.int x7), .val (.int (0 : Int32)), .val (.int x9), .val (.int x13), .val (.int x17), .val (.int x22), .val (.ref c25_0), .val (.ref c27_0), .unset, .unset, .unset] [(.int (8 : Int32)), (.ref b30), (.ref b30)])) rfl (by rw [hml]; rfl) (argsL := [(.int (8 : Int32))]) (rest := [(.ref b30), (.ref b30)]) (lenOf pd128 rfl) rfl rfl (by show 2 * 0 + _ ≤ _; exact Nat.le_of_eq rfl) (hb hby at_120) (by decide) (by decide) (by decide) (by decide)
          obtain ⟨rfl, N31q, e31⟩ := hQ31
          have N31 := Fr.app N27 N31q
          have e31' : T31.heap = h30 := e31
          have sf32 := ((sfS (Safe.exa (EL := EL) hZ.alike A30 (by decide) (by decide)) sf0) : ∀ x ∈ [b30], Safe Z EL s.vm h30 x)
          obtain ⟨_, T32, L32, hQ32, X32, st32⟩ := own_special X31 hx hZ (W := 1) rfl hown (hw _ m51) (hw _ m52) (hw _ m44) (hw _ m53) (by decide) (rm6 l Z a0 hw hj w0 w1 w2 w3 w4 w5 w6 w7 w8 w9 w10 w11 hS [] i4 i5 b30 c25_0 h30 n0 O30 A30 F30_1 F30_2 F30_3 F30_4 (Nat.le_trans (own_old_le O27) g30)) e31' (a := b30) (g := (mkF m 129 #[.val (.int i0), .val (.int i1), .val (.int i2), .val (.int i3), .val (.int i4), .val (.int i5), .val (.int x2), .val (.int x4), .val (.int x7), .val (.int (0 : Int32)), .val (.int x9), .val (.int x13), .val (.int x17), .val (.int x22), .val (.ref c25_0), .val (.ref c27_0), .unset, .unset, .unset] [(.int i5), (.int i4), (.ref c25_0), (.ref w8), (.ref b30), (.ref b30)])) rfl (by rw [hml]; rfl) (argsL := [(.ref w8), (.ref c25_0), (.int i4), (.int i5)]) (rest := [(.ref b30)]) (lenOf pd164 rfl) rfl rfl (by show 2 * 0 + _ ≤ _; exact Nat.le_of_eq rfl) (hb hby at_129) (by decide) (by decide) (by decide) (by decide)
          obtain ⟨rfl, N32q, Kq32, q32_0, q32_1, q32_2, q32_3⟩ := hQ32
          have N32 := Fr.app N31 N32q
          have C32 := C30.trans (CHr.keep Kq32 sf32 C30.1)
          have O32 : Old Z n0 T32.heap := O30.keep Kq32 (allS (Nat.le_trans (own_old_le O27) g30) all0)
          have K32 : Keep h0 T32.heap [] := K30.trans Kq32 (allS (Or.inr (Nat.le_trans K27.1 g30)) all0)
          have f34 : Exa Z T32.heap c27_0 z0 := ((q27_0.ext E30).keep Kq32)
          have ne35 : c25_0 ≠ b30 := (Nat.ne_of_lt (Nat.lt_of_lt_of_le (Nat.lt_of_lt_of_le q25_0.lt Kq27.1) g30))
          have f36 : Fld Z T32.heap c25_0 z0 "coder" "B" (.int (0 : Int32)) := (((q25_2.keep Kq27 nin0).ext E30).keep Kq32 (ninS ne35 nin0))
          have f37 : Fld Z T32.heap c27_0 z0 "coder" "B" (.int (0 : Int32)) := ((q27_2.ext E30).keep Kq32 (ninS (Nat.ne_of_lt (Nat.lt_of_lt_of_le q27_0.lt g30)) nin0))
          have f38 : Fld Z T32.heap c25_0 z0 "value" "[B" (.ref c25_1) := (((q25_1.keep Kq27 nin0).ext E30).keep Kq32 (ninS ne35 nin0))
          have f39 : Fld Z T32.heap c27_0 z0 "value" "[B" (.ref c27_1) := ((q27_1.ext E30).keep Kq32 (ninS (Nat.ne_of_lt (Nat.lt_of_lt_of_le q27_0.lt g30)) nin0))
          have ne40 : c25_1 ≠ b30 := (Nat.ne_of_lt (Nat.lt_of_lt_of_le (Nat.lt_of_lt_of_le q25_3.lt Kq27.1) g30))
          have f41 : Arv Z T32.heap c25_1 k25_2 .byte (1 : Int32) [(.int (x9.toInt8.toInt32))] (.int (0 : Int32)) := (((q25_3.keep Kq27 nin0).ext E30).keep Kq32 (ninS ne40 nin0))
          have f42 : Arv Z T32.heap c27_1 k27_2 .byte (2 : Int32) [(.int (x17.toInt8.toInt32)), (.int (x22.toInt8.toInt32))] (.int (0 : Int32)) := ((q27_3.ext E30).keep Kq32 (ninS (Nat.ne_of_lt (Nat.lt_of_lt_of_le q27_3.lt g30)) nin0))
          have f43 : Exa Z T32.heap c25_0 z0 := (((q25_0.keep Kq27).ext E30).keep Kq32)
          have sf33 := (sf0 : ∀ x ∈ [], Safe Z EL s.vm T32.heap x)
          have f44 : Exa Z T32.heap b30 z1 := (A30.keep Kq32)
          obtain ⟨_, T33, L33, hQ33, X33, st33⟩ := own_virtual X32 hx hZ (W := 0) hown (hw _ m68) (hw _ m69) (notFace_of_selects (args := #[]) (mvT hZ (hw _ m71))) (hw _ m71) (hw _ m70) (hw _ m44) (hw _ m72) (by decide) (rm40 l Z a0 hw hj w0 w1 w2 w3 w4 w5 w6 w7 w8 w9 w10 w11 hS [] b30 c27_0 c25_0 (x9.toInt8.toInt32) (x17.toInt8.toInt32) (x22.toInt8.toInt32) c25_1 c27_1 k25_2 k27_2 T32.heap n0 O32 q32_0 q32_1 (Nat.ne_of_lt (Nat.lt_of_lt_of_le q25_0.lt lo27_0)) f34 f36 f37 f38 f39 f41 f42 f43) (rfl : T32.heap = T32.heap) f44 (g := (mkF m 138 #[.val (.int i0), .val (.int i1), .val (.int i2), .val (.int i3), .val (.int i4), .val (.int i5), .val (.int x2), .val (.int x4), .val (.int x7), .val (.int (0 : Int32)), .val (.int x9), .val (.int x13), .val (.int x17), .val (.int x22), .val (.ref c25_0), .val (.ref c27_0), .val (.ref b30), .unset, .unset] [(.ref c27_0), (.ref b30)])) rfl (by rw [hml]; rfl) (argsL := [(.ref c27_0)]) (rest := []) (lenOf pd235 rfl) rfl rfl (by show 2 * 0 + _ ≤ _; exact Nat.le_of_eq rfl) (hb hby at_138) (by decide) (by decide) (by decide) (by decide)
          obtain ⟨rfl, N33q, e33⟩ := hQ33
          have N33 := Fr.app N32 N33q
          have e33' : T33.heap = T32.heap := e33
          obtain ⟨fs, hr, hrun, hended, hRW⟩ := X33.leaveW hS0 (by rw [e33']; exact (Nat.le_trans (Nat.le_refl _) (Nat.le_trans (Nat.le_trans (Nat.le_trans Kq25.1 Kq27.1) E30.1) Kq32.1))) (v := some (.int (1 : Int32))) (fun h => by rw [Bd.returns] at h; cases h)
          refine ⟨_, _, pre4 _ ?_, hrun, hended, _, _, rfl, ?_, own_rwm hRW (by decide) (by decide)⟩
          · refine Own.iload X30.here hx rfl (hb hby at_118) rfl hp3 ?_
            refine st31 _ ?_
            refine XS.aload X31.here hx rfl (hb hby at_123) rfl rfl ?_
            show Steps p.tables e below (T31.setTop (mkF m 125 #[.val (.int i0), .val (.int i1), .val (.int i2), .val (.int i3), .val (.int i4), .val (.int i5), .val (.int x2), .val (.int x4), .val (.int x7), .val (.int (0 : Int32)), .val (.int x9), .val (.int x13), .val (.int x17), .val (.int x22), .val (.ref c25_0), .val (.ref c27_0), .unset, .unset, .unset] [(.ref c25_0), (.ref w8), (.ref b30), (.ref b30)])) _
            refine XS.iload X31.here hx rfl (hb hby at_125) rfl ?_
            refine XS.iload X31.here hx rfl (hb hby at_127) rfl ?_
            refine st32 _ ?_
            refine XS.astore X32.here hx rfl (hb hby at_132) rfl rfl (l' := #[.val (.int i0), .val (.int i1), .val (.int i2), .val (.int i3), .val (.int i4), .val (.int i5), .val (.int x2), .val (.int x4), .val (.int x7), .val (.int (0 : Int32)), .val (.int x9), .val (.int x13), .val (.int x17), .val (.int x22), .val (.ref c25_0), .val (.ref c27_0), .val (.ref b30), .unset, .unset]) rfl ?_
            show Steps p.tables e below (T32.setTop (mkF m 134 #[.val (.int i0), .val (.int i1), .val (.int i2), .val (.int i3), .val (.int i4), .val (.int i5), .val (.int x2), .val (.int x4), .val (.int x7), .val (.int (0 : Int32)), .val (.int x9), .val (.int x13), .val (.int x17), .val (.int x22), .val (.ref c25_0), .val (.ref c27_0), .val (.ref b30), .unset, .unset] [])) _
            refine XS.aload X32.here hx rfl (hb hby at_134) rfl rfl ?_
            refine XS.aload X32.here hx rfl (hb hby at_136) rfl rfl ?_
            refine st33 _ ?_
            refine XS.istore X33.here hx rfl (hb hby at_141) rfl (l' := #[.val (.int i0), .val (.int i1), .val (.int i2), .val (.int i3), .val (.int i4), .val (.int i5), .val (.int x2), .val (.int x4), .val (.int x7), .val (.int (0 : Int32)), .val (.int x9), .val (.int x13), .val (.int x17), .val (.int x22), .val (.ref c25_0), .val (.ref c27_0), .val (.ref b30), .val (.int (0 : Int32)), .unset]) rfl ?_
            show Steps p.tables e below (T33.setTop (mkF m 143 #[.val (.int i0), .val (.int i1), .val (.int i2), .val (.int i3), .val (.int i4), .val (.int i5), .val (.int x2), .val (.int x4), .val (.int x7), .val (.int (0 : Int32)), .val (.int x9), .val (.int x13), .val (.int x17), .val (.int x22), .val (.ref c25_0), .val (.ref c27_0), .val (.ref b30), .val (.int (0 : Int32)), .unset] [])) _
            refine Own.iload X33.here hx rfl (hb hby at_143) rfl hp3 ?_
            refine XS.bipush X33.here hx rfl (hb hby at_145) ?_
            refine XS.icmpNo X33.here hx rfl (hb hby at_147) rfl (teq (by decide : (8 : Int32) = (8 : Int32))).2 ?_
            refine XS.iload X33.here hx rfl (hb hby at_150) rfl ?_
            show Steps p.tables e below (T33.setTop (mkF m 152 #[.val (.int i0), .val (.int i1), .val (.int i2), .val (.int i3), .val (.int i4), .val (.int i5), .val (.int x2), .val (.int x4), .val (.int x7), .val (.int (0 : Int32)), .val (.int x9), .val (.int x13), .val (.int x17), .val (.int x22), .val (.ref c25_0), .val (.ref c27_0), .val (.ref b30), .val (.int (0 : Int32)), .unset] [(.int (0 : Int32))])) _
            refine XS.ifNo X33.here hx rfl (hb hby at_152) rfl ((if0 _ _).trans (teq (by decide : (0 : Int32) = (0 : Int32))).2) ?_
            refine Own.iload X33.here hx rfl (hb hby at_155) rfl hp1 ?_
            refine Own.iload X33.here hx rfl (hb hby at_157) rfl hp2 ?_
            refine XS.icmpYes X33.here hx rfl (pc0 := 159) (pc' := 192) rfl (hb hby at_159) rfl (feq (by decide : ¬ ((1 : Int32) = (2 : Int32)))).2 (by decide) (by decide) ?_
            show Steps p.tables e below (T33.setTop (mkF m 192 #[.val (.int i0), .val (.int i1), .val (.int i2), .val (.int i3), .val (.int i4), .val (.int i5), .val (.int x2), .val (.int x4), .val (.int x7), .val (.int (0 : Int32)), .val (.int x9), .val (.int x13), .val (.int x17), .val (.int x22), .val (.ref c25_0), .val (.ref c27_0), .val (.ref b30), .val (.int (0 : Int32)), .unset] [])) _
            refine XS.iconst X33.here hx rfl (hb hby at_192) ?_
            refine XS.istore X33.here hx rfl (hb hby at_193) rfl (l' := #[.val (.int i0), .val (.int i1), .val (.int i2), .val (.int i3), .val (.int i4), .val (.int i5), .val (.int x2), .val (.int x4), .val (.int x7), .val (.int (0 : Int32)), .val (.int x9), .val (.int x13), .val (.int x17), .val (.int x22), .val (.ref c25_0), .val (.ref c27_0), .val (.ref b30), .val (.int (0 : Int32)), .val (.int (0 : Int32))]) rfl ?_
            refine XS.iload X33.here hx rfl (hb hby at_195) rfl ?_
            refine XS.iload X33.here hx rfl (hb hby at_197) rfl ?_
            show Steps p.tables e below (T33.setTop (mkF m 199 #[.val (.int i0), .val (.int i1), .val (.int i2), .val (.int i3), .val (.int i4), .val (.int i5), .val (.int x2), .val (.int x4), .val (.int x7), .val (.int (0 : Int32)), .val (.int x9), .val (.int x13), .val (.int x17), .val (.int x22), .val (.ref c25_0), .val (.ref c27_0), .val (.ref b30), .val (.int (0 : Int32)), .val (.int (0 : Int32))] [(.int (0 : Int32)), (.int (0 : Int32))])) _
            refine XS.icmpNo X33.here hx rfl (hb hby at_199) rfl (teq (by decide : (0 : Int32) = (0 : Int32))).2 ?_
            refine XS.iconst X33.here hx rfl (hb hby at_202) ?_
            refine XS.goto X33.here hx rfl (pc0 := 203) (pc' := 207) rfl (hb hby at_203) (by decide) (by decide) ?_
            exact retN X33 hx (t := .boolean) Bd.returns (by simp) (hb hby at_207) hr
          · show QL n0 _ T33.heap _
            exact ⟨rfl, N33⟩
        · have hd31 : ¬ (x2 < (0 : Int32)) := (by have q0 := rx2; have q1 := (by decide : ((0 : Int32)).toInt = 0); exact own_ltF (by omega) : ¬ (x2 < (0 : Int32)))
          have hd32 : ¬ ((9 : Int32) < x2) := (by have q0 := (by decide : ((9 : Int32)).toInt = 9); have q1 := rx2; exact own_ltF (by omega) : ¬ ((9 : Int32) < x2))
          obtain ⟨_, T33, L33, ⟨z33, rfl, N33q, hz33_0, hz33_1, e33⟩, X33, st33⟩ := own_callS X30 hx hZ (W := 2) hown (hw _ m45) (hw _ m46) (hw _ m3) (hw _ m47) (by decide) (jm0 l Z a0 hw hj w0 w1 w2 w3 w4 w5 w6 w7 w8 w9 w10 w11 hS [] x2 h30 n0 O30 hd31 hd32 hp3) e30 (g := (mkF m 120 #[.val (.int i0), .val (.int i1), .val (.int i2), .val (.int i3), .val (.int i4), .val (.int i5), .val (.int x2), .val (.int x4), .val (.int x7), .val (.int (0 : Int32)), .val (.int x9), .val (.int x13), .val (.int x17), .val (.int x22), .val (.ref c25_0), .val (.ref c27_0), .unset, .unset, .unset] [(.int x2), (.ref b30), (.ref b30)])) rfl (by rw [hml]; rfl) (argsL := [(.int x2)]) (rest := [(.ref b30), (.ref b30)]) (lenOf pd128 rfl) rfl rfl (by show 2 * 0 + _ ≤ _; exact Nat.le_of_eq rfl) (hb hby at_120) (by decide) (by decide) (by decide) (by decide)
          have N33 := Fr.app N27 N33q
          have e33' : T33.heap = h30 := e33
          have sf34 := ((sfS (Safe.exa (EL := EL) hZ.alike A30 (by decide) (by decide)) sf0) : ∀ x ∈ [b30], Safe Z EL s.vm h30 x)
          obtain ⟨_, T34, L34, hQ34, X34, st34⟩ := own_special X33 hx hZ (W := 1) rfl hown (hw _ m51) (hw _ m52) (hw _ m44) (hw _ m53) (by decide) (rm10 l Z a0 hw hj w0 w1 w2 w3 w4 w5 w6 w7 w8 w9 w10 w11 hS [] i4 i5 b30 z33 c25_0 h30 n0 O30 A30 F30_1 F30_2 F30_3 F30_4 (Nat.le_trans (own_old_le O27) g30)) e33' (a := b30) (g := (mkF m 129 #[.val (.int i0), .val (.int i1), .val (.int i2), .val (.int i3), .val (.int i4), .val (.int i5), .val (.int x2), .val (.int x4), .val (.int x7), .val (.int (0 : Int32)), .val (.int x9), .val (.int x13), .val (.int x17), .val (.int x22), .val (.ref c25_0), .val (.ref c27_0), .unset, .unset, .unset] [(.int i5), (.int i4), (.ref c25_0), (.ref z33), (.ref b30), (.ref b30)])) rfl (by rw [hml]; rfl) (argsL := [(.ref z33), (.ref c25_0), (.int i4), (.int i5)]) (rest := [(.ref b30)]) (lenOf pd164 rfl) rfl rfl (by show 2 * 0 + _ ≤ _; exact Nat.le_of_eq rfl) (hb hby at_129) (by decide) (by decide) (by decide) (by decide)
          obtain ⟨rfl, N34q, Kq34, q34_0, q34_1, q34_2, q34_3⟩ := hQ34
          have N34 := Fr.app N33 N34q
          have C34 := C30.trans (CHr.keep Kq34 sf34 C30.1)
          have O34 : Old Z n0 T34.heap := O30.keep Kq34 (allS (Nat.le_trans (own_old_le O27) g30) all0)
          have K34 : Keep h0 T34.heap [] := K30.trans Kq34 (allS (Or.inr (Nat.le_trans K27.1 g30)) all0)
          have sf35 := (sf0 : ∀ x ∈ [], Safe Z EL s.vm T34.heap x)
          have f36 : Exa Z T34.heap b30 z1 := (A30.keep Kq34)
          obtain ⟨_, T35, L35, hQ35, X35, st35⟩ := own_virtual X34 hx hZ (W := 0) hown (hw _ m68) (hw _ m69) (notFace_of_selects (args := #[]) (mvT hZ (hw _ m71))) (hw _ m71) (hw _ m70) (hw _ m44) (hw _ m72) (by decide) (rm11 l Z a0 hw hj w0 w1 w2 w3 w4 w5 w6 w7 w8 w9 w10 w11 hS [] b30 c27_0 z33 T34.heap n0 O34 q34_0 hz33_1) (rfl : T34.heap = T34.heap) f36 (g := (mkF m 138 #[.val (.int i0), .val (.int i1), .val (.int i2), .val (.int i3), .val (.int i4), .val (.int i5), .val (.int x2), .val (.int x4), .val (.int x7), .val (.int (0 : Int32)), .val (.int x9), .val (.int x13), .val (.int x17), .val (.int x22), .val (.ref c25_0), .val (.ref c27_0), .val (.ref b30), .unset, .unset] [(.ref c27_0), (.ref b30)])) rfl (by rw [hml]; rfl) (argsL := [(.ref c27_0)]) (rest := []) (lenOf pd235 rfl) rfl rfl (by show 2 * 0 + _ ≤ _; exact Nat.le_of_eq rfl) (hb hby at_138) (by decide) (by decide) (by decide) (by decide)
          obtain ⟨rfl, N35q, e35⟩ := hQ35
          have N35 := Fr.app N34 N35q
          have e35' : T35.heap = T34.heap := e35
          obtain ⟨fs, hr, hrun, hended, hRW⟩ := X35.leaveW hS0 (by rw [e35']; exact (Nat.le_trans (Nat.le_refl _) (Nat.le_trans (Nat.le_trans (Nat.le_trans Kq25.1 Kq27.1) E30.1) Kq34.1))) (v := some (.int (1 : Int32))) (fun h => by rw [Bd.returns] at h; cases h)
          refine ⟨_, _, pre4 _ ?_, hrun, hended, _, _, rfl, ?_, own_rwm hRW (by decide) (by decide)⟩
          · refine XS.iload X30.here hx rfl (hb hby at_118) rfl ?_
            refine st33 _ ?_
            refine XS.aload X33.here hx rfl (hb hby at_123) rfl rfl ?_
            show Steps p.tables e below (T33.setTop (mkF m 125 #[.val (.int i0), .val (.int i1), .val (.int i2), .val (.int i3), .val (.int i4), .val (.int i5), .val (.int x2), .val (.int x4), .val (.int x7), .val (.int (0 : Int32)), .val (.int x9), .val (.int x13), .val (.int x17), .val (.int x22), .val (.ref c25_0), .val (.ref c27_0), .unset, .unset, .unset] [(.ref c25_0), (.ref z33), (.ref b30), (.ref b30)])) _
            refine XS.iload X33.here hx rfl (hb hby at_125) rfl ?_
            refine XS.iload X33.here hx rfl (hb hby at_127) rfl ?_
            refine st34 _ ?_
            refine XS.astore X34.here hx rfl (hb hby at_132) rfl rfl (l' := #[.val (.int i0), .val (.int i1), .val (.int i2), .val (.int i3), .val (.int i4), .val (.int i5), .val (.int x2), .val (.int x4), .val (.int x7), .val (.int (0 : Int32)), .val (.int x9), .val (.int x13), .val (.int x17), .val (.int x22), .val (.ref c25_0), .val (.ref c27_0), .val (.ref b30), .unset, .unset]) rfl ?_
            show Steps p.tables e below (T34.setTop (mkF m 134 #[.val (.int i0), .val (.int i1), .val (.int i2), .val (.int i3), .val (.int i4), .val (.int i5), .val (.int x2), .val (.int x4), .val (.int x7), .val (.int (0 : Int32)), .val (.int x9), .val (.int x13), .val (.int x17), .val (.int x22), .val (.ref c25_0), .val (.ref c27_0), .val (.ref b30), .unset, .unset] [])) _
            refine XS.aload X34.here hx rfl (hb hby at_134) rfl rfl ?_
            refine XS.aload X34.here hx rfl (hb hby at_136) rfl rfl ?_
            refine st35 _ ?_
            refine XS.istore X35.here hx rfl (hb hby at_141) rfl (l' := #[.val (.int i0), .val (.int i1), .val (.int i2), .val (.int i3), .val (.int i4), .val (.int i5), .val (.int x2), .val (.int x4), .val (.int x7), .val (.int (0 : Int32)), .val (.int x9), .val (.int x13), .val (.int x17), .val (.int x22), .val (.ref c25_0), .val (.ref c27_0), .val (.ref b30), .val (.int (0 : Int32)), .unset]) rfl ?_
            show Steps p.tables e below (T35.setTop (mkF m 143 #[.val (.int i0), .val (.int i1), .val (.int i2), .val (.int i3), .val (.int i4), .val (.int i5), .val (.int x2), .val (.int x4), .val (.int x7), .val (.int (0 : Int32)), .val (.int x9), .val (.int x13), .val (.int x17), .val (.int x22), .val (.ref c25_0), .val (.ref c27_0), .val (.ref b30), .val (.int (0 : Int32)), .unset] [])) _
            refine XS.iload X35.here hx rfl (hb hby at_143) rfl ?_
            refine XS.bipush X35.here hx rfl (hb hby at_145) ?_
            refine XS.icmpYes X35.here hx rfl (pc0 := 147) (pc' := 192) rfl (hb hby at_147) rfl (feq hp3).2 (by decide) (by decide) ?_
            refine XS.iconst X35.here hx rfl (hb hby at_192) ?_
            show Steps p.tables e below (T35.setTop (mkF m 193 #[.val (.int i0), .val (.int i1), .val (.int i2), .val (.int i3), .val (.int i4), .val (.int i5), .val (.int x2), .val (.int x4), .val (.int x7), .val (.int (0 : Int32)), .val (.int x9), .val (.int x13), .val (.int x17), .val (.int x22), .val (.ref c25_0), .val (.ref c27_0), .val (.ref b30), .val (.int (0 : Int32)), .unset] [(.int (0 : Int32))])) _
            refine XS.istore X35.here hx rfl (hb hby at_193) rfl (l' := #[.val (.int i0), .val (.int i1), .val (.int i2), .val (.int i3), .val (.int i4), .val (.int i5), .val (.int x2), .val (.int x4), .val (.int x7), .val (.int (0 : Int32)), .val (.int x9), .val (.int x13), .val (.int x17), .val (.int x22), .val (.ref c25_0), .val (.ref c27_0), .val (.ref b30), .val (.int (0 : Int32)), .val (.int (0 : Int32))]) rfl ?_
            refine XS.iload X35.here hx rfl (hb hby at_195) rfl ?_
            refine XS.iload X35.here hx rfl (hb hby at_197) rfl ?_
            refine XS.icmpNo X35.here hx rfl (hb hby at_199) rfl (teq (by decide : (0 : Int32) = (0 : Int32))).2 ?_
            show Steps p.tables e below (T35.setTop (mkF m 202 #[.val (.int i0), .val (.int i1), .val (.int i2), .val (.int i3), .val (.int i4), .val (.int i5), .val (.int x2), .val (.int x4), .val (.int x7), .val (.int (0 : Int32)), .val (.int x9), .val (.int x13), .val (.int x17), .val (.int x22), .val (.ref c25_0), .val (.ref c27_0), .val (.ref b30), .val (.int (0 : Int32)), .val (.int (0 : Int32))] [])) _
            refine XS.iconst X35.here hx rfl (hb hby at_202) ?_
            refine XS.goto X35.here hx rfl (pc0 := 203) (pc' := 207) rfl (hb hby at_203) (by decide) (by decide) ?_
            exact retN X35 hx (t := .boolean) Bd.returns (by simp) (hb hby at_207) hr
          · show QL n0 _ T35.heap _
            exact ⟨rfl, N35⟩
    · have hd26 : ¬ ((255 : Int32) < x9) := (by have q0 := (by decide : ((255 : Int32)).toInt = 255); have q1 := rx9; exact own_ltF (by omega) : ¬ ((255 : Int32) < x9))
      have hd27 : ¬ ((255 : Int32) < x13) := (by have q0 := (by decide : ((255 : Int32)).toInt = 255); have q1 := rx13; exact own_ltF (by omega) : ¬ ((255 : Int32) < x13))
      have sf25 := (sf0 : ∀ x ∈ [], Safe Z EL s.vm h0 x)
      obtain ⟨_, T25, L25, hQ25, X25, st25⟩ := own_callS X0 hx hZ (W := 0) hown (hw _ m1) (hw _ m2) (hw _ m3) (hw _ m4) (by decide) (rm25 l Z a0 hw hj w0 w1 w2 w3 w4 w5 w6 w7 w8 w9 w10 w11 hS [] x9 x13 h0 n0 O0 hd10 hd11 hd14 hd15 hd26 hd27) e0 (g := (mkF m 89 #[.val (.int i0), .val (.int i1), .val (.int i2), .val (.int i3), .val (.int i4), .val (.int i5), .val (.int x2), .val (.int x4), .val (.int x7), .val (.int (0 : Int32)), .val (.int x9), .val (.int x13), .val (.int x17), .val (.int x22), .unset, .unset, .unset, .unset, .unset] [(.int x13), (.int x9), (.int (2 : Int32))])) rfl (by rw [hml]; rfl) (argsL := [(.int (2 : Int32)), (.int x9), (.int x13)]) (rest := []) (lenOf pd114 rfl) rfl rfl (by show 2 * 0 + _ ≤ _; exact Nat.le_of_eq rfl) (hb hby at_89) (by decide) (by decide) (by decide) (by decide)
      obtain ⟨c25_0, c25_1, k25_2, rfl, N25q, Kq25, lo25_0, lo25_1, q25_0, q25_1, q25_2, q25_3⟩ := hQ25
      have N25 := Fr.app N0 N25q
      have C25 := C0.trans (CHr.keep Kq25 sf25 C0.1)
      have O25 : Old Z n0 T25.heap := O0.keep Kq25 all0
      have K25 : Keep h0 T25.heap [] := (Keep.refl h0 []).trans Kq25 all0
      have pre3 : ∀ t, Steps p.tables e below (T25.setTop (mkF m 103 #[.val (.int i0), .val (.int i1), .val (.int i2), .val (.int i3), .val (.int i4), .val (.int i5), .val (.int x2), .val (.int x4), .val (.int x7), .val (.int (0 : Int32)), .val (.int x9), .val (.int x13), .val (.int x17), .val (.int x22), .val (.ref c25_0), .unset, .unset, .unset, .unset] [])) t → Steps p.tables e below (s₁.setTop (entryFrame m #[(.int i0), (.int i1), (.int i2), (.int i3), (.int i4), (.int i5)] maxLocals)) t := fun t kt => pre2 _ (by
          refine Own.iload X0.here hx rfl (hb hby at_83) rfl hp1 ?_
          show Steps p.tables e below (s₁.setTop (mkF m 85 #[.val (.int i0), .val (.int i1), .val (.int i2), .val (.int i3), .val (.int i4), .val (.int i5), .val (.int x2), .val (.int x4), .val (.int x7), .val (.int (0 : Int32)), .val (.int x9), .val (.int x13), .val (.int x17), .val (.int x22), .unset, .unset, .unset, .unset, .unset] [(.int (2 : Int32))])) _
          refine XS.iload X0.here hx rfl (hb hby at_85) rfl ?_
          refine XS.iload X0.here hx rfl (hb hby at_87) rfl ?_
          refine st25 _ ?_
          refine XS.astore X25.here hx rfl (hb hby at_92) rfl rfl (l' := #[.val (.int i0), .val (.int i1), .val (.int i2), .val (.int i3), .val (.int i4), .val (.int i5), .val (.int x2), .val (.int x4), .val (.int x7), .val (.int (0 : Int32)), .val (.int x9), .val (.int x13), .val (.int x17), .val (.int x22), .val (.ref c25_0), .unset, .unset, .unset, .unset]) rfl ?_
          show Steps p.tables e below (T25.setTop (mkF m 94 #[.val (.int i0), .val (.int i1), .val (.int i2), .val (.int i3), .val (.int i4), .val (.int i5), .val (.int x2), .val (.int x4), .val (.int x7), .val (.int (0 : Int32)), .val (.int x9), .val (.int x13), .val (.int x17), .val (.int x22), .val (.ref c25_0), .unset, .unset, .unset, .unset] [])) _
          refine XS.iload X25.here hx rfl (hb hby at_94) rfl ?_
          refine XS.ifYes X25.here hx rfl (pc0 := 96) (pc' := 103) rfl (hb hby at_96) rfl ((if0 _ _).trans (teq (by decide : (0 : Int32) = (0 : Int32))).1) (by decide) (by decide) ?_
          exact kt)
      rcases en_60 x7 (by have q0 := own_rng i3; have q1 := (by decide : ((2 : Int32)).toInt = 2); have q2 := c_iushr i3 (2 : Int32) 2 (by decide) (by decide); have q3 := congrArg Int32.toInt hx5; have q4 := rx5; have q5 := (by decide : ((3 : Int32)).toInt = 3); have q6 := (own_mask x5 (3 : Int32) (by decide) : 0 ≤ ((x5 &&& (3 : Int32))).toInt ∧ ((x5 &&& (3 : Int32))).toInt ≤ 3); have q7 := congrArg Int32.toInt hx6; have q8 := rx6; have q9 := (own_rem x6 (3 : Int32) 3 (by decide) (by have q0 := rx6; omega : 0 ≤ (x6).toInt ∧ (x6).toInt ≤ 3) (by decide) : 0 ≤ ((x6 % (3 : Int32))).toInt ∧ ((x6 % (3 : Int32))).toInt ≤ 2); have q10 := congrArg Int32.toInt hx7; have q11 := rx7; omega) with hp2 | hp2 | hp2
      · obtain ⟨_, T28, L28, hQ28, hS28, hZ28, hown28, Cq28, X28, st28⟩ := own_callSW X25 hx hZ (W := 0) hown (hw _ m1) (hw _ m2) (hw _ m3) (hw _ m4) (by decide) (rm3 l Z a0 hw hj w0 w1 w2 w3 w4 w5 w6 w7 w8 w9 w10 w11 hS [] x17 x22 T25.heap n0 O25) (rfl : T25.heap = T25.heap) hS0 (Nat.le_trans (Nat.le_refl _) Kq25.1) (own_EW hw hj) C25.1 own_sx0 (g := (mkF m 109 #[.val (.int i0), .val (.int i1), .val (.int i2), .val (.int i3), .val (.int i4), .val (.int i5), .val (.int x2), .val (.int x4), .val (.int x7), .val (.int (0 : Int32)), .val (.int x9), .val (.int x13), .val (.int x17), .val (.int x22), .val (.ref c25_0), .unset, .unset, .unset, .unset] [(.int x22), (.int x17), (.int (0 : Int32))])) rfl (by rw [hml]; rfl) (argsL := [(.int (0 : Int32)), (.int x17), (.int x22)]) (rest := []) (lenOf pd114 rfl) rfl rfl (by show 2 * 0 + _ ≤ _; exact Nat.le_of_eq rfl) (hb hby at_109) (by decide) (by decide) (by decide) (by decide)
        obtain ⟨c28_0, c28_1, k28_2, rfl, N28q, Kq28, lo28_0, q28_0, q28_1, q28_2, q28_3⟩ := hQ28
        have N28 := Fr.app N25 N28q
        have C28 := C25.trans Cq28
        have O28 : Old Z n0 T28.heap := O25.keep Kq28 all0
        have K28 : Keep h0 T28.heap [] := K25.trans Kq28 all0
        obtain ⟨T29, h29, b29, X29, e29, E29, A29, D29, g29, O29, K29, st29⟩ := own_newO X28 hx hZ28 hown28 (hw _ m42) (hw _ m43) (hw _ m44) (rfl : T28.heap = T28.heap) O28 K28 (g := (mkF m 114 #[.val (.int i0), .val (.int i1), .val (.int i2), .val (.int i3), .val (.int i4), .val (.int i5), .val (.int x2), .val (.int x4), .val (.int x7), .val (.int (0 : Int32)), .val (.int x9), .val (.int x13), .val (.int x17), .val (.int x22), .val (.ref c25_0), .val (.ref c28_0), .unset, .unset, .unset] [])) rfl (hb hby at_114) (by decide) (by decide)
        have C29 := C28.trans (CHr.ext E29 C28.1)
        have F29_1 : Fld Z h29 b29 z1 "type" z3 .null := D29 (Or.inr (hw _ m61)) (ty := (.object z2)) (by decide)
        have F29_2 : Fld Z h29 b29 z1 "text" z8 .null := D29 (Or.inr (hw _ m63)) (ty := (.object z0)) (by decide)
        have F29_3 : Fld Z h29 b29 z1 "line" "I" (.int (0 : Int32)) := D29 (Or.inr (hw _ m65)) (ty := .int) (by decide)
        have F29_4 : Fld Z h29 b29 z1 "column" "I" (.int (0 : Int32)) := D29 (Or.inr (hw _ m67)) (ty := .int) (by decide)
        have pre4 : ∀ t, Steps p.tables e below (T29.setTop (mkF m 118 #[.val (.int i0), .val (.int i1), .val (.int i2), .val (.int i3), .val (.int i4), .val (.int i5), .val (.int x2), .val (.int x4), .val (.int x7), .val (.int (0 : Int32)), .val (.int x9), .val (.int x13), .val (.int x17), .val (.int x22), .val (.ref c25_0), .val (.ref c28_0), .unset, .unset, .unset] [(.ref b29), (.ref b29)])) t → Steps p.tables e below (s₁.setTop (entryFrame m #[(.int i0), (.int i1), (.int i2), (.int i3), (.int i4), (.int i5)] maxLocals)) t := fun t kt => pre3 _ (by
            refine Own.iload X25.here hx rfl (hb hby at_103) rfl hp2 ?_
            refine XS.iload X25.here hx rfl (hb hby at_105) rfl ?_
            show Steps p.tables e below (T25.setTop (mkF m 107 #[.val (.int i0), .val (.int i1), .val (.int i2), .val (.int i3), .val (.int i4), .val (.int i5), .val (.int x2), .val (.int x4), .val (.int x7), .val (.int (0 : Int32)), .val (.int x9), .val (.int x13), .val (.int x17), .val (.int x22), .val (.ref c25_0), .unset, .unset, .unset, .unset] [(.int x17), (.int (0 : Int32))])) _
            refine XS.iload X25.here hx rfl (hb hby at_107) rfl ?_
            refine st28 _ ?_
            refine XS.astore X28.here hx rfl (hb hby at_112) rfl rfl (l' := #[.val (.int i0), .val (.int i1), .val (.int i2), .val (.int i3), .val (.int i4), .val (.int i5), .val (.int x2), .val (.int x4), .val (.int x7), .val (.int (0 : Int32)), .val (.int x9), .val (.int x13), .val (.int x17), .val (.int x22), .val (.ref c25_0), .val (.ref c28_0), .unset, .unset, .unset]) rfl ?_
            refine st29 _ ?_
            show Steps p.tables e below (T29.setTop (mkF m 117 #[.val (.int i0), .val (.int i1), .val (.int i2), .val (.int i3), .val (.int i4), .val (.int i5), .val (.int x2), .val (.int x4), .val (.int x7), .val (.int (0 : Int32)), .val (.int x9), .val (.int x13), .val (.int x17), .val (.int x22), .val (.ref c25_0), .val (.ref c28_0), .unset, .unset, .unset] [(.ref b29)])) _
            refine XS.dup X29.here hx rfl (hb hby at_117) rfl rfl ?_
            exact kt)
        rcases Decidable.em (x2 = (8 : Int32)) with hp3 | hp3
        · have sf30 := (sf0 : ∀ x ∈ [], Safe Z EL T28.vm h29 x)
          obtain ⟨_, T30, L30, hQ30, X30, st30⟩ := own_callS X29 hx hZ28 (W := 2) hown28 (hw _ m45) (hw _ m46) (hw _ m3) (hw _ m47) (by decide) (rm4 l Z a0 hw hj w0 w1 w2 w3 w4 w5 w6 w7 w8 w9 w10 w11 hS [] h29 n0 O29) e29 (g := (mkF m 120 #[.val (.int i0), .val (.int i1), .val (.int i2), .val (.int i3), .val (.int i4), .val (.int i5), .val (.int x2), .val (.int x4), .val (.int x7), .val (.int (0 : Int32)), .val (.int x9), .val (.int x13), .val (.int x17), .val (.int x22), .val (.ref c25_0), .val (.ref c28_0), .unset, .unset, .unset] [(.int (8 : Int32)), (.ref b29), (.ref b29)])) rfl (by rw [hml]; rfl) (argsL := [(.int (8 : Int32))]) (rest := [(.ref b29), (.ref b29)]) (lenOf pd128 rfl) rfl rfl (by show 2 * 0 + _ ≤ _; exact Nat.le_of_eq rfl) (hb hby at_120) (by decide) (by decide) (by decide) (by decide)
          obtain ⟨rfl, N30q, e30⟩ := hQ30
          have N30 := Fr.app N28 N30q
          have e30' : T30.heap = h29 := e30
          have sf31 := ((sfS (Safe.exa (EL := EL) hZ28.alike A29 (by decide) (by decide)) sf0) : ∀ x ∈ [b29], Safe Z EL T28.vm h29 x)
          obtain ⟨_, T31, L31, hQ31, X31, st31⟩ := own_special X30 hx hZ28 (W := 1) rfl hown28 (hw _ m51) (hw _ m52) (hw _ m44) (hw _ m53) (by decide) (rm6 l Z a0 hw hj w0 w1 w2 w3 w4 w5 w6 w7 w8 w9 w10 w11 hS [] i4 i5 b29 c25_0 h29 n0 O29 A29 F29_1 F29_2 F29_3 F29_4 (Nat.le_trans (own_old_le O28) g29)) e30' (a := b29) (g := (mkF m 129 #[.val (.int i0), .val (.int i1), .val (.int i2), .val (.int i3), .val (.int i4), .val (.int i5), .val (.int x2), .val (.int x4), .val (.int x7), .val (.int (0 : Int32)), .val (.int x9), .val (.int x13), .val (.int x17), .val (.int x22), .val (.ref c25_0), .val (.ref c28_0), .unset, .unset, .unset] [(.int i5), (.int i4), (.ref c25_0), (.ref w8), (.ref b29), (.ref b29)])) rfl (by rw [hml]; rfl) (argsL := [(.ref w8), (.ref c25_0), (.int i4), (.int i5)]) (rest := [(.ref b29)]) (lenOf pd164 rfl) rfl rfl (by show 2 * 0 + _ ≤ _; exact Nat.le_of_eq rfl) (hb hby at_129) (by decide) (by decide) (by decide) (by decide)
          obtain ⟨rfl, N31q, Kq31, q31_0, q31_1, q31_2, q31_3⟩ := hQ31
          have N31 := Fr.app N30 N31q
          have C31 := C29.trans (CHr.keep Kq31 sf31 C29.1)
          have O31 : Old Z n0 T31.heap := O29.keep Kq31 (allS (Nat.le_trans (own_old_le O28) g29) all0)
          have K31 : Keep h0 T31.heap [] := K29.trans Kq31 (allS (Or.inr (Nat.le_trans K28.1 g29)) all0)
          have f33 : Exa Z T31.heap c28_0 z0 := ((q28_0.ext E29).keep Kq31)
          have ne34 : c25_0 ≠ b29 := (Nat.ne_of_lt (Nat.lt_of_lt_of_le (Nat.lt_of_lt_of_le q25_0.lt Kq28.1) g29))
          have f35 : Fld Z T31.heap c25_0 z0 "coder" "B" (.int (0 : Int32)) := (((q25_2.keep Kq28 nin0).ext E29).keep Kq31 (ninS ne34 nin0))
          have f36 : Fld Z T31.heap c28_0 z0 "coder" "B" (.int (0 : Int32)) := ((q28_2.ext E29).keep Kq31 (ninS (Nat.ne_of_lt (Nat.lt_of_lt_of_le q28_0.lt g29)) nin0))
          have f37 : Fld Z T31.heap c25_0 z0 "value" "[B" (.ref c25_1) := (((q25_1.keep Kq28 nin0).ext E29).keep Kq31 (ninS ne34 nin0))
          have f38 : Fld Z T31.heap c28_0 z0 "value" "[B" (.ref c28_1) := ((q28_1.ext E29).keep Kq31 (ninS (Nat.ne_of_lt (Nat.lt_of_lt_of_le q28_0.lt g29)) nin0))
          have ne39 : c25_1 ≠ b29 := (Nat.ne_of_lt (Nat.lt_of_lt_of_le (Nat.lt_of_lt_of_le q25_3.lt Kq28.1) g29))
          have f40 : Arv Z T31.heap c25_1 k25_2 .byte (2 : Int32) [(.int (x9.toInt8.toInt32)), (.int (x13.toInt8.toInt32))] (.int (0 : Int32)) := (((q25_3.keep Kq28 nin0).ext E29).keep Kq31 (ninS ne39 nin0))
          have f41 : Arv Z T31.heap c28_1 k28_2 .byte (0 : Int32) [] (.int (0 : Int32)) := ((q28_3.ext E29).keep Kq31 (ninS (Nat.ne_of_lt (Nat.lt_of_lt_of_le q28_3.lt g29)) nin0))
          have f42 : Exa Z T31.heap c25_0 z0 := (((q25_0.keep Kq28).ext E29).keep Kq31)
          have sf32 := (sf0 : ∀ x ∈ [], Safe Z EL T28.vm T31.heap x)
          have f43 : Exa Z T31.heap b29 z1 := (A29.keep Kq31)
          obtain ⟨_, T32, L32, hQ32, X32, st32⟩ := own_virtual X31 hx hZ28 (W := 0) hown28 (hw _ m68) (hw _ m69) (notFace_of_selects (args := #[]) (mvT hZ28 (hw _ m71))) (hw _ m71) (hw _ m70) (hw _ m44) (hw _ m72) (by decide) (rm43 l Z a0 hw hj w0 w1 w2 w3 w4 w5 w6 w7 w8 w9 w10 w11 hS [] b29 c28_0 c25_0 (x9.toInt8.toInt32) (x13.toInt8.toInt32) c25_1 c28_1 k25_2 k28_2 T31.heap n0 O31 q31_0 q31_1 (Nat.ne_of_lt (Nat.lt_of_lt_of_le q25_0.lt lo28_0)) f33 f35 f36 f37 f38 f40 f41 f42) (rfl : T31.heap = T31.heap) f43 (g := (mkF m 138 #[.val (.int i0), .val (.int i1), .val (.int i2), .val (.int i3), .val (.int i4), .val (.int i5), .val (.int x2), .val (.int x4), .val (.int x7), .val (.int (0 : Int32)), .val (.int x9), .val (.int x13), .val (.int x17), .val (.int x22), .val (.ref c25_0), .val (.ref c28_0), .val (.ref b29), .unset, .unset] [(.ref c28_0), (.ref b29)])) rfl (by rw [hml]; rfl) (argsL := [(.ref c28_0)]) (rest := []) (lenOf pd235 rfl) rfl rfl (by show 2 * 0 + _ ≤ _; exact Nat.le_of_eq rfl) (hb hby at_138) (by decide) (by decide) (by decide) (by decide)
          obtain ⟨rfl, N32q, e32⟩ := hQ32
          have N32 := Fr.app N31 N32q
          have e32' : T32.heap = T31.heap := e32
          obtain ⟨fs, hr, hrun, hended, hRW⟩ := X32.leaveW hS28 (by rw [e32']; exact (Nat.le_trans (Nat.le_refl _) (Nat.le_trans E29.1 Kq31.1))) (v := some (.int (1 : Int32))) (fun h => by rw [Bd.returns] at h; cases h)
          refine ⟨_, _, pre4 _ ?_, hrun, hended, _, _, rfl, ?_, own_rwm hRW (by decide) (by decide)⟩
          · refine Own.iload X29.here hx rfl (hb hby at_118) rfl hp3 ?_
            refine st30 _ ?_
            refine XS.aload X30.here hx rfl (hb hby at_123) rfl rfl ?_
            show Steps p.tables e below (T30.setTop (mkF m 125 #[.val (.int i0), .val (.int i1), .val (.int i2), .val (.int i3), .val (.int i4), .val (.int i5), .val (.int x2), .val (.int x4), .val (.int x7), .val (.int (0 : Int32)), .val (.int x9), .val (.int x13), .val (.int x17), .val (.int x22), .val (.ref c25_0), .val (.ref c28_0), .unset, .unset, .unset] [(.ref c25_0), (.ref w8), (.ref b29), (.ref b29)])) _
            refine XS.iload X30.here hx rfl (hb hby at_125) rfl ?_
            refine XS.iload X30.here hx rfl (hb hby at_127) rfl ?_
            refine st31 _ ?_
            refine XS.astore X31.here hx rfl (hb hby at_132) rfl rfl (l' := #[.val (.int i0), .val (.int i1), .val (.int i2), .val (.int i3), .val (.int i4), .val (.int i5), .val (.int x2), .val (.int x4), .val (.int x7), .val (.int (0 : Int32)), .val (.int x9), .val (.int x13), .val (.int x17), .val (.int x22), .val (.ref c25_0), .val (.ref c28_0), .val (.ref b29), .unset, .unset]) rfl ?_
            show Steps p.tables e below (T31.setTop (mkF m 134 #[.val (.int i0), .val (.int i1), .val (.int i2), .val (.int i3), .val (.int i4), .val (.int i5), .val (.int x2), .val (.int x4), .val (.int x7), .val (.int (0 : Int32)), .val (.int x9), .val (.int x13), .val (.int x17), .val (.int x22), .val (.ref c25_0), .val (.ref c28_0), .val (.ref b29), .unset, .unset] [])) _
            refine XS.aload X31.here hx rfl (hb hby at_134) rfl rfl ?_
            refine XS.aload X31.here hx rfl (hb hby at_136) rfl rfl ?_
            refine st32 _ ?_
            refine XS.istore X32.here hx rfl (hb hby at_141) rfl (l' := #[.val (.int i0), .val (.int i1), .val (.int i2), .val (.int i3), .val (.int i4), .val (.int i5), .val (.int x2), .val (.int x4), .val (.int x7), .val (.int (0 : Int32)), .val (.int x9), .val (.int x13), .val (.int x17), .val (.int x22), .val (.ref c25_0), .val (.ref c28_0), .val (.ref b29), .val (.int (0 : Int32)), .unset]) rfl ?_
            show Steps p.tables e below (T32.setTop (mkF m 143 #[.val (.int i0), .val (.int i1), .val (.int i2), .val (.int i3), .val (.int i4), .val (.int i5), .val (.int x2), .val (.int x4), .val (.int x7), .val (.int (0 : Int32)), .val (.int x9), .val (.int x13), .val (.int x17), .val (.int x22), .val (.ref c25_0), .val (.ref c28_0), .val (.ref b29), .val (.int (0 : Int32)), .unset] [])) _
            refine Own.iload X32.here hx rfl (hb hby at_143) rfl hp3 ?_
            refine XS.bipush X32.here hx rfl (hb hby at_145) ?_
            refine XS.icmpNo X32.here hx rfl (hb hby at_147) rfl (teq (by decide : (8 : Int32) = (8 : Int32))).2 ?_
            refine XS.iload X32.here hx rfl (hb hby at_150) rfl ?_
            show Steps p.tables e below (T32.setTop (mkF m 152 #[.val (.int i0), .val (.int i1), .val (.int i2), .val (.int i3), .val (.int i4), .val (.int i5), .val (.int x2), .val (.int x4), .val (.int x7), .val (.int (0 : Int32)), .val (.int x9), .val (.int x13), .val (.int x17), .val (.int x22), .val (.ref c25_0), .val (.ref c28_0), .val (.ref b29), .val (.int (0 : Int32)), .unset] [(.int (0 : Int32))])) _
            refine XS.ifNo X32.here hx rfl (hb hby at_152) rfl ((if0 _ _).trans (teq (by decide : (0 : Int32) = (0 : Int32))).2) ?_
            refine Own.iload X32.here hx rfl (hb hby at_155) rfl hp1 ?_
            refine Own.iload X32.here hx rfl (hb hby at_157) rfl hp2 ?_
            refine XS.icmpYes X32.here hx rfl (pc0 := 159) (pc' := 192) rfl (hb hby at_159) rfl (feq (by decide : ¬ ((2 : Int32) = (0 : Int32)))).2 (by decide) (by decide) ?_
            show Steps p.tables e below (T32.setTop (mkF m 192 #[.val (.int i0), .val (.int i1), .val (.int i2), .val (.int i3), .val (.int i4), .val (.int i5), .val (.int x2), .val (.int x4), .val (.int x7), .val (.int (0 : Int32)), .val (.int x9), .val (.int x13), .val (.int x17), .val (.int x22), .val (.ref c25_0), .val (.ref c28_0), .val (.ref b29), .val (.int (0 : Int32)), .unset] [])) _
            refine XS.iconst X32.here hx rfl (hb hby at_192) ?_
            refine XS.istore X32.here hx rfl (hb hby at_193) rfl (l' := #[.val (.int i0), .val (.int i1), .val (.int i2), .val (.int i3), .val (.int i4), .val (.int i5), .val (.int x2), .val (.int x4), .val (.int x7), .val (.int (0 : Int32)), .val (.int x9), .val (.int x13), .val (.int x17), .val (.int x22), .val (.ref c25_0), .val (.ref c28_0), .val (.ref b29), .val (.int (0 : Int32)), .val (.int (0 : Int32))]) rfl ?_
            refine XS.iload X32.here hx rfl (hb hby at_195) rfl ?_
            refine XS.iload X32.here hx rfl (hb hby at_197) rfl ?_
            show Steps p.tables e below (T32.setTop (mkF m 199 #[.val (.int i0), .val (.int i1), .val (.int i2), .val (.int i3), .val (.int i4), .val (.int i5), .val (.int x2), .val (.int x4), .val (.int x7), .val (.int (0 : Int32)), .val (.int x9), .val (.int x13), .val (.int x17), .val (.int x22), .val (.ref c25_0), .val (.ref c28_0), .val (.ref b29), .val (.int (0 : Int32)), .val (.int (0 : Int32))] [(.int (0 : Int32)), (.int (0 : Int32))])) _
            refine XS.icmpNo X32.here hx rfl (hb hby at_199) rfl (teq (by decide : (0 : Int32) = (0 : Int32))).2 ?_
            refine XS.iconst X32.here hx rfl (hb hby at_202) ?_
            refine XS.goto X32.here hx rfl (pc0 := 203) (pc' := 207) rfl (hb hby at_203) (by decide) (by decide) ?_
            exact retN X32 hx (t := .boolean) Bd.returns (by simp) (hb hby at_207) hr
          · show QL n0 _ T32.heap _
            exact ⟨rfl, N32⟩
        · have hd30 : ¬ (x2 < (0 : Int32)) := (by have q0 := rx2; have q1 := (by decide : ((0 : Int32)).toInt = 0); exact own_ltF (by omega) : ¬ (x2 < (0 : Int32)))
          have hd31 : ¬ ((9 : Int32) < x2) := (by have q0 := (by decide : ((9 : Int32)).toInt = 9); have q1 := rx2; exact own_ltF (by omega) : ¬ ((9 : Int32) < x2))
          obtain ⟨_, T32, L32, ⟨z32, rfl, N32q, hz32_0, hz32_1, e32⟩, X32, st32⟩ := own_callS X29 hx hZ28 (W := 2) hown28 (hw _ m45) (hw _ m46) (hw _ m3) (hw _ m47) (by decide) (jm0 l Z a0 hw hj w0 w1 w2 w3 w4 w5 w6 w7 w8 w9 w10 w11 hS [] x2 h29 n0 O29 hd30 hd31 hp3) e29 (g := (mkF m 120 #[.val (.int i0), .val (.int i1), .val (.int i2), .val (.int i3), .val (.int i4), .val (.int i5), .val (.int x2), .val (.int x4), .val (.int x7), .val (.int (0 : Int32)), .val (.int x9), .val (.int x13), .val (.int x17), .val (.int x22), .val (.ref c25_0), .val (.ref c28_0), .unset, .unset, .unset] [(.int x2), (.ref b29), (.ref b29)])) rfl (by rw [hml]; rfl) (argsL := [(.int x2)]) (rest := [(.ref b29), (.ref b29)]) (lenOf pd128 rfl) rfl rfl (by show 2 * 0 + _ ≤ _; exact Nat.le_of_eq rfl) (hb hby at_120) (by decide) (by decide) (by decide) (by decide)
          have N32 := Fr.app N28 N32q
          have e32' : T32.heap = h29 := e32
          have sf33 := ((sfS (Safe.exa (EL := EL) hZ28.alike A29 (by decide) (by decide)) sf0) : ∀ x ∈ [b29], Safe Z EL T28.vm h29 x)
          obtain ⟨_, T33, L33, hQ33, X33, st33⟩ := own_special X32 hx hZ28 (W := 1) rfl hown28 (hw _ m51) (hw _ m52) (hw _ m44) (hw _ m53) (by decide) (rm10 l Z a0 hw hj w0 w1 w2 w3 w4 w5 w6 w7 w8 w9 w10 w11 hS [] i4 i5 b29 z32 c25_0 h29 n0 O29 A29 F29_1 F29_2 F29_3 F29_4 (Nat.le_trans (own_old_le O28) g29)) e32' (a := b29) (g := (mkF m 129 #[.val (.int i0), .val (.int i1), .val (.int i2), .val (.int i3), .val (.int i4), .val (.int i5), .val (.int x2), .val (.int x4), .val (.int x7), .val (.int (0 : Int32)), .val (.int x9), .val (.int x13), .val (.int x17), .val (.int x22), .val (.ref c25_0), .val (.ref c28_0), .unset, .unset, .unset] [(.int i5), (.int i4), (.ref c25_0), (.ref z32), (.ref b29), (.ref b29)])) rfl (by rw [hml]; rfl) (argsL := [(.ref z32), (.ref c25_0), (.int i4), (.int i5)]) (rest := [(.ref b29)]) (lenOf pd164 rfl) rfl rfl (by show 2 * 0 + _ ≤ _; exact Nat.le_of_eq rfl) (hb hby at_129) (by decide) (by decide) (by decide) (by decide)
          obtain ⟨rfl, N33q, Kq33, q33_0, q33_1, q33_2, q33_3⟩ := hQ33
          have N33 := Fr.app N32 N33q
          have C33 := C29.trans (CHr.keep Kq33 sf33 C29.1)
          have O33 : Old Z n0 T33.heap := O29.keep Kq33 (allS (Nat.le_trans (own_old_le O28) g29) all0)
          have K33 : Keep h0 T33.heap [] := K29.trans Kq33 (allS (Or.inr (Nat.le_trans K28.1 g29)) all0)
          have sf34 := (sf0 : ∀ x ∈ [], Safe Z EL T28.vm T33.heap x)
          have f35 : Exa Z T33.heap b29 z1 := (A29.keep Kq33)
          obtain ⟨_, T34, L34, hQ34, X34, st34⟩ := own_virtual X33 hx hZ28 (W := 0) hown28 (hw _ m68) (hw _ m69) (notFace_of_selects (args := #[]) (mvT hZ28 (hw _ m71))) (hw _ m71) (hw _ m70) (hw _ m44) (hw _ m72) (by decide) (rm11 l Z a0 hw hj w0 w1 w2 w3 w4 w5 w6 w7 w8 w9 w10 w11 hS [] b29 c28_0 z32 T33.heap n0 O33 q33_0 hz32_1) (rfl : T33.heap = T33.heap) f35 (g := (mkF m 138 #[.val (.int i0), .val (.int i1), .val (.int i2), .val (.int i3), .val (.int i4), .val (.int i5), .val (.int x2), .val (.int x4), .val (.int x7), .val (.int (0 : Int32)), .val (.int x9), .val (.int x13), .val (.int x17), .val (.int x22), .val (.ref c25_0), .val (.ref c28_0), .val (.ref b29), .unset, .unset] [(.ref c28_0), (.ref b29)])) rfl (by rw [hml]; rfl) (argsL := [(.ref c28_0)]) (rest := []) (lenOf pd235 rfl) rfl rfl (by show 2 * 0 + _ ≤ _; exact Nat.le_of_eq rfl) (hb hby at_138) (by decide) (by decide) (by decide) (by decide)
          obtain ⟨rfl, N34q, e34⟩ := hQ34
          have N34 := Fr.app N33 N34q
          have e34' : T34.heap = T33.heap := e34
          obtain ⟨fs, hr, hrun, hended, hRW⟩ := X34.leaveW hS28 (by rw [e34']; exact (Nat.le_trans (Nat.le_refl _) (Nat.le_trans E29.1 Kq33.1))) (v := some (.int (1 : Int32))) (fun h => by rw [Bd.returns] at h; cases h)
          refine ⟨_, _, pre4 _ ?_, hrun, hended, _, _, rfl, ?_, own_rwm hRW (by decide) (by decide)⟩
          · refine XS.iload X29.here hx rfl (hb hby at_118) rfl ?_
            refine st32 _ ?_
            refine XS.aload X32.here hx rfl (hb hby at_123) rfl rfl ?_
            show Steps p.tables e below (T32.setTop (mkF m 125 #[.val (.int i0), .val (.int i1), .val (.int i2), .val (.int i3), .val (.int i4), .val (.int i5), .val (.int x2), .val (.int x4), .val (.int x7), .val (.int (0 : Int32)), .val (.int x9), .val (.int x13), .val (.int x17), .val (.int x22), .val (.ref c25_0), .val (.ref c28_0), .unset, .unset, .unset] [(.ref c25_0), (.ref z32), (.ref b29), (.ref b29)])) _
            refine XS.iload X32.here hx rfl (hb hby at_125) rfl ?_
            refine XS.iload X32.here hx rfl (hb hby at_127) rfl ?_
            refine st33 _ ?_
            refine XS.astore X33.here hx rfl (hb hby at_132) rfl rfl (l' := #[.val (.int i0), .val (.int i1), .val (.int i2), .val (.int i3), .val (.int i4), .val (.int i5), .val (.int x2), .val (.int x4), .val (.int x7), .val (.int (0 : Int32)), .val (.int x9), .val (.int x13), .val (.int x17), .val (.int x22), .val (.ref c25_0), .val (.ref c28_0), .val (.ref b29), .unset, .unset]) rfl ?_
            show Steps p.tables e below (T33.setTop (mkF m 134 #[.val (.int i0), .val (.int i1), .val (.int i2), .val (.int i3), .val (.int i4), .val (.int i5), .val (.int x2), .val (.int x4), .val (.int x7), .val (.int (0 : Int32)), .val (.int x9), .val (.int x13), .val (.int x17), .val (.int x22), .val (.ref c25_0), .val (.ref c28_0), .val (.ref b29), .unset, .unset] [])) _
            refine XS.aload X33.here hx rfl (hb hby at_134) rfl rfl ?_
            refine XS.aload X33.here hx rfl (hb hby at_136) rfl rfl ?_
            refine st34 _ ?_
            refine XS.istore X34.here hx rfl (hb hby at_141) rfl (l' := #[.val (.int i0), .val (.int i1), .val (.int i2), .val (.int i3), .val (.int i4), .val (.int i5), .val (.int x2), .val (.int x4), .val (.int x7), .val (.int (0 : Int32)), .val (.int x9), .val (.int x13), .val (.int x17), .val (.int x22), .val (.ref c25_0), .val (.ref c28_0), .val (.ref b29), .val (.int (0 : Int32)), .unset]) rfl ?_
            show Steps p.tables e below (T34.setTop (mkF m 143 #[.val (.int i0), .val (.int i1), .val (.int i2), .val (.int i3), .val (.int i4), .val (.int i5), .val (.int x2), .val (.int x4), .val (.int x7), .val (.int (0 : Int32)), .val (.int x9), .val (.int x13), .val (.int x17), .val (.int x22), .val (.ref c25_0), .val (.ref c28_0), .val (.ref b29), .val (.int (0 : Int32)), .unset] [])) _
            refine XS.iload X34.here hx rfl (hb hby at_143) rfl ?_
            refine XS.bipush X34.here hx rfl (hb hby at_145) ?_
            refine XS.icmpYes X34.here hx rfl (pc0 := 147) (pc' := 192) rfl (hb hby at_147) rfl (feq hp3).2 (by decide) (by decide) ?_
            refine XS.iconst X34.here hx rfl (hb hby at_192) ?_
            show Steps p.tables e below (T34.setTop (mkF m 193 #[.val (.int i0), .val (.int i1), .val (.int i2), .val (.int i3), .val (.int i4), .val (.int i5), .val (.int x2), .val (.int x4), .val (.int x7), .val (.int (0 : Int32)), .val (.int x9), .val (.int x13), .val (.int x17), .val (.int x22), .val (.ref c25_0), .val (.ref c28_0), .val (.ref b29), .val (.int (0 : Int32)), .unset] [(.int (0 : Int32))])) _
            refine XS.istore X34.here hx rfl (hb hby at_193) rfl (l' := #[.val (.int i0), .val (.int i1), .val (.int i2), .val (.int i3), .val (.int i4), .val (.int i5), .val (.int x2), .val (.int x4), .val (.int x7), .val (.int (0 : Int32)), .val (.int x9), .val (.int x13), .val (.int x17), .val (.int x22), .val (.ref c25_0), .val (.ref c28_0), .val (.ref b29), .val (.int (0 : Int32)), .val (.int (0 : Int32))]) rfl ?_
            refine XS.iload X34.here hx rfl (hb hby at_195) rfl ?_
            refine XS.iload X34.here hx rfl (hb hby at_197) rfl ?_
            refine XS.icmpNo X34.here hx rfl (hb hby at_199) rfl (teq (by decide : (0 : Int32) = (0 : Int32))).2 ?_
            show Steps p.tables e below (T34.setTop (mkF m 202 #[.val (.int i0), .val (.int i1), .val (.int i2), .val (.int i3), .val (.int i4), .val (.int i5), .val (.int x2), .val (.int x4), .val (.int x7), .val (.int (0 : Int32)), .val (.int x9), .val (.int x13), .val (.int x17), .val (.int x22), .val (.ref c25_0), .val (.ref c28_0), .val (.ref b29), .val (.int (0 : Int32)), .val (.int (0 : Int32))] [])) _
            refine XS.iconst X34.here hx rfl (hb hby at_202) ?_
            refine XS.goto X34.here hx rfl (pc0 := 203) (pc' := 207) rfl (hb hby at_203) (by decide) (by decide) ?_
            exact retN X34 hx (t := .boolean) Bd.returns (by simp) (hb hby at_207) hr
          · show QL n0 _ T34.heap _
            exact ⟨rfl, N34⟩
      · have hd29 : ¬ ((255 : Int32) < x17) := (by have q0 := (by decide : ((255 : Int32)).toInt = 255); have q1 := rx17; exact own_ltF (by omega) : ¬ ((255 : Int32) < x17))
        have sf28 := (sf0 : ∀ x ∈ [], Safe Z EL s.vm T25.heap x)
        obtain ⟨_, T28, L28, hQ28, X28, st28⟩ := own_callS X25 hx hZ (W := 0) hown (hw _ m1) (hw _ m2) (hw _ m3) (hw _ m4) (by decide) (rm16 l Z a0 hw hj w0 w1 w2 w3 w4 w5 w6 w7 w8 w9 w10 w11 hS [] x17 x22 T25.heap n0 O25 hd29) (rfl : T25.heap = T25.heap) (g := (mkF m 109 #[.val (.int i0), .val (.int i1), .val (.int i2), .val (.int i3), .val (.int i4), .val (.int i5), .val (.int x2), .val (.int x4), .val (.int x7), .val (.int (0 : Int32)), .val (.int x9), .val (.int x13), .val (.int x17), .val (.int x22), .val (.ref c25_0), .unset, .unset, .unset, .unset] [(.int x22), (.int x17), (.int (1 : Int32))])) rfl (by rw [hml]; rfl) (argsL := [(.int (1 : Int32)), (.int x17), (.int x22)]) (rest := []) (lenOf pd114 rfl) rfl rfl (by show 2 * 0 + _ ≤ _; exact Nat.le_of_eq rfl) (hb hby at_109) (by decide) (by decide) (by decide) (by decide)
        obtain ⟨c28_0, c28_1, k28_2, rfl, N28q, Kq28, lo28_0, lo28_1, q28_0, q28_1, q28_2, q28_3⟩ := hQ28
        have N28 := Fr.app N25 N28q
        have C28 := C25.trans (CHr.keep Kq28 sf28 C25.1)
        have O28 : Old Z n0 T28.heap := O25.keep Kq28 all0
        have K28 : Keep h0 T28.heap [] := K25.trans Kq28 all0
        obtain ⟨T30, h30, b30, X30, e30, E30, A30, D30, g30, O30, K30, st30⟩ := own_newO X28 hx hZ hown (hw _ m42) (hw _ m43) (hw _ m44) (rfl : T28.heap = T28.heap) O28 K28 (g := (mkF m 114 #[.val (.int i0), .val (.int i1), .val (.int i2), .val (.int i3), .val (.int i4), .val (.int i5), .val (.int x2), .val (.int x4), .val (.int x7), .val (.int (0 : Int32)), .val (.int x9), .val (.int x13), .val (.int x17), .val (.int x22), .val (.ref c25_0), .val (.ref c28_0), .unset, .unset, .unset] [])) rfl (hb hby at_114) (by decide) (by decide)
        have C30 := C28.trans (CHr.ext E30 C28.1)
        have F30_1 : Fld Z h30 b30 z1 "type" z3 .null := D30 (Or.inr (hw _ m61)) (ty := (.object z2)) (by decide)
        have F30_2 : Fld Z h30 b30 z1 "text" z8 .null := D30 (Or.inr (hw _ m63)) (ty := (.object z0)) (by decide)
        have F30_3 : Fld Z h30 b30 z1 "line" "I" (.int (0 : Int32)) := D30 (Or.inr (hw _ m65)) (ty := .int) (by decide)
        have F30_4 : Fld Z h30 b30 z1 "column" "I" (.int (0 : Int32)) := D30 (Or.inr (hw _ m67)) (ty := .int) (by decide)
        have pre4 : ∀ t, Steps p.tables e below (T30.setTop (mkF m 118 #[.val (.int i0), .val (.int i1), .val (.int i2), .val (.int i3), .val (.int i4), .val (.int i5), .val (.int x2), .val (.int x4), .val (.int x7), .val (.int (0 : Int32)), .val (.int x9), .val (.int x13), .val (.int x17), .val (.int x22), .val (.ref c25_0), .val (.ref c28_0), .unset, .unset, .unset] [(.ref b30), (.ref b30)])) t → Steps p.tables e below (s₁.setTop (entryFrame m #[(.int i0), (.int i1), (.int i2), (.int i3), (.int i4), (.int i5)] maxLocals)) t := fun t kt => pre3 _ (by
            refine Own.iload X25.here hx rfl (hb hby at_103) rfl hp2 ?_
            refine XS.iload X25.here hx rfl (hb hby at_105) rfl ?_
            show Steps p.tables e below (T25.setTop (mkF m 107 #[.val (.int i0), .val (.int i1), .val (.int i2), .val (.int i3), .val (.int i4), .val (.int i5), .val (.int x2), .val (.int x4), .val (.int x7), .val (.int (0 : Int32)), .val (.int x9), .val (.int x13), .val (.int x17), .val (.int x22), .val (.ref c25_0), .unset, .unset, .unset, .unset] [(.int x17), (.int (1 : Int32))])) _
            refine XS.iload X25.here hx rfl (hb hby at_107) rfl ?_
            refine st28 _ ?_
            refine XS.astore X28.here hx rfl (hb hby at_112) rfl rfl (l' := #[.val (.int i0), .val (.int i1), .val (.int i2), .val (.int i3), .val (.int i4), .val (.int i5), .val (.int x2), .val (.int x4), .val (.int x7), .val (.int (0 : Int32)), .val (.int x9), .val (.int x13), .val (.int x17), .val (.int x22), .val (.ref c25_0), .val (.ref c28_0), .unset, .unset, .unset]) rfl ?_
            refine st30 _ ?_
            show Steps p.tables e below (T30.setTop (mkF m 117 #[.val (.int i0), .val (.int i1), .val (.int i2), .val (.int i3), .val (.int i4), .val (.int i5), .val (.int x2), .val (.int x4), .val (.int x7), .val (.int (0 : Int32)), .val (.int x9), .val (.int x13), .val (.int x17), .val (.int x22), .val (.ref c25_0), .val (.ref c28_0), .unset, .unset, .unset] [(.ref b30)])) _
            refine XS.dup X30.here hx rfl (hb hby at_117) rfl rfl ?_
            exact kt)
        rcases Decidable.em (x2 = (8 : Int32)) with hp3 | hp3
        · have sf31 := (sf0 : ∀ x ∈ [], Safe Z EL s.vm h30 x)
          obtain ⟨_, T31, L31, hQ31, X31, st31⟩ := own_callS X30 hx hZ (W := 2) hown (hw _ m45) (hw _ m46) (hw _ m3) (hw _ m47) (by decide) (rm4 l Z a0 hw hj w0 w1 w2 w3 w4 w5 w6 w7 w8 w9 w10 w11 hS [] h30 n0 O30) e30 (g := (mkF m 120 #[.val (.int i0), .val (.int i1), .val (.int i2), .val (.int i3), .val (.int i4), .val (.int i5), .val (.int x2), .val (.int x4), .val (.int x7), .val (.int (0 : Int32)), .val (.int x9), .val (.int x13), .val (.int x17), .val (.int x22), .val (.ref c25_0), .val (.ref c28_0), .unset, .unset, .unset] [(.int (8 : Int32)), (.ref b30), (.ref b30)])) rfl (by rw [hml]; rfl) (argsL := [(.int (8 : Int32))]) (rest := [(.ref b30), (.ref b30)]) (lenOf pd128 rfl) rfl rfl (by show 2 * 0 + _ ≤ _; exact Nat.le_of_eq rfl) (hb hby at_120) (by decide) (by decide) (by decide) (by decide)
          obtain ⟨rfl, N31q, e31⟩ := hQ31
          have N31 := Fr.app N28 N31q
          have e31' : T31.heap = h30 := e31
          have sf32 := ((sfS (Safe.exa (EL := EL) hZ.alike A30 (by decide) (by decide)) sf0) : ∀ x ∈ [b30], Safe Z EL s.vm h30 x)
          obtain ⟨_, T32, L32, hQ32, X32, st32⟩ := own_special X31 hx hZ (W := 1) rfl hown (hw _ m51) (hw _ m52) (hw _ m44) (hw _ m53) (by decide) (rm6 l Z a0 hw hj w0 w1 w2 w3 w4 w5 w6 w7 w8 w9 w10 w11 hS [] i4 i5 b30 c25_0 h30 n0 O30 A30 F30_1 F30_2 F30_3 F30_4 (Nat.le_trans (own_old_le O28) g30)) e31' (a := b30) (g := (mkF m 129 #[.val (.int i0), .val (.int i1), .val (.int i2), .val (.int i3), .val (.int i4), .val (.int i5), .val (.int x2), .val (.int x4), .val (.int x7), .val (.int (0 : Int32)), .val (.int x9), .val (.int x13), .val (.int x17), .val (.int x22), .val (.ref c25_0), .val (.ref c28_0), .unset, .unset, .unset] [(.int i5), (.int i4), (.ref c25_0), (.ref w8), (.ref b30), (.ref b30)])) rfl (by rw [hml]; rfl) (argsL := [(.ref w8), (.ref c25_0), (.int i4), (.int i5)]) (rest := [(.ref b30)]) (lenOf pd164 rfl) rfl rfl (by show 2 * 0 + _ ≤ _; exact Nat.le_of_eq rfl) (hb hby at_129) (by decide) (by decide) (by decide) (by decide)
          obtain ⟨rfl, N32q, Kq32, q32_0, q32_1, q32_2, q32_3⟩ := hQ32
          have N32 := Fr.app N31 N32q
          have C32 := C30.trans (CHr.keep Kq32 sf32 C30.1)
          have O32 : Old Z n0 T32.heap := O30.keep Kq32 (allS (Nat.le_trans (own_old_le O28) g30) all0)
          have K32 : Keep h0 T32.heap [] := K30.trans Kq32 (allS (Or.inr (Nat.le_trans K28.1 g30)) all0)
          have f34 : Exa Z T32.heap c28_0 z0 := ((q28_0.ext E30).keep Kq32)
          have ne35 : c25_0 ≠ b30 := (Nat.ne_of_lt (Nat.lt_of_lt_of_le (Nat.lt_of_lt_of_le q25_0.lt Kq28.1) g30))
          have f36 : Fld Z T32.heap c25_0 z0 "coder" "B" (.int (0 : Int32)) := (((q25_2.keep Kq28 nin0).ext E30).keep Kq32 (ninS ne35 nin0))
          have f37 : Fld Z T32.heap c28_0 z0 "coder" "B" (.int (0 : Int32)) := ((q28_2.ext E30).keep Kq32 (ninS (Nat.ne_of_lt (Nat.lt_of_lt_of_le q28_0.lt g30)) nin0))
          have f38 : Fld Z T32.heap c25_0 z0 "value" "[B" (.ref c25_1) := (((q25_1.keep Kq28 nin0).ext E30).keep Kq32 (ninS ne35 nin0))
          have f39 : Fld Z T32.heap c28_0 z0 "value" "[B" (.ref c28_1) := ((q28_1.ext E30).keep Kq32 (ninS (Nat.ne_of_lt (Nat.lt_of_lt_of_le q28_0.lt g30)) nin0))
          have ne40 : c25_1 ≠ b30 := (Nat.ne_of_lt (Nat.lt_of_lt_of_le (Nat.lt_of_lt_of_le q25_3.lt Kq28.1) g30))
          have f41 : Arv Z T32.heap c25_1 k25_2 .byte (2 : Int32) [(.int (x9.toInt8.toInt32)), (.int (x13.toInt8.toInt32))] (.int (0 : Int32)) := (((q25_3.keep Kq28 nin0).ext E30).keep Kq32 (ninS ne40 nin0))
          have f42 : Arv Z T32.heap c28_1 k28_2 .byte (1 : Int32) [(.int (x17.toInt8.toInt32))] (.int (0 : Int32)) := ((q28_3.ext E30).keep Kq32 (ninS (Nat.ne_of_lt (Nat.lt_of_lt_of_le q28_3.lt g30)) nin0))
          have f43 : Exa Z T32.heap c25_0 z0 := (((q25_0.keep Kq28).ext E30).keep Kq32)
          have sf33 := (sf0 : ∀ x ∈ [], Safe Z EL s.vm T32.heap x)
          have f44 : Exa Z T32.heap b30 z1 := (A30.keep Kq32)
          obtain ⟨_, T33, L33, hQ33, X33, st33⟩ := own_virtual X32 hx hZ (W := 0) hown (hw _ m68) (hw _ m69) (notFace_of_selects (args := #[]) (mvT hZ (hw _ m71))) (hw _ m71) (hw _ m70) (hw _ m44) (hw _ m72) (by decide) (rm46 l Z a0 hw hj w0 w1 w2 w3 w4 w5 w6 w7 w8 w9 w10 w11 hS [] b30 c28_0 c25_0 (x9.toInt8.toInt32) (x13.toInt8.toInt32) (x17.toInt8.toInt32) c25_1 c28_1 k25_2 k28_2 T32.heap n0 O32 q32_0 q32_1 (Nat.ne_of_lt (Nat.lt_of_lt_of_le q25_0.lt lo28_0)) f34 f36 f37 f38 f39 f41 f42 f43) (rfl : T32.heap = T32.heap) f44 (g := (mkF m 138 #[.val (.int i0), .val (.int i1), .val (.int i2), .val (.int i3), .val (.int i4), .val (.int i5), .val (.int x2), .val (.int x4), .val (.int x7), .val (.int (0 : Int32)), .val (.int x9), .val (.int x13), .val (.int x17), .val (.int x22), .val (.ref c25_0), .val (.ref c28_0), .val (.ref b30), .unset, .unset] [(.ref c28_0), (.ref b30)])) rfl (by rw [hml]; rfl) (argsL := [(.ref c28_0)]) (rest := []) (lenOf pd235 rfl) rfl rfl (by show 2 * 0 + _ ≤ _; exact Nat.le_of_eq rfl) (hb hby at_138) (by decide) (by decide) (by decide) (by decide)
          obtain ⟨rfl, N33q, e33⟩ := hQ33
          have N33 := Fr.app N32 N33q
          have e33' : T33.heap = T32.heap := e33
          obtain ⟨fs, hr, hrun, hended, hRW⟩ := X33.leaveW hS0 (by rw [e33']; exact (Nat.le_trans (Nat.le_refl _) (Nat.le_trans (Nat.le_trans (Nat.le_trans Kq25.1 Kq28.1) E30.1) Kq32.1))) (v := some (.int (1 : Int32))) (fun h => by rw [Bd.returns] at h; cases h)
          refine ⟨_, _, pre4 _ ?_, hrun, hended, _, _, rfl, ?_, own_rwm hRW (by decide) (by decide)⟩
          · refine Own.iload X30.here hx rfl (hb hby at_118) rfl hp3 ?_
            refine st31 _ ?_
            refine XS.aload X31.here hx rfl (hb hby at_123) rfl rfl ?_
            show Steps p.tables e below (T31.setTop (mkF m 125 #[.val (.int i0), .val (.int i1), .val (.int i2), .val (.int i3), .val (.int i4), .val (.int i5), .val (.int x2), .val (.int x4), .val (.int x7), .val (.int (0 : Int32)), .val (.int x9), .val (.int x13), .val (.int x17), .val (.int x22), .val (.ref c25_0), .val (.ref c28_0), .unset, .unset, .unset] [(.ref c25_0), (.ref w8), (.ref b30), (.ref b30)])) _
            refine XS.iload X31.here hx rfl (hb hby at_125) rfl ?_
            refine XS.iload X31.here hx rfl (hb hby at_127) rfl ?_
            refine st32 _ ?_
            refine XS.astore X32.here hx rfl (hb hby at_132) rfl rfl (l' := #[.val (.int i0), .val (.int i1), .val (.int i2), .val (.int i3), .val (.int i4), .val (.int i5), .val (.int x2), .val (.int x4), .val (.int x7), .val (.int (0 : Int32)), .val (.int x9), .val (.int x13), .val (.int x17), .val (.int x22), .val (.ref c25_0), .val (.ref c28_0), .val (.ref b30), .unset, .unset]) rfl ?_
            show Steps p.tables e below (T32.setTop (mkF m 134 #[.val (.int i0), .val (.int i1), .val (.int i2), .val (.int i3), .val (.int i4), .val (.int i5), .val (.int x2), .val (.int x4), .val (.int x7), .val (.int (0 : Int32)), .val (.int x9), .val (.int x13), .val (.int x17), .val (.int x22), .val (.ref c25_0), .val (.ref c28_0), .val (.ref b30), .unset, .unset] [])) _
            refine XS.aload X32.here hx rfl (hb hby at_134) rfl rfl ?_
            refine XS.aload X32.here hx rfl (hb hby at_136) rfl rfl ?_
            refine st33 _ ?_
            refine XS.istore X33.here hx rfl (hb hby at_141) rfl (l' := #[.val (.int i0), .val (.int i1), .val (.int i2), .val (.int i3), .val (.int i4), .val (.int i5), .val (.int x2), .val (.int x4), .val (.int x7), .val (.int (0 : Int32)), .val (.int x9), .val (.int x13), .val (.int x17), .val (.int x22), .val (.ref c25_0), .val (.ref c28_0), .val (.ref b30), .val (.int (0 : Int32)), .unset]) rfl ?_
            show Steps p.tables e below (T33.setTop (mkF m 143 #[.val (.int i0), .val (.int i1), .val (.int i2), .val (.int i3), .val (.int i4), .val (.int i5), .val (.int x2), .val (.int x4), .val (.int x7), .val (.int (0 : Int32)), .val (.int x9), .val (.int x13), .val (.int x17), .val (.int x22), .val (.ref c25_0), .val (.ref c28_0), .val (.ref b30), .val (.int (0 : Int32)), .unset] [])) _
            refine Own.iload X33.here hx rfl (hb hby at_143) rfl hp3 ?_
            refine XS.bipush X33.here hx rfl (hb hby at_145) ?_
            refine XS.icmpNo X33.here hx rfl (hb hby at_147) rfl (teq (by decide : (8 : Int32) = (8 : Int32))).2 ?_
            refine XS.iload X33.here hx rfl (hb hby at_150) rfl ?_
            show Steps p.tables e below (T33.setTop (mkF m 152 #[.val (.int i0), .val (.int i1), .val (.int i2), .val (.int i3), .val (.int i4), .val (.int i5), .val (.int x2), .val (.int x4), .val (.int x7), .val (.int (0 : Int32)), .val (.int x9), .val (.int x13), .val (.int x17), .val (.int x22), .val (.ref c25_0), .val (.ref c28_0), .val (.ref b30), .val (.int (0 : Int32)), .unset] [(.int (0 : Int32))])) _
            refine XS.ifNo X33.here hx rfl (hb hby at_152) rfl ((if0 _ _).trans (teq (by decide : (0 : Int32) = (0 : Int32))).2) ?_
            refine Own.iload X33.here hx rfl (hb hby at_155) rfl hp1 ?_
            refine Own.iload X33.here hx rfl (hb hby at_157) rfl hp2 ?_
            refine XS.icmpYes X33.here hx rfl (pc0 := 159) (pc' := 192) rfl (hb hby at_159) rfl (feq (by decide : ¬ ((2 : Int32) = (1 : Int32)))).2 (by decide) (by decide) ?_
            show Steps p.tables e below (T33.setTop (mkF m 192 #[.val (.int i0), .val (.int i1), .val (.int i2), .val (.int i3), .val (.int i4), .val (.int i5), .val (.int x2), .val (.int x4), .val (.int x7), .val (.int (0 : Int32)), .val (.int x9), .val (.int x13), .val (.int x17), .val (.int x22), .val (.ref c25_0), .val (.ref c28_0), .val (.ref b30), .val (.int (0 : Int32)), .unset] [])) _
            refine XS.iconst X33.here hx rfl (hb hby at_192) ?_
            refine XS.istore X33.here hx rfl (hb hby at_193) rfl (l' := #[.val (.int i0), .val (.int i1), .val (.int i2), .val (.int i3), .val (.int i4), .val (.int i5), .val (.int x2), .val (.int x4), .val (.int x7), .val (.int (0 : Int32)), .val (.int x9), .val (.int x13), .val (.int x17), .val (.int x22), .val (.ref c25_0), .val (.ref c28_0), .val (.ref b30), .val (.int (0 : Int32)), .val (.int (0 : Int32))]) rfl ?_
            refine XS.iload X33.here hx rfl (hb hby at_195) rfl ?_
            refine XS.iload X33.here hx rfl (hb hby at_197) rfl ?_
            show Steps p.tables e below (T33.setTop (mkF m 199 #[.val (.int i0), .val (.int i1), .val (.int i2), .val (.int i3), .val (.int i4), .val (.int i5), .val (.int x2), .val (.int x4), .val (.int x7), .val (.int (0 : Int32)), .val (.int x9), .val (.int x13), .val (.int x17), .val (.int x22), .val (.ref c25_0), .val (.ref c28_0), .val (.ref b30), .val (.int (0 : Int32)), .val (.int (0 : Int32))] [(.int (0 : Int32)), (.int (0 : Int32))])) _
            refine XS.icmpNo X33.here hx rfl (hb hby at_199) rfl (teq (by decide : (0 : Int32) = (0 : Int32))).2 ?_
            refine XS.iconst X33.here hx rfl (hb hby at_202) ?_
            refine XS.goto X33.here hx rfl (pc0 := 203) (pc' := 207) rfl (hb hby at_203) (by decide) (by decide) ?_
            exact retN X33 hx (t := .boolean) Bd.returns (by simp) (hb hby at_207) hr
          · show QL n0 _ T33.heap _
            exact ⟨rfl, N33⟩
        · have hd31 : ¬ (x2 < (0 : Int32)) := (by have q0 := rx2; have q1 := (by decide : ((0 : Int32)).toInt = 0); exact own_ltF (by omega) : ¬ (x2 < (0 : Int32)))
          have hd32 : ¬ ((9 : Int32) < x2) := (by have q0 := (by decide : ((9 : Int32)).toInt = 9); have q1 := rx2; exact own_ltF (by omega) : ¬ ((9 : Int32) < x2))
          obtain ⟨_, T33, L33, ⟨z33, rfl, N33q, hz33_0, hz33_1, e33⟩, X33, st33⟩ := own_callS X30 hx hZ (W := 2) hown (hw _ m45) (hw _ m46) (hw _ m3) (hw _ m47) (by decide) (jm0 l Z a0 hw hj w0 w1 w2 w3 w4 w5 w6 w7 w8 w9 w10 w11 hS [] x2 h30 n0 O30 hd31 hd32 hp3) e30 (g := (mkF m 120 #[.val (.int i0), .val (.int i1), .val (.int i2), .val (.int i3), .val (.int i4), .val (.int i5), .val (.int x2), .val (.int x4), .val (.int x7), .val (.int (0 : Int32)), .val (.int x9), .val (.int x13), .val (.int x17), .val (.int x22), .val (.ref c25_0), .val (.ref c28_0), .unset, .unset, .unset] [(.int x2), (.ref b30), (.ref b30)])) rfl (by rw [hml]; rfl) (argsL := [(.int x2)]) (rest := [(.ref b30), (.ref b30)]) (lenOf pd128 rfl) rfl rfl (by show 2 * 0 + _ ≤ _; exact Nat.le_of_eq rfl) (hb hby at_120) (by decide) (by decide) (by decide) (by decide)
          have N33 := Fr.app N28 N33q
          have e33' : T33.heap = h30 := e33
          have sf34 := ((sfS (Safe.exa (EL := EL) hZ.alike A30 (by decide) (by decide)) sf0) : ∀ x ∈ [b30], Safe Z EL s.vm h30 x)
          obtain ⟨_, T34, L34, hQ34, X34, st34⟩ := own_special X33 hx hZ (W := 1) rfl hown (hw _ m51) (hw _ m52) (hw _ m44) (hw _ m53) (by decide) (rm10 l Z a0 hw hj w0 w1 w2 w3 w4 w5 w6 w7 w8 w9 w10 w11 hS [] i4 i5 b30 z33 c25_0 h30 n0 O30 A30 F30_1 F30_2 F30_3 F30_4 (Nat.le_trans (own_old_le O28) g30)) e33' (a := b30) (g := (mkF m 129 #[.val (.int i0), .val (.int i1), .val (.int i2), .val (.int i3), .val (.int i4), .val (.int i5), .val (.int x2), .val (.int x4), .val (.int x7), .val (.int (0 : Int32)), .val (.int x9), .val (.int x13), .val (.int x17), .val (.int x22), .val (.ref c25_0), .val (.ref c28_0), .unset, .unset, .unset] [(.int i5), (.int i4), (.ref c25_0), (.ref z33), (.ref b30), (.ref b30)])) rfl (by rw [hml]; rfl) (argsL := [(.ref z33), (.ref c25_0), (.int i4), (.int i5)]) (rest := [(.ref b30)]) (lenOf pd164 rfl) rfl rfl (by show 2 * 0 + _ ≤ _; exact Nat.le_of_eq rfl) (hb hby at_129) (by decide) (by decide) (by decide) (by decide)
          obtain ⟨rfl, N34q, Kq34, q34_0, q34_1, q34_2, q34_3⟩ := hQ34
          have N34 := Fr.app N33 N34q
          have C34 := C30.trans (CHr.keep Kq34 sf34 C30.1)
          have O34 : Old Z n0 T34.heap := O30.keep Kq34 (allS (Nat.le_trans (own_old_le O28) g30) all0)
          have K34 : Keep h0 T34.heap [] := K30.trans Kq34 (allS (Or.inr (Nat.le_trans K28.1 g30)) all0)
          have sf35 := (sf0 : ∀ x ∈ [], Safe Z EL s.vm T34.heap x)
          have f36 : Exa Z T34.heap b30 z1 := (A30.keep Kq34)
          obtain ⟨_, T35, L35, hQ35, X35, st35⟩ := own_virtual X34 hx hZ (W := 0) hown (hw _ m68) (hw _ m69) (notFace_of_selects (args := #[]) (mvT hZ (hw _ m71))) (hw _ m71) (hw _ m70) (hw _ m44) (hw _ m72) (by decide) (rm11 l Z a0 hw hj w0 w1 w2 w3 w4 w5 w6 w7 w8 w9 w10 w11 hS [] b30 c28_0 z33 T34.heap n0 O34 q34_0 hz33_1) (rfl : T34.heap = T34.heap) f36 (g := (mkF m 138 #[.val (.int i0), .val (.int i1), .val (.int i2), .val (.int i3), .val (.int i4), .val (.int i5), .val (.int x2), .val (.int x4), .val (.int x7), .val (.int (0 : Int32)), .val (.int x9), .val (.int x13), .val (.int x17), .val (.int x22), .val (.ref c25_0), .val (.ref c28_0), .val (.ref b30), .unset, .unset] [(.ref c28_0), (.ref b30)])) rfl (by rw [hml]; rfl) (argsL := [(.ref c28_0)]) (rest := []) (lenOf pd235 rfl) rfl rfl (by show 2 * 0 + _ ≤ _; exact Nat.le_of_eq rfl) (hb hby at_138) (by decide) (by decide) (by decide) (by decide)
          obtain ⟨rfl, N35q, e35⟩ := hQ35
          have N35 := Fr.app N34 N35q
          have e35' : T35.heap = T34.heap := e35
          obtain ⟨fs, hr, hrun, hended, hRW⟩ := X35.leaveW hS0 (by rw [e35']; exact (Nat.le_trans (Nat.le_refl _) (Nat.le_trans (Nat.le_trans (Nat.le_trans Kq25.1 Kq28.1) E30.1) Kq34.1))) (v := some (.int (1 : Int32))) (fun h => by rw [Bd.returns] at h; cases h)
          refine ⟨_, _, pre4 _ ?_, hrun, hended, _, _, rfl, ?_, own_rwm hRW (by decide) (by decide)⟩
          · refine XS.iload X30.here hx rfl (hb hby at_118) rfl ?_
            refine st33 _ ?_
            refine XS.aload X33.here hx rfl (hb hby at_123) rfl rfl ?_
            show Steps p.tables e below (T33.setTop (mkF m 125 #[.val (.int i0), .val (.int i1), .val (.int i2), .val (.int i3), .val (.int i4), .val (.int i5), .val (.int x2), .val (.int x4), .val (.int x7), .val (.int (0 : Int32)), .val (.int x9), .val (.int x13), .val (.int x17), .val (.int x22), .val (.ref c25_0), .val (.ref c28_0), .unset, .unset, .unset] [(.ref c25_0), (.ref z33), (.ref b30), (.ref b30)])) _
            refine XS.iload X33.here hx rfl (hb hby at_125) rfl ?_
            refine XS.iload X33.here hx rfl (hb hby at_127) rfl ?_
            refine st34 _ ?_
            refine XS.astore X34.here hx rfl (hb hby at_132) rfl rfl (l' := #[.val (.int i0), .val (.int i1), .val (.int i2), .val (.int i3), .val (.int i4), .val (.int i5), .val (.int x2), .val (.int x4), .val (.int x7), .val (.int (0 : Int32)), .val (.int x9), .val (.int x13), .val (.int x17), .val (.int x22), .val (.ref c25_0), .val (.ref c28_0), .val (.ref b30), .unset, .unset]) rfl ?_
            show Steps p.tables e below (T34.setTop (mkF m 134 #[.val (.int i0), .val (.int i1), .val (.int i2), .val (.int i3), .val (.int i4), .val (.int i5), .val (.int x2), .val (.int x4), .val (.int x7), .val (.int (0 : Int32)), .val (.int x9), .val (.int x13), .val (.int x17), .val (.int x22), .val (.ref c25_0), .val (.ref c28_0), .val (.ref b30), .unset, .unset] [])) _
            refine XS.aload X34.here hx rfl (hb hby at_134) rfl rfl ?_
            refine XS.aload X34.here hx rfl (hb hby at_136) rfl rfl ?_
            refine st35 _ ?_
            refine XS.istore X35.here hx rfl (hb hby at_141) rfl (l' := #[.val (.int i0), .val (.int i1), .val (.int i2), .val (.int i3), .val (.int i4), .val (.int i5), .val (.int x2), .val (.int x4), .val (.int x7), .val (.int (0 : Int32)), .val (.int x9), .val (.int x13), .val (.int x17), .val (.int x22), .val (.ref c25_0), .val (.ref c28_0), .val (.ref b30), .val (.int (0 : Int32)), .unset]) rfl ?_
            show Steps p.tables e below (T35.setTop (mkF m 143 #[.val (.int i0), .val (.int i1), .val (.int i2), .val (.int i3), .val (.int i4), .val (.int i5), .val (.int x2), .val (.int x4), .val (.int x7), .val (.int (0 : Int32)), .val (.int x9), .val (.int x13), .val (.int x17), .val (.int x22), .val (.ref c25_0), .val (.ref c28_0), .val (.ref b30), .val (.int (0 : Int32)), .unset] [])) _
            refine XS.iload X35.here hx rfl (hb hby at_143) rfl ?_
            refine XS.bipush X35.here hx rfl (hb hby at_145) ?_
            refine XS.icmpYes X35.here hx rfl (pc0 := 147) (pc' := 192) rfl (hb hby at_147) rfl (feq hp3).2 (by decide) (by decide) ?_
            refine XS.iconst X35.here hx rfl (hb hby at_192) ?_
            show Steps p.tables e below (T35.setTop (mkF m 193 #[.val (.int i0), .val (.int i1), .val (.int i2), .val (.int i3), .val (.int i4), .val (.int i5), .val (.int x2), .val (.int x4), .val (.int x7), .val (.int (0 : Int32)), .val (.int x9), .val (.int x13), .val (.int x17), .val (.int x22), .val (.ref c25_0), .val (.ref c28_0), .val (.ref b30), .val (.int (0 : Int32)), .unset] [(.int (0 : Int32))])) _
            refine XS.istore X35.here hx rfl (hb hby at_193) rfl (l' := #[.val (.int i0), .val (.int i1), .val (.int i2), .val (.int i3), .val (.int i4), .val (.int i5), .val (.int x2), .val (.int x4), .val (.int x7), .val (.int (0 : Int32)), .val (.int x9), .val (.int x13), .val (.int x17), .val (.int x22), .val (.ref c25_0), .val (.ref c28_0), .val (.ref b30), .val (.int (0 : Int32)), .val (.int (0 : Int32))]) rfl ?_
            refine XS.iload X35.here hx rfl (hb hby at_195) rfl ?_
            refine XS.iload X35.here hx rfl (hb hby at_197) rfl ?_
            refine XS.icmpNo X35.here hx rfl (hb hby at_199) rfl (teq (by decide : (0 : Int32) = (0 : Int32))).2 ?_
            show Steps p.tables e below (T35.setTop (mkF m 202 #[.val (.int i0), .val (.int i1), .val (.int i2), .val (.int i3), .val (.int i4), .val (.int i5), .val (.int x2), .val (.int x4), .val (.int x7), .val (.int (0 : Int32)), .val (.int x9), .val (.int x13), .val (.int x17), .val (.int x22), .val (.ref c25_0), .val (.ref c28_0), .val (.ref b30), .val (.int (0 : Int32)), .val (.int (0 : Int32))] [])) _
            refine XS.iconst X35.here hx rfl (hb hby at_202) ?_
            refine XS.goto X35.here hx rfl (pc0 := 203) (pc' := 207) rfl (hb hby at_203) (by decide) (by decide) ?_
            exact retN X35 hx (t := .boolean) Bd.returns (by simp) (hb hby at_207) hr
          · show QL n0 _ T35.heap _
            exact ⟨rfl, N35⟩
      · have hd29 : ¬ ((255 : Int32) < x17) := (by have q0 := (by decide : ((255 : Int32)).toInt = 255); have q1 := rx17; exact own_ltF (by omega) : ¬ ((255 : Int32) < x17))
        have hd30 : ¬ ((255 : Int32) < x22) := (by have q0 := (by decide : ((255 : Int32)).toInt = 255); have q1 := rx22; exact own_ltF (by omega) : ¬ ((255 : Int32) < x22))
        have sf28 := (sf0 : ∀ x ∈ [], Safe Z EL s.vm T25.heap x)
        obtain ⟨_, T28, L28, hQ28, X28, st28⟩ := own_callS X25 hx hZ (W := 0) hown (hw _ m1) (hw _ m2) (hw _ m3) (hw _ m4) (by decide) (rm25 l Z a0 hw hj w0 w1 w2 w3 w4 w5 w6 w7 w8 w9 w10 w11 hS [] x17 x22 T25.heap n0 O25 hd18 hd19 hd23 hd24 hd29 hd30) (rfl : T25.heap = T25.heap) (g := (mkF m 109 #[.val (.int i0), .val (.int i1), .val (.int i2), .val (.int i3), .val (.int i4), .val (.int i5), .val (.int x2), .val (.int x4), .val (.int x7), .val (.int (0 : Int32)), .val (.int x9), .val (.int x13), .val (.int x17), .val (.int x22), .val (.ref c25_0), .unset, .unset, .unset, .unset] [(.int x22), (.int x17), (.int (2 : Int32))])) rfl (by rw [hml]; rfl) (argsL := [(.int (2 : Int32)), (.int x17), (.int x22)]) (rest := []) (lenOf pd114 rfl) rfl rfl (by show 2 * 0 + _ ≤ _; exact Nat.le_of_eq rfl) (hb hby at_109) (by decide) (by decide) (by decide) (by decide)
        obtain ⟨c28_0, c28_1, k28_2, rfl, N28q, Kq28, lo28_0, lo28_1, q28_0, q28_1, q28_2, q28_3⟩ := hQ28
        have N28 := Fr.app N25 N28q
        have C28 := C25.trans (CHr.keep Kq28 sf28 C25.1)
        have O28 : Old Z n0 T28.heap := O25.keep Kq28 all0
        have K28 : Keep h0 T28.heap [] := K25.trans Kq28 all0
        obtain ⟨T31, h31, b31, X31, e31, E31, A31, D31, g31, O31, K31, st31⟩ := own_newO X28 hx hZ hown (hw _ m42) (hw _ m43) (hw _ m44) (rfl : T28.heap = T28.heap) O28 K28 (g := (mkF m 114 #[.val (.int i0), .val (.int i1), .val (.int i2), .val (.int i3), .val (.int i4), .val (.int i5), .val (.int x2), .val (.int x4), .val (.int x7), .val (.int (0 : Int32)), .val (.int x9), .val (.int x13), .val (.int x17), .val (.int x22), .val (.ref c25_0), .val (.ref c28_0), .unset, .unset, .unset] [])) rfl (hb hby at_114) (by decide) (by decide)
        have C31 := C28.trans (CHr.ext E31 C28.1)
        have F31_1 : Fld Z h31 b31 z1 "type" z3 .null := D31 (Or.inr (hw _ m61)) (ty := (.object z2)) (by decide)
        have F31_2 : Fld Z h31 b31 z1 "text" z8 .null := D31 (Or.inr (hw _ m63)) (ty := (.object z0)) (by decide)
        have F31_3 : Fld Z h31 b31 z1 "line" "I" (.int (0 : Int32)) := D31 (Or.inr (hw _ m65)) (ty := .int) (by decide)
        have F31_4 : Fld Z h31 b31 z1 "column" "I" (.int (0 : Int32)) := D31 (Or.inr (hw _ m67)) (ty := .int) (by decide)
        have pre4 : ∀ t, Steps p.tables e below (T31.setTop (mkF m 118 #[.val (.int i0), .val (.int i1), .val (.int i2), .val (.int i3), .val (.int i4), .val (.int i5), .val (.int x2), .val (.int x4), .val (.int x7), .val (.int (0 : Int32)), .val (.int x9), .val (.int x13), .val (.int x17), .val (.int x22), .val (.ref c25_0), .val (.ref c28_0), .unset, .unset, .unset] [(.ref b31), (.ref b31)])) t → Steps p.tables e below (s₁.setTop (entryFrame m #[(.int i0), (.int i1), (.int i2), (.int i3), (.int i4), (.int i5)] maxLocals)) t := fun t kt => pre3 _ (by
            refine Own.iload X25.here hx rfl (hb hby at_103) rfl hp2 ?_
            refine XS.iload X25.here hx rfl (hb hby at_105) rfl ?_
            show Steps p.tables e below (T25.setTop (mkF m 107 #[.val (.int i0), .val (.int i1), .val (.int i2), .val (.int i3), .val (.int i4), .val (.int i5), .val (.int x2), .val (.int x4), .val (.int x7), .val (.int (0 : Int32)), .val (.int x9), .val (.int x13), .val (.int x17), .val (.int x22), .val (.ref c25_0), .unset, .unset, .unset, .unset] [(.int x17), (.int (2 : Int32))])) _
            refine XS.iload X25.here hx rfl (hb hby at_107) rfl ?_
            refine st28 _ ?_
            refine XS.astore X28.here hx rfl (hb hby at_112) rfl rfl (l' := #[.val (.int i0), .val (.int i1), .val (.int i2), .val (.int i3), .val (.int i4), .val (.int i5), .val (.int x2), .val (.int x4), .val (.int x7), .val (.int (0 : Int32)), .val (.int x9), .val (.int x13), .val (.int x17), .val (.int x22), .val (.ref c25_0), .val (.ref c28_0), .unset, .unset, .unset]) rfl ?_
            refine st31 _ ?_
            show Steps p.tables e below (T31.setTop (mkF m 117 #[.val (.int i0), .val (.int i1), .val (.int i2), .val (.int i3), .val (.int i4), .val (.int i5), .val (.int x2), .val (.int x4), .val (.int x7), .val (.int (0 : Int32)), .val (.int x9), .val (.int x13), .val (.int x17), .val (.int x22), .val (.ref c25_0), .val (.ref c28_0), .unset, .unset, .unset] [(.ref b31)])) _
            refine XS.dup X31.here hx rfl (hb hby at_117) rfl rfl ?_
            exact kt)
        rcases Decidable.em (x2 = (8 : Int32)) with hp3 | hp3
        · have sf32 := (sf0 : ∀ x ∈ [], Safe Z EL s.vm h31 x)
          obtain ⟨_, T32, L32, hQ32, X32, st32⟩ := own_callS X31 hx hZ (W := 2) hown (hw _ m45) (hw _ m46) (hw _ m3) (hw _ m47) (by decide) (rm4 l Z a0 hw hj w0 w1 w2 w3 w4 w5 w6 w7 w8 w9 w10 w11 hS [] h31 n0 O31) e31 (g := (mkF m 120 #[.val (.int i0), .val (.int i1), .val (.int i2), .val (.int i3), .val (.int i4), .val (.int i5), .val (.int x2), .val (.int x4), .val (.int x7), .val (.int (0 : Int32)), .val (.int x9), .val (.int x13), .val (.int x17), .val (.int x22), .val (.ref c25_0), .val (.ref c28_0), .unset, .unset, .unset] [(.int (8 : Int32)), (.ref b31), (.ref b31)])) rfl (by rw [hml]; rfl) (argsL := [(.int (8 : Int32))]) (rest := [(.ref b31), (.ref b31)]) (lenOf pd128 rfl) rfl rfl (by show 2 * 0 + _ ≤ _; exact Nat.le_of_eq rfl) (hb hby at_120) (by decide) (by decide) (by decide) (by decide)
          obtain ⟨rfl, N32q, e32⟩ := hQ32
          have N32 := Fr.app N28 N32q
          have e32' : T32.heap = h31 := e32
          have sf33 := ((sfS (Safe.exa (EL := EL) hZ.alike A31 (by decide) (by decide)) sf0) : ∀ x ∈ [b31], Safe Z EL s.vm h31 x)
          obtain ⟨_, T33, L33, hQ33, X33, st33⟩ := own_special X32 hx hZ (W := 1) rfl hown (hw _ m51) (hw _ m52) (hw _ m44) (hw _ m53) (by decide) (rm6 l Z a0 hw hj w0 w1 w2 w3 w4 w5 w6 w7 w8 w9 w10 w11 hS [] i4 i5 b31 c25_0 h31 n0 O31 A31 F31_1 F31_2 F31_3 F31_4 (Nat.le_trans (own_old_le O28) g31)) e32' (a := b31) (g := (mkF m 129 #[.val (.int i0), .val (.int i1), .val (.int i2), .val (.int i3), .val (.int i4), .val (.int i5), .val (.int x2), .val (.int x4), .val (.int x7), .val (.int (0 : Int32)), .val (.int x9), .val (.int x13), .val (.int x17), .val (.int x22), .val (.ref c25_0), .val (.ref c28_0), .unset, .unset, .unset] [(.int i5), (.int i4), (.ref c25_0), (.ref w8), (.ref b31), (.ref b31)])) rfl (by rw [hml]; rfl) (argsL := [(.ref w8), (.ref c25_0), (.int i4), (.int i5)]) (rest := [(.ref b31)]) (lenOf pd164 rfl) rfl rfl (by show 2 * 0 + _ ≤ _; exact Nat.le_of_eq rfl) (hb hby at_129) (by decide) (by decide) (by decide) (by decide)
          obtain ⟨rfl, N33q, Kq33, q33_0, q33_1, q33_2, q33_3⟩ := hQ33
          have N33 := Fr.app N32 N33q
          have C33 := C31.trans (CHr.keep Kq33 sf33 C31.1)
          have O33 : Old Z n0 T33.heap := O31.keep Kq33 (allS (Nat.le_trans (own_old_le O28) g31) all0)
          have K33 : Keep h0 T33.heap [] := K31.trans Kq33 (allS (Or.inr (Nat.le_trans K28.1 g31)) all0)
          have pre5 : ∀ t, Steps p.tables e below (T33.setTop (mkF m 138 #[.val (.int i0), .val (.int i1), .val (.int i2), .val (.int i3), .val (.int i4), .val (.int i5), .val (.int x2), .val (.int x4), .val (.int x7), .val (.int (0 : Int32)), .val (.int x9), .val (.int x13), .val (.int x17), .val (.int x22), .val (.ref c25_0), .val (.ref c28_0), .val (.ref b31), .unset, .unset] [(.ref c28_0), (.ref b31)])) t → Steps p.tables e below (s₁.setTop (entryFrame m #[(.int i0), (.int i1), (.int i2), (.int i3), (.int i4), (.int i5)] maxLocals)) t := fun t kt => pre4 _ (by
              refine Own.iload X31.here hx rfl (hb hby at_118) rfl hp3 ?_
              refine st32 _ ?_
              refine XS.aload X32.here hx rfl (hb hby at_123) rfl rfl ?_
              show Steps p.tables e below (T32.setTop (mkF m 125 #[.val (.int i0), .val (.int i1), .val (.int i2), .val (.int i3), .val (.int i4), .val (.int i5), .val (.int x2), .val (.int x4), .val (.int x7), .val (.int (0 : Int32)), .val (.int x9), .val (.int x13), .val (.int x17), .val (.int x22), .val (.ref c25_0), .val (.ref c28_0), .unset, .unset, .unset] [(.ref c25_0), (.ref w8), (.ref b31), (.ref b31)])) _
              refine XS.iload X32.here hx rfl (hb hby at_125) rfl ?_
              refine XS.iload X32.here hx rfl (hb hby at_127) rfl ?_
              refine st33 _ ?_
              refine XS.astore X33.here hx rfl (hb hby at_132) rfl rfl (l' := #[.val (.int i0), .val (.int i1), .val (.int i2), .val (.int i3), .val (.int i4), .val (.int i5), .val (.int x2), .val (.int x4), .val (.int x7), .val (.int (0 : Int32)), .val (.int x9), .val (.int x13), .val (.int x17), .val (.int x22), .val (.ref c25_0), .val (.ref c28_0), .val (.ref b31), .unset, .unset]) rfl ?_
              show Steps p.tables e below (T33.setTop (mkF m 134 #[.val (.int i0), .val (.int i1), .val (.int i2), .val (.int i3), .val (.int i4), .val (.int i5), .val (.int x2), .val (.int x4), .val (.int x7), .val (.int (0 : Int32)), .val (.int x9), .val (.int x13), .val (.int x17), .val (.int x22), .val (.ref c25_0), .val (.ref c28_0), .val (.ref b31), .unset, .unset] [])) _
              refine XS.aload X33.here hx rfl (hb hby at_134) rfl rfl ?_
              refine XS.aload X33.here hx rfl (hb hby at_136) rfl rfl ?_
              exact kt)
          rcases Decidable.em (x9 = x17) with hp4 | hp4
          · rcases Decidable.em (x13 = x22) with hp5 | hp5
            · have f35 : Exa Z T33.heap c28_0 z0 := ((q28_0.ext E31).keep Kq33)
              have ne36 : c25_0 ≠ b31 := (Nat.ne_of_lt (Nat.lt_of_lt_of_le (Nat.lt_of_lt_of_le q25_0.lt Kq28.1) g31))
              have f37 : Fld Z T33.heap c25_0 z0 "coder" "B" (.int (0 : Int32)) := (((q25_2.keep Kq28 nin0).ext E31).keep Kq33 (ninS ne36 nin0))
              have f38 : Fld Z T33.heap c28_0 z0 "coder" "B" (.int (0 : Int32)) := ((q28_2.ext E31).keep Kq33 (ninS (Nat.ne_of_lt (Nat.lt_of_lt_of_le q28_0.lt g31)) nin0))
              have f39 : Fld Z T33.heap c25_0 z0 "value" "[B" (.ref c25_1) := (((q25_1.keep Kq28 nin0).ext E31).keep Kq33 (ninS ne36 nin0))
              have f40 : Fld Z T33.heap c28_0 z0 "value" "[B" (.ref c28_1) := ((q28_1.ext E31).keep Kq33 (ninS (Nat.ne_of_lt (Nat.lt_of_lt_of_le q28_0.lt g31)) nin0))
              have ne41 : c25_1 ≠ b31 := (Nat.ne_of_lt (Nat.lt_of_lt_of_le (Nat.lt_of_lt_of_le q25_3.lt Kq28.1) g31))
              have f42 : Arv Z T33.heap c25_1 k25_2 .byte (2 : Int32) [(.int (x9.toInt8.toInt32)), (.int (x13.toInt8.toInt32))] (.int (0 : Int32)) := (((q25_3.keep Kq28 nin0).ext E31).keep Kq33 (ninS ne41 nin0))
              have f43 : Arv Z T33.heap c28_1 k28_2 .byte (2 : Int32) [(.int (x17.toInt8.toInt32)), (.int (x22.toInt8.toInt32))] (.int (0 : Int32)) := ((q28_3.ext E31).keep Kq33 (ninS (Nat.ne_of_lt (Nat.lt_of_lt_of_le q28_3.lt g31)) nin0))
              have hd44 : (x9.toInt8.toInt32) = (x17.toInt8.toInt32) := ((own_binj hd10 hd26 hd18 hd29).mpr hp4 : (x9.toInt8.toInt32) = (x17.toInt8.toInt32))
              have hd45 : (x13.toInt8.toInt32) = (x22.toInt8.toInt32) := ((own_binj hd14 hd27 hd23 hd30).mpr hp5 : (x13.toInt8.toInt32) = (x22.toInt8.toInt32))
              have f46 : Exa Z T33.heap c25_0 z0 := (((q25_0.keep Kq28).ext E31).keep Kq33)
              have sf34 := (sf0 : ∀ x ∈ [], Safe Z EL s.vm T33.heap x)
              have f47 : Exa Z T33.heap b31 z1 := (A31.keep Kq33)
              obtain ⟨_, T34, L34, hQ34, X34, st34⟩ := own_virtual X33 hx hZ (W := 0) hown (hw _ m68) (hw _ m69) (notFace_of_selects (args := #[]) (mvT hZ (hw _ m71))) (hw _ m71) (hw _ m70) (hw _ m44) (hw _ m72) (by decide) (rm49 l Z a0 hw hj w0 w1 w2 w3 w4 w5 w6 w7 w8 w9 w10 w11 hS [] b31 c28_0 c25_0 (x9.toInt8.toInt32) (x13.toInt8.toInt32) (x17.toInt8.toInt32) (x22.toInt8.toInt32) c25_1 c28_1 k25_2 k28_2 T33.heap n0 O33 q33_0 q33_1 (Nat.ne_of_lt (Nat.lt_of_lt_of_le q25_0.lt lo28_0)) f35 f37 f38 f39 f40 f42 f43 hd44 hd45 f46) (rfl : T33.heap = T33.heap) f47 (g := (mkF m 138 #[.val (.int i0), .val (.int i1), .val (.int i2), .val (.int i3), .val (.int i4), .val (.int i5), .val (.int x2), .val (.int x4), .val (.int x7), .val (.int (0 : Int32)), .val (.int x9), .val (.int x13), .val (.int x17), .val (.int x22), .val (.ref c25_0), .val (.ref c28_0), .val (.ref b31), .unset, .unset] [(.ref c28_0), (.ref b31)])) rfl (by rw [hml]; rfl) (argsL := [(.ref c28_0)]) (rest := []) (lenOf pd235 rfl) rfl rfl (by show 2 * 0 + _ ≤ _; exact Nat.le_of_eq rfl) (hb hby at_138) (by decide) (by decide) (by decide) (by decide)
              obtain ⟨rfl, N34q, e34⟩ := hQ34
              have N34 := Fr.app N33 N34q
              have e34' : T34.heap = T33.heap := e34
              obtain ⟨fs, hr, hrun, hended, hRW⟩ := X34.leaveW hS0 (by rw [e34']; exact (Nat.le_trans (Nat.le_refl _) (Nat.le_trans (Nat.le_trans (Nat.le_trans Kq25.1 Kq28.1) E31.1) Kq33.1))) (v := some (.int (1 : Int32))) (fun h => by rw [Bd.returns] at h; cases h)
              refine ⟨_, _, pre5 _ ?_, hrun, hended, _, _, rfl, ?_, own_rwm hRW (by decide) (by decide)⟩
              · refine st34 _ ?_
                refine XS.istore X34.here hx rfl (hb hby at_141) rfl (l' := #[.val (.int i0), .val (.int i1), .val (.int i2), .val (.int i3), .val (.int i4), .val (.int i5), .val (.int x2), .val (.int x4), .val (.int x7), .val (.int (0 : Int32)), .val (.int x9), .val (.int x13), .val (.int x17), .val (.int x22), .val (.ref c25_0), .val (.ref c28_0), .val (.ref b31), .val (.int (1 : Int32)), .unset]) rfl ?_
                show Steps p.tables e below (T34.setTop (mkF m 143 #[.val (.int i0), .val (.int i1), .val (.int i2), .val (.int i3), .val (.int i4), .val (.int i5), .val (.int x2), .val (.int x4), .val (.int x7), .val (.int (0 : Int32)), .val (.int x9), .val (.int x13), .val (.int x17), .val (.int x22), .val (.ref c25_0), .val (.ref c28_0), .val (.ref b31), .val (.int (1 : Int32)), .unset] [])) _
                refine Own.iload X34.here hx rfl (hb hby at_143) rfl hp3 ?_
                refine XS.bipush X34.here hx rfl (hb hby at_145) ?_
                refine XS.icmpNo X34.here hx rfl (hb hby at_147) rfl (teq (by decide : (8 : Int32) = (8 : Int32))).2 ?_
                refine XS.iload X34.here hx rfl (hb hby at_150) rfl ?_
                show Steps p.tables e below (T34.setTop (mkF m 152 #[.val (.int i0), .val (.int i1), .val (.int i2), .val (.int i3), .val (.int i4), .val (.int i5), .val (.int x2), .val (.int x4), .val (.int x7), .val (.int (0 : Int32)), .val (.int x9), .val (.int x13), .val (.int x17), .val (.int x22), .val (.ref c25_0), .val (.ref c28_0), .val (.ref b31), .val (.int (1 : Int32)), .unset] [(.int (0 : Int32))])) _
                refine XS.ifNo X34.here hx rfl (hb hby at_152) rfl ((if0 _ _).trans (teq (by decide : (0 : Int32) = (0 : Int32))).2) ?_
                refine Own.iload X34.here hx rfl (hb hby at_155) rfl hp1 ?_
                refine Own.iload X34.here hx rfl (hb hby at_157) rfl hp2 ?_
                refine XS.icmpNo X34.here hx rfl (hb hby at_159) rfl (teq (by decide : (2 : Int32) = (2 : Int32))).2 ?_
                show Steps p.tables e below (T34.setTop (mkF m 162 #[.val (.int i0), .val (.int i1), .val (.int i2), .val (.int i3), .val (.int i4), .val (.int i5), .val (.int x2), .val (.int x4), .val (.int x7), .val (.int (0 : Int32)), .val (.int x9), .val (.int x13), .val (.int x17), .val (.int x22), .val (.ref c25_0), .val (.ref c28_0), .val (.ref b31), .val (.int (1 : Int32)), .unset] [])) _
                refine Own.iload X34.here hx rfl (hb hby at_162) rfl hp1 ?_
                refine XS.iconst X34.here hx rfl (hb hby at_164) ?_
                refine XS.icmpNo X34.here hx rfl (hb hby at_165) rfl (flt (by decide : ¬ ((2 : Int32) < (1 : Int32)))).1 ?_
                refine XS.iload X34.here hx rfl (hb hby at_168) rfl ?_
                show Steps p.tables e below (T34.setTop (mkF m 170 #[.val (.int i0), .val (.int i1), .val (.int i2), .val (.int i3), .val (.int i4), .val (.int i5), .val (.int x2), .val (.int x4), .val (.int x7), .val (.int (0 : Int32)), .val (.int x9), .val (.int x13), .val (.int x17), .val (.int x22), .val (.ref c25_0), .val (.ref c28_0), .val (.ref b31), .val (.int (1 : Int32)), .unset] [(.int x9)])) _
                refine XS.iload X34.here hx rfl (hb hby at_170) rfl ?_
                refine XS.icmpNo X34.here hx rfl (hb hby at_172) rfl (teq hp4).2 ?_
                refine Own.iload X34.here hx rfl (hb hby at_175) rfl hp1 ?_
                refine XS.iconst X34.here hx rfl (hb hby at_177) ?_
                show Steps p.tables e below (T34.setTop (mkF m 178 #[.val (.int i0), .val (.int i1), .val (.int i2), .val (.int i3), .val (.int i4), .val (.int i5), .val (.int x2), .val (.int x4), .val (.int x7), .val (.int (0 : Int32)), .val (.int x9), .val (.int x13), .val (.int x17), .val (.int x22), .val (.ref c25_0), .val (.ref c28_0), .val (.ref b31), .val (.int (1 : Int32)), .unset] [(.int (2 : Int32)), (.int (2 : Int32))])) _
                refine XS.icmpNo X34.here hx rfl (hb hby at_178) rfl (flt (by decide : ¬ ((2 : Int32) < (2 : Int32)))).1 ?_
                refine XS.iload X34.here hx rfl (hb hby at_181) rfl ?_
                refine XS.iload X34.here hx rfl (hb hby at_183) rfl ?_
                refine XS.icmpNo X34.here hx rfl (hb hby at_185) rfl (teq hp5).2 ?_
                show Steps p.tables e below (T34.setTop (mkF m 188 #[.val (.int i0), .val (.int i1), .val (.int i2), .val (.int i3), .val (.int i4), .val (.int i5), .val (.int x2), .val (.int x4), .val (.int x7), .val (.int (0 : Int32)), .val (.int x9), .val (.int x13), .val (.int x17), .val (.int x22), .val (.ref c25_0), .val (.ref c28_0), .val (.ref b31), .val (.int (1 : Int32)), .unset] [])) _
                refine XS.iconst X34.here hx rfl (hb hby at_188) ?_
                refine XS.goto X34.here hx rfl (pc0 := 189) (pc' := 193) rfl (hb hby at_189) (by decide) (by decide) ?_
                refine XS.istore X34.here hx rfl (hb hby at_193) rfl (l' := #[.val (.int i0), .val (.int i1), .val (.int i2), .val (.int i3), .val (.int i4), .val (.int i5), .val (.int x2), .val (.int x4), .val (.int x7), .val (.int (0 : Int32)), .val (.int x9), .val (.int x13), .val (.int x17), .val (.int x22), .val (.ref c25_0), .val (.ref c28_0), .val (.ref b31), .val (.int (1 : Int32)), .val (.int (1 : Int32))]) rfl ?_
                refine XS.iload X34.here hx rfl (hb hby at_195) rfl ?_
                show Steps p.tables e below (T34.setTop (mkF m 197 #[.val (.int i0), .val (.int i1), .val (.int i2), .val (.int i3), .val (.int i4), .val (.int i5), .val (.int x2), .val (.int x4), .val (.int x7), .val (.int (0 : Int32)), .val (.int x9), .val (.int x13), .val (.int x17), .val (.int x22), .val (.ref c25_0), .val (.ref c28_0), .val (.ref b31), .val (.int (1 : Int32)), .val (.int (1 : Int32))] [(.int (1 : Int32))])) _
                refine XS.iload X34.here hx rfl (hb hby at_197) rfl ?_
                refine XS.icmpNo X34.here hx rfl (hb hby at_199) rfl (teq (by decide : (1 : Int32) = (1 : Int32))).2 ?_
                refine XS.iconst X34.here hx rfl (hb hby at_202) ?_
                refine XS.goto X34.here hx rfl (pc0 := 203) (pc' := 207) rfl (hb hby at_203) (by decide) (by decide) ?_
                show Steps p.tables e below (T34.setTop (mkF m 207 #[.val (.int i0), .val (.int i1), .val (.int i2), .val (.int i3), .val (.int i4), .val (.int i5), .val (.int x2), .val (.int x4), .val (.int x7), .val (.int (0 : Int32)), .val (.int x9), .val (.int x13), .val (.int x17), .val (.int x22), .val (.ref c25_0), .val (.ref c28_0), .val (.ref b31), .val (.int (1 : Int32)), .val (.int (1 : Int32))] [(.int (1 : Int32))])) _
                exact retN X34 hx (t := .boolean) Bd.returns (by simp) (hb hby at_207) hr
              · show QL n0 _ T34.heap _
                exact ⟨rfl, N34⟩
            · have f35 : Exa Z T33.heap c28_0 z0 := ((q28_0.ext E31).keep Kq33)
              have ne36 : c25_0 ≠ b31 := (Nat.ne_of_lt (Nat.lt_of_lt_of_le (Nat.lt_of_lt_of_le q25_0.lt Kq28.1) g31))
              have f37 : Fld Z T33.heap c25_0 z0 "coder" "B" (.int (0 : Int32)) := (((q25_2.keep Kq28 nin0).ext E31).keep Kq33 (ninS ne36 nin0))
              have f38 : Fld Z T33.heap c28_0 z0 "coder" "B" (.int (0 : Int32)) := ((q28_2.ext E31).keep Kq33 (ninS (Nat.ne_of_lt (Nat.lt_of_lt_of_le q28_0.lt g31)) nin0))
              have f39 : Fld Z T33.heap c25_0 z0 "value" "[B" (.ref c25_1) := (((q25_1.keep Kq28 nin0).ext E31).keep Kq33 (ninS ne36 nin0))
              have f40 : Fld Z T33.heap c28_0 z0 "value" "[B" (.ref c28_1) := ((q28_1.ext E31).keep Kq33 (ninS (Nat.ne_of_lt (Nat.lt_of_lt_of_le q28_0.lt g31)) nin0))
              have ne41 : c25_1 ≠ b31 := (Nat.ne_of_lt (Nat.lt_of_lt_of_le (Nat.lt_of_lt_of_le q25_3.lt Kq28.1) g31))
              have f42 : Arv Z T33.heap c25_1 k25_2 .byte (2 : Int32) [(.int (x9.toInt8.toInt32)), (.int (x13.toInt8.toInt32))] (.int (0 : Int32)) := (((q25_3.keep Kq28 nin0).ext E31).keep Kq33 (ninS ne41 nin0))
              have f43 : Arv Z T33.heap c28_1 k28_2 .byte (2 : Int32) [(.int (x17.toInt8.toInt32)), (.int (x22.toInt8.toInt32))] (.int (0 : Int32)) := ((q28_3.ext E31).keep Kq33 (ninS (Nat.ne_of_lt (Nat.lt_of_lt_of_le q28_3.lt g31)) nin0))
              have hd44 : (x9.toInt8.toInt32) = (x17.toInt8.toInt32) := ((own_binj hd10 hd26 hd18 hd29).mpr hp4 : (x9.toInt8.toInt32) = (x17.toInt8.toInt32))
              have hd45 : ¬ ((x13.toInt8.toInt32) = (x22.toInt8.toInt32)) := ((fun q => hp5 ((own_binj hd14 hd27 hd23 hd30).mp q)) : ¬ ((x13.toInt8.toInt32) = (x22.toInt8.toInt32)))
              have f46 : Exa Z T33.heap c25_0 z0 := (((q25_0.keep Kq28).ext E31).keep Kq33)
              have sf34 := (sf0 : ∀ x ∈ [], Safe Z EL s.vm T33.heap x)
              have f47 : Exa Z T33.heap b31 z1 := (A31.keep Kq33)
              obtain ⟨_, T34, L34, hQ34, X34, st34⟩ := own_virtual X33 hx hZ (W := 0) hown (hw _ m68) (hw _ m69) (notFace_of_selects (args := #[]) (mvT hZ (hw _ m71))) (hw _ m71) (hw _ m70) (hw _ m44) (hw _ m72) (by decide) (rm52 l Z a0 hw hj w0 w1 w2 w3 w4 w5 w6 w7 w8 w9 w10 w11 hS [] b31 c28_0 c25_0 (x9.toInt8.toInt32) (x13.toInt8.toInt32) (x17.toInt8.toInt32) (x22.toInt8.toInt32) c25_1 c28_1 k25_2 k28_2 T33.heap n0 O33 q33_0 q33_1 (Nat.ne_of_lt (Nat.lt_of_lt_of_le q25_0.lt lo28_0)) f35 f37 f38 f39 f40 f42 f43 hd44 hd45 f46) (rfl : T33.heap = T33.heap) f47 (g := (mkF m 138 #[.val (.int i0), .val (.int i1), .val (.int i2), .val (.int i3), .val (.int i4), .val (.int i5), .val (.int x2), .val (.int x4), .val (.int x7), .val (.int (0 : Int32)), .val (.int x9), .val (.int x13), .val (.int x17), .val (.int x22), .val (.ref c25_0), .val (.ref c28_0), .val (.ref b31), .unset, .unset] [(.ref c28_0), (.ref b31)])) rfl (by rw [hml]; rfl) (argsL := [(.ref c28_0)]) (rest := []) (lenOf pd235 rfl) rfl rfl (by show 2 * 0 + _ ≤ _; exact Nat.le_of_eq rfl) (hb hby at_138) (by decide) (by decide) (by decide) (by decide)
              obtain ⟨rfl, N34q, e34⟩ := hQ34
              have N34 := Fr.app N33 N34q
              have e34' : T34.heap = T33.heap := e34
              obtain ⟨fs, hr, hrun, hended, hRW⟩ := X34.leaveW hS0 (by rw [e34']; exact (Nat.le_trans (Nat.le_refl _) (Nat.le_trans (Nat.le_trans (Nat.le_trans Kq25.1 Kq28.1) E31.1) Kq33.1))) (v := some (.int (1 : Int32))) (fun h => by rw [Bd.returns] at h; cases h)
              refine ⟨_, _, pre5 _ ?_, hrun, hended, _, _, rfl, ?_, own_rwm hRW (by decide) (by decide)⟩
              · refine st34 _ ?_
                refine XS.istore X34.here hx rfl (hb hby at_141) rfl (l' := #[.val (.int i0), .val (.int i1), .val (.int i2), .val (.int i3), .val (.int i4), .val (.int i5), .val (.int x2), .val (.int x4), .val (.int x7), .val (.int (0 : Int32)), .val (.int x9), .val (.int x13), .val (.int x17), .val (.int x22), .val (.ref c25_0), .val (.ref c28_0), .val (.ref b31), .val (.int (0 : Int32)), .unset]) rfl ?_
                show Steps p.tables e below (T34.setTop (mkF m 143 #[.val (.int i0), .val (.int i1), .val (.int i2), .val (.int i3), .val (.int i4), .val (.int i5), .val (.int x2), .val (.int x4), .val (.int x7), .val (.int (0 : Int32)), .val (.int x9), .val (.int x13), .val (.int x17), .val (.int x22), .val (.ref c25_0), .val (.ref c28_0), .val (.ref b31), .val (.int (0 : Int32)), .unset] [])) _
                refine Own.iload X34.here hx rfl (hb hby at_143) rfl hp3 ?_
                refine XS.bipush X34.here hx rfl (hb hby at_145) ?_
                refine XS.icmpNo X34.here hx rfl (hb hby at_147) rfl (teq (by decide : (8 : Int32) = (8 : Int32))).2 ?_
                refine XS.iload X34.here hx rfl (hb hby at_150) rfl ?_
                show Steps p.tables e below (T34.setTop (mkF m 152 #[.val (.int i0), .val (.int i1), .val (.int i2), .val (.int i3), .val (.int i4), .val (.int i5), .val (.int x2), .val (.int x4), .val (.int x7), .val (.int (0 : Int32)), .val (.int x9), .val (.int x13), .val (.int x17), .val (.int x22), .val (.ref c25_0), .val (.ref c28_0), .val (.ref b31), .val (.int (0 : Int32)), .unset] [(.int (0 : Int32))])) _
                refine XS.ifNo X34.here hx rfl (hb hby at_152) rfl ((if0 _ _).trans (teq (by decide : (0 : Int32) = (0 : Int32))).2) ?_
                refine Own.iload X34.here hx rfl (hb hby at_155) rfl hp1 ?_
                refine Own.iload X34.here hx rfl (hb hby at_157) rfl hp2 ?_
                refine XS.icmpNo X34.here hx rfl (hb hby at_159) rfl (teq (by decide : (2 : Int32) = (2 : Int32))).2 ?_
                show Steps p.tables e below (T34.setTop (mkF m 162 #[.val (.int i0), .val (.int i1), .val (.int i2), .val (.int i3), .val (.int i4), .val (.int i5), .val (.int x2), .val (.int x4), .val (.int x7), .val (.int (0 : Int32)), .val (.int x9), .val (.int x13), .val (.int x17), .val (.int x22), .val (.ref c25_0), .val (.ref c28_0), .val (.ref b31), .val (.int (0 : Int32)), .unset] [])) _
                refine Own.iload X34.here hx rfl (hb hby at_162) rfl hp1 ?_
                refine XS.iconst X34.here hx rfl (hb hby at_164) ?_
                refine XS.icmpNo X34.here hx rfl (hb hby at_165) rfl (flt (by decide : ¬ ((2 : Int32) < (1 : Int32)))).1 ?_
                refine XS.iload X34.here hx rfl (hb hby at_168) rfl ?_
                show Steps p.tables e below (T34.setTop (mkF m 170 #[.val (.int i0), .val (.int i1), .val (.int i2), .val (.int i3), .val (.int i4), .val (.int i5), .val (.int x2), .val (.int x4), .val (.int x7), .val (.int (0 : Int32)), .val (.int x9), .val (.int x13), .val (.int x17), .val (.int x22), .val (.ref c25_0), .val (.ref c28_0), .val (.ref b31), .val (.int (0 : Int32)), .unset] [(.int x9)])) _
                refine XS.iload X34.here hx rfl (hb hby at_170) rfl ?_
                refine XS.icmpNo X34.here hx rfl (hb hby at_172) rfl (teq hp4).2 ?_
                refine Own.iload X34.here hx rfl (hb hby at_175) rfl hp1 ?_
                refine XS.iconst X34.here hx rfl (hb hby at_177) ?_
                show Steps p.tables e below (T34.setTop (mkF m 178 #[.val (.int i0), .val (.int i1), .val (.int i2), .val (.int i3), .val (.int i4), .val (.int i5), .val (.int x2), .val (.int x4), .val (.int x7), .val (.int (0 : Int32)), .val (.int x9), .val (.int x13), .val (.int x17), .val (.int x22), .val (.ref c25_0), .val (.ref c28_0), .val (.ref b31), .val (.int (0 : Int32)), .unset] [(.int (2 : Int32)), (.int (2 : Int32))])) _
                refine XS.icmpNo X34.here hx rfl (hb hby at_178) rfl (flt (by decide : ¬ ((2 : Int32) < (2 : Int32)))).1 ?_
                refine XS.iload X34.here hx rfl (hb hby at_181) rfl ?_
                refine XS.iload X34.here hx rfl (hb hby at_183) rfl ?_
                refine XS.icmpYes X34.here hx rfl (pc0 := 185) (pc' := 192) rfl (hb hby at_185) rfl (feq hp5).2 (by decide) (by decide) ?_
                show Steps p.tables e below (T34.setTop (mkF m 192 #[.val (.int i0), .val (.int i1), .val (.int i2), .val (.int i3), .val (.int i4), .val (.int i5), .val (.int x2), .val (.int x4), .val (.int x7), .val (.int (0 : Int32)), .val (.int x9), .val (.int x13), .val (.int x17), .val (.int x22), .val (.ref c25_0), .val (.ref c28_0), .val (.ref b31), .val (.int (0 : Int32)), .unset] [])) _
                refine XS.iconst X34.here hx rfl (hb hby at_192) ?_
                refine XS.istore X34.here hx rfl (hb hby at_193) rfl (l' := #[.val (.int i0), .val (.int i1), .val (.int i2), .val (.int i3), .val (.int i4), .val (.int i5), .val (.int x2), .val (.int x4), .val (.int x7), .val (.int (0 : Int32)), .val (.int x9), .val (.int x13), .val (.int x17), .val (.int x22), .val (.ref c25_0), .val (.ref c28_0), .val (.ref b31), .val (.int (0 : Int32)), .val (.int (0 : Int32))]) rfl ?_
                refine XS.iload X34.here hx rfl (hb hby at_195) rfl ?_
                refine XS.iload X34.here hx rfl (hb hby at_197) rfl ?_
                show Steps p.tables e below (T34.setTop (mkF m 199 #[.val (.int i0), .val (.int i1), .val (.int i2), .val (.int i3), .val (.int i4), .val (.int i5), .val (.int x2), .val (.int x4), .val (.int x7), .val (.int (0 : Int32)), .val (.int x9), .val (.int x13), .val (.int x17), .val (.int x22), .val (.ref c25_0), .val (.ref c28_0), .val (.ref b31), .val (.int (0 : Int32)), .val (.int (0 : Int32))] [(.int (0 : Int32)), (.int (0 : Int32))])) _
                refine XS.icmpNo X34.here hx rfl (hb hby at_199) rfl (teq (by decide : (0 : Int32) = (0 : Int32))).2 ?_
                refine XS.iconst X34.here hx rfl (hb hby at_202) ?_
                refine XS.goto X34.here hx rfl (pc0 := 203) (pc' := 207) rfl (hb hby at_203) (by decide) (by decide) ?_
                exact retN X34 hx (t := .boolean) Bd.returns (by simp) (hb hby at_207) hr
              · show QL n0 _ T34.heap _
                exact ⟨rfl, N34⟩
          · have f35 : Exa Z T33.heap c28_0 z0 := ((q28_0.ext E31).keep Kq33)
            have ne36 : c25_0 ≠ b31 := (Nat.ne_of_lt (Nat.lt_of_lt_of_le (Nat.lt_of_lt_of_le q25_0.lt Kq28.1) g31))
            have f37 : Fld Z T33.heap c25_0 z0 "coder" "B" (.int (0 : Int32)) := (((q25_2.keep Kq28 nin0).ext E31).keep Kq33 (ninS ne36 nin0))
            have f38 : Fld Z T33.heap c28_0 z0 "coder" "B" (.int (0 : Int32)) := ((q28_2.ext E31).keep Kq33 (ninS (Nat.ne_of_lt (Nat.lt_of_lt_of_le q28_0.lt g31)) nin0))
            have f39 : Fld Z T33.heap c25_0 z0 "value" "[B" (.ref c25_1) := (((q25_1.keep Kq28 nin0).ext E31).keep Kq33 (ninS ne36 nin0))
            have f40 : Fld Z T33.heap c28_0 z0 "value" "[B" (.ref c28_1) := ((q28_1.ext E31).keep Kq33 (ninS (Nat.ne_of_lt (Nat.lt_of_lt_of_le q28_0.lt g31)) nin0))
            have ne41 : c25_1 ≠ b31 := (Nat.ne_of_lt (Nat.lt_of_lt_of_le (Nat.lt_of_lt_of_le q25_3.lt Kq28.1) g31))
            have f42 : Arv Z T33.heap c25_1 k25_2 .byte (2 : Int32) [(.int (x9.toInt8.toInt32)), (.int (x13.toInt8.toInt32))] (.int (0 : Int32)) := (((q25_3.keep Kq28 nin0).ext E31).keep Kq33 (ninS ne41 nin0))
            have f43 : Arv Z T33.heap c28_1 k28_2 .byte (2 : Int32) [(.int (x17.toInt8.toInt32)), (.int (x22.toInt8.toInt32))] (.int (0 : Int32)) := ((q28_3.ext E31).keep Kq33 (ninS (Nat.ne_of_lt (Nat.lt_of_lt_of_le q28_3.lt g31)) nin0))
            have hd44 : ¬ ((x9.toInt8.toInt32) = (x17.toInt8.toInt32)) := ((fun q => hp4 ((own_binj hd10 hd26 hd18 hd29).mp q)) : ¬ ((x9.toInt8.toInt32) = (x17.toInt8.toInt32)))
            have f45 : Exa Z T33.heap c25_0 z0 := (((q25_0.keep Kq28).ext E31).keep Kq33)
            have sf34 := (sf0 : ∀ x ∈ [], Safe Z EL s.vm T33.heap x)
            have f46 : Exa Z T33.heap b31 z1 := (A31.keep Kq33)
            obtain ⟨_, T34, L34, hQ34, X34, st34⟩ := own_virtual X33 hx hZ (W := 0) hown (hw _ m68) (hw _ m69) (notFace_of_selects (args := #[]) (mvT hZ (hw _ m71))) (hw _ m71) (hw _ m70) (hw _ m44) (hw _ m72) (by decide) (rm55 l Z a0 hw hj w0 w1 w2 w3 w4 w5 w6 w7 w8 w9 w10 w11 hS [] b31 c28_0 c25_0 (x9.toInt8.toInt32) (x13.toInt8.toInt32) (x17.toInt8.toInt32) (x22.toInt8.toInt32) c25_1 c28_1 k25_2 k28_2 T33.heap n0 O33 q33_0 q33_1 (Nat.ne_of_lt (Nat.lt_of_lt_of_le q25_0.lt lo28_0)) f35 f37 f38 f39 f40 f42 f43 hd44 f45) (rfl : T33.heap = T33.heap) f46 (g := (mkF m 138 #[.val (.int i0), .val (.int i1), .val (.int i2), .val (.int i3), .val (.int i4), .val (.int i5), .val (.int x2), .val (.int x4), .val (.int x7), .val (.int (0 : Int32)), .val (.int x9), .val (.int x13), .val (.int x17), .val (.int x22), .val (.ref c25_0), .val (.ref c28_0), .val (.ref b31), .unset, .unset] [(.ref c28_0), (.ref b31)])) rfl (by rw [hml]; rfl) (argsL := [(.ref c28_0)]) (rest := []) (lenOf pd235 rfl) rfl rfl (by show 2 * 0 + _ ≤ _; exact Nat.le_of_eq rfl) (hb hby at_138) (by decide) (by decide) (by decide) (by decide)
            obtain ⟨rfl, N34q, e34⟩ := hQ34
            have N34 := Fr.app N33 N34q
            have e34' : T34.heap = T33.heap := e34
            obtain ⟨fs, hr, hrun, hended, hRW⟩ := X34.leaveW hS0 (by rw [e34']; exact (Nat.le_trans (Nat.le_refl _) (Nat.le_trans (Nat.le_trans (Nat.le_trans Kq25.1 Kq28.1) E31.1) Kq33.1))) (v := some (.int (1 : Int32))) (fun h => by rw [Bd.returns] at h; cases h)
            refine ⟨_, _, pre5 _ ?_, hrun, hended, _, _, rfl, ?_, own_rwm hRW (by decide) (by decide)⟩
            · refine st34 _ ?_
              refine XS.istore X34.here hx rfl (hb hby at_141) rfl (l' := #[.val (.int i0), .val (.int i1), .val (.int i2), .val (.int i3), .val (.int i4), .val (.int i5), .val (.int x2), .val (.int x4), .val (.int x7), .val (.int (0 : Int32)), .val (.int x9), .val (.int x13), .val (.int x17), .val (.int x22), .val (.ref c25_0), .val (.ref c28_0), .val (.ref b31), .val (.int (0 : Int32)), .unset]) rfl ?_
              show Steps p.tables e below (T34.setTop (mkF m 143 #[.val (.int i0), .val (.int i1), .val (.int i2), .val (.int i3), .val (.int i4), .val (.int i5), .val (.int x2), .val (.int x4), .val (.int x7), .val (.int (0 : Int32)), .val (.int x9), .val (.int x13), .val (.int x17), .val (.int x22), .val (.ref c25_0), .val (.ref c28_0), .val (.ref b31), .val (.int (0 : Int32)), .unset] [])) _
              refine Own.iload X34.here hx rfl (hb hby at_143) rfl hp3 ?_
              refine XS.bipush X34.here hx rfl (hb hby at_145) ?_
              refine XS.icmpNo X34.here hx rfl (hb hby at_147) rfl (teq (by decide : (8 : Int32) = (8 : Int32))).2 ?_
              refine XS.iload X34.here hx rfl (hb hby at_150) rfl ?_
              show Steps p.tables e below (T34.setTop (mkF m 152 #[.val (.int i0), .val (.int i1), .val (.int i2), .val (.int i3), .val (.int i4), .val (.int i5), .val (.int x2), .val (.int x4), .val (.int x7), .val (.int (0 : Int32)), .val (.int x9), .val (.int x13), .val (.int x17), .val (.int x22), .val (.ref c25_0), .val (.ref c28_0), .val (.ref b31), .val (.int (0 : Int32)), .unset] [(.int (0 : Int32))])) _
              refine XS.ifNo X34.here hx rfl (hb hby at_152) rfl ((if0 _ _).trans (teq (by decide : (0 : Int32) = (0 : Int32))).2) ?_
              refine Own.iload X34.here hx rfl (hb hby at_155) rfl hp1 ?_
              refine Own.iload X34.here hx rfl (hb hby at_157) rfl hp2 ?_
              refine XS.icmpNo X34.here hx rfl (hb hby at_159) rfl (teq (by decide : (2 : Int32) = (2 : Int32))).2 ?_
              show Steps p.tables e below (T34.setTop (mkF m 162 #[.val (.int i0), .val (.int i1), .val (.int i2), .val (.int i3), .val (.int i4), .val (.int i5), .val (.int x2), .val (.int x4), .val (.int x7), .val (.int (0 : Int32)), .val (.int x9), .val (.int x13), .val (.int x17), .val (.int x22), .val (.ref c25_0), .val (.ref c28_0), .val (.ref b31), .val (.int (0 : Int32)), .unset] [])) _
              refine Own.iload X34.here hx rfl (hb hby at_162) rfl hp1 ?_
              refine XS.iconst X34.here hx rfl (hb hby at_164) ?_
              refine XS.icmpNo X34.here hx rfl (hb hby at_165) rfl (flt (by decide : ¬ ((2 : Int32) < (1 : Int32)))).1 ?_
              refine XS.iload X34.here hx rfl (hb hby at_168) rfl ?_
              show Steps p.tables e below (T34.setTop (mkF m 170 #[.val (.int i0), .val (.int i1), .val (.int i2), .val (.int i3), .val (.int i4), .val (.int i5), .val (.int x2), .val (.int x4), .val (.int x7), .val (.int (0 : Int32)), .val (.int x9), .val (.int x13), .val (.int x17), .val (.int x22), .val (.ref c25_0), .val (.ref c28_0), .val (.ref b31), .val (.int (0 : Int32)), .unset] [(.int x9)])) _
              refine XS.iload X34.here hx rfl (hb hby at_170) rfl ?_
              refine XS.icmpYes X34.here hx rfl (pc0 := 172) (pc' := 192) rfl (hb hby at_172) rfl (feq hp4).2 (by decide) (by decide) ?_
              refine XS.iconst X34.here hx rfl (hb hby at_192) ?_
              refine XS.istore X34.here hx rfl (hb hby at_193) rfl (l' := #[.val (.int i0), .val (.int i1), .val (.int i2), .val (.int i3), .val (.int i4), .val (.int i5), .val (.int x2), .val (.int x4), .val (.int x7), .val (.int (0 : Int32)), .val (.int x9), .val (.int x13), .val (.int x17), .val (.int x22), .val (.ref c25_0), .val (.ref c28_0), .val (.ref b31), .val (.int (0 : Int32)), .val (.int (0 : Int32))]) rfl ?_
              show Steps p.tables e below (T34.setTop (mkF m 195 #[.val (.int i0), .val (.int i1), .val (.int i2), .val (.int i3), .val (.int i4), .val (.int i5), .val (.int x2), .val (.int x4), .val (.int x7), .val (.int (0 : Int32)), .val (.int x9), .val (.int x13), .val (.int x17), .val (.int x22), .val (.ref c25_0), .val (.ref c28_0), .val (.ref b31), .val (.int (0 : Int32)), .val (.int (0 : Int32))] [])) _
              refine XS.iload X34.here hx rfl (hb hby at_195) rfl ?_
              refine XS.iload X34.here hx rfl (hb hby at_197) rfl ?_
              refine XS.icmpNo X34.here hx rfl (hb hby at_199) rfl (teq (by decide : (0 : Int32) = (0 : Int32))).2 ?_
              refine XS.iconst X34.here hx rfl (hb hby at_202) ?_
              show Steps p.tables e below (T34.setTop (mkF m 203 #[.val (.int i0), .val (.int i1), .val (.int i2), .val (.int i3), .val (.int i4), .val (.int i5), .val (.int x2), .val (.int x4), .val (.int x7), .val (.int (0 : Int32)), .val (.int x9), .val (.int x13), .val (.int x17), .val (.int x22), .val (.ref c25_0), .val (.ref c28_0), .val (.ref b31), .val (.int (0 : Int32)), .val (.int (0 : Int32))] [(.int (1 : Int32))])) _
              refine XS.goto X34.here hx rfl (pc0 := 203) (pc' := 207) rfl (hb hby at_203) (by decide) (by decide) ?_
              exact retN X34 hx (t := .boolean) Bd.returns (by simp) (hb hby at_207) hr
            · show QL n0 _ T34.heap _
              exact ⟨rfl, N34⟩
        · have hd32 : ¬ (x2 < (0 : Int32)) := (by have q0 := rx2; have q1 := (by decide : ((0 : Int32)).toInt = 0); exact own_ltF (by omega) : ¬ (x2 < (0 : Int32)))
          have hd33 : ¬ ((9 : Int32) < x2) := (by have q0 := (by decide : ((9 : Int32)).toInt = 9); have q1 := rx2; exact own_ltF (by omega) : ¬ ((9 : Int32) < x2))
          obtain ⟨_, T34, L34, ⟨z34, rfl, N34q, hz34_0, hz34_1, e34⟩, X34, st34⟩ := own_callS X31 hx hZ (W := 2) hown (hw _ m45) (hw _ m46) (hw _ m3) (hw _ m47) (by decide) (jm0 l Z a0 hw hj w0 w1 w2 w3 w4 w5 w6 w7 w8 w9 w10 w11 hS [] x2 h31 n0 O31 hd32 hd33 hp3) e31 (g := (mkF m 120 #[.val (.int i0), .val (.int i1), .val (.int i2), .val (.int i3), .val (.int i4), .val (.int i5), .val (.int x2), .val (.int x4), .val (.int x7), .val (.int (0 : Int32)), .val (.int x9), .val (.int x13), .val (.int x17), .val (.int x22), .val (.ref c25_0), .val (.ref c28_0), .unset, .unset, .unset] [(.int x2), (.ref b31), (.ref b31)])) rfl (by rw [hml]; rfl) (argsL := [(.int x2)]) (rest := [(.ref b31), (.ref b31)]) (lenOf pd128 rfl) rfl rfl (by show 2 * 0 + _ ≤ _; exact Nat.le_of_eq rfl) (hb hby at_120) (by decide) (by decide) (by decide) (by decide)
          have N34 := Fr.app N28 N34q
          have e34' : T34.heap = h31 := e34
          have sf35 := ((sfS (Safe.exa (EL := EL) hZ.alike A31 (by decide) (by decide)) sf0) : ∀ x ∈ [b31], Safe Z EL s.vm h31 x)
          obtain ⟨_, T35, L35, hQ35, X35, st35⟩ := own_special X34 hx hZ (W := 1) rfl hown (hw _ m51) (hw _ m52) (hw _ m44) (hw _ m53) (by decide) (rm10 l Z a0 hw hj w0 w1 w2 w3 w4 w5 w6 w7 w8 w9 w10 w11 hS [] i4 i5 b31 z34 c25_0 h31 n0 O31 A31 F31_1 F31_2 F31_3 F31_4 (Nat.le_trans (own_old_le O28) g31)) e34' (a := b31) (g := (mkF m 129 #[.val (.int i0), .val (.int i1), .val (.int i2), .val (.int i3), .val (.int i4), .val (.int i5), .val (.int x2), .val (.int x4), .val (.int x7), .val (.int (0 : Int32)), .val (.int x9), .val (.int x13), .val (.int x17), .val (.int x22), .val (.ref c25_0), .val (.ref c28_0), .unset, .unset, .unset] [(.int i5), (.int i4), (.ref c25_0), (.ref z34), (.ref b31), (.ref b31)])) rfl (by rw [hml]; rfl) (argsL := [(.ref z34), (.ref c25_0), (.int i4), (.int i5)]) (rest := [(.ref b31)]) (lenOf pd164 rfl) rfl rfl (by show 2 * 0 + _ ≤ _; exact Nat.le_of_eq rfl) (hb hby at_129) (by decide) (by decide) (by decide) (by decide)
          obtain ⟨rfl, N35q, Kq35, q35_0, q35_1, q35_2, q35_3⟩ := hQ35
          have N35 := Fr.app N34 N35q
          have C35 := C31.trans (CHr.keep Kq35 sf35 C31.1)
          have O35 : Old Z n0 T35.heap := O31.keep Kq35 (allS (Nat.le_trans (own_old_le O28) g31) all0)
          have K35 : Keep h0 T35.heap [] := K31.trans Kq35 (allS (Or.inr (Nat.le_trans K28.1 g31)) all0)
          have sf36 := (sf0 : ∀ x ∈ [], Safe Z EL s.vm T35.heap x)
          have f37 : Exa Z T35.heap b31 z1 := (A31.keep Kq35)
          obtain ⟨_, T36, L36, hQ36, X36, st36⟩ := own_virtual X35 hx hZ (W := 0) hown (hw _ m68) (hw _ m69) (notFace_of_selects (args := #[]) (mvT hZ (hw _ m71))) (hw _ m71) (hw _ m70) (hw _ m44) (hw _ m72) (by decide) (rm11 l Z a0 hw hj w0 w1 w2 w3 w4 w5 w6 w7 w8 w9 w10 w11 hS [] b31 c28_0 z34 T35.heap n0 O35 q35_0 hz34_1) (rfl : T35.heap = T35.heap) f37 (g := (mkF m 138 #[.val (.int i0), .val (.int i1), .val (.int i2), .val (.int i3), .val (.int i4), .val (.int i5), .val (.int x2), .val (.int x4), .val (.int x7), .val (.int (0 : Int32)), .val (.int x9), .val (.int x13), .val (.int x17), .val (.int x22), .val (.ref c25_0), .val (.ref c28_0), .val (.ref b31), .unset, .unset] [(.ref c28_0), (.ref b31)])) rfl (by rw [hml]; rfl) (argsL := [(.ref c28_0)]) (rest := []) (lenOf pd235 rfl) rfl rfl (by show 2 * 0 + _ ≤ _; exact Nat.le_of_eq rfl) (hb hby at_138) (by decide) (by decide) (by decide) (by decide)
          obtain ⟨rfl, N36q, e36⟩ := hQ36
          have N36 := Fr.app N35 N36q
          have e36' : T36.heap = T35.heap := e36
          obtain ⟨fs, hr, hrun, hended, hRW⟩ := X36.leaveW hS0 (by rw [e36']; exact (Nat.le_trans (Nat.le_refl _) (Nat.le_trans (Nat.le_trans (Nat.le_trans Kq25.1 Kq28.1) E31.1) Kq35.1))) (v := some (.int (1 : Int32))) (fun h => by rw [Bd.returns] at h; cases h)
          refine ⟨_, _, pre4 _ ?_, hrun, hended, _, _, rfl, ?_, own_rwm hRW (by decide) (by decide)⟩
          · refine XS.iload X31.here hx rfl (hb hby at_118) rfl ?_
            refine st34 _ ?_
            refine XS.aload X34.here hx rfl (hb hby at_123) rfl rfl ?_
            show Steps p.tables e below (T34.setTop (mkF m 125 #[.val (.int i0), .val (.int i1), .val (.int i2), .val (.int i3), .val (.int i4), .val (.int i5), .val (.int x2), .val (.int x4), .val (.int x7), .val (.int (0 : Int32)), .val (.int x9), .val (.int x13), .val (.int x17), .val (.int x22), .val (.ref c25_0), .val (.ref c28_0), .unset, .unset, .unset] [(.ref c25_0), (.ref z34), (.ref b31), (.ref b31)])) _
            refine XS.iload X34.here hx rfl (hb hby at_125) rfl ?_
            refine XS.iload X34.here hx rfl (hb hby at_127) rfl ?_
            refine st35 _ ?_
            refine XS.astore X35.here hx rfl (hb hby at_132) rfl rfl (l' := #[.val (.int i0), .val (.int i1), .val (.int i2), .val (.int i3), .val (.int i4), .val (.int i5), .val (.int x2), .val (.int x4), .val (.int x7), .val (.int (0 : Int32)), .val (.int x9), .val (.int x13), .val (.int x17), .val (.int x22), .val (.ref c25_0), .val (.ref c28_0), .val (.ref b31), .unset, .unset]) rfl ?_
            show Steps p.tables e below (T35.setTop (mkF m 134 #[.val (.int i0), .val (.int i1), .val (.int i2), .val (.int i3), .val (.int i4), .val (.int i5), .val (.int x2), .val (.int x4), .val (.int x7), .val (.int (0 : Int32)), .val (.int x9), .val (.int x13), .val (.int x17), .val (.int x22), .val (.ref c25_0), .val (.ref c28_0), .val (.ref b31), .unset, .unset] [])) _
            refine XS.aload X35.here hx rfl (hb hby at_134) rfl rfl ?_
            refine XS.aload X35.here hx rfl (hb hby at_136) rfl rfl ?_
            refine st36 _ ?_
            refine XS.istore X36.here hx rfl (hb hby at_141) rfl (l' := #[.val (.int i0), .val (.int i1), .val (.int i2), .val (.int i3), .val (.int i4), .val (.int i5), .val (.int x2), .val (.int x4), .val (.int x7), .val (.int (0 : Int32)), .val (.int x9), .val (.int x13), .val (.int x17), .val (.int x22), .val (.ref c25_0), .val (.ref c28_0), .val (.ref b31), .val (.int (0 : Int32)), .unset]) rfl ?_
            show Steps p.tables e below (T36.setTop (mkF m 143 #[.val (.int i0), .val (.int i1), .val (.int i2), .val (.int i3), .val (.int i4), .val (.int i5), .val (.int x2), .val (.int x4), .val (.int x7), .val (.int (0 : Int32)), .val (.int x9), .val (.int x13), .val (.int x17), .val (.int x22), .val (.ref c25_0), .val (.ref c28_0), .val (.ref b31), .val (.int (0 : Int32)), .unset] [])) _
            refine XS.iload X36.here hx rfl (hb hby at_143) rfl ?_
            refine XS.bipush X36.here hx rfl (hb hby at_145) ?_
            refine XS.icmpYes X36.here hx rfl (pc0 := 147) (pc' := 192) rfl (hb hby at_147) rfl (feq hp3).2 (by decide) (by decide) ?_
            refine XS.iconst X36.here hx rfl (hb hby at_192) ?_
            show Steps p.tables e below (T36.setTop (mkF m 193 #[.val (.int i0), .val (.int i1), .val (.int i2), .val (.int i3), .val (.int i4), .val (.int i5), .val (.int x2), .val (.int x4), .val (.int x7), .val (.int (0 : Int32)), .val (.int x9), .val (.int x13), .val (.int x17), .val (.int x22), .val (.ref c25_0), .val (.ref c28_0), .val (.ref b31), .val (.int (0 : Int32)), .unset] [(.int (0 : Int32))])) _
            refine XS.istore X36.here hx rfl (hb hby at_193) rfl (l' := #[.val (.int i0), .val (.int i1), .val (.int i2), .val (.int i3), .val (.int i4), .val (.int i5), .val (.int x2), .val (.int x4), .val (.int x7), .val (.int (0 : Int32)), .val (.int x9), .val (.int x13), .val (.int x17), .val (.int x22), .val (.ref c25_0), .val (.ref c28_0), .val (.ref b31), .val (.int (0 : Int32)), .val (.int (0 : Int32))]) rfl ?_
            refine XS.iload X36.here hx rfl (hb hby at_195) rfl ?_
            refine XS.iload X36.here hx rfl (hb hby at_197) rfl ?_
            refine XS.icmpNo X36.here hx rfl (hb hby at_199) rfl (teq (by decide : (0 : Int32) = (0 : Int32))).2 ?_
            show Steps p.tables e below (T36.setTop (mkF m 202 #[.val (.int i0), .val (.int i1), .val (.int i2), .val (.int i3), .val (.int i4), .val (.int i5), .val (.int x2), .val (.int x4), .val (.int x7), .val (.int (0 : Int32)), .val (.int x9), .val (.int x13), .val (.int x17), .val (.int x22), .val (.ref c25_0), .val (.ref c28_0), .val (.ref b31), .val (.int (0 : Int32)), .val (.int (0 : Int32))] [])) _
            refine XS.iconst X36.here hx rfl (hb hby at_202) ?_
            refine XS.goto X36.here hx rfl (pc0 := 203) (pc' := 207) rfl (hb hby at_203) (by decide) (by decide) ?_
            exact retN X36 hx (t := .boolean) Bd.returns (by simp) (hb hby at_207) hr
          · show QL n0 _ T36.heap _
            exact ⟨rfl, N36⟩
  · obtain ⟨x9, hx9⟩ : ∃ z, (i1 &&& (255 : Int32)) = z := ⟨_, rfl⟩
    have rx9 : 0 ≤ x9.toInt ∧ x9.toInt ≤ 255 := hx9 ▸ (own_mask i1 (255 : Int32) (by decide) : 0 ≤ ((i1 &&& (255 : Int32))).toInt ∧ ((i1 &&& (255 : Int32))).toInt ≤ 255)
    have hd10 : ¬ (x9 < (0 : Int32)) := (by have q0 := rx9; have q1 := (by decide : ((0 : Int32)).toInt = 0); exact own_ltF (by omega) : ¬ (x9 < (0 : Int32)))
    have hd11 : ¬ ((65535 : Int32) < x9) := (by have q0 := (by decide : ((65535 : Int32)).toInt = 65535); have q1 := rx9; exact own_ltF (by omega) : ¬ ((65535 : Int32) < x9))
    obtain ⟨x12, hx12⟩ : ∃ z, ((i1.toUInt32 >>> ((8 : Int32) &&& 31).toUInt32).toInt32) = z := ⟨_, rfl⟩
    have rx12 : 0 ≤ x12.toInt ∧ x12.toInt ≤ 16777215 := hx12 ▸ (by have q0 := own_rng i1; have q1 := (by decide : ((8 : Int32)).toInt = 8); have q2 := c_iushr i1 (8 : Int32) 8 (by decide) (by decide); omega : 0 ≤ (((i1.toUInt32 >>> ((8 : Int32) &&& 31).toUInt32).toInt32)).toInt ∧ (((i1.toUInt32 >>> ((8 : Int32) &&& 31).toUInt32).toInt32)).toInt ≤ 16777215)
    obtain ⟨x13, hx13⟩ : ∃ z, (x12 &&& (255 : Int32)) = z := ⟨_, rfl⟩
    have rx13 : 0 ≤ x13.toInt ∧ x13.toInt ≤ 255 := hx13 ▸ (own_mask x12 (255 : Int32) (by decide) : 0 ≤ ((x12 &&& (255 : Int32))).toInt ∧ ((x12 &&& (255 : Int32))).toInt ≤ 255)
    have hd14 : ¬ (x13 < (0 : Int32)) := (by have q0 := rx13; have q1 := (by decide : ((0 : Int32)).toInt = 0); exact own_ltF (by omega) : ¬ (x13 < (0 : Int32)))
    have hd15 : ¬ ((65535 : Int32) < x13) := (by have q0 := (by decide : ((65535 : Int32)).toInt = 65535); have q1 := rx13; exact own_ltF (by omega) : ¬ ((65535 : Int32) < x13))
    obtain ⟨x16, hx16⟩ : ∃ z, (i2 &&& (255 : Int32)) = z := ⟨_, rfl⟩
    have rx16 : 0 ≤ x16.toInt ∧ x16.toInt ≤ 255 := hx16 ▸ (own_mask i2 (255 : Int32) (by decide) : 0 ≤ ((i2 &&& (255 : Int32))).toInt ∧ ((i2 &&& (255 : Int32))).toInt ≤ 255)
    obtain ⟨x17, hx17⟩ : ∃ z, (x9 ^^^ x16) = z := ⟨_, rfl⟩
    have rx17 : 0 ≤ x17.toInt ∧ x17.toInt ≤ 255 := hx17 ▸ (by have q0 := rx9; have q1 := rx16; have q2 := own_xor x9 x16 8 (by decide) (by have q0 := rx9; omega) (by have q0 := rx16; omega); omega : 0 ≤ ((x9 ^^^ x16)).toInt ∧ ((x9 ^^^ x16)).toInt ≤ 255)
    have hd18 : ¬ (x17 < (0 : Int32)) := (by have q0 := rx17; have q1 := (by decide : ((0 : Int32)).toInt = 0); exact own_ltF (by omega) : ¬ (x17 < (0 : Int32)))
    have hd19 : ¬ ((65535 : Int32) < x17) := (by have q0 := (by decide : ((65535 : Int32)).toInt = 65535); have q1 := rx17; exact own_ltF (by omega) : ¬ ((65535 : Int32) < x17))
    obtain ⟨x20, hx20⟩ : ∃ z, ((i2.toUInt32 >>> ((8 : Int32) &&& 31).toUInt32).toInt32) = z := ⟨_, rfl⟩
    have rx20 : 0 ≤ x20.toInt ∧ x20.toInt ≤ 16777215 := hx20 ▸ (by have q0 := own_rng i2; have q1 := (by decide : ((8 : Int32)).toInt = 8); have q2 := c_iushr i2 (8 : Int32) 8 (by decide) (by decide); omega : 0 ≤ (((i2.toUInt32 >>> ((8 : Int32) &&& 31).toUInt32).toInt32)).toInt ∧ (((i2.toUInt32 >>> ((8 : Int32) &&& 31).toUInt32).toInt32)).toInt ≤ 16777215)
    obtain ⟨x21, hx21⟩ : ∃ z, (x20 &&& (255 : Int32)) = z := ⟨_, rfl⟩
    have rx21 : 0 ≤ x21.toInt ∧ x21.toInt ≤ 255 := hx21 ▸ (own_mask x20 (255 : Int32) (by decide) : 0 ≤ ((x20 &&& (255 : Int32))).toInt ∧ ((x20 &&& (255 : Int32))).toInt ≤ 255)
    obtain ⟨x22, hx22⟩ : ∃ z, (x13 ^^^ x21) = z := ⟨_, rfl⟩
    have rx22 : 0 ≤ x22.toInt ∧ x22.toInt ≤ 255 := hx22 ▸ (by have q0 := rx13; have q1 := rx21; have q2 := own_xor x13 x21 8 (by decide) (by have q0 := rx13; omega) (by have q0 := rx21; omega); omega : 0 ≤ ((x13 ^^^ x21)).toInt ∧ ((x13 ^^^ x21)).toInt ≤ 255)
    have hd23 : ¬ (x22 < (0 : Int32)) := (by have q0 := rx22; have q1 := (by decide : ((0 : Int32)).toInt = 0); exact own_ltF (by omega) : ¬ (x22 < (0 : Int32)))
    have hd24 : ¬ ((65535 : Int32) < x22) := (by have q0 := (by decide : ((65535 : Int32)).toInt = 65535); have q1 := rx22; exact own_ltF (by omega) : ¬ ((65535 : Int32) < x22))
    have pre2 : ∀ t, Steps p.tables e below (s₁.setTop (mkF m 83 #[.val (.int i0), .val (.int i1), .val (.int i2), .val (.int i3), .val (.int i4), .val (.int i5), .val (.int x2), .val (.int x4), .val (.int x7), .val (.int (1 : Int32)), .val (.int x9), .val (.int x13), .val (.int x17), .val (.int x22), .unset, .unset, .unset, .unset, .unset] [])) t → Steps p.tables e below (s₁.setTop (entryFrame m #[(.int i0), (.int i1), (.int i2), (.int i3), (.int i4), (.int i5)] maxLocals)) t := fun t kt => pre1 _ (by
        refine XS.ifNo X0.here hx rfl (hb hby at_29) rfl ((if0 _ _).trans (feq hp0).1) ?_
        show Steps p.tables e below (s₁.setTop (mkF m 32 #[.val (.int i0), .val (.int i1), .val (.int i2), .val (.int i3), .val (.int i4), .val (.int i5), .val (.int x2), .val (.int x4), .val (.int x7), .unset, .unset, .unset, .unset, .unset, .unset, .unset, .unset, .unset, .unset] [])) _
        refine XS.iconst X0.here hx rfl (hb hby at_32) ?_
        refine XS.goto X0.here hx rfl (pc0 := 33) (pc' := 37) rfl (hb hby at_33) (by decide) (by decide) ?_
        refine XS.istore X0.here hx rfl (hb hby at_37) rfl (l' := #[.val (.int i0), .val (.int i1), .val (.int i2), .val (.int i3), .val (.int i4), .val (.int i5), .val (.int x2), .val (.int x4), .val (.int x7), .val (.int (1 : Int32)), .unset, .unset, .unset, .unset, .unset, .unset, .unset, .unset, .unset]) rfl ?_
        refine XS.iloadN X0.here hx rfl (hb hby at_39) rfl ?_
        show Steps p.tables e below (s₁.setTop (mkF m 40 #[.val (.int i0), .val (.int i1), .val (.int i2), .val (.int i3), .val (.int i4), .val (.int i5), .val (.int x2), .val (.int x4), .val (.int x7), .val (.int (1 : Int32)), .unset, .unset, .unset, .unset, .unset, .unset, .unset, .unset, .unset] [(.int i1)])) _
        refine XS.sipush X0.here hx rfl (hb hby at_40) ?_
        refine Own.iand X0.here hx rfl (hb hby at_43) rfl hx9 ?_
        refine Own.i2c X0.here hx rfl (hb hby at_44) rfl (own_i2c hd10 hd11) ?_
        refine XS.istore X0.here hx rfl (hb hby at_45) rfl (l' := #[.val (.int i0), .val (.int i1), .val (.int i2), .val (.int i3), .val (.int i4), .val (.int i5), .val (.int x2), .val (.int x4), .val (.int x7), .val (.int (1 : Int32)), .val (.int x9), .unset, .unset, .unset, .unset, .unset, .unset, .unset, .unset]) rfl ?_
        show Steps p.tables e below (s₁.setTop (mkF m 47 #[.val (.int i0), .val (.int i1), .val (.int i2), .val (.int i3), .val (.int i4), .val (.int i5), .val (.int x2), .val (.int x4), .val (.int x7), .val (.int (1 : Int32)), .val (.int x9), .unset, .unset, .unset, .unset, .unset, .unset, .unset, .unset] [])) _
        refine XS.iloadN X0.here hx rfl (hb hby at_47) rfl ?_
        refine XS.bipush X0.here hx rfl (hb hby at_48) ?_
        refine Own.iushr X0.here hx rfl (hb hby at_50) rfl hx12 ?_
        refine XS.sipush X0.here hx rfl (hb hby at_51) ?_
        show Steps p.tables e below (s₁.setTop (mkF m 54 #[.val (.int i0), .val (.int i1), .val (.int i2), .val (.int i3), .val (.int i4), .val (.int i5), .val (.int x2), .val (.int x4), .val (.int x7), .val (.int (1 : Int32)), .val (.int x9), .unset, .unset, .unset, .unset, .unset, .unset, .unset, .unset] [(.int (255 : Int32)), (.int x12)])) _
        refine Own.iand X0.here hx rfl (hb hby at_54) rfl hx13 ?_
        refine Own.i2c X0.here hx rfl (hb hby at_55) rfl (own_i2c hd14 hd15) ?_
        refine XS.istore X0.here hx rfl (hb hby at_56) rfl (l' := #[.val (.int i0), .val (.int i1), .val (.int i2), .val (.int i3), .val (.int i4), .val (.int i5), .val (.int x2), .val (.int x4), .val (.int x7), .val (.int (1 : Int32)), .val (.int x9), .val (.int x13), .unset, .unset, .unset, .unset, .unset, .unset, .unset]) rfl ?_
        refine XS.iload X0.here hx rfl (hb hby at_58) rfl ?_
        show Steps p.tables e below (s₁.setTop (mkF m 60 #[.val (.int i0), .val (.int i1), .val (.int i2), .val (.int i3), .val (.int i4), .val (.int i5), .val (.int x2), .val (.int x4), .val (.int x7), .val (.int (1 : Int32)), .val (.int x9), .val (.int x13), .unset, .unset, .unset, .unset, .unset, .unset, .unset] [(.int x9)])) _
        refine XS.iloadN X0.here hx rfl (hb hby at_60) rfl ?_
        refine XS.sipush X0.here hx rfl (hb hby at_61) ?_
        refine Own.iand X0.here hx rfl (hb hby at_64) rfl hx16 ?_
        refine Own.ixor X0.here hx rfl (hb hby at_65) rfl hx17 ?_
        show Steps p.tables e below (s₁.setTop (mkF m 66 #[.val (.int i0), .val (.int i1), .val (.int i2), .val (.int i3), .val (.int i4), .val (.int i5), .val (.int x2), .val (.int x4), .val (.int x7), .val (.int (1 : Int32)), .val (.int x9), .val (.int x13), .unset, .unset, .unset, .unset, .unset, .unset, .unset] [(.int x17)])) _
        refine Own.i2c X0.here hx rfl (hb hby at_66) rfl (own_i2c hd18 hd19) ?_
        refine XS.istore X0.here hx rfl (hb hby at_67) rfl (l' := #[.val (.int i0), .val (.int i1), .val (.int i2), .val (.int i3), .val (.int i4), .val (.int i5), .val (.int x2), .val (.int x4), .val (.int x7), .val (.int (1 : Int32)), .val (.int x9), .val (.int x13), .val (.int x17), .unset, .unset, .unset, .unset, .unset, .unset]) rfl ?_
        refine XS.iload X0.here hx rfl (hb hby at_69) rfl ?_
        refine XS.iloadN X0.here hx rfl (hb hby at_71) rfl ?_
        show Steps p.tables e below (s₁.setTop (mkF m 72 #[.val (.int i0), .val (.int i1), .val (.int i2), .val (.int i3), .val (.int i4), .val (.int i5), .val (.int x2), .val (.int x4), .val (.int x7), .val (.int (1 : Int32)), .val (.int x9), .val (.int x13), .val (.int x17), .unset, .unset, .unset, .unset, .unset, .unset] [(.int i2), (.int x13)])) _
        refine XS.bipush X0.here hx rfl (hb hby at_72) ?_
        refine Own.iushr X0.here hx rfl (hb hby at_74) rfl hx20 ?_
        refine XS.sipush X0.here hx rfl (hb hby at_75) ?_
        refine Own.iand X0.here hx rfl (hb hby at_78) rfl hx21 ?_
        show Steps p.tables e below (s₁.setTop (mkF m 79 #[.val (.int i0), .val (.int i1), .val (.int i2), .val (.int i3), .val (.int i4), .val (.int i5), .val (.int x2), .val (.int x4), .val (.int x7), .val (.int (1 : Int32)), .val (.int x9), .val (.int x13), .val (.int x17), .unset, .unset, .unset, .unset, .unset, .unset] [(.int x21), (.int x13)])) _
        refine Own.ixor X0.here hx rfl (hb hby at_79) rfl hx22 ?_
        refine Own.i2c X0.here hx rfl (hb hby at_80) rfl (own_i2c hd23 hd24) ?_
        refine XS.istore X0.here hx rfl (hb hby at_81) rfl (l' := #[.val (.int i0), .val (.int i1), .val (.int i2), .val (.int i3), .val (.int i4), .val (.int i5), .val (.int x2), .val (.int x4), .val (.int x7), .val (.int (1 : Int32)), .val (.int x9), .val (.int x13), .val (.int x17), .val (.int x22), .unset, .unset, .unset, .unset, .unset]) rfl ?_
        exact kt)
    rcases en_60 x4 (by have q0 := own_rng i3; have q1 := (by decide : ((3 : Int32)).toInt = 3); have q2 := (own_mask i3 (3 : Int32) (by decide) : 0 ≤ ((i3 &&& (3 : Int32))).toInt ∧ ((i3 &&& (3 : Int32))).toInt ≤ 3); have q3 := congrArg Int32.toInt hx3; have q4 := rx3; have q5 := (own_rem x3 (3 : Int32) 3 (by decide) (by have q0 := rx3; omega : 0 ≤ (x3).toInt ∧ (x3).toInt ≤ 3) (by decide) : 0 ≤ ((x3 % (3 : Int32))).toInt ∧ ((x3 % (3 : Int32))).toInt ≤ 2); have q6 := congrArg Int32.toInt hx4; have q7 := rx4; omega) with hp1 | hp1 | hp1
    · obtain ⟨_, T25, L25, hQ25, hS25, hZ25, hown25, Cq25, X25, st25⟩ := own_callSW X0 hx hZ (W := 0) hown (hw _ m1) (hw _ m2) (hw _ m3) (hw _ m4) (by decide) (rm3 l Z a0 hw hj w0 w1 w2 w3 w4 w5 w6 w7 w8 w9 w10 w11 hS [] x9 x13 h0 n0 O0) e0 hS0 (Nat.le_refl _) (own_EW hw hj) C0.1 own_sx0 (g := (mkF m 89 #[.val (.int i0), .val (.int i1), .val (.int i2), .val (.int i3), .val (.int i4), .val (.int i5), .val (.int x2), .val (.int x4), .val (.int x7), .val (.int (1 : Int32)), .val (.int x9), .val (.int x13), .val (.int x17), .val (.int x22), .unset, .unset, .unset, .unset, .unset] [(.int x13), (.int x9), (.int (0 : Int32))])) rfl (by rw [hml]; rfl) (argsL := [(.int (0 : Int32)), (.int x9), (.int x13)]) (rest := []) (lenOf pd114 rfl) rfl rfl (by show 2 * 0 + _ ≤ _; exact Nat.le_of_eq rfl) (hb hby at_89) (by decide) (by decide) (by decide) (by decide)
      obtain ⟨c25_0, c25_1, k25_2, rfl, N25q, Kq25, lo25_0, q25_0, q25_1, q25_2, q25_3⟩ := hQ25
      have N25 := Fr.app N0 N25q
      have C25 := C0.trans Cq25
      have O25 : Old Z n0 T25.heap := O0.keep Kq25 all0
      have K25 : Keep h0 T25.heap [] := (Keep.refl h0 []).trans Kq25 all0
      obtain ⟨T26, h26, b26, X26, e26, E26, A26, D26, g26, O26, K26, st26⟩ := own_newO X25 hx hZ25 hown25 (hw _ m42) (hw _ m43) (hw _ m44) (rfl : T25.heap = T25.heap) O25 K25 (g := (mkF m 114 #[.val (.int i0), .val (.int i1), .val (.int i2), .val (.int i3), .val (.int i4), .val (.int i5), .val (.int x2), .val (.int x4), .val (.int x7), .val (.int (1 : Int32)), .val (.int x9), .val (.int x13), .val (.int x17), .val (.int x22), .val (.ref c25_0), .val .null, .unset, .unset, .unset] [])) rfl (hb hby at_114) (by decide) (by decide)
      have C26 := C25.trans (CHr.ext E26 C25.1)
      have F26_1 : Fld Z h26 b26 z1 "type" z3 .null := D26 (Or.inr (hw _ m61)) (ty := (.object z2)) (by decide)
      have F26_2 : Fld Z h26 b26 z1 "text" z8 .null := D26 (Or.inr (hw _ m63)) (ty := (.object z0)) (by decide)
      have F26_3 : Fld Z h26 b26 z1 "line" "I" (.int (0 : Int32)) := D26 (Or.inr (hw _ m65)) (ty := .int) (by decide)
      have F26_4 : Fld Z h26 b26 z1 "column" "I" (.int (0 : Int32)) := D26 (Or.inr (hw _ m67)) (ty := .int) (by decide)
      have pre3 : ∀ t, Steps p.tables e below (T26.setTop (mkF m 118 #[.val (.int i0), .val (.int i1), .val (.int i2), .val (.int i3), .val (.int i4), .val (.int i5), .val (.int x2), .val (.int x4), .val (.int x7), .val (.int (1 : Int32)), .val (.int x9), .val (.int x13), .val (.int x17), .val (.int x22), .val (.ref c25_0), .val .null, .unset, .unset, .unset] [(.ref b26), (.ref b26)])) t → Steps p.tables e below (s₁.setTop (entryFrame m #[(.int i0), (.int i1), (.int i2), (.int i3), (.int i4), (.int i5)] maxLocals)) t := fun t kt => pre2 _ (by
          refine Own.iload X0.here hx rfl (hb hby at_83) rfl hp1 ?_
          show Steps p.tables e below (s₁.setTop (mkF m 85 #[.val (.int i0), .val (.int i1), .val (.int i2), .val (.int i3), .val (.int i4), .val (.int i5), .val (.int x2), .val (.int x4), .val (.int x7), .val (.int (1 : Int32)), .val (.int x9), .val (.int x13), .val (.int x17), .val (.int x22), .unset, .unset, .unset, .unset, .unset] [(.int (0 : Int32))])) _
          refine XS.iload X0.here hx rfl (hb hby at_85) rfl ?_
          refine XS.iload X0.here hx rfl (hb hby at_87) rfl ?_
          refine st25 _ ?_
          refine XS.astore X25.here hx rfl (hb hby at_92) rfl rfl (l' := #[.val (.int i0), .val (.int i1), .val (.int i2), .val (.int i3), .val (.int i4), .val (.int i5), .val (.int x2), .val (.int x4), .val (.int x7), .val (.int (1 : Int32)), .val (.int x9), .val (.int x13), .val (.int x17), .val (.int x22), .val (.ref c25_0), .unset, .unset, .unset, .unset]) rfl ?_
          show Steps p.tables e below (T25.setTop (mkF m 94 #[.val (.int i0), .val (.int i1), .val (.int i2), .val (.int i3), .val (.int i4), .val (.int i5), .val (.int x2), .val (.int x4), .val (.int x7), .val (.int (1 : Int32)), .val (.int x9), .val (.int x13), .val (.int x17), .val (.int x22), .val (.ref c25_0), .unset, .unset, .unset, .unset] [])) _
          refine XS.iload X25.here hx rfl (hb hby at_94) rfl ?_
          refine XS.ifNo X25.here hx rfl (hb hby at_96) rfl ((if0 _ _).trans (feq (by decide : ¬ ((1 : Int32) = (0 : Int32)))).1) ?_
          refine XS.aconstNull X25.here hx rfl (hb hby at_99) ?_
          refine XS.goto X25.here hx rfl (pc0 := 100) (pc' := 112) rfl (hb hby at_100) (by decide) (by decide) ?_
          show Steps p.tables e below (T25.setTop (mkF m 112 #[.val (.int i0), .val (.int i1), .val (.int i2), .val (.int i3), .val (.int i4), .val (.int i5), .val (.int x2), .val (.int x4), .val (.int x7), .val (.int (1 : Int32)), .val (.int x9), .val (.int x13), .val (.int x17), .val (.int x22), .val (.ref c25_0), .unset, .unset, .unset, .unset] [.null])) _
          refine XS.astore X25.here hx rfl (hb hby at_112) rfl rfl (l' := #[.val (.int i0), .val (.int i1), .val (.int i2), .val (.int i3), .val (.int i4), .val (.int i5), .val (.int x2), .val (.int x4), .val (.int x7), .val (.int (1 : Int32)), .val (.int x9), .val (.int x13), .val (.int x17), .val (.int x22), .val (.ref c25_0), .val .null, .unset, .unset, .unset]) rfl ?_
          refine st26 _ ?_
          refine XS.dup X26.here hx rfl (hb hby at_117) rfl rfl ?_
          exact kt)
      rcases Decidable.em (x2 = (8 : Int32)) with hp2 | hp2
      · have sf27 := (sf0 : ∀ x ∈ [], Safe Z EL T25.vm h26 x)
        obtain ⟨_, T27, L27, hQ27, X27, st27⟩ := own_callS X26 hx hZ25 (W := 2) hown25 (hw _ m45) (hw _ m46) (hw _ m3) (hw _ m47) (by decide) (rm4 l Z a0 hw hj w0 w1 w2 w3 w4 w5 w6 w7 w8 w9 w10 w11 hS [] h26 n0 O26) e26 (g := (mkF m 120 #[.val (.int i0), .val (.int i1), .val (.int i2), .val (.int i3), .val (.int i4), .val (.int i5), .val (.int x2), .val (.int x4), .val (.int x7), .val (.int (1 : Int32)), .val (.int x9), .val (.int x13), .val (.int x17), .val (.int x22), .val (.ref c25_0), .val .null, .unset, .unset, .unset] [(.int (8 : Int32)), (.ref b26), (.ref b26)])) rfl (by rw [hml]; rfl) (argsL := [(.int (8 : Int32))]) (rest := [(.ref b26), (.ref b26)]) (lenOf pd128 rfl) rfl rfl (by show 2 * 0 + _ ≤ _; exact Nat.le_of_eq rfl) (hb hby at_120) (by decide) (by decide) (by decide) (by decide)
        obtain ⟨rfl, N27q, e27⟩ := hQ27
        have N27 := Fr.app N25 N27q
        have e27' : T27.heap = h26 := e27
        have sf28 := ((sfS (Safe.exa (EL := EL) hZ25.alike A26 (by decide) (by decide)) sf0) : ∀ x ∈ [b26], Safe Z EL T25.vm h26 x)
        obtain ⟨_, T28, L28, hQ28, X28, st28⟩ := own_special X27 hx hZ25 (W := 1) rfl hown25 (hw _ m51) (hw _ m52) (hw _ m44) (hw _ m53) (by decide) (rm6 l Z a0 hw hj w0 w1 w2 w3 w4 w5 w6 w7 w8 w9 w10 w11 hS [] i4 i5 b26 c25_0 h26 n0 O26 A26 F26_1 F26_2 F26_3 F26_4 (Nat.le_trans (own_old_le O25) g26)) e27' (a := b26) (g := (mkF m 129 #[.val (.int i0), .val (.int i1), .val (.int i2), .val (.int i3), .val (.int i4), .val (.int i5), .val (.int x2), .val (.int x4), .val (.int x7), .val (.int (1 : Int32)), .val (.int x9), .val (.int x13), .val (.int x17), .val (.int x22), .val (.ref c25_0), .val .null, .unset, .unset, .unset] [(.int i5), (.int i4), (.ref c25_0), (.ref w8), (.ref b26), (.ref b26)])) rfl (by rw [hml]; rfl) (argsL := [(.ref w8), (.ref c25_0), (.int i4), (.int i5)]) (rest := [(.ref b26)]) (lenOf pd164 rfl) rfl rfl (by show 2 * 0 + _ ≤ _; exact Nat.le_of_eq rfl) (hb hby at_129) (by decide) (by decide) (by decide) (by decide)
        obtain ⟨rfl, N28q, Kq28, q28_0, q28_1, q28_2, q28_3⟩ := hQ28
        have N28 := Fr.app N27 N28q
        have C28 := C26.trans (CHr.keep Kq28 sf28 C26.1)
        have O28 : Old Z n0 T28.heap := O26.keep Kq28 (allS (Nat.le_trans (own_old_le O25) g26) all0)
        have K28 : Keep h0 T28.heap [] := K26.trans Kq28 (allS (Or.inr (Nat.le_trans K25.1 g26)) all0)
        have f30 : Exa Z T28.heap c25_0 z0 := ((q25_0.ext E26).keep Kq28)
        have sf29 := (sf0 : ∀ x ∈ [], Safe Z EL T25.vm T28.heap x)
        have f31 : Exa Z T28.heap b26 z1 := (A26.keep Kq28)
        obtain ⟨_, T29, L29, hQ29, X29, st29⟩ := own_virtual X28 hx hZ25 (W := 0) hown25 (hw _ m68) (hw _ m69) (notFace_of_selects (args := #[]) (mvT hZ25 (hw _ m71))) (hw _ m71) (hw _ m70) (hw _ m44) (hw _ m72) (by decide) (rm57 l Z a0 hw hj w0 w1 w2 w3 w4 w5 w6 w7 w8 w9 w10 w11 hS [] b26 c25_0 T28.heap n0 O28 q28_0 q28_1 f30) (rfl : T28.heap = T28.heap) f31 (g := (mkF m 138 #[.val (.int i0), .val (.int i1), .val (.int i2), .val (.int i3), .val (.int i4), .val (.int i5), .val (.int x2), .val (.int x4), .val (.int x7), .val (.int (1 : Int32)), .val (.int x9), .val (.int x13), .val (.int x17), .val (.int x22), .val (.ref c25_0), .val .null, .val (.ref b26), .unset, .unset] [.null, (.ref b26)])) rfl (by rw [hml]; rfl) (argsL := [.null]) (rest := []) (lenOf pd235 rfl) rfl rfl (by show 2 * 0 + _ ≤ _; exact Nat.le_of_eq rfl) (hb hby at_138) (by decide) (by decide) (by decide) (by decide)
        obtain ⟨rfl, N29q, e29⟩ := hQ29
        have N29 := Fr.app N28 N29q
        have e29' : T29.heap = T28.heap := e29
        obtain ⟨fs, hr, hrun, hended, hRW⟩ := X29.leaveW hS25 (by rw [e29']; exact (Nat.le_trans (Nat.le_refl _) (Nat.le_trans E26.1 Kq28.1))) (v := some (.int (1 : Int32))) (fun h => by rw [Bd.returns] at h; cases h)
        refine ⟨_, _, pre3 _ ?_, hrun, hended, _, _, rfl, ?_, own_rwm hRW (by decide) (by decide)⟩
        · refine Own.iload X26.here hx rfl (hb hby at_118) rfl hp2 ?_
          show Steps p.tables e below (T26.setTop (mkF m 120 #[.val (.int i0), .val (.int i1), .val (.int i2), .val (.int i3), .val (.int i4), .val (.int i5), .val (.int x2), .val (.int x4), .val (.int x7), .val (.int (1 : Int32)), .val (.int x9), .val (.int x13), .val (.int x17), .val (.int x22), .val (.ref c25_0), .val .null, .unset, .unset, .unset] [(.int (8 : Int32)), (.ref b26), (.ref b26)])) _
          refine st27 _ ?_
          refine XS.aload X27.here hx rfl (hb hby at_123) rfl rfl ?_
          refine XS.iload X27.here hx rfl (hb hby at_125) rfl ?_
          refine XS.iload X27.here hx rfl (hb hby at_127) rfl ?_
          show Steps p.tables e below (T27.setTop (mkF m 129 #[.val (.int i0), .val (.int i1), .val (.int i2), .val (.int i3), .val (.int i4), .val (.int i5), .val (.int x2), .val (.int x4), .val (.int x7), .val (.int (1 : Int32)), .val (.int x9), .val (.int x13), .val (.int x17), .val (.int x22), .val (.ref c25_0), .val .null, .unset, .unset, .unset] [(.int i5), (.int i4), (.ref c25_0), (.ref w8), (.ref b26), (.ref b26)])) _
          refine st28 _ ?_
          refine XS.astore X28.here hx rfl (hb hby at_132) rfl rfl (l' := #[.val (.int i0), .val (.int i1), .val (.int i2), .val (.int i3), .val (.int i4), .val (.int i5), .val (.int x2), .val (.int x4), .val (.int x7), .val (.int (1 : Int32)), .val (.int x9), .val (.int x13), .val (.int x17), .val (.int x22), .val (.ref c25_0), .val .null, .val (.ref b26), .unset, .unset]) rfl ?_
          refine XS.aload X28.here hx rfl (hb hby at_134) rfl rfl ?_
          refine XS.aload X28.here hx rfl (hb hby at_136) rfl rfl ?_
          show Steps p.tables e below (T28.setTop (mkF m 138 #[.val (.int i0), .val (.int i1), .val (.int i2), .val (.int i3), .val (.int i4), .val (.int i5), .val (.int x2), .val (.int x4), .val (.int x7), .val (.int (1 : Int32)), .val (.int x9), .val (.int x13), .val (.int x17), .val (.int x22), .val (.ref c25_0), .val .null, .val (.ref b26), .unset, .unset] [.null, (.ref b26)])) _
          refine st29 _ ?_
          refine XS.istore X29.here hx rfl (hb hby at_141) rfl (l' := #[.val (.int i0), .val (.int i1), .val (.int i2), .val (.int i3), .val (.int i4), .val (.int i5), .val (.int x2), .val (.int x4), .val (.int x7), .val (.int (1 : Int32)), .val (.int x9), .val (.int x13), .val (.int x17), .val (.int x22), .val (.ref c25_0), .val .null, .val (.ref b26), .val (.int (0 : Int32)), .unset]) rfl ?_
          refine Own.iload X29.here hx rfl (hb hby at_143) rfl hp2 ?_
          refine XS.bipush X29.here hx rfl (hb hby at_145) ?_
          show Steps p.tables e below (T29.setTop (mkF m 147 #[.val (.int i0), .val (.int i1), .val (.int i2), .val (.int i3), .val (.int i4), .val (.int i5), .val (.int x2), .val (.int x4), .val (.int x7), .val (.int (1 : Int32)), .val (.int x9), .val (.int x13), .val (.int x17), .val (.int x22), .val (.ref c25_0), .val .null, .val (.ref b26), .val (.int (0 : Int32)), .unset] [(.int (8 : Int32)), (.int (8 : Int32))])) _
          refine XS.icmpNo X29.here hx rfl (hb hby at_147) rfl (teq (by decide : (8 : Int32) = (8 : Int32))).2 ?_
          refine XS.iload X29.here hx rfl (hb hby at_150) rfl ?_
          refine XS.ifYes X29.here hx rfl (pc0 := 152) (pc' := 192) rfl (hb hby at_152) rfl ((if0 _ _).trans (feq (by decide : ¬ ((1 : Int32) = (0 : Int32)))).2) (by decide) (by decide) ?_
          refine XS.iconst X29.here hx rfl (hb hby at_192) ?_
          show Steps p.tables e below (T29.setTop (mkF m 193 #[.val (.int i0), .val (.int i1), .val (.int i2), .val (.int i3), .val (.int i4), .val (.int i5), .val (.int x2), .val (.int x4), .val (.int x7), .val (.int (1 : Int32)), .val (.int x9), .val (.int x13), .val (.int x17), .val (.int x22), .val (.ref c25_0), .val .null, .val (.ref b26), .val (.int (0 : Int32)), .unset] [(.int (0 : Int32))])) _
          refine XS.istore X29.here hx rfl (hb hby at_193) rfl (l' := #[.val (.int i0), .val (.int i1), .val (.int i2), .val (.int i3), .val (.int i4), .val (.int i5), .val (.int x2), .val (.int x4), .val (.int x7), .val (.int (1 : Int32)), .val (.int x9), .val (.int x13), .val (.int x17), .val (.int x22), .val (.ref c25_0), .val .null, .val (.ref b26), .val (.int (0 : Int32)), .val (.int (0 : Int32))]) rfl ?_
          refine XS.iload X29.here hx rfl (hb hby at_195) rfl ?_
          refine XS.iload X29.here hx rfl (hb hby at_197) rfl ?_
          refine XS.icmpNo X29.here hx rfl (hb hby at_199) rfl (teq (by decide : (0 : Int32) = (0 : Int32))).2 ?_
          show Steps p.tables e below (T29.setTop (mkF m 202 #[.val (.int i0), .val (.int i1), .val (.int i2), .val (.int i3), .val (.int i4), .val (.int i5), .val (.int x2), .val (.int x4), .val (.int x7), .val (.int (1 : Int32)), .val (.int x9), .val (.int x13), .val (.int x17), .val (.int x22), .val (.ref c25_0), .val .null, .val (.ref b26), .val (.int (0 : Int32)), .val (.int (0 : Int32))] [])) _
          refine XS.iconst X29.here hx rfl (hb hby at_202) ?_
          refine XS.goto X29.here hx rfl (pc0 := 203) (pc' := 207) rfl (hb hby at_203) (by decide) (by decide) ?_
          exact retN X29 hx (t := .boolean) Bd.returns (by simp) (hb hby at_207) hr
        · show QL n0 _ T29.heap _
          exact ⟨rfl, N29⟩
      · have hd27 : ¬ (x2 < (0 : Int32)) := (by have q0 := rx2; have q1 := (by decide : ((0 : Int32)).toInt = 0); exact own_ltF (by omega) : ¬ (x2 < (0 : Int32)))
        have hd28 : ¬ ((9 : Int32) < x2) := (by have q0 := (by decide : ((9 : Int32)).toInt = 9); have q1 := rx2; exact own_ltF (by omega) : ¬ ((9 : Int32) < x2))
        obtain ⟨_, T29, L29, ⟨z29, rfl, N29q, hz29_0, hz29_1, e29⟩, X29, st29⟩ := own_callS X26 hx hZ25 (W := 2) hown25 (hw _ m45) (hw _ m46) (hw _ m3) (hw _ m47) (by decide) (jm0 l Z a0 hw hj w0 w1 w2 w3 w4 w5 w6 w7 w8 w9 w10 w11 hS [] x2 h26 n0 O26 hd27 hd28 hp2) e26 (g := (mkF m 120 #[.val (.int i0), .val (.int i1), .val (.int i2), .val (.int i3), .val (.int i4), .val (.int i5), .val (.int x2), .val (.int x4), .val (.int x7), .val (.int (1 : Int32)), .val (.int x9), .val (.int x13), .val (.int x17), .val (.int x22), .val (.ref c25_0), .val .null, .unset, .unset, .unset] [(.int x2), (.ref b26), (.ref b26)])) rfl (by rw [hml]; rfl) (argsL := [(.int x2)]) (rest := [(.ref b26), (.ref b26)]) (lenOf pd128 rfl) rfl rfl (by show 2 * 0 + _ ≤ _; exact Nat.le_of_eq rfl) (hb hby at_120) (by decide) (by decide) (by decide) (by decide)
        have N29 := Fr.app N25 N29q
        have e29' : T29.heap = h26 := e29
        have sf30 := ((sfS (Safe.exa (EL := EL) hZ25.alike A26 (by decide) (by decide)) sf0) : ∀ x ∈ [b26], Safe Z EL T25.vm h26 x)
        obtain ⟨_, T30, L30, hQ30, X30, st30⟩ := own_special X29 hx hZ25 (W := 1) rfl hown25 (hw _ m51) (hw _ m52) (hw _ m44) (hw _ m53) (by decide) (rm10 l Z a0 hw hj w0 w1 w2 w3 w4 w5 w6 w7 w8 w9 w10 w11 hS [] i4 i5 b26 z29 c25_0 h26 n0 O26 A26 F26_1 F26_2 F26_3 F26_4 (Nat.le_trans (own_old_le O25) g26)) e29' (a := b26) (g := (mkF m 129 #[.val (.int i0), .val (.int i1), .val (.int i2), .val (.int i3), .val (.int i4), .val (.int i5), .val (.int x2), .val (.int x4), .val (.int x7), .val (.int (1 : Int32)), .val (.int x9), .val (.int x13), .val (.int x17), .val (.int x22), .val (.ref c25_0), .val .null, .unset, .unset, .unset] [(.int i5), (.int i4), (.ref c25_0), (.ref z29), (.ref b26), (.ref b26)])) rfl (by rw [hml]; rfl) (argsL := [(.ref z29), (.ref c25_0), (.int i4), (.int i5)]) (rest := [(.ref b26)]) (lenOf pd164 rfl) rfl rfl (by show 2 * 0 + _ ≤ _; exact Nat.le_of_eq rfl) (hb hby at_129) (by decide) (by decide) (by decide) (by decide)
        obtain ⟨rfl, N30q, Kq30, q30_0, q30_1, q30_2, q30_3⟩ := hQ30
        have N30 := Fr.app N29 N30q
        have C30 := C26.trans (CHr.keep Kq30 sf30 C26.1)
        have O30 : Old Z n0 T30.heap := O26.keep Kq30 (allS (Nat.le_trans (own_old_le O25) g26) all0)
        have K30 : Keep h0 T30.heap [] := K26.trans Kq30 (allS (Or.inr (Nat.le_trans K25.1 g26)) all0)
        have sf31 := (sf0 : ∀ x ∈ [], Safe Z EL T25.vm T30.heap x)
        have f32 : Exa Z T30.heap b26 z1 := (A26.keep Kq30)
        obtain ⟨_, T31, L31, hQ31, X31, st31⟩ := own_virtual X30 hx hZ25 (W := 0) hown25 (hw _ m68) (hw _ m69) (notFace_of_selects (args := #[]) (mvT hZ25 (hw _ m71))) (hw _ m71) (hw _ m70) (hw _ m44) (hw _ m72) (by decide) (rm58 l Z a0 hw hj w0 w1 w2 w3 w4 w5 w6 w7 w8 w9 w10 w11 hS [] b26 z29 T30.heap n0 O30 q30_0 hz29_1) (rfl : T30.heap = T30.heap) f32 (g := (mkF m 138 #[.val (.int i0), .val (.int i1), .val (.int i2), .val (.int i3), .val (.int i4), .val (.int i5), .val (.int x2), .val (.int x4), .val (.int x7), .val (.int (1 : Int32)), .val (.int x9), .val (.int x13), .val (.int x17), .val (.int x22), .val (.ref c25_0), .val .null, .val (.ref b26), .unset, .unset] [.null, (.ref b26)])) rfl (by rw [hml]; rfl) (argsL := [.null]) (rest := []) (lenOf pd235 rfl) rfl rfl (by show 2 * 0 + _ ≤ _; exact Nat.le_of_eq rfl) (hb hby at_138) (by decide) (by decide) (by decide) (by decide)
        obtain ⟨rfl, N31q, e31⟩ := hQ31
        have N31 := Fr.app N30 N31q
        have e31' : T31.heap = T30.heap := e31
        obtain ⟨fs, hr, hrun, hended, hRW⟩ := X31.leaveW hS25 (by rw [e31']; exact (Nat.le_trans (Nat.le_refl _) (Nat.le_trans E26.1 Kq30.1))) (v := some (.int (1 : Int32))) (fun h => by rw [Bd.returns] at h; cases h)
        refine ⟨_, _, pre3 _ ?_, hrun, hended, _, _, rfl, ?_, own_rwm hRW (by decide) (by decide)⟩
        · refine XS.iload X26.here hx rfl (hb hby at_118) rfl ?_
          show Steps p.tables e below (T26.setTop (mkF m 120 #[.val (.int i0), .val (.int i1), .val (.int i2), .val (.int i3), .val (.int i4), .val (.int i5), .val (.int x2), .val (.int x4), .val (.int x7), .val (.int (1 : Int32)), .val (.int x9), .val (.int x13), .val (.int x17), .val (.int x22), .val (.ref c25_0), .val .null, .unset, .unset, .unset] [(.int x2), (.ref b26), (.ref b26)])) _
          refine st29 _ ?_
          refine XS.aload X29.here hx rfl (hb hby at_123) rfl rfl ?_
          refine XS.iload X29.here hx rfl (hb hby at_125) rfl ?_
          refine XS.iload X29.here hx rfl (hb hby at_127) rfl ?_
          show Steps p.tables e below (T29.setTop (mkF m 129 #[.val (.int i0), .val (.int i1), .val (.int i2), .val (.int i3), .val (.int i4), .val (.int i5), .val (.int x2), .val (.int x4), .val (.int x7), .val (.int (1 : Int32)), .val (.int x9), .val (.int x13), .val (.int x17), .val (.int x22), .val (.ref c25_0), .val .null, .unset, .unset, .unset] [(.int i5), (.int i4), (.ref c25_0), (.ref z29), (.ref b26), (.ref b26)])) _
          refine st30 _ ?_
          refine XS.astore X30.here hx rfl (hb hby at_132) rfl rfl (l' := #[.val (.int i0), .val (.int i1), .val (.int i2), .val (.int i3), .val (.int i4), .val (.int i5), .val (.int x2), .val (.int x4), .val (.int x7), .val (.int (1 : Int32)), .val (.int x9), .val (.int x13), .val (.int x17), .val (.int x22), .val (.ref c25_0), .val .null, .val (.ref b26), .unset, .unset]) rfl ?_
          refine XS.aload X30.here hx rfl (hb hby at_134) rfl rfl ?_
          refine XS.aload X30.here hx rfl (hb hby at_136) rfl rfl ?_
          show Steps p.tables e below (T30.setTop (mkF m 138 #[.val (.int i0), .val (.int i1), .val (.int i2), .val (.int i3), .val (.int i4), .val (.int i5), .val (.int x2), .val (.int x4), .val (.int x7), .val (.int (1 : Int32)), .val (.int x9), .val (.int x13), .val (.int x17), .val (.int x22), .val (.ref c25_0), .val .null, .val (.ref b26), .unset, .unset] [.null, (.ref b26)])) _
          refine st31 _ ?_
          refine XS.istore X31.here hx rfl (hb hby at_141) rfl (l' := #[.val (.int i0), .val (.int i1), .val (.int i2), .val (.int i3), .val (.int i4), .val (.int i5), .val (.int x2), .val (.int x4), .val (.int x7), .val (.int (1 : Int32)), .val (.int x9), .val (.int x13), .val (.int x17), .val (.int x22), .val (.ref c25_0), .val .null, .val (.ref b26), .val (.int (0 : Int32)), .unset]) rfl ?_
          refine XS.iload X31.here hx rfl (hb hby at_143) rfl ?_
          refine XS.bipush X31.here hx rfl (hb hby at_145) ?_
          show Steps p.tables e below (T31.setTop (mkF m 147 #[.val (.int i0), .val (.int i1), .val (.int i2), .val (.int i3), .val (.int i4), .val (.int i5), .val (.int x2), .val (.int x4), .val (.int x7), .val (.int (1 : Int32)), .val (.int x9), .val (.int x13), .val (.int x17), .val (.int x22), .val (.ref c25_0), .val .null, .val (.ref b26), .val (.int (0 : Int32)), .unset] [(.int (8 : Int32)), (.int x2)])) _
          refine XS.icmpYes X31.here hx rfl (pc0 := 147) (pc' := 192) rfl (hb hby at_147) rfl (feq hp2).2 (by decide) (by decide) ?_
          refine XS.iconst X31.here hx rfl (hb hby at_192) ?_
          refine XS.istore X31.here hx rfl (hb hby at_193) rfl (l' := #[.val (.int i0), .val (.int i1), .val (.int i2), .val (.int i3), .val (.int i4), .val (.int i5), .val (.int x2), .val (.int x4), .val (.int x7), .val (.int (1 : Int32)), .val (.int x9), .val (.int x13), .val (.int x17), .val (.int x22), .val (.ref c25_0), .val .null, .val (.ref b26), .val (.int (0 : Int32)), .val (.int (0 : Int32))]) rfl ?_
          refine XS.iload X31.here hx rfl (hb hby at_195) rfl ?_
          show Steps p.tables e below (T31.setTop (mkF m 197 #[.val (.int i0), .val (.int i1), .val (.int i2), .val (.int i3), .val (.int i4), .val (.int i5), .val (.int x2), .val (.int x4), .val (.int x7), .val (.int (1 : Int32)), .val (.int x9), .val (.int x13), .val (.int x17), .val (.int x22), .val (.ref c25_0), .val .null, .val (.ref b26), .val (.int (0 : Int32)), .val (.int (0 : Int32))] [(.int (0 : Int32))])) _
          refine XS.iload X31.here hx rfl (hb hby at_197) rfl ?_
          refine XS.icmpNo X31.here hx rfl (hb hby at_199) rfl (teq (by decide : (0 : Int32) = (0 : Int32))).2 ?_
          refine XS.iconst X31.here hx rfl (hb hby at_202) ?_
          refine XS.goto X31.here hx rfl (pc0 := 203) (pc' := 207) rfl (hb hby at_203) (by decide) (by decide) ?_
          show Steps p.tables e below (T31.setTop (mkF m 207 #[.val (.int i0), .val (.int i1), .val (.int i2), .val (.int i3), .val (.int i4), .val (.int i5), .val (.int x2), .val (.int x4), .val (.int x7), .val (.int (1 : Int32)), .val (.int x9), .val (.int x13), .val (.int x17), .val (.int x22), .val (.ref c25_0), .val .null, .val (.ref b26), .val (.int (0 : Int32)), .val (.int (0 : Int32))] [(.int (1 : Int32))])) _
          exact retN X31 hx (t := .boolean) Bd.returns (by simp) (hb hby at_207) hr
        · show QL n0 _ T31.heap _
          exact ⟨rfl, N31⟩
    · have hd26 : ¬ ((255 : Int32) < x9) := (by have q0 := (by decide : ((255 : Int32)).toInt = 255); have q1 := rx9; exact own_ltF (by omega) : ¬ ((255 : Int32) < x9))
      have sf25 := (sf0 : ∀ x ∈ [], Safe Z EL s.vm h0 x)
      obtain ⟨_, T25, L25, hQ25, X25, st25⟩ := own_callS X0 hx hZ (W := 0) hown (hw _ m1) (hw _ m2) (hw _ m3) (hw _ m4) (by decide) (rm16 l Z a0 hw hj w0 w1 w2 w3 w4 w5 w6 w7 w8 w9 w10 w11 hS [] x9 x13 h0 n0 O0 hd26) e0 (g := (mkF m 89 #[.val (.int i0), .val (.int i1), .val (.int i2), .val (.int i3), .val (.int i4), .val (.int i5), .val (.int x2), .val (.int x4), .val (.int x7), .val (.int (1 : Int32)), .val (.int x9), .val (.int x13), .val (.int x17), .val (.int x22), .unset, .unset, .unset, .unset, .unset] [(.int x13), (.int x9), (.int (1 : Int32))])) rfl (by rw [hml]; rfl) (argsL := [(.int (1 : Int32)), (.int x9), (.int x13)]) (rest := []) (lenOf pd114 rfl) rfl rfl (by show 2 * 0 + _ ≤ _; exact Nat.le_of_eq rfl) (hb hby at_89) (by decide) (by decide) (by decide) (by decide)
      obtain ⟨c25_0, c25_1, k25_2, rfl, N25q, Kq25, lo25_0, lo25_1, q25_0, q25_1, q25_2, q25_3⟩ := hQ25
      have N25 := Fr.app N0 N25q
      have C25 := C0.trans (CHr.keep Kq25 sf25 C0.1)
      have O25 : Old Z n0 T25.heap := O0.keep Kq25 all0
      have K25 : Keep h0 T25.heap [] := (Keep.refl h0 []).trans Kq25 all0
      obtain ⟨T27, h27, b27, X27, e27, E27, A27, D27, g27, O27, K27, st27⟩ := own_newO X25 hx hZ hown (hw _ m42) (hw _ m43) (hw _ m44) (rfl : T25.heap = T25.heap) O25 K25 (g := (mkF m 114 #[.val (.int i0), .val (.int i1), .val (.int i2), .val (.int i3), .val (.int i4), .val (.int i5), .val (.int x2), .val (.int x4), .val (.int x7), .val (.int (1 : Int32)), .val (.int x9), .val (.int x13), .val (.int x17), .val (.int x22), .val (.ref c25_0), .val .null, .unset, .unset, .unset] [])) rfl (hb hby at_114) (by decide) (by decide)
      have C27 := C25.trans (CHr.ext E27 C25.1)
      have F27_1 : Fld Z h27 b27 z1 "type" z3 .null := D27 (Or.inr (hw _ m61)) (ty := (.object z2)) (by decide)
      have F27_2 : Fld Z h27 b27 z1 "text" z8 .null := D27 (Or.inr (hw _ m63)) (ty := (.object z0)) (by decide)
      have F27_3 : Fld Z h27 b27 z1 "line" "I" (.int (0 : Int32)) := D27 (Or.inr (hw _ m65)) (ty := .int) (by decide)
      have F27_4 : Fld Z h27 b27 z1 "column" "I" (.int (0 : Int32)) := D27 (Or.inr (hw _ m67)) (ty := .int) (by decide)
      have pre3 : ∀ t, Steps p.tables e below (T27.setTop (mkF m 118 #[.val (.int i0), .val (.int i1), .val (.int i2), .val (.int i3), .val (.int i4), .val (.int i5), .val (.int x2), .val (.int x4), .val (.int x7), .val (.int (1 : Int32)), .val (.int x9), .val (.int x13), .val (.int x17), .val (.int x22), .val (.ref c25_0), .val .null, .unset, .unset, .unset] [(.ref b27), (.ref b27)])) t → Steps p.tables e below (s₁.setTop (entryFrame m #[(.int i0), (.int i1), (.int i2), (.int i3), (.int i4), (.int i5)] maxLocals)) t := fun t kt => pre2 _ (by
          refine Own.iload X0.here hx rfl (hb hby at_83) rfl hp1 ?_
          show Steps p.tables e below (s₁.setTop (mkF m 85 #[.val (.int i0), .val (.int i1), .val (.int i2), .val (.int i3), .val (.int i4), .val (.int i5), .val (.int x2), .val (.int x4), .val (.int x7), .val (.int (1 : Int32)), .val (.int x9), .val (.int x13), .val (.int x17), .val (.int x22), .unset, .unset, .unset, .unset, .unset] [(.int (1 : Int32))])) _
          refine XS.iload X0.here hx rfl (hb hby at_85) rfl ?_
          refine XS.iload X0.here hx rfl (hb hby at_87) rfl ?_
          refine st25 _ ?_
          refine XS.astore X25.here hx rfl (hb hby at_92) rfl rfl (l' := #[.val (.int i0), .val (.int i1), .val (.int i2), .val (.int i3), .val (.int i4), .val (.int i5), .val (.int x2), .val (.int x4), .val (.int x7), .val (.int (1 : Int32)), .val (.int x9), .val (.int x13), .val (.int x17), .val (.int x22), .val (.ref c25_0), .unset, .unset, .unset, .unset]) rfl ?_
          show Steps p.tables e below (T25.setTop (mkF m 94 #[.val (.int i0), .val (.int i1), .val (.int i2), .val (.int i3), .val (.int i4), .val (.int i5), .val (.int x2), .val (.int x4), .val (.int x7), .val (.int (1 : Int32)), .val (.int x9), .val (.int x13), .val (.int x17), .val (.int x22), .val (.ref c25_0), .unset, .unset, .unset, .unset] [])) _
          refine XS.iload X25.here hx rfl (hb hby at_94) rfl ?_
          refine XS.ifNo X25.here hx rfl (hb hby at_96) rfl ((if0 _ _).trans (feq (by decide : ¬ ((1 : Int32) = (0 : Int32)))).1) ?_
          refine XS.aconstNull X25.here hx rfl (hb hby at_99) ?_
          refine XS.goto X25.here hx rfl (pc0 := 100) (pc' := 112) rfl (hb hby at_100) (by decide) (by decide) ?_
          show Steps p.tables e below (T25.setTop (mkF m 112 #[.val (.int i0), .val (.int i1), .val (.int i2), .val (.int i3), .val (.int i4), .val (.int i5), .val (.int x2), .val (.int x4), .val (.int x7), .val (.int (1 : Int32)), .val (.int x9), .val (.int x13), .val (.int x17), .val (.int x22), .val (.ref c25_0), .unset, .unset, .unset, .unset] [.null])) _
          refine XS.astore X25.here hx rfl (hb hby at_112) rfl rfl (l' := #[.val (.int i0), .val (.int i1), .val (.int i2), .val (.int i3), .val (.int i4), .val (.int i5), .val (.int x2), .val (.int x4), .val (.int x7), .val (.int (1 : Int32)), .val (.int x9), .val (.int x13), .val (.int x17), .val (.int x22), .val (.ref c25_0), .val .null, .unset, .unset, .unset]) rfl ?_
          refine st27 _ ?_
          refine XS.dup X27.here hx rfl (hb hby at_117) rfl rfl ?_
          exact kt)
      rcases Decidable.em (x2 = (8 : Int32)) with hp2 | hp2
      · have sf28 := (sf0 : ∀ x ∈ [], Safe Z EL s.vm h27 x)
        obtain ⟨_, T28, L28, hQ28, X28, st28⟩ := own_callS X27 hx hZ (W := 2) hown (hw _ m45) (hw _ m46) (hw _ m3) (hw _ m47) (by decide) (rm4 l Z a0 hw hj w0 w1 w2 w3 w4 w5 w6 w7 w8 w9 w10 w11 hS [] h27 n0 O27) e27 (g := (mkF m 120 #[.val (.int i0), .val (.int i1), .val (.int i2), .val (.int i3), .val (.int i4), .val (.int i5), .val (.int x2), .val (.int x4), .val (.int x7), .val (.int (1 : Int32)), .val (.int x9), .val (.int x13), .val (.int x17), .val (.int x22), .val (.ref c25_0), .val .null, .unset, .unset, .unset] [(.int (8 : Int32)), (.ref b27), (.ref b27)])) rfl (by rw [hml]; rfl) (argsL := [(.int (8 : Int32))]) (rest := [(.ref b27), (.ref b27)]) (lenOf pd128 rfl) rfl rfl (by show 2 * 0 + _ ≤ _; exact Nat.le_of_eq rfl) (hb hby at_120) (by decide) (by decide) (by decide) (by decide)
        obtain ⟨rfl, N28q, e28⟩ := hQ28
        have N28 := Fr.app N25 N28q
        have e28' : T28.heap = h27 := e28
        have sf29 := ((sfS (Safe.exa (EL := EL) hZ.alike A27 (by decide) (by decide)) sf0) : ∀ x ∈ [b27], Safe Z EL s.vm h27 x)
        obtain ⟨_, T29, L29, hQ29, X29, st29⟩ := own_special X28 hx hZ (W := 1) rfl hown (hw _ m51) (hw _ m52) (hw _ m44) (hw _ m53) (by decide) (rm6 l Z a0 hw hj w0 w1 w2 w3 w4 w5 w6 w7 w8 w9 w10 w11 hS [] i4 i5 b27 c25_0 h27 n0 O27 A27 F27_1 F27_2 F27_3 F27_4 (Nat.le_trans (own_old_le O25) g27)) e28' (a := b27) (g := (mkF m 129 #[.val (.int i0), .val (.int i1), .val (.int i2), .val (.int i3), .val (.int i4), .val (.int i5), .val (.int x2), .val (.int x4), .val (.int x7), .val (.int (1 : Int32)), .val (.int x9), .val (.int x13), .val (.int x17), .val (.int x22), .val (.ref c25_0), .val .null, .unset, .unset, .unset] [(.int i5), (.int i4), (.ref c25_0), (.ref w8), (.ref b27), (.ref b27)])) rfl (by rw [hml]; rfl) (argsL := [(.ref w8), (.ref c25_0), (.int i4), (.int i5)]) (rest := [(.ref b27)]) (lenOf pd164 rfl) rfl rfl (by show 2 * 0 + _ ≤ _; exact Nat.le_of_eq rfl) (hb hby at_129) (by decide) (by decide) (by decide) (by decide)
        obtain ⟨rfl, N29q, Kq29, q29_0, q29_1, q29_2, q29_3⟩ := hQ29
        have N29 := Fr.app N28 N29q
        have C29 := C27.trans (CHr.keep Kq29 sf29 C27.1)
        have O29 : Old Z n0 T29.heap := O27.keep Kq29 (allS (Nat.le_trans (own_old_le O25) g27) all0)
        have K29 : Keep h0 T29.heap [] := K27.trans Kq29 (allS (Or.inr (Nat.le_trans K25.1 g27)) all0)
        have f31 : Exa Z T29.heap c25_0 z0 := ((q25_0.ext E27).keep Kq29)
        have sf30 := (sf0 : ∀ x ∈ [], Safe Z EL s.vm T29.heap x)
        have f32 : Exa Z T29.heap b27 z1 := (A27.keep Kq29)
        obtain ⟨_, T30, L30, hQ30, X30, st30⟩ := own_virtual X29 hx hZ (W := 0) hown (hw _ m68) (hw _ m69) (notFace_of_selects (args := #[]) (mvT hZ (hw _ m71))) (hw _ m71) (hw _ m70) (hw _ m44) (hw _ m72) (by decide) (rm57 l Z a0 hw hj w0 w1 w2 w3 w4 w5 w6 w7 w8 w9 w10 w11 hS [] b27 c25_0 T29.heap n0 O29 q29_0 q29_1 f31) (rfl : T29.heap = T29.heap) f32 (g := (mkF m 138 #[.val (.int i0), .val (.int i1), .val (.int i2), .val (.int i3), .val (.int i4), .val (.int i5), .val (.int x2), .val (.int x4), .val (.int x7), .val (.int (1 : Int32)), .val (.int x9), .val (.int x13), .val (.int x17), .val (.int x22), .val (.ref c25_0), .val .null, .val (.ref b27), .unset, .unset] [.null, (.ref b27)])) rfl (by rw [hml]; rfl) (argsL := [.null]) (rest := []) (lenOf pd235 rfl) rfl rfl (by show 2 * 0 + _ ≤ _; exact Nat.le_of_eq rfl) (hb hby at_138) (by decide) (by decide) (by decide) (by decide)
        obtain ⟨rfl, N30q, e30⟩ := hQ30
        have N30 := Fr.app N29 N30q
        have e30' : T30.heap = T29.heap := e30
        obtain ⟨fs, hr, hrun, hended, hRW⟩ := X30.leaveW hS0 (by rw [e30']; exact (Nat.le_trans (Nat.le_refl _) (Nat.le_trans (Nat.le_trans Kq25.1 E27.1) Kq29.1))) (v := some (.int (1 : Int32))) (fun h => by rw [Bd.returns] at h; cases h)
        refine ⟨_, _, pre3 _ ?_, hrun, hended, _, _, rfl, ?_, own_rwm hRW (by decide) (by decide)⟩
        · refine Own.iload X27.here hx rfl (hb hby at_118) rfl hp2 ?_
          show Steps p.tables e below (T27.setTop (mkF m 120 #[.val (.int i0), .val (.int i1), .val (.int i2), .val (.int i3), .val (.int i4), .val (.int i5), .val (.int x2), .val (.int x4), .val (.int x7), .val (.int (1 : Int32)), .val (.int x9), .val (.int x13), .val (.int x17), .val (.int x22), .val (.ref c25_0), .val .null, .unset, .unset, .unset] [(.int (8 : Int32)), (.ref b27), (.ref b27)])) _
          refine st28 _ ?_
          refine XS.aload X28.here hx rfl (hb hby at_123) rfl rfl ?_
          refine XS.iload X28.here hx rfl (hb hby at_125) rfl ?_
          refine XS.iload X28.here hx rfl (hb hby at_127) rfl ?_
          show Steps p.tables e below (T28.setTop (mkF m 129 #[.val (.int i0), .val (.int i1), .val (.int i2), .val (.int i3), .val (.int i4), .val (.int i5), .val (.int x2), .val (.int x4), .val (.int x7), .val (.int (1 : Int32)), .val (.int x9), .val (.int x13), .val (.int x17), .val (.int x22), .val (.ref c25_0), .val .null, .unset, .unset, .unset] [(.int i5), (.int i4), (.ref c25_0), (.ref w8), (.ref b27), (.ref b27)])) _
          refine st29 _ ?_
          refine XS.astore X29.here hx rfl (hb hby at_132) rfl rfl (l' := #[.val (.int i0), .val (.int i1), .val (.int i2), .val (.int i3), .val (.int i4), .val (.int i5), .val (.int x2), .val (.int x4), .val (.int x7), .val (.int (1 : Int32)), .val (.int x9), .val (.int x13), .val (.int x17), .val (.int x22), .val (.ref c25_0), .val .null, .val (.ref b27), .unset, .unset]) rfl ?_
          refine XS.aload X29.here hx rfl (hb hby at_134) rfl rfl ?_
          refine XS.aload X29.here hx rfl (hb hby at_136) rfl rfl ?_
          show Steps p.tables e below (T29.setTop (mkF m 138 #[.val (.int i0), .val (.int i1), .val (.int i2), .val (.int i3), .val (.int i4), .val (.int i5), .val (.int x2), .val (.int x4), .val (.int x7), .val (.int (1 : Int32)), .val (.int x9), .val (.int x13), .val (.int x17), .val (.int x22), .val (.ref c25_0), .val .null, .val (.ref b27), .unset, .unset] [.null, (.ref b27)])) _
          refine st30 _ ?_
          refine XS.istore X30.here hx rfl (hb hby at_141) rfl (l' := #[.val (.int i0), .val (.int i1), .val (.int i2), .val (.int i3), .val (.int i4), .val (.int i5), .val (.int x2), .val (.int x4), .val (.int x7), .val (.int (1 : Int32)), .val (.int x9), .val (.int x13), .val (.int x17), .val (.int x22), .val (.ref c25_0), .val .null, .val (.ref b27), .val (.int (0 : Int32)), .unset]) rfl ?_
          refine Own.iload X30.here hx rfl (hb hby at_143) rfl hp2 ?_
          refine XS.bipush X30.here hx rfl (hb hby at_145) ?_
          show Steps p.tables e below (T30.setTop (mkF m 147 #[.val (.int i0), .val (.int i1), .val (.int i2), .val (.int i3), .val (.int i4), .val (.int i5), .val (.int x2), .val (.int x4), .val (.int x7), .val (.int (1 : Int32)), .val (.int x9), .val (.int x13), .val (.int x17), .val (.int x22), .val (.ref c25_0), .val .null, .val (.ref b27), .val (.int (0 : Int32)), .unset] [(.int (8 : Int32)), (.int (8 : Int32))])) _
          refine XS.icmpNo X30.here hx rfl (hb hby at_147) rfl (teq (by decide : (8 : Int32) = (8 : Int32))).2 ?_
          refine XS.iload X30.here hx rfl (hb hby at_150) rfl ?_
          refine XS.ifYes X30.here hx rfl (pc0 := 152) (pc' := 192) rfl (hb hby at_152) rfl ((if0 _ _).trans (feq (by decide : ¬ ((1 : Int32) = (0 : Int32)))).2) (by decide) (by decide) ?_
          refine XS.iconst X30.here hx rfl (hb hby at_192) ?_
          show Steps p.tables e below (T30.setTop (mkF m 193 #[.val (.int i0), .val (.int i1), .val (.int i2), .val (.int i3), .val (.int i4), .val (.int i5), .val (.int x2), .val (.int x4), .val (.int x7), .val (.int (1 : Int32)), .val (.int x9), .val (.int x13), .val (.int x17), .val (.int x22), .val (.ref c25_0), .val .null, .val (.ref b27), .val (.int (0 : Int32)), .unset] [(.int (0 : Int32))])) _
          refine XS.istore X30.here hx rfl (hb hby at_193) rfl (l' := #[.val (.int i0), .val (.int i1), .val (.int i2), .val (.int i3), .val (.int i4), .val (.int i5), .val (.int x2), .val (.int x4), .val (.int x7), .val (.int (1 : Int32)), .val (.int x9), .val (.int x13), .val (.int x17), .val (.int x22), .val (.ref c25_0), .val .null, .val (.ref b27), .val (.int (0 : Int32)), .val (.int (0 : Int32))]) rfl ?_
          refine XS.iload X30.here hx rfl (hb hby at_195) rfl ?_
          refine XS.iload X30.here hx rfl (hb hby at_197) rfl ?_
          refine XS.icmpNo X30.here hx rfl (hb hby at_199) rfl (teq (by decide : (0 : Int32) = (0 : Int32))).2 ?_
          show Steps p.tables e below (T30.setTop (mkF m 202 #[.val (.int i0), .val (.int i1), .val (.int i2), .val (.int i3), .val (.int i4), .val (.int i5), .val (.int x2), .val (.int x4), .val (.int x7), .val (.int (1 : Int32)), .val (.int x9), .val (.int x13), .val (.int x17), .val (.int x22), .val (.ref c25_0), .val .null, .val (.ref b27), .val (.int (0 : Int32)), .val (.int (0 : Int32))] [])) _
          refine XS.iconst X30.here hx rfl (hb hby at_202) ?_
          refine XS.goto X30.here hx rfl (pc0 := 203) (pc' := 207) rfl (hb hby at_203) (by decide) (by decide) ?_
          exact retN X30 hx (t := .boolean) Bd.returns (by simp) (hb hby at_207) hr
        · show QL n0 _ T30.heap _
          exact ⟨rfl, N30⟩
      · have hd28 : ¬ (x2 < (0 : Int32)) := (by have q0 := rx2; have q1 := (by decide : ((0 : Int32)).toInt = 0); exact own_ltF (by omega) : ¬ (x2 < (0 : Int32)))
        have hd29 : ¬ ((9 : Int32) < x2) := (by have q0 := (by decide : ((9 : Int32)).toInt = 9); have q1 := rx2; exact own_ltF (by omega) : ¬ ((9 : Int32) < x2))
        obtain ⟨_, T30, L30, ⟨z30, rfl, N30q, hz30_0, hz30_1, e30⟩, X30, st30⟩ := own_callS X27 hx hZ (W := 2) hown (hw _ m45) (hw _ m46) (hw _ m3) (hw _ m47) (by decide) (jm0 l Z a0 hw hj w0 w1 w2 w3 w4 w5 w6 w7 w8 w9 w10 w11 hS [] x2 h27 n0 O27 hd28 hd29 hp2) e27 (g := (mkF m 120 #[.val (.int i0), .val (.int i1), .val (.int i2), .val (.int i3), .val (.int i4), .val (.int i5), .val (.int x2), .val (.int x4), .val (.int x7), .val (.int (1 : Int32)), .val (.int x9), .val (.int x13), .val (.int x17), .val (.int x22), .val (.ref c25_0), .val .null, .unset, .unset, .unset] [(.int x2), (.ref b27), (.ref b27)])) rfl (by rw [hml]; rfl) (argsL := [(.int x2)]) (rest := [(.ref b27), (.ref b27)]) (lenOf pd128 rfl) rfl rfl (by show 2 * 0 + _ ≤ _; exact Nat.le_of_eq rfl) (hb hby at_120) (by decide) (by decide) (by decide) (by decide)
        have N30 := Fr.app N25 N30q
        have e30' : T30.heap = h27 := e30
        have sf31 := ((sfS (Safe.exa (EL := EL) hZ.alike A27 (by decide) (by decide)) sf0) : ∀ x ∈ [b27], Safe Z EL s.vm h27 x)
        obtain ⟨_, T31, L31, hQ31, X31, st31⟩ := own_special X30 hx hZ (W := 1) rfl hown (hw _ m51) (hw _ m52) (hw _ m44) (hw _ m53) (by decide) (rm10 l Z a0 hw hj w0 w1 w2 w3 w4 w5 w6 w7 w8 w9 w10 w11 hS [] i4 i5 b27 z30 c25_0 h27 n0 O27 A27 F27_1 F27_2 F27_3 F27_4 (Nat.le_trans (own_old_le O25) g27)) e30' (a := b27) (g := (mkF m 129 #[.val (.int i0), .val (.int i1), .val (.int i2), .val (.int i3), .val (.int i4), .val (.int i5), .val (.int x2), .val (.int x4), .val (.int x7), .val (.int (1 : Int32)), .val (.int x9), .val (.int x13), .val (.int x17), .val (.int x22), .val (.ref c25_0), .val .null, .unset, .unset, .unset] [(.int i5), (.int i4), (.ref c25_0), (.ref z30), (.ref b27), (.ref b27)])) rfl (by rw [hml]; rfl) (argsL := [(.ref z30), (.ref c25_0), (.int i4), (.int i5)]) (rest := [(.ref b27)]) (lenOf pd164 rfl) rfl rfl (by show 2 * 0 + _ ≤ _; exact Nat.le_of_eq rfl) (hb hby at_129) (by decide) (by decide) (by decide) (by decide)
        obtain ⟨rfl, N31q, Kq31, q31_0, q31_1, q31_2, q31_3⟩ := hQ31
        have N31 := Fr.app N30 N31q
        have C31 := C27.trans (CHr.keep Kq31 sf31 C27.1)
        have O31 : Old Z n0 T31.heap := O27.keep Kq31 (allS (Nat.le_trans (own_old_le O25) g27) all0)
        have K31 : Keep h0 T31.heap [] := K27.trans Kq31 (allS (Or.inr (Nat.le_trans K25.1 g27)) all0)
        have sf32 := (sf0 : ∀ x ∈ [], Safe Z EL s.vm T31.heap x)
        have f33 : Exa Z T31.heap b27 z1 := (A27.keep Kq31)
        obtain ⟨_, T32, L32, hQ32, X32, st32⟩ := own_virtual X31 hx hZ (W := 0) hown (hw _ m68) (hw _ m69) (notFace_of_selects (args := #[]) (mvT hZ (hw _ m71))) (hw _ m71) (hw _ m70) (hw _ m44) (hw _ m72) (by decide) (rm58 l Z a0 hw hj w0 w1 w2 w3 w4 w5 w6 w7 w8 w9 w10 w11 hS [] b27 z30 T31.heap n0 O31 q31_0 hz30_1) (rfl : T31.heap = T31.heap) f33 (g := (mkF m 138 #[.val (.int i0), .val (.int i1), .val (.int i2), .val (.int i3), .val (.int i4), .val (.int i5), .val (.int x2), .val (.int x4), .val (.int x7), .val (.int (1 : Int32)), .val (.int x9), .val (.int x13), .val (.int x17), .val (.int x22), .val (.ref c25_0), .val .null, .val (.ref b27), .unset, .unset] [.null, (.ref b27)])) rfl (by rw [hml]; rfl) (argsL := [.null]) (rest := []) (lenOf pd235 rfl) rfl rfl (by show 2 * 0 + _ ≤ _; exact Nat.le_of_eq rfl) (hb hby at_138) (by decide) (by decide) (by decide) (by decide)
        obtain ⟨rfl, N32q, e32⟩ := hQ32
        have N32 := Fr.app N31 N32q
        have e32' : T32.heap = T31.heap := e32
        obtain ⟨fs, hr, hrun, hended, hRW⟩ := X32.leaveW hS0 (by rw [e32']; exact (Nat.le_trans (Nat.le_refl _) (Nat.le_trans (Nat.le_trans Kq25.1 E27.1) Kq31.1))) (v := some (.int (1 : Int32))) (fun h => by rw [Bd.returns] at h; cases h)
        refine ⟨_, _, pre3 _ ?_, hrun, hended, _, _, rfl, ?_, own_rwm hRW (by decide) (by decide)⟩
        · refine XS.iload X27.here hx rfl (hb hby at_118) rfl ?_
          show Steps p.tables e below (T27.setTop (mkF m 120 #[.val (.int i0), .val (.int i1), .val (.int i2), .val (.int i3), .val (.int i4), .val (.int i5), .val (.int x2), .val (.int x4), .val (.int x7), .val (.int (1 : Int32)), .val (.int x9), .val (.int x13), .val (.int x17), .val (.int x22), .val (.ref c25_0), .val .null, .unset, .unset, .unset] [(.int x2), (.ref b27), (.ref b27)])) _
          refine st30 _ ?_
          refine XS.aload X30.here hx rfl (hb hby at_123) rfl rfl ?_
          refine XS.iload X30.here hx rfl (hb hby at_125) rfl ?_
          refine XS.iload X30.here hx rfl (hb hby at_127) rfl ?_
          show Steps p.tables e below (T30.setTop (mkF m 129 #[.val (.int i0), .val (.int i1), .val (.int i2), .val (.int i3), .val (.int i4), .val (.int i5), .val (.int x2), .val (.int x4), .val (.int x7), .val (.int (1 : Int32)), .val (.int x9), .val (.int x13), .val (.int x17), .val (.int x22), .val (.ref c25_0), .val .null, .unset, .unset, .unset] [(.int i5), (.int i4), (.ref c25_0), (.ref z30), (.ref b27), (.ref b27)])) _
          refine st31 _ ?_
          refine XS.astore X31.here hx rfl (hb hby at_132) rfl rfl (l' := #[.val (.int i0), .val (.int i1), .val (.int i2), .val (.int i3), .val (.int i4), .val (.int i5), .val (.int x2), .val (.int x4), .val (.int x7), .val (.int (1 : Int32)), .val (.int x9), .val (.int x13), .val (.int x17), .val (.int x22), .val (.ref c25_0), .val .null, .val (.ref b27), .unset, .unset]) rfl ?_
          refine XS.aload X31.here hx rfl (hb hby at_134) rfl rfl ?_
          refine XS.aload X31.here hx rfl (hb hby at_136) rfl rfl ?_
          show Steps p.tables e below (T31.setTop (mkF m 138 #[.val (.int i0), .val (.int i1), .val (.int i2), .val (.int i3), .val (.int i4), .val (.int i5), .val (.int x2), .val (.int x4), .val (.int x7), .val (.int (1 : Int32)), .val (.int x9), .val (.int x13), .val (.int x17), .val (.int x22), .val (.ref c25_0), .val .null, .val (.ref b27), .unset, .unset] [.null, (.ref b27)])) _
          refine st32 _ ?_
          refine XS.istore X32.here hx rfl (hb hby at_141) rfl (l' := #[.val (.int i0), .val (.int i1), .val (.int i2), .val (.int i3), .val (.int i4), .val (.int i5), .val (.int x2), .val (.int x4), .val (.int x7), .val (.int (1 : Int32)), .val (.int x9), .val (.int x13), .val (.int x17), .val (.int x22), .val (.ref c25_0), .val .null, .val (.ref b27), .val (.int (0 : Int32)), .unset]) rfl ?_
          refine XS.iload X32.here hx rfl (hb hby at_143) rfl ?_
          refine XS.bipush X32.here hx rfl (hb hby at_145) ?_
          show Steps p.tables e below (T32.setTop (mkF m 147 #[.val (.int i0), .val (.int i1), .val (.int i2), .val (.int i3), .val (.int i4), .val (.int i5), .val (.int x2), .val (.int x4), .val (.int x7), .val (.int (1 : Int32)), .val (.int x9), .val (.int x13), .val (.int x17), .val (.int x22), .val (.ref c25_0), .val .null, .val (.ref b27), .val (.int (0 : Int32)), .unset] [(.int (8 : Int32)), (.int x2)])) _
          refine XS.icmpYes X32.here hx rfl (pc0 := 147) (pc' := 192) rfl (hb hby at_147) rfl (feq hp2).2 (by decide) (by decide) ?_
          refine XS.iconst X32.here hx rfl (hb hby at_192) ?_
          refine XS.istore X32.here hx rfl (hb hby at_193) rfl (l' := #[.val (.int i0), .val (.int i1), .val (.int i2), .val (.int i3), .val (.int i4), .val (.int i5), .val (.int x2), .val (.int x4), .val (.int x7), .val (.int (1 : Int32)), .val (.int x9), .val (.int x13), .val (.int x17), .val (.int x22), .val (.ref c25_0), .val .null, .val (.ref b27), .val (.int (0 : Int32)), .val (.int (0 : Int32))]) rfl ?_
          refine XS.iload X32.here hx rfl (hb hby at_195) rfl ?_
          show Steps p.tables e below (T32.setTop (mkF m 197 #[.val (.int i0), .val (.int i1), .val (.int i2), .val (.int i3), .val (.int i4), .val (.int i5), .val (.int x2), .val (.int x4), .val (.int x7), .val (.int (1 : Int32)), .val (.int x9), .val (.int x13), .val (.int x17), .val (.int x22), .val (.ref c25_0), .val .null, .val (.ref b27), .val (.int (0 : Int32)), .val (.int (0 : Int32))] [(.int (0 : Int32))])) _
          refine XS.iload X32.here hx rfl (hb hby at_197) rfl ?_
          refine XS.icmpNo X32.here hx rfl (hb hby at_199) rfl (teq (by decide : (0 : Int32) = (0 : Int32))).2 ?_
          refine XS.iconst X32.here hx rfl (hb hby at_202) ?_
          refine XS.goto X32.here hx rfl (pc0 := 203) (pc' := 207) rfl (hb hby at_203) (by decide) (by decide) ?_
          show Steps p.tables e below (T32.setTop (mkF m 207 #[.val (.int i0), .val (.int i1), .val (.int i2), .val (.int i3), .val (.int i4), .val (.int i5), .val (.int x2), .val (.int x4), .val (.int x7), .val (.int (1 : Int32)), .val (.int x9), .val (.int x13), .val (.int x17), .val (.int x22), .val (.ref c25_0), .val .null, .val (.ref b27), .val (.int (0 : Int32)), .val (.int (0 : Int32))] [(.int (1 : Int32))])) _
          exact retN X32 hx (t := .boolean) Bd.returns (by simp) (hb hby at_207) hr
        · show QL n0 _ T32.heap _
          exact ⟨rfl, N32⟩
    · have hd26 : ¬ ((255 : Int32) < x9) := (by have q0 := (by decide : ((255 : Int32)).toInt = 255); have q1 := rx9; exact own_ltF (by omega) : ¬ ((255 : Int32) < x9))
      have hd27 : ¬ ((255 : Int32) < x13) := (by have q0 := (by decide : ((255 : Int32)).toInt = 255); have q1 := rx13; exact own_ltF (by omega) : ¬ ((255 : Int32) < x13))
      have sf25 := (sf0 : ∀ x ∈ [], Safe Z EL s.vm h0 x)
      obtain ⟨_, T25, L25, hQ25, X25, st25⟩ := own_callS X0 hx hZ (W := 0) hown (hw _ m1) (hw _ m2) (hw _ m3) (hw _ m4) (by decide) (rm25 l Z a0 hw hj w0 w1 w2 w3 w4 w5 w6 w7 w8 w9 w10 w11 hS [] x9 x13 h0 n0 O0 hd10 hd11 hd14 hd15 hd26 hd27) e0 (g := (mkF m 89 #[.val (.int i0), .val (.int i1), .val (.int i2), .val (.int i3), .val (.int i4), .val (.int i5), .val (.int x2), .val (.int x4), .val (.int x7), .val (.int (1 : Int32)), .val (.int x9), .val (.int x13), .val (.int x17), .val (.int x22), .unset, .unset, .unset, .unset, .unset] [(.int x13), (.int x9), (.int (2 : Int32))])) rfl (by rw [hml]; rfl) (argsL := [(.int (2 : Int32)), (.int x9), (.int x13)]) (rest := []) (lenOf pd114 rfl) rfl rfl (by show 2 * 0 + _ ≤ _; exact Nat.le_of_eq rfl) (hb hby at_89) (by decide) (by decide) (by decide) (by decide)
      obtain ⟨c25_0, c25_1, k25_2, rfl, N25q, Kq25, lo25_0, lo25_1, q25_0, q25_1, q25_2, q25_3⟩ := hQ25
      have N25 := Fr.app N0 N25q
      have C25 := C0.trans (CHr.keep Kq25 sf25 C0.1)
      have O25 : Old Z n0 T25.heap := O0.keep Kq25 all0
      have K25 : Keep h0 T25.heap [] := (Keep.refl h0 []).trans Kq25 all0
      obtain ⟨T28, h28, b28, X28, e28, E28, A28, D28, g28, O28, K28, st28⟩ := own_newO X25 hx hZ hown (hw _ m42) (hw _ m43) (hw _ m44) (rfl : T25.heap = T25.heap) O25 K25 (g := (mkF m 114 #[.val (.int i0), .val (.int i1), .val (.int i2), .val (.int i3), .val (.int i4), .val (.int i5), .val (.int x2), .val (.int x4), .val (.int x7), .val (.int (1 : Int32)), .val (.int x9), .val (.int x13), .val (.int x17), .val (.int x22), .val (.ref c25_0), .val .null, .unset, .unset, .unset] [])) rfl (hb hby at_114) (by decide) (by decide)
      have C28 := C25.trans (CHr.ext E28 C25.1)
      have F28_1 : Fld Z h28 b28 z1 "type" z3 .null := D28 (Or.inr (hw _ m61)) (ty := (.object z2)) (by decide)
      have F28_2 : Fld Z h28 b28 z1 "text" z8 .null := D28 (Or.inr (hw _ m63)) (ty := (.object z0)) (by decide)
      have F28_3 : Fld Z h28 b28 z1 "line" "I" (.int (0 : Int32)) := D28 (Or.inr (hw _ m65)) (ty := .int) (by decide)
      have F28_4 : Fld Z h28 b28 z1 "column" "I" (.int (0 : Int32)) := D28 (Or.inr (hw _ m67)) (ty := .int) (by decide)
      have pre3 : ∀ t, Steps p.tables e below (T28.setTop (mkF m 118 #[.val (.int i0), .val (.int i1), .val (.int i2), .val (.int i3), .val (.int i4), .val (.int i5), .val (.int x2), .val (.int x4), .val (.int x7), .val (.int (1 : Int32)), .val (.int x9), .val (.int x13), .val (.int x17), .val (.int x22), .val (.ref c25_0), .val .null, .unset, .unset, .unset] [(.ref b28), (.ref b28)])) t → Steps p.tables e below (s₁.setTop (entryFrame m #[(.int i0), (.int i1), (.int i2), (.int i3), (.int i4), (.int i5)] maxLocals)) t := fun t kt => pre2 _ (by
          refine Own.iload X0.here hx rfl (hb hby at_83) rfl hp1 ?_
          show Steps p.tables e below (s₁.setTop (mkF m 85 #[.val (.int i0), .val (.int i1), .val (.int i2), .val (.int i3), .val (.int i4), .val (.int i5), .val (.int x2), .val (.int x4), .val (.int x7), .val (.int (1 : Int32)), .val (.int x9), .val (.int x13), .val (.int x17), .val (.int x22), .unset, .unset, .unset, .unset, .unset] [(.int (2 : Int32))])) _
          refine XS.iload X0.here hx rfl (hb hby at_85) rfl ?_
          refine XS.iload X0.here hx rfl (hb hby at_87) rfl ?_
          refine st25 _ ?_
          refine XS.astore X25.here hx rfl (hb hby at_92) rfl rfl (l' := #[.val (.int i0), .val (.int i1), .val (.int i2), .val (.int i3), .val (.int i4), .val (.int i5), .val (.int x2), .val (.int x4), .val (.int x7), .val (.int (1 : Int32)), .val (.int x9), .val (.int x13), .val (.int x17), .val (.int x22), .val (.ref c25_0), .unset, .unset, .unset, .unset]) rfl ?_
          show Steps p.tables e below (T25.setTop (mkF m 94 #[.val (.int i0), .val (.int i1), .val (.int i2), .val (.int i3), .val (.int i4), .val (.int i5), .val (.int x2), .val (.int x4), .val (.int x7), .val (.int (1 : Int32)), .val (.int x9), .val (.int x13), .val (.int x17), .val (.int x22), .val (.ref c25_0), .unset, .unset, .unset, .unset] [])) _
          refine XS.iload X25.here hx rfl (hb hby at_94) rfl ?_
          refine XS.ifNo X25.here hx rfl (hb hby at_96) rfl ((if0 _ _).trans (feq (by decide : ¬ ((1 : Int32) = (0 : Int32)))).1) ?_
          refine XS.aconstNull X25.here hx rfl (hb hby at_99) ?_
          refine XS.goto X25.here hx rfl (pc0 := 100) (pc' := 112) rfl (hb hby at_100) (by decide) (by decide) ?_
          show Steps p.tables e below (T25.setTop (mkF m 112 #[.val (.int i0), .val (.int i1), .val (.int i2), .val (.int i3), .val (.int i4), .val (.int i5), .val (.int x2), .val (.int x4), .val (.int x7), .val (.int (1 : Int32)), .val (.int x9), .val (.int x13), .val (.int x17), .val (.int x22), .val (.ref c25_0), .unset, .unset, .unset, .unset] [.null])) _
          refine XS.astore X25.here hx rfl (hb hby at_112) rfl rfl (l' := #[.val (.int i0), .val (.int i1), .val (.int i2), .val (.int i3), .val (.int i4), .val (.int i5), .val (.int x2), .val (.int x4), .val (.int x7), .val (.int (1 : Int32)), .val (.int x9), .val (.int x13), .val (.int x17), .val (.int x22), .val (.ref c25_0), .val .null, .unset, .unset, .unset]) rfl ?_
          refine st28 _ ?_
          refine XS.dup X28.here hx rfl (hb hby at_117) rfl rfl ?_
          exact kt)
      rcases Decidable.em (x2 = (8 : Int32)) with hp2 | hp2
      · have sf29 := (sf0 : ∀ x ∈ [], Safe Z EL s.vm h28 x)
        obtain ⟨_, T29, L29, hQ29, X29, st29⟩ := own_callS X28 hx hZ (W := 2) hown (hw _ m45) (hw _ m46) (hw _ m3) (hw _ m47) (by decide) (rm4 l Z a0 hw hj w0 w1 w2 w3 w4 w5 w6 w7 w8 w9 w10 w11 hS [] h28 n0 O28) e28 (g := (mkF m 120 #[.val (.int i0), .val (.int i1), .val (.int i2), .val (.int i3), .val (.int i4), .val (.int i5), .val (.int x2), .val (.int x4), .val (.int x7), .val (.int (1 : Int32)), .val (.int x9), .val (.int x13), .val (.int x17), .val (.int x22), .val (.ref c25_0), .val .null, .unset, .unset, .unset] [(.int (8 : Int32)), (.ref b28), (.ref b28)])) rfl (by rw [hml]; rfl) (argsL := [(.int (8 : Int32))]) (rest := [(.ref b28), (.ref b28)]) (lenOf pd128 rfl) rfl rfl (by show 2 * 0 + _ ≤ _; exact Nat.le_of_eq rfl) (hb hby at_120) (by decide) (by decide) (by decide) (by decide)
        obtain ⟨rfl, N29q, e29⟩ := hQ29
        have N29 := Fr.app N25 N29q
        have e29' : T29.heap = h28 := e29
        have sf30 := ((sfS (Safe.exa (EL := EL) hZ.alike A28 (by decide) (by decide)) sf0) : ∀ x ∈ [b28], Safe Z EL s.vm h28 x)
        obtain ⟨_, T30, L30, hQ30, X30, st30⟩ := own_special X29 hx hZ (W := 1) rfl hown (hw _ m51) (hw _ m52) (hw _ m44) (hw _ m53) (by decide) (rm6 l Z a0 hw hj w0 w1 w2 w3 w4 w5 w6 w7 w8 w9 w10 w11 hS [] i4 i5 b28 c25_0 h28 n0 O28 A28 F28_1 F28_2 F28_3 F28_4 (Nat.le_trans (own_old_le O25) g28)) e29' (a := b28) (g := (mkF m 129 #[.val (.int i0), .val (.int i1), .val (.int i2), .val (.int i3), .val (.int i4), .val (.int i5), .val (.int x2), .val (.int x4), .val (.int x7), .val (.int (1 : Int32)), .val (.int x9), .val (.int x13), .val (.int x17), .val (.int x22), .val (.ref c25_0), .val .null, .unset, .unset, .unset] [(.int i5), (.int i4), (.ref c25_0), (.ref w8), (.ref b28), (.ref b28)])) rfl (by rw [hml]; rfl) (argsL := [(.ref w8), (.ref c25_0), (.int i4), (.int i5)]) (rest := [(.ref b28)]) (lenOf pd164 rfl) rfl rfl (by show 2 * 0 + _ ≤ _; exact Nat.le_of_eq rfl) (hb hby at_129) (by decide) (by decide) (by decide) (by decide)
        obtain ⟨rfl, N30q, Kq30, q30_0, q30_1, q30_2, q30_3⟩ := hQ30
        have N30 := Fr.app N29 N30q
        have C30 := C28.trans (CHr.keep Kq30 sf30 C28.1)
        have O30 : Old Z n0 T30.heap := O28.keep Kq30 (allS (Nat.le_trans (own_old_le O25) g28) all0)
        have K30 : Keep h0 T30.heap [] := K28.trans Kq30 (allS (Or.inr (Nat.le_trans K25.1 g28)) all0)
        have f32 : Exa Z T30.heap c25_0 z0 := ((q25_0.ext E28).keep Kq30)
        have sf31 := (sf0 : ∀ x ∈ [], Safe Z EL s.vm T30.heap x)
        have f33 : Exa Z T30.heap b28 z1 := (A28.keep Kq30)
        obtain ⟨_, T31, L31, hQ31, X31, st31⟩ := own_virtual X30 hx hZ (W := 0) hown (hw _ m68) (hw _ m69) (notFace_of_selects (args := #[]) (mvT hZ (hw _ m71))) (hw _ m71) (hw _ m70) (hw _ m44) (hw _ m72) (by decide) (rm57 l Z a0 hw hj w0 w1 w2 w3 w4 w5 w6 w7 w8 w9 w10 w11 hS [] b28 c25_0 T30.heap n0 O30 q30_0 q30_1 f32) (rfl : T30.heap = T30.heap) f33 (g := (mkF m 138 #[.val (.int i0), .val (.int i1), .val (.int i2), .val (.int i3), .val (.int i4), .val (.int i5), .val (.int x2), .val (.int x4), .val (.int x7), .val (.int (1 : Int32)), .val (.int x9), .val (.int x13), .val (.int x17), .val (.int x22), .val (.ref c25_0), .val .null, .val (.ref b28), .unset, .unset] [.null, (.ref b28)])) rfl (by rw [hml]; rfl) (argsL := [.null]) (rest := []) (lenOf pd235 rfl) rfl rfl (by show 2 * 0 + _ ≤ _; exact Nat.le_of_eq rfl) (hb hby at_138) (by decide) (by decide) (by decide) (by decide)
        obtain ⟨rfl, N31q, e31⟩ := hQ31
        have N31 := Fr.app N30 N31q
        have e31' : T31.heap = T30.heap := e31
        obtain ⟨fs, hr, hrun, hended, hRW⟩ := X31.leaveW hS0 (by rw [e31']; exact (Nat.le_trans (Nat.le_refl _) (Nat.le_trans (Nat.le_trans Kq25.1 E28.1) Kq30.1))) (v := some (.int (1 : Int32))) (fun h => by rw [Bd.returns] at h; cases h)
        refine ⟨_, _, pre3 _ ?_, hrun, hended, _, _, rfl, ?_, own_rwm hRW (by decide) (by decide)⟩
        · refine Own.iload X28.here hx rfl (hb hby at_118) rfl hp2 ?_
          show Steps p.tables e below (T28.setTop (mkF m 120 #[.val (.int i0), .val (.int i1), .val (.int i2), .val (.int i3), .val (.int i4), .val (.int i5), .val (.int x2), .val (.int x4), .val (.int x7), .val (.int (1 : Int32)), .val (.int x9), .val (.int x13), .val (.int x17), .val (.int x22), .val (.ref c25_0), .val .null, .unset, .unset, .unset] [(.int (8 : Int32)), (.ref b28), (.ref b28)])) _
          refine st29 _ ?_
          refine XS.aload X29.here hx rfl (hb hby at_123) rfl rfl ?_
          refine XS.iload X29.here hx rfl (hb hby at_125) rfl ?_
          refine XS.iload X29.here hx rfl (hb hby at_127) rfl ?_
          show Steps p.tables e below (T29.setTop (mkF m 129 #[.val (.int i0), .val (.int i1), .val (.int i2), .val (.int i3), .val (.int i4), .val (.int i5), .val (.int x2), .val (.int x4), .val (.int x7), .val (.int (1 : Int32)), .val (.int x9), .val (.int x13), .val (.int x17), .val (.int x22), .val (.ref c25_0), .val .null, .unset, .unset, .unset] [(.int i5), (.int i4), (.ref c25_0), (.ref w8), (.ref b28), (.ref b28)])) _
          refine st30 _ ?_
          refine XS.astore X30.here hx rfl (hb hby at_132) rfl rfl (l' := #[.val (.int i0), .val (.int i1), .val (.int i2), .val (.int i3), .val (.int i4), .val (.int i5), .val (.int x2), .val (.int x4), .val (.int x7), .val (.int (1 : Int32)), .val (.int x9), .val (.int x13), .val (.int x17), .val (.int x22), .val (.ref c25_0), .val .null, .val (.ref b28), .unset, .unset]) rfl ?_
          refine XS.aload X30.here hx rfl (hb hby at_134) rfl rfl ?_
          refine XS.aload X30.here hx rfl (hb hby at_136) rfl rfl ?_
          show Steps p.tables e below (T30.setTop (mkF m 138 #[.val (.int i0), .val (.int i1), .val (.int i2), .val (.int i3), .val (.int i4), .val (.int i5), .val (.int x2), .val (.int x4), .val (.int x7), .val (.int (1 : Int32)), .val (.int x9), .val (.int x13), .val (.int x17), .val (.int x22), .val (.ref c25_0), .val .null, .val (.ref b28), .unset, .unset] [.null, (.ref b28)])) _
          refine st31 _ ?_
          refine XS.istore X31.here hx rfl (hb hby at_141) rfl (l' := #[.val (.int i0), .val (.int i1), .val (.int i2), .val (.int i3), .val (.int i4), .val (.int i5), .val (.int x2), .val (.int x4), .val (.int x7), .val (.int (1 : Int32)), .val (.int x9), .val (.int x13), .val (.int x17), .val (.int x22), .val (.ref c25_0), .val .null, .val (.ref b28), .val (.int (0 : Int32)), .unset]) rfl ?_
          refine Own.iload X31.here hx rfl (hb hby at_143) rfl hp2 ?_
          refine XS.bipush X31.here hx rfl (hb hby at_145) ?_
          show Steps p.tables e below (T31.setTop (mkF m 147 #[.val (.int i0), .val (.int i1), .val (.int i2), .val (.int i3), .val (.int i4), .val (.int i5), .val (.int x2), .val (.int x4), .val (.int x7), .val (.int (1 : Int32)), .val (.int x9), .val (.int x13), .val (.int x17), .val (.int x22), .val (.ref c25_0), .val .null, .val (.ref b28), .val (.int (0 : Int32)), .unset] [(.int (8 : Int32)), (.int (8 : Int32))])) _
          refine XS.icmpNo X31.here hx rfl (hb hby at_147) rfl (teq (by decide : (8 : Int32) = (8 : Int32))).2 ?_
          refine XS.iload X31.here hx rfl (hb hby at_150) rfl ?_
          refine XS.ifYes X31.here hx rfl (pc0 := 152) (pc' := 192) rfl (hb hby at_152) rfl ((if0 _ _).trans (feq (by decide : ¬ ((1 : Int32) = (0 : Int32)))).2) (by decide) (by decide) ?_
          refine XS.iconst X31.here hx rfl (hb hby at_192) ?_
          show Steps p.tables e below (T31.setTop (mkF m 193 #[.val (.int i0), .val (.int i1), .val (.int i2), .val (.int i3), .val (.int i4), .val (.int i5), .val (.int x2), .val (.int x4), .val (.int x7), .val (.int (1 : Int32)), .val (.int x9), .val (.int x13), .val (.int x17), .val (.int x22), .val (.ref c25_0), .val .null, .val (.ref b28), .val (.int (0 : Int32)), .unset] [(.int (0 : Int32))])) _
          refine XS.istore X31.here hx rfl (hb hby at_193) rfl (l' := #[.val (.int i0), .val (.int i1), .val (.int i2), .val (.int i3), .val (.int i4), .val (.int i5), .val (.int x2), .val (.int x4), .val (.int x7), .val (.int (1 : Int32)), .val (.int x9), .val (.int x13), .val (.int x17), .val (.int x22), .val (.ref c25_0), .val .null, .val (.ref b28), .val (.int (0 : Int32)), .val (.int (0 : Int32))]) rfl ?_
          refine XS.iload X31.here hx rfl (hb hby at_195) rfl ?_
          refine XS.iload X31.here hx rfl (hb hby at_197) rfl ?_
          refine XS.icmpNo X31.here hx rfl (hb hby at_199) rfl (teq (by decide : (0 : Int32) = (0 : Int32))).2 ?_
          show Steps p.tables e below (T31.setTop (mkF m 202 #[.val (.int i0), .val (.int i1), .val (.int i2), .val (.int i3), .val (.int i4), .val (.int i5), .val (.int x2), .val (.int x4), .val (.int x7), .val (.int (1 : Int32)), .val (.int x9), .val (.int x13), .val (.int x17), .val (.int x22), .val (.ref c25_0), .val .null, .val (.ref b28), .val (.int (0 : Int32)), .val (.int (0 : Int32))] [])) _
          refine XS.iconst X31.here hx rfl (hb hby at_202) ?_
          refine XS.goto X31.here hx rfl (pc0 := 203) (pc' := 207) rfl (hb hby at_203) (by decide) (by decide) ?_
          exact retN X31 hx (t := .boolean) Bd.returns (by simp) (hb hby at_207) hr
        · show QL n0 _ T31.heap _
          exact ⟨rfl, N31⟩
      · have hd29 : ¬ (x2 < (0 : Int32)) := (by have q0 := rx2; have q1 := (by decide : ((0 : Int32)).toInt = 0); exact own_ltF (by omega) : ¬ (x2 < (0 : Int32)))
        have hd30 : ¬ ((9 : Int32) < x2) := (by have q0 := (by decide : ((9 : Int32)).toInt = 9); have q1 := rx2; exact own_ltF (by omega) : ¬ ((9 : Int32) < x2))
        obtain ⟨_, T31, L31, ⟨z31, rfl, N31q, hz31_0, hz31_1, e31⟩, X31, st31⟩ := own_callS X28 hx hZ (W := 2) hown (hw _ m45) (hw _ m46) (hw _ m3) (hw _ m47) (by decide) (jm0 l Z a0 hw hj w0 w1 w2 w3 w4 w5 w6 w7 w8 w9 w10 w11 hS [] x2 h28 n0 O28 hd29 hd30 hp2) e28 (g := (mkF m 120 #[.val (.int i0), .val (.int i1), .val (.int i2), .val (.int i3), .val (.int i4), .val (.int i5), .val (.int x2), .val (.int x4), .val (.int x7), .val (.int (1 : Int32)), .val (.int x9), .val (.int x13), .val (.int x17), .val (.int x22), .val (.ref c25_0), .val .null, .unset, .unset, .unset] [(.int x2), (.ref b28), (.ref b28)])) rfl (by rw [hml]; rfl) (argsL := [(.int x2)]) (rest := [(.ref b28), (.ref b28)]) (lenOf pd128 rfl) rfl rfl (by show 2 * 0 + _ ≤ _; exact Nat.le_of_eq rfl) (hb hby at_120) (by decide) (by decide) (by decide) (by decide)
        have N31 := Fr.app N25 N31q
        have e31' : T31.heap = h28 := e31
        have sf32 := ((sfS (Safe.exa (EL := EL) hZ.alike A28 (by decide) (by decide)) sf0) : ∀ x ∈ [b28], Safe Z EL s.vm h28 x)
        obtain ⟨_, T32, L32, hQ32, X32, st32⟩ := own_special X31 hx hZ (W := 1) rfl hown (hw _ m51) (hw _ m52) (hw _ m44) (hw _ m53) (by decide) (rm10 l Z a0 hw hj w0 w1 w2 w3 w4 w5 w6 w7 w8 w9 w10 w11 hS [] i4 i5 b28 z31 c25_0 h28 n0 O28 A28 F28_1 F28_2 F28_3 F28_4 (Nat.le_trans (own_old_le O25) g28)) e31' (a := b28) (g := (mkF m 129 #[.val (.int i0), .val (.int i1), .val (.int i2), .val (.int i3), .val (.int i4), .val (.int i5), .val (.int x2), .val (.int x4), .val (.int x7), .val (.int (1 : Int32)), .val (.int x9), .val (.int x13), .val (.int x17), .val (.int x22), .val (.ref c25_0), .val .null, .unset, .unset, .unset] [(.int i5), (.int i4), (.ref c25_0), (.ref z31), (.ref b28), (.ref b28)])) rfl (by rw [hml]; rfl) (argsL := [(.ref z31), (.ref c25_0), (.int i4), (.int i5)]) (rest := [(.ref b28)]) (lenOf pd164 rfl) rfl rfl (by show 2 * 0 + _ ≤ _; exact Nat.le_of_eq rfl) (hb hby at_129) (by decide) (by decide) (by decide) (by decide)
        obtain ⟨rfl, N32q, Kq32, q32_0, q32_1, q32_2, q32_3⟩ := hQ32
        have N32 := Fr.app N31 N32q
        have C32 := C28.trans (CHr.keep Kq32 sf32 C28.1)
        have O32 : Old Z n0 T32.heap := O28.keep Kq32 (allS (Nat.le_trans (own_old_le O25) g28) all0)
        have K32 : Keep h0 T32.heap [] := K28.trans Kq32 (allS (Or.inr (Nat.le_trans K25.1 g28)) all0)
        have sf33 := (sf0 : ∀ x ∈ [], Safe Z EL s.vm T32.heap x)
        have f34 : Exa Z T32.heap b28 z1 := (A28.keep Kq32)
        obtain ⟨_, T33, L33, hQ33, X33, st33⟩ := own_virtual X32 hx hZ (W := 0) hown (hw _ m68) (hw _ m69) (notFace_of_selects (args := #[]) (mvT hZ (hw _ m71))) (hw _ m71) (hw _ m70) (hw _ m44) (hw _ m72) (by decide) (rm58 l Z a0 hw hj w0 w1 w2 w3 w4 w5 w6 w7 w8 w9 w10 w11 hS [] b28 z31 T32.heap n0 O32 q32_0 hz31_1) (rfl : T32.heap = T32.heap) f34 (g := (mkF m 138 #[.val (.int i0), .val (.int i1), .val (.int i2), .val (.int i3), .val (.int i4), .val (.int i5), .val (.int x2), .val (.int x4), .val (.int x7), .val (.int (1 : Int32)), .val (.int x9), .val (.int x13), .val (.int x17), .val (.int x22), .val (.ref c25_0), .val .null, .val (.ref b28), .unset, .unset] [.null, (.ref b28)])) rfl (by rw [hml]; rfl) (argsL := [.null]) (rest := []) (lenOf pd235 rfl) rfl rfl (by show 2 * 0 + _ ≤ _; exact Nat.le_of_eq rfl) (hb hby at_138) (by decide) (by decide) (by decide) (by decide)
        obtain ⟨rfl, N33q, e33⟩ := hQ33
        have N33 := Fr.app N32 N33q
        have e33' : T33.heap = T32.heap := e33
        obtain ⟨fs, hr, hrun, hended, hRW⟩ := X33.leaveW hS0 (by rw [e33']; exact (Nat.le_trans (Nat.le_refl _) (Nat.le_trans (Nat.le_trans Kq25.1 E28.1) Kq32.1))) (v := some (.int (1 : Int32))) (fun h => by rw [Bd.returns] at h; cases h)
        refine ⟨_, _, pre3 _ ?_, hrun, hended, _, _, rfl, ?_, own_rwm hRW (by decide) (by decide)⟩
        · refine XS.iload X28.here hx rfl (hb hby at_118) rfl ?_
          show Steps p.tables e below (T28.setTop (mkF m 120 #[.val (.int i0), .val (.int i1), .val (.int i2), .val (.int i3), .val (.int i4), .val (.int i5), .val (.int x2), .val (.int x4), .val (.int x7), .val (.int (1 : Int32)), .val (.int x9), .val (.int x13), .val (.int x17), .val (.int x22), .val (.ref c25_0), .val .null, .unset, .unset, .unset] [(.int x2), (.ref b28), (.ref b28)])) _
          refine st31 _ ?_
          refine XS.aload X31.here hx rfl (hb hby at_123) rfl rfl ?_
          refine XS.iload X31.here hx rfl (hb hby at_125) rfl ?_
          refine XS.iload X31.here hx rfl (hb hby at_127) rfl ?_
          show Steps p.tables e below (T31.setTop (mkF m 129 #[.val (.int i0), .val (.int i1), .val (.int i2), .val (.int i3), .val (.int i4), .val (.int i5), .val (.int x2), .val (.int x4), .val (.int x7), .val (.int (1 : Int32)), .val (.int x9), .val (.int x13), .val (.int x17), .val (.int x22), .val (.ref c25_0), .val .null, .unset, .unset, .unset] [(.int i5), (.int i4), (.ref c25_0), (.ref z31), (.ref b28), (.ref b28)])) _
          refine st32 _ ?_
          refine XS.astore X32.here hx rfl (hb hby at_132) rfl rfl (l' := #[.val (.int i0), .val (.int i1), .val (.int i2), .val (.int i3), .val (.int i4), .val (.int i5), .val (.int x2), .val (.int x4), .val (.int x7), .val (.int (1 : Int32)), .val (.int x9), .val (.int x13), .val (.int x17), .val (.int x22), .val (.ref c25_0), .val .null, .val (.ref b28), .unset, .unset]) rfl ?_
          refine XS.aload X32.here hx rfl (hb hby at_134) rfl rfl ?_
          refine XS.aload X32.here hx rfl (hb hby at_136) rfl rfl ?_
          show Steps p.tables e below (T32.setTop (mkF m 138 #[.val (.int i0), .val (.int i1), .val (.int i2), .val (.int i3), .val (.int i4), .val (.int i5), .val (.int x2), .val (.int x4), .val (.int x7), .val (.int (1 : Int32)), .val (.int x9), .val (.int x13), .val (.int x17), .val (.int x22), .val (.ref c25_0), .val .null, .val (.ref b28), .unset, .unset] [.null, (.ref b28)])) _
          refine st33 _ ?_
          refine XS.istore X33.here hx rfl (hb hby at_141) rfl (l' := #[.val (.int i0), .val (.int i1), .val (.int i2), .val (.int i3), .val (.int i4), .val (.int i5), .val (.int x2), .val (.int x4), .val (.int x7), .val (.int (1 : Int32)), .val (.int x9), .val (.int x13), .val (.int x17), .val (.int x22), .val (.ref c25_0), .val .null, .val (.ref b28), .val (.int (0 : Int32)), .unset]) rfl ?_
          refine XS.iload X33.here hx rfl (hb hby at_143) rfl ?_
          refine XS.bipush X33.here hx rfl (hb hby at_145) ?_
          show Steps p.tables e below (T33.setTop (mkF m 147 #[.val (.int i0), .val (.int i1), .val (.int i2), .val (.int i3), .val (.int i4), .val (.int i5), .val (.int x2), .val (.int x4), .val (.int x7), .val (.int (1 : Int32)), .val (.int x9), .val (.int x13), .val (.int x17), .val (.int x22), .val (.ref c25_0), .val .null, .val (.ref b28), .val (.int (0 : Int32)), .unset] [(.int (8 : Int32)), (.int x2)])) _
          refine XS.icmpYes X33.here hx rfl (pc0 := 147) (pc' := 192) rfl (hb hby at_147) rfl (feq hp2).2 (by decide) (by decide) ?_
          refine XS.iconst X33.here hx rfl (hb hby at_192) ?_
          refine XS.istore X33.here hx rfl (hb hby at_193) rfl (l' := #[.val (.int i0), .val (.int i1), .val (.int i2), .val (.int i3), .val (.int i4), .val (.int i5), .val (.int x2), .val (.int x4), .val (.int x7), .val (.int (1 : Int32)), .val (.int x9), .val (.int x13), .val (.int x17), .val (.int x22), .val (.ref c25_0), .val .null, .val (.ref b28), .val (.int (0 : Int32)), .val (.int (0 : Int32))]) rfl ?_
          refine XS.iload X33.here hx rfl (hb hby at_195) rfl ?_
          show Steps p.tables e below (T33.setTop (mkF m 197 #[.val (.int i0), .val (.int i1), .val (.int i2), .val (.int i3), .val (.int i4), .val (.int i5), .val (.int x2), .val (.int x4), .val (.int x7), .val (.int (1 : Int32)), .val (.int x9), .val (.int x13), .val (.int x17), .val (.int x22), .val (.ref c25_0), .val .null, .val (.ref b28), .val (.int (0 : Int32)), .val (.int (0 : Int32))] [(.int (0 : Int32))])) _
          refine XS.iload X33.here hx rfl (hb hby at_197) rfl ?_
          refine XS.icmpNo X33.here hx rfl (hb hby at_199) rfl (teq (by decide : (0 : Int32) = (0 : Int32))).2 ?_
          refine XS.iconst X33.here hx rfl (hb hby at_202) ?_
          refine XS.goto X33.here hx rfl (pc0 := 203) (pc' := 207) rfl (hb hby at_203) (by decide) (by decide) ?_
          show Steps p.tables e below (T33.setTop (mkF m 207 #[.val (.int i0), .val (.int i1), .val (.int i2), .val (.int i3), .val (.int i4), .val (.int i5), .val (.int x2), .val (.int x4), .val (.int x7), .val (.int (1 : Int32)), .val (.int x9), .val (.int x13), .val (.int x17), .val (.int x22), .val (.ref c25_0), .val .null, .val (.ref b28), .val (.int (0 : Int32)), .val (.int (0 : Int32))] [(.int (1 : Int32))])) _
          exact retN X33 hx (t := .boolean) Bd.returns (by simp) (hb hby at_207) hr
        · show QL n0 _ T33.heap _
          exact ⟨rfl, N33⟩
set_option maxRecDepth 65536 in
set_option maxHeartbeats 40000000 in
theorem comes_1 {Post : Tables → Env → Array Value → State → Outcome → State → Prop} (hpost : ∀ tb e args s v u, (limb_1_1.after args s (.returned v) u = true ∧ limb_1_2.after args s (.returned v) u = true ∧ True) → ReturnedEndW s (.returned v) u (Jvm.fieldLocs frame_1_writes args s ++ Jvm.arrayLocs frame_1_arrays args s ++ Jvm.staticLocs frame_1_statics s) 24 1152 → Post tb e args s (.returned v) u) :
    ArmFor flags0 classFile x code maxLocals ret World_1 tables_1 room_1 Calls_1 rest_1 Pre_1 Post := by
  intro l hfl _ _ p e ha hc hk s m args below hf hA hF happ hP
  obtain ⟨hcalls, hrest, hpre⟩ := hP
  obtain ⟨-, -, -, hnamed, -, -, -, hat⟩ := (Spec.applies_iff hf).mp happ
  obtain ⟨hg, hn⟩ := and_e (Cond.before_iff.mp (show (Jvm.Cond.and given_1 narrow_1).before args s = true from hpre))
  obtain ⟨g1a, g1b⟩ := and_e hg
  obtain ⟨g2a, g2b⟩ := and_e g1b
  obtain ⟨g3a, g3b⟩ := and_e g2b
  obtain ⟨g4a, g4b⟩ := and_e g3b
  obtain ⟨g5a, g5b⟩ := and_e g4b
  obtain ⟨g6a, g6b⟩ := and_e g5b
  obtain ⟨n7a, n7b⟩ := and_e hn
  obtain ⟨n8a, n8b⟩ := and_e n7b
  obtain ⟨n9a, n9b⟩ := and_e n8b
  obtain ⟨n10a, n10b⟩ := and_e n9b
  obtain ⟨n11a, n11b⟩ := and_e n10b
  obtain ⟨n12a, n12b⟩ := and_e n11b
  obtain ⟨n13a, n13b⟩ := and_e n12b
  obtain ⟨n14a, n14b⟩ := and_e n13b
  obtain ⟨n15a, n15b⟩ := and_e n14b
  obtain ⟨n16a, n16b⟩ := and_e n15b
  obtain ⟨n17a, n17b⟩ := and_e n16b
  obtain ⟨n18a, n18b⟩ := and_e n17b
  obtain ⟨n19a, n19b⟩ := and_e n18b
  obtain ⟨n20a, n20b⟩ := and_e n19b
  obtain ⟨n21a, n21b⟩ := and_e n20b
  obtain ⟨n22a, n22b⟩ := and_e n21b
  obtain ⟨n23a, n23b⟩ := and_e n22b
  obtain ⟨n24a, n24b⟩ := and_e n23b
  obtain ⟨n25a, n25b⟩ := and_e n24b
  obtain ⟨v0, v1, v2, v3, v4, v5, rfl⟩ : ∃ v0 v1 v2 v3 v4 v5 : Value, args = #[v0, v1, v2, v3, v4, v5] := by
    have hs : args.size = 6 := by simpa [Cond.value, given_1] using g1a
    obtain ⟨L⟩ := args
    match L, hs with
    | [v0, v1, v2, v3, v4, v5], _ => exact ⟨v0, v1, v2, v3, v4, v5, rfl⟩
  have hw := fun d (hd : d ∈ tables_1) => atoms_spec (ws := Jvm.Cond.code x code maxLocals ret :: tables_1) hat d (List.mem_cons_of_mem _ hd)
  have hfit : Fit s := fun {y c} hc i hi => by
    obtain ⟨ha, rfl⟩ := Array.getElem?_eq_some_iff.mp hc
    have q := List.all_eq_true.mp ((Array.all_eq_true_iff_forall_mem.mp hF) _ (Array.getElem_mem ha)) i (List.mem_range.mpr hi)
    simpa [Array.getElem?_eq_getElem hi] using q
  obtain ⟨hj, hown0⟩ := atoms_of _ (rest_1_c_eq ▸ (show rest_1_c.before _ s = true from hrest))
  obtain ⟨i0, ei0⟩ := is_v g2a
  obtain rfl : v0 = (.int i0) := Option.some.inj ei0
  obtain ⟨i1, ei1⟩ := is_v g3a
  obtain rfl : v1 = (.int i1) := Option.some.inj ei1
  obtain ⟨i2, ei2⟩ := is_v g4a
  obtain rfl : v2 = (.int i2) := Option.some.inj ei2
  obtain ⟨i3, ei3⟩ := is_v g5a
  obtain rfl : v3 = (.int i3) := Option.some.inj ei3
  obtain ⟨i4, ei4⟩ := is_v g6a
  obtain rfl : v4 = (.int i4) := Option.some.inj ei4
  obtain ⟨i5, ei5⟩ := is_v g6b
  obtain rfl : v5 = (.int i5) := Option.some.inj ei5
  obtain ⟨w0, evw0⟩ := exa_v n23a
  obtain ⟨w1, evw1⟩ := exa_v n25a
  obtain ⟨w2, evw2⟩ := exa_v n11a
  obtain ⟨w3, evw3⟩ := exa_v n21a
  obtain ⟨w4, evw4⟩ := exa_v n7a
  obtain ⟨w5, evw5⟩ := exa_v n13a
  obtain ⟨w6, evw6⟩ := exa_v n19a
  obtain ⟨w7, evw7⟩ := exa_v n17a
  obtain ⟨w8, evw8⟩ := exa_v n8a
  obtain ⟨w9, evw9⟩ := exa_v n15a
  obtain ⟨w10, evw10⟩ := is_v (Cond.before_iff.mp (hj _ (List.mem_of_getElem? (i := 1) rfl)))
  obtain ⟨w11, evw11, erw11⟩ := isR_v (Cond.before_iff.mp (hj _ (List.mem_of_getElem? (i := 8) rfl)))
  have hS : SF s w0 w1 w2 w3 w4 w5 w6 w7 w8 w9 w10 w11 := ⟨Sta.start evw0 (Or.inr ⟨(hw _ m49), (hw _ m104)⟩), Exa.start evw0 n23a, own_fld evw0 n24a, Sta.start evw1 (Or.inr ⟨(hw _ m49), (hw _ m109)⟩), Exa.start evw1 n25a, own_fld evw1 n25b, Sta.start evw2 (Or.inr ⟨(hw _ m49), (hw _ m76)⟩), Exa.start evw2 n11a, own_fld evw2 n12a, Sta.start evw3 (Or.inr ⟨(hw _ m49), (hw _ m102)⟩), Exa.start evw3 n21a, own_fld evw3 n22a, Sta.start evw4 (Or.inr ⟨(hw _ m49), (hw _ m50)⟩), Exa.start evw4 n7a, own_fld evw4 n9a, Sta.start evw5 (Or.inr ⟨(hw _ m49), (hw _ m78)⟩), Exa.start evw5 n13a, own_fld evw5 n14a, Sta.start evw6 (Or.inr ⟨(hw _ m49), (hw _ m100)⟩), Exa.start evw6 n19a, own_fld evw6 n20a, Sta.start evw7 (Or.inr ⟨(hw _ m49), (hw _ m98)⟩), Exa.start evw7 n17a, own_fld evw7 n18a, Sta.start evw8 (Or.inr ⟨(hw _ m49), (hw _ m74)⟩), Exa.start evw8 n8a, own_fld evw8 n10a, Sta.start evw9 (Or.inr ⟨(hw _ m49), (hw _ m96)⟩), Exa.start evw9 n15a, own_fld evw9 n16a, Sta.start evw10 (Or.inl (hj _ j0)), own_not evw10 (Cond.before_iff.mp (hj _ (List.mem_of_getElem? (i := 2) rfl))), Sta.start evw11 (Or.inl (hj _ j7)), erw11⟩
  obtain ⟨n, o, h1, h2, h3, _, L, rfl, ⟨rfl, N⟩, hq⟩ := rm0 l s _ hw hj w0 w1 w2 w3 w4 w5 w6 w7 w8 w9 w10 w11 hS tables_1 i0 i1 i2 i3 i4 i5 s.heap s.heap.size (Old.start s) p e ha hc hk s m _ below hf ((Spec.applies_iff_loose hf).mp happ).1 ⟨rfl, State.Warmed39.refl s, rfl, CHv.start (own_EW hw hj) (fun p hp => hcalls.1 p hp) (hj _ j2) (hw _ m19) (hw _ m15), sf0⟩ trivial
  refine ⟨n, _, h1, h2, h3, hpost _ _ _ _ _ _ ⟨Cond.after_iff.mpr rfl, Cond.after_iff.mpr (eq_i res_at (Term.int_eval (1)) rfl), trivial⟩ ⟨hq.1, hq.2.1, hq.2.2.1, (hq.2.2.2.sift fun y hy => Or.inr (N y hy)).mono (by decide) (by decide)⟩⟩
theorem main_1_1 : Claimed_1_1 := comes_1 fun _ _ _ _ _ _ h hF => ⟨h.1, hF⟩
theorem main_1_2 : Claimed_1_2 := comes_1 fun _ _ _ _ _ _ h hF => ⟨h.2.1, hF⟩
end Jvm.Pilot.@@N@@
namespace Jvm.Pilot.@@N@@
open Jvm Jvm.ClassFile Sem Op Lib Jvm.Free Jvm.Stand Jvm.Pilot.@@N@@.Jvm.D
/-! MADE BY PROGRAM (witnessworld.py) out of the Statement's table words and the real class files: 23 classes; the members and pool entries that the words name. The judged class is class 1, her method 3. -/
namespace start1
open Jvm.ClassFile
def u (s : String) : CpInfo := .utf8 (stringToUtf16 s)
/-- a pool by its gaps: so many unusable entries, then the entry; so many at the end -/
def gap : Nat → List CpInfo → List CpInfo
  | 0, r => r
  | n + 1, r => .unusable :: gap n r
def poolList (es : List (Nat × CpInfo)) (last : Nat) : List CpInfo := es.foldr (fun e r => gap e.1 (e.2 :: r)) (gap last [])
def pool (es : List (Nat × CpInfo)) (last : Nat) : Array CpInfo := ⟨poolList es last⟩
def fileOf (pool : Array CpInfo) (this : Nat) (attrs : Array Attribute := #[]) (ms : Array MethodInfo := #[]) (fl : Nat := 33) (sup : Nat := 0) (ifs : Array Nat := #[]) (fds : Array FieldInfo := #[]) : ClassFile where
  minorVersion := 0
  majorVersion := 65
  constantPool := pool
  accessFlags := fl
  thisClass := this
  superClass := sup
  interfaces := ifs
  fields := fds
  methods := ms
  attributes := attrs
def plain (name : String) (sup : Option ClassId) : Class where
  name := name
  kind := .ordinary
  loader := none
  accessFlags := 33
  super := sup
  interfaces := #[]
  cf := none
  fields := #[]
  methods := #[]
  instanceTypes := #[]
  staticTypes := #[]
  resolved := #[]
  callSites := []
  init := .initialized
  statics := none
  mirror := none

def pool0 : Array CpInfo := pool [(5, u "<init>"), (0, u "()V"), (1, .class_ 10), (1, u "java/lang/Object")] 113

def k0c0 : Code := { maxStack := 0, maxLocals := 1, code := object_method_1_code, exceptionTable := #[], attributes := #[] }
def k0m0 : Method := { name := "<init>", desc := "()V", sig := { parameters := [], returnType := none }, accessFlags := 1, code := some k0c0 }
/-- java/lang/Object -/
def k0 : Class := { plain "java/lang/Object" none with
  accessFlags := 33
  interfaces := #[]
  cf := some (fileOf pool0 8 #[] #[{ accessFlags := 1, nameIndex := 5, descriptorIndex := 6, attributes := #[] }] 33 0 #[] #[])
  fields := #[]
  methods := #[k0m0]
  instanceTypes := #[]
  staticTypes := #[]
  resolved := Array.replicate 124 none
  statics := none }

def pool1 : Array CpInfo := pool [(2, .class_ 4), (1, u "java/lang/Object"), (0, u "<init>"), (0, u "()V"), (0, .fieldref 8 9), (0, .class_ 10), (0, .nameAndType 11 12), (0, u "com/example/key3/key3/cql/Token$Type"), (0, u "IDENTIFIER"), (0, u "Lcom/example/key3/key3/cql/Token$Type;"), (0, .fieldref 8 14), (0, .nameAndType 15 12), (0, u "QUOTED_NAME"), (0, .fieldref 8 17), (0, .nameAndType 18 12), (0, u "STRING"), (0, .fieldref 8 20), (0, .nameAndType 21 12), (0, u "INTEGER"), (0, .fieldref 8 23), (0, .nameAndType 24 12), (0, u "FLOAT"), (0, .fieldref 8 26), (0, .nameAndType 27 12), (0, u "UUID"), (0, .fieldref 8 29), (0, .nameAndType 30 12), (0, u "HEX"), (0, .fieldref 8 32), (0, .nameAndType 33 12), (0, u "DURATION"), (0, .fieldref 8 35), (0, .nameAndType 36 12), (0, u "SYMBOL"), (0, .fieldref 8 38), (0, .nameAndType 39 12), (0, u "END"), (0, .class_ 41), (0, u "java/lang/String"), (0, .methodref 40 43), (0, .nameAndType 5 44), (0, u "([C)V"), (0, .methodref 40 46), (0, .nameAndType 47 48), (0, u "valueOf"), (0, u "(C)Ljava/lang/String;"), (0, .integer 2147483647), (0, .methodref 51 52), (0, .class_ 53), (0, .nameAndType 54 55), (0, u "com/example/key3/key3/cql/TokenIsSymbolPinLaw"), (0, u "make"), (0, u "(ICC)Ljava/lang/String;"), (0, .class_ 57), (0, u "com/example/key3/key3/cql/Token"), (0, .methodref 51 59), (0, .nameAndType 60 61), (0, u "typeOf"), (0, u "(I)Lcom/example/key3/key3/cql/Token$Type;"), (0, .methodref 56 63), (0, .nameAndType 5 64), (0, u "(Lcom/example/key3/key3/cql/Token$Type;Ljava/lang/String;II)V"), (0, .methodref 56 66), (0, .nameAndType 67 68), (0, u "isSymbol"), (0, u "(Ljava/lang/String;)Z"), (3, u "law"), (0, u "(IIIIII)Z")] 4

def k1m0 : Method := { name := "<init>", desc := "()V", sig := { parameters := [], returnType := none }, accessFlags := 1, code := none }
def k1c1 : Code := { maxStack := 2, maxLocals := 1, code := method_2_code, exceptionTable := #[], attributes := #[] }
def k1m1 : Method := { name := "typeOf", desc := "(I)Lcom/example/key3/key3/cql/Token$Type;", sig := { parameters := [.int], returnType := some (.object "com/example/key3/key3/cql/Token$Type") }, accessFlags := 10, code := some k1c1 }
def k1c2 : Code := { maxStack := 3, maxLocals := 4, code := method_3_code, exceptionTable := #[], attributes := #[] }
def k1m2 : Method := { name := "make", desc := "(ICC)Ljava/lang/String;", sig := { parameters := [.int, .char, .char], returnType := some (.object "java/lang/String") }, accessFlags := 10, code := some k1c2 }
def k1c3 : Code := { maxStack := 6, maxLocals := 19, code := code, exceptionTable := #[], attributes := #[] }
def k1m3 : Method := { name := "law", desc := "(IIIIII)Z", sig := { parameters := [.int, .int, .int, .int, .int, .int], returnType := some .boolean }, accessFlags := 9, code := some k1c3 }
/-- com/example/key3/key3/cql/TokenIsSymbolPinLaw -/
def k1 : Class := { plain "com/example/key3/key3/cql/TokenIsSymbolPinLaw" (some 0) with
  accessFlags := 49
  interfaces := #[]
  cf := some (fileOf pool1 51 #[] #[{ accessFlags := 1, nameIndex := 5, descriptorIndex := 6, attributes := #[] }, { accessFlags := 10, nameIndex := 60, descriptorIndex := 61, attributes := #[] }, { accessFlags := 10, nameIndex := 54, descriptorIndex := 55, attributes := #[] }, { accessFlags := 9, nameIndex := 72, descriptorIndex := 73, attributes := #[] }] 49 2 #[] #[])
  fields := #[]
  methods := #[k1m0, k1m1, k1m2, k1m3]
  instanceTypes := #[]
  staticTypes := #[]
  resolved := Array.replicate 78 none
  statics := none }

def pool2 : Array CpInfo := pool [(1, .class_ 2), (0, u "java/io/Serializable"), (0, .class_ 4), (0, u "java/lang/Object")] 2

/-- java/io/Serializable -/
def k2 : Class := { plain "java/io/Serializable" (some 0) with
  accessFlags := 1537
  interfaces := #[]
  cf := some (fileOf pool2 1 #[] #[] 1537 3 #[] #[])
  fields := #[]
  methods := #[]
  instanceTypes := #[]
  staticTypes := #[]
  resolved := Array.replicate 7 none
  statics := none }

def pool3 : Array CpInfo := pool [(1, .class_ 2), (0, u "java/lang/Comparable"), (0, .class_ 4), (0, u "java/lang/Object")] 7

/-- java/lang/Comparable -/
def k3 : Class := { plain "java/lang/Comparable" (some 0) with
  accessFlags := 1537
  interfaces := #[]
  cf := some (fileOf pool3 1 #[] #[] 1537 3 #[] #[])
  fields := #[]
  methods := #[]
  instanceTypes := #[]
  staticTypes := #[]
  resolved := Array.replicate 12 none
  statics := none }

def pool4 : Array CpInfo := pool [(2, .class_ 4), (1, u "java/lang/CharSequence"), (42, .class_ 48), (0, u "java/lang/CharSequence$1CodePointIterator"), (10, .class_ 60), (0, u "java/lang/CharSequence$1CharIterator"), (5, .class_ 67), (0, u "java/lang/Object")] 63

/-- java/lang/CharSequence -/
def k4 : Class := { plain "java/lang/CharSequence" (some 0) with
  accessFlags := 1537
  interfaces := #[]
  cf := some (fileOf pool4 2 #[.nestMembers #[47, 59]] #[] 1537 66 #[] #[])
  fields := #[]
  methods := #[]
  instanceTypes := #[]
  staticTypes := #[]
  resolved := Array.replicate 131 none
  statics := none }

def pool5 : Array CpInfo := pool [(1, .class_ 2), (0, u "java/lang/constant/Constable"), (0, .class_ 4), (0, u "java/lang/Object")] 6

/-- java/lang/constant/Constable -/
def k5 : Class := { plain "java/lang/constant/Constable" (some 0) with
  accessFlags := 1537
  interfaces := #[]
  cf := some (fileOf pool5 1 #[] #[] 1537 3 #[] #[])
  fields := #[]
  methods := #[]
  instanceTypes := #[]
  staticTypes := #[]
  resolved := Array.replicate 11 none
  statics := none }

def pool6 : Array CpInfo := pool [(1, .class_ 2), (0, u "java/lang/constant/ConstantDesc"), (0, .class_ 4), (0, u "java/lang/Object")] 32

/-- java/lang/constant/ConstantDesc -/
def k6 : Class := { plain "java/lang/constant/ConstantDesc" (some 0) with
  accessFlags := 1537
  interfaces := #[]
  cf := some (fileOf pool6 1 #[] #[] 1537 3 #[] #[])
  fields := #[]
  methods := #[]
  instanceTypes := #[]
  staticTypes := #[]
  resolved := Array.replicate 37 none
  statics := none }

def pool7 : Array CpInfo := pool [(1, .methodref 2 3), (0, .class_ 4), (0, .nameAndType 5 6), (0, u "java/lang/Object"), (0, u "<init>"), (0, u "()V"), (0, .string 8), (0, u ""), (0, .fieldref 10 11), (0, .class_ 12), (0, .nameAndType 13 14), (0, u "java/lang/String"), (0, u "value"), (0, u "[B"), (0, .fieldref 10 16), (0, .nameAndType 17 18), (0, u "coder"), (0, u "B"), (2, u "hash"), (0, u "I"), (2, u "hashIsZero"), (0, u "Z"), (0, .methodref 10 28), (0, .nameAndType 5 29), (0, u "([CIILjava/lang/Void;)V"), (8, .fieldref 10 39), (0, .nameAndType 40 26), (0, u "COMPACT_STRINGS"), (1, .class_ 44), (1, u "java/lang/StringUTF16"), (0, u "compress"), (1, .methodref 42 48), (0, .nameAndType 49 50), (0, u "coderFromArrayLen"), (0, u "([BI)B"), (2, u "toBytes"), (53, .class_ 109), (1, u "java/lang/StringLatin1"), (67, .methodref 42 178), (0, .nameAndType 45 179), (0, u "([CII)[B"), (29, .methodref 10 210), (0, .nameAndType 5 211), (0, u "([BB)V"), (157, u "(C)Z"), (171, .methodref 107 542), (0, .nameAndType 543 544), (0, u "equals"), (0, u "([B[B)Z"), (28, u "(Ljava/lang/Object;)Z"), (1, .class_ 576), (0, u "java/lang/CharSequence"), (22, u "CASE_INSENSITIVE_ORDER"), (0, u "Ljava/util/Comparator;"), (181, u "valueOf"), (0, u "(C)Ljava/lang/String;"), (226, u "([C)V"), (4, .methodref 107 1016), (0, .nameAndType 1017 369), (0, u "canEncode"), (0, .methodref 107 1019), (0, .nameAndType 53 1020), (0, u "(C)[B"), (80, u "serialPersistentFields"), (0, u "[Ljava/io/ObjectStreamField;"), (0, .class_ 1104), (0, u "java/lang/String$CaseInsensitiveComparator"), (1, .class_ 1107), (0, u "java/io/Serializable"), (0, .class_ 1109), (0, u "java/lang/Comparable"), (0, .class_ 1111), (0, u "java/lang/constant/Constable"), (0, .class_ 1113), (0, u "java/lang/constant/ConstantDesc"), (2, u "serialVersionUID"), (0, u "J"), (3, u "REPL"), (0, u "C"), (2, u "LATIN1"), (1, u "UTF16")] 323

def k7m0 : Method := { name := "<init>", desc := "()V", sig := { parameters := [], returnType := none }, accessFlags := 1, code := none }
def k7c1 : Code := { maxStack := 5, maxLocals := 2, code := jdk_42_method_3_code, exceptionTable := #[], attributes := #[] }
def k7m1 : Method := { name := "<init>", desc := "([C)V", sig := { parameters := [(.array .char)], returnType := none }, accessFlags := 1, code := some k7c1 }
def k7c2 : Code := { maxStack := 2, maxLocals := 3, code := jdk_42_method_66_code, exceptionTable := #[], attributes := #[] }
def k7m2 : Method := { name := "equals", desc := "(Ljava/lang/Object;)Z", sig := { parameters := [(.object "java/lang/Object")], returnType := some .boolean }, accessFlags := 1, code := some k7c2 }
def k7c3 : Code := { maxStack := 4, maxLocals := 1, code := jdk_42_method_139_code, exceptionTable := #[], attributes := #[] }
def k7m3 : Method := { name := "valueOf", desc := "(C)Ljava/lang/String;", sig := { parameters := [.char], returnType := some (.object "java/lang/String") }, accessFlags := 9, code := some k7c3 }
def k7c4 : Code := { maxStack := 4, maxLocals := 6, code := jdk_42_method_149_code, exceptionTable := #[], attributes := #[] }
def k7m4 : Method := { name := "<init>", desc := "([CIILjava/lang/Void;)V", sig := { parameters := [(.array .char), .int, .int, (.object "java/lang/Void")], returnType := none }, accessFlags := 2, code := some k7c4 }
def k7c5 : Code := { maxStack := 2, maxLocals := 3, code := jdk_42_method_151_code, exceptionTable := #[], attributes := #[] }
def k7m5 : Method := { name := "<init>", desc := "([BB)V", sig := { parameters := [(.array .byte), .byte], returnType := none }, accessFlags := 0, code := some k7c5 }
/-- java/lang/String -/
def k7 : Class := { plain "java/lang/String" (some 0) with
  accessFlags := 49
  interfaces := #[2, 3, 4, 5, 6]
  cf := some (fileOf pool7 10 #[.nestMembers #[1103]] #[{ accessFlags := 1, nameIndex := 5, descriptorIndex := 6, attributes := #[] }, { accessFlags := 1, nameIndex := 5, descriptorIndex := 1010, attributes := #[] }, { accessFlags := 1, nameIndex := 543, descriptorIndex := 573, attributes := #[] }, { accessFlags := 9, nameIndex := 782, descriptorIndex := 783, attributes := #[] }, { accessFlags := 2, nameIndex := 5, descriptorIndex := 29, attributes := #[] }, { accessFlags := 0, nameIndex := 5, descriptorIndex := 211, attributes := #[] }] 49 2 #[1106, 1108, 575, 1110, 1112] #[{ accessFlags := 18, nameIndex := 13, descriptorIndex := 14, attributes := #[] }, { accessFlags := 18, nameIndex := 17, descriptorIndex := 18, attributes := #[] }, { accessFlags := 2, nameIndex := 21, descriptorIndex := 22, attributes := #[] }, { accessFlags := 2, nameIndex := 25, descriptorIndex := 26, attributes := #[] }, { accessFlags := 26, nameIndex := 1116, descriptorIndex := 1117, attributes := #[] }, { accessFlags := 24, nameIndex := 40, descriptorIndex := 26, attributes := #[] }, { accessFlags := 26, nameIndex := 1101, descriptorIndex := 1102, attributes := #[] }, { accessFlags := 26, nameIndex := 1121, descriptorIndex := 1122, attributes := #[] }, { accessFlags := 25, nameIndex := 599, descriptorIndex := 600, attributes := #[] }, { accessFlags := 24, nameIndex := 1125, descriptorIndex := 18, attributes := #[] }, { accessFlags := 24, nameIndex := 1127, descriptorIndex := 18, attributes := #[] }])
  fields := #[{ name := "value", type := (.array .byte), accessFlags := 18, slot := 0, constantValue := 0 }, { name := "coder", type := .byte, accessFlags := 18, slot := 1, constantValue := 0 }, { name := "hash", type := .int, accessFlags := 2, slot := 2, constantValue := 0 }, { name := "hashIsZero", type := .boolean, accessFlags := 2, slot := 3, constantValue := 0 }, { name := "serialVersionUID", type := .long, accessFlags := 26, slot := 0, constantValue := 0 }, { name := "COMPACT_STRINGS", type := .boolean, accessFlags := 24, slot := 1, constantValue := 0 }, { name := "serialPersistentFields", type := (.array (.object "java/io/ObjectStreamField")), accessFlags := 26, slot := 2, constantValue := 0 }, { name := "REPL", type := .char, accessFlags := 26, slot := 3, constantValue := 0 }, { name := "CASE_INSENSITIVE_ORDER", type := (.object "java/util/Comparator"), accessFlags := 25, slot := 4, constantValue := 0 }, { name := "LATIN1", type := .byte, accessFlags := 24, slot := 5, constantValue := 0 }, { name := "UTF16", type := .byte, accessFlags := 24, slot := 6, constantValue := 0 }]
  methods := #[k7m0, k7m1, k7m2, k7m3, k7m4, k7m5]
  instanceTypes := #[(.array .byte), .byte, .int, .boolean]
  staticTypes := #[.long, .boolean, (.array (.object "java/io/ObjectStreamField")), .char, (.object "java/util/Comparator"), .byte, .byte]
  resolved := Array.replicate 1451 none
  statics := some 0 }

def pool8 : Array CpInfo := pool [(4, .class_ 6), (1, u "java/lang/Object"), (0, u "<init>"), (0, u "()V"), (5, .class_ 16), (1, u "java/lang/StringLatin1"), (73, u "canEncode"), (14, u "(C)Z"), (15, u "$assertionsDisabled"), (0, u "Z"), (98, .class_ 223), (1, u "java/lang/StringLatin1$LinesSpliterator"), (57, u "equals"), (0, u "([B[B)Z"), (97, u "toBytes"), (1, u "(C)[B"), (7, .class_ 391), (0, u "java/lang/StringLatin1$CharsSpliterator")] 3

def k8m0 : Method := { name := "<init>", desc := "()V", sig := { parameters := [], returnType := none }, accessFlags := 0, code := none }
def k8c1 : Code := { maxStack := 2, maxLocals := 1, code := jdk_43_method_3_code, exceptionTable := #[], attributes := #[] }
def k8m1 : Method := { name := "canEncode", desc := "(C)Z", sig := { parameters := [.char], returnType := some .boolean }, accessFlags := 9, code := some k8c1 }
def k8c2 : Code := { maxStack := 3, maxLocals := 3, code := jdk_43_method_13_code, exceptionTable := #[], attributes := #[] }
def k8m2 : Method := { name := "equals", desc := "([B[B)Z", sig := { parameters := [(.array .byte), (.array .byte)], returnType := some .boolean }, accessFlags := 9, code := some k8c2 }
def k8c3 : Code := { maxStack := 4, maxLocals := 1, code := jdk_43_method_46_code, exceptionTable := #[], attributes := #[] }
def k8m3 : Method := { name := "toBytes", desc := "(C)[B", sig := { parameters := [.char], returnType := some (.array .byte) }, accessFlags := 9, code := some k8c3 }
/-- java/lang/StringLatin1 -/
def k8 : Class := { plain "java/lang/StringLatin1" (some 0) with
  accessFlags := 48
  interfaces := #[]
  cf := some (fileOf pool8 14 #[.nestMembers #[390, 221]] #[{ accessFlags := 0, nameIndex := 7, descriptorIndex := 8, attributes := #[] }, { accessFlags := 9, nameIndex := 90, descriptorIndex := 105, attributes := #[] }, { accessFlags := 9, nameIndex := 281, descriptorIndex := 282, attributes := #[] }, { accessFlags := 9, nameIndex := 380, descriptorIndex := 382, attributes := #[] }] 48 4 #[] #[{ accessFlags := 4120, nameIndex := 121, descriptorIndex := 122, attributes := #[] }])
  fields := #[{ name := "$assertionsDisabled", type := .boolean, accessFlags := 4120, slot := 0, constantValue := 0 }]
  methods := #[k8m0, k8m1, k8m2, k8m3]
  instanceTypes := #[]
  staticTypes := #[.boolean]
  resolved := Array.replicate 395 none
  statics := none }

def pool9 : Array CpInfo := pool [(1, .methodref 2 3), (0, .class_ 4), (0, .nameAndType 5 6), (0, u "java/lang/Object"), (0, u "<init>"), (0, u "()V"), (0, .class_ 8), (0, u "java/lang/Record")] 13

def k9c0 : Code := { maxStack := 1, maxLocals := 1, code := jdk_30_method_1_code, exceptionTable := #[], attributes := #[] }
def k9m0 : Method := { name := "<init>", desc := "()V", sig := { parameters := [], returnType := none }, accessFlags := 4, code := some k9c0 }
/-- java/lang/Record -/
def k9 : Class := { plain "java/lang/Record" (some 0) with
  accessFlags := 1057
  interfaces := #[]
  cf := some (fileOf pool9 7 #[] #[{ accessFlags := 4, nameIndex := 5, descriptorIndex := 6, attributes := #[] }] 1057 2 #[] #[])
  fields := #[]
  methods := #[k9m0]
  instanceTypes := #[]
  staticTypes := #[]
  resolved := Array.replicate 22 none
  statics := none }

def pool10 : Array CpInfo := pool [(1, .methodref 2 3), (0, .class_ 4), (0, .nameAndType 5 6), (0, u "java/lang/Record"), (0, u "<init>"), (0, u "()V"), (0, .fieldref 8 9), (0, .class_ 10), (0, .nameAndType 11 12), (0, u "com/example/key3/key3/cql/Token"), (0, u "type"), (0, u "Lcom/example/key3/key3/cql/Token$Type;"), (0, .fieldref 8 14), (0, .nameAndType 15 16), (0, u "text"), (0, u "Ljava/lang/String;"), (0, .fieldref 8 18), (0, .nameAndType 19 20), (0, u "line"), (0, u "I"), (0, .fieldref 8 22), (0, .nameAndType 23 20), (0, u "column"), (1, .class_ 27), (1, u "com/example/key3/key3/cql/Token$Type"), (2, .class_ 32), (1, u "java/lang/String"), (1, u "(Ljava/lang/String;)Z"), (0, .fieldref 25 36), (0, .nameAndType 37 12), (0, u "SYMBOL"), (0, .methodref 30 39), (0, .nameAndType 40 41), (0, u "equals"), (0, u "(Ljava/lang/Object;)Z"), (22, u "(Lcom/example/key3/key3/cql/Token$Type;Ljava/lang/String;II)V"), (5, u "isSymbol")] 38

def k10c0 : Code := { maxStack := 2, maxLocals := 5, code := prog_65_method_1_code, exceptionTable := #[], attributes := #[] }
def k10m0 : Method := { name := "<init>", desc := "(Lcom/example/key3/key3/cql/Token$Type;Ljava/lang/String;II)V", sig := { parameters := [(.object "com/example/key3/key3/cql/Token$Type"), (.object "java/lang/String"), .int, .int], returnType := none }, accessFlags := 0, code := some k10c0 }
def k10c1 : Code := { maxStack := 2, maxLocals := 2, code := prog_65_method_3_code, exceptionTable := #[], attributes := #[] }
def k10m1 : Method := { name := "isSymbol", desc := "(Ljava/lang/String;)Z", sig := { parameters := [(.object "java/lang/String")], returnType := some .boolean }, accessFlags := 0, code := some k10c1 }
/-- com/example/key3/key3/cql/Token -/
def k10 : Class := { plain "com/example/key3/key3/cql/Token" (some 9) with
  accessFlags := 48
  interfaces := #[]
  cf := some (fileOf pool10 8 #[.nestMembers #[25]] #[{ accessFlags := 0, nameIndex := 5, descriptorIndex := 64, attributes := #[] }, { accessFlags := 0, nameIndex := 70, descriptorIndex := 34, attributes := #[] }] 48 2 #[] #[{ accessFlags := 18, nameIndex := 11, descriptorIndex := 12, attributes := #[] }, { accessFlags := 18, nameIndex := 15, descriptorIndex := 16, attributes := #[] }, { accessFlags := 18, nameIndex := 19, descriptorIndex := 20, attributes := #[] }, { accessFlags := 18, nameIndex := 23, descriptorIndex := 20, attributes := #[] }])
  fields := #[{ name := "type", type := (.object "com/example/key3/key3/cql/Token$Type"), accessFlags := 18, slot := 0, constantValue := 0 }, { name := "text", type := (.object "java/lang/String"), accessFlags := 18, slot := 1, constantValue := 0 }, { name := "line", type := .int, accessFlags := 18, slot := 2, constantValue := 0 }, { name := "column", type := .int, accessFlags := 18, slot := 3, constantValue := 0 }]
  methods := #[k10m0, k10m1]
  instanceTypes := #[(.object "com/example/key3/key3/cql/Token$Type"), (.object "java/lang/String"), .int, .int]
  staticTypes := #[]
  resolved := Array.replicate 109 none
  statics := none }

def pool11 : Array CpInfo := pool [(2, .class_ 4), (1, u "java/lang/Enum"), (0, u "name"), (0, u "Ljava/lang/String;"), (2, u "ordinal"), (0, u "I"), (1, .class_ 14), (1, u "java/lang/Object"), (4, u "hash"), (86, .class_ 108), (1, u "java/lang/Enum$EnumDesc"), (2, .class_ 112), (0, u "java/lang/constant/Constable"), (0, .class_ 114), (0, u "java/lang/Comparable"), (0, .class_ 116), (0, u "java/io/Serializable")] 87

/-- java/lang/Enum -/
def k11 : Class := { plain "java/lang/Enum" (some 0) with
  accessFlags := 1057
  interfaces := #[5, 3, 2]
  cf := some (fileOf pool11 2 #[.nestMembers #[106]] #[] 1057 12 #[111, 113, 115] #[{ accessFlags := 18, nameIndex := 5, descriptorIndex := 6, attributes := #[] }, { accessFlags := 18, nameIndex := 9, descriptorIndex := 10, attributes := #[] }, { accessFlags := 2, nameIndex := 19, descriptorIndex := 10, attributes := #[] }])
  fields := #[{ name := "name", type := (.object "java/lang/String"), accessFlags := 18, slot := 0, constantValue := 0 }, { name := "ordinal", type := .int, accessFlags := 18, slot := 1, constantValue := 0 }, { name := "hash", type := .int, accessFlags := 2, slot := 2, constantValue := 0 }]
  methods := #[]
  instanceTypes := #[(.object "java/lang/String"), .int, .int]
  staticTypes := #[]
  resolved := Array.replicate 204 none
  statics := none }

def pool12 : Array CpInfo := pool [(1, .class_ 2), (0, u "com/example/key3/key3/cql/Token$Type"), (2, u "IDENTIFIER"), (0, u "Lcom/example/key3/key3/cql/Token$Type;"), (2, u "QUOTED_NAME"), (2, u "STRING"), (2, u "INTEGER"), (2, u "FLOAT"), (2, u "UUID"), (2, u "HEX"), (2, u "DURATION"), (2, u "SYMBOL"), (2, u "END"), (2, u "$VALUES"), (0, u "[Lcom/example/key3/key3/cql/Token$Type;"), (6, .class_ 46), (1, u "java/lang/Enum"), (33, .class_ 81), (0, u "com/example/key3/key3/cql/Token")] 2

/-- com/example/key3/key3/cql/Token$Type -/
def k12 : Class := { plain "com/example/key3/key3/cql/Token$Type" (some 11) with
  accessFlags := 16432
  interfaces := #[]
  cf := some (fileOf pool12 1 #[.nestHost 80] #[] 16432 44 #[] #[{ accessFlags := 16409, nameIndex := 5, descriptorIndex := 6, attributes := #[] }, { accessFlags := 16409, nameIndex := 9, descriptorIndex := 6, attributes := #[] }, { accessFlags := 16409, nameIndex := 12, descriptorIndex := 6, attributes := #[] }, { accessFlags := 16409, nameIndex := 15, descriptorIndex := 6, attributes := #[] }, { accessFlags := 16409, nameIndex := 18, descriptorIndex := 6, attributes := #[] }, { accessFlags := 16409, nameIndex := 21, descriptorIndex := 6, attributes := #[] }, { accessFlags := 16409, nameIndex := 24, descriptorIndex := 6, attributes := #[] }, { accessFlags := 16409, nameIndex := 27, descriptorIndex := 6, attributes := #[] }, { accessFlags := 16409, nameIndex := 30, descriptorIndex := 6, attributes := #[] }, { accessFlags := 16409, nameIndex := 33, descriptorIndex := 6, attributes := #[] }, { accessFlags := 4122, nameIndex := 36, descriptorIndex := 37, attributes := #[] }])
  fields := #[{ name := "IDENTIFIER", type := (.object "com/example/key3/key3/cql/Token$Type"), accessFlags := 16409, slot := 0, constantValue := 0 }, { name := "QUOTED_NAME", type := (.object "com/example/key3/key3/cql/Token$Type"), accessFlags := 16409, slot := 1, constantValue := 0 }, { name := "STRING", type := (.object "com/example/key3/key3/cql/Token$Type"), accessFlags := 16409, slot := 2, constantValue := 0 }, { name := "INTEGER", type := (.object "com/example/key3/key3/cql/Token$Type"), accessFlags := 16409, slot := 3, constantValue := 0 }, { name := "FLOAT", type := (.object "com/example/key3/key3/cql/Token$Type"), accessFlags := 16409, slot := 4, constantValue := 0 }, { name := "UUID", type := (.object "com/example/key3/key3/cql/Token$Type"), accessFlags := 16409, slot := 5, constantValue := 0 }, { name := "HEX", type := (.object "com/example/key3/key3/cql/Token$Type"), accessFlags := 16409, slot := 6, constantValue := 0 }, { name := "DURATION", type := (.object "com/example/key3/key3/cql/Token$Type"), accessFlags := 16409, slot := 7, constantValue := 0 }, { name := "SYMBOL", type := (.object "com/example/key3/key3/cql/Token$Type"), accessFlags := 16409, slot := 8, constantValue := 0 }, { name := "END", type := (.object "com/example/key3/key3/cql/Token$Type"), accessFlags := 16409, slot := 9, constantValue := 0 }, { name := "$VALUES", type := (.array (.object "com/example/key3/key3/cql/Token$Type")), accessFlags := 4122, slot := 10, constantValue := 0 }]
  methods := #[]
  instanceTypes := #[(.object "java/lang/String"), .int, .int]
  staticTypes := #[(.object "com/example/key3/key3/cql/Token$Type"), (.object "com/example/key3/key3/cql/Token$Type"), (.object "com/example/key3/key3/cql/Token$Type"), (.object "com/example/key3/key3/cql/Token$Type"), (.object "com/example/key3/key3/cql/Token$Type"), (.object "com/example/key3/key3/cql/Token$Type"), (.object "com/example/key3/key3/cql/Token$Type"), (.object "com/example/key3/key3/cql/Token$Type"), (.object "com/example/key3/key3/cql/Token$Type"), (.object "com/example/key3/key3/cql/Token$Type"), (.array (.object "com/example/key3/key3/cql/Token$Type"))]
  resolved := Array.replicate 84 none
  statics := some 1 }

def pool13 : Array CpInfo := pool [(6, .class_ 8), (1, u "java/lang/Object"), (0, u "<init>"), (0, u "()V"), (1, .class_ 14), (1, u "java/lang/StringUTF16"), (31, u "$assertionsDisabled"), (0, u "Z"), (13, u "HI_BYTE_SHIFT"), (0, u "I"), (2, u "LO_BYTE_SHIFT"), (49, .methodref 12 116), (0, .nameAndType 117 118), (0, u "compress"), (0, u "([CI[BII)I"), (3, u "([CII)[B"), (138, u "coderFromArrayLen"), (0, u "([BI)B"), (106, .class_ 371), (1, u "java/lang/StringUTF16$LinesSpliterator"), (58, u "MAX_LENGTH"), (196, .class_ 628), (0, u "java/lang/StringUTF16$CodePointsSpliterator"), (0, .class_ 630), (0, u "java/lang/StringUTF16$CharsSpliterator")] 4

def k13m0 : Method := { name := "<init>", desc := "()V", sig := { parameters := [], returnType := none }, accessFlags := 0, code := none }
def k13c1 : Code := { maxStack := 2, maxLocals := 2, code := jdk_52_method_15_code, exceptionTable := #[], attributes := #[] }
def k13m1 : Method := { name := "coderFromArrayLen", desc := "([BI)B", sig := { parameters := [(.array .byte), .int], returnType := some .byte }, accessFlags := 8, code := some k13c1 }
def k13c2 : Code := { maxStack := 5, maxLocals := 6, code := jdk_52_method_16_code, exceptionTable := #[], attributes := #[] }
def k13m2 : Method := { name := "compress", desc := "([CII)[B", sig := { parameters := [(.array .char), .int, .int], returnType := some (.array .byte) }, accessFlags := 9, code := some k13c2 }
def k13c3 : Code := { maxStack := 3, maxLocals := 7, code := jdk_52_method_21_code, exceptionTable := #[], attributes := #[] }
def k13m3 : Method := { name := "compress", desc := "([CI[BII)I", sig := { parameters := [(.array .char), .int, (.array .byte), .int, .int], returnType := some .int }, accessFlags := 9, code := some k13c3 }
/-- java/lang/StringUTF16 -/
def k13 : Class := { plain "java/lang/StringUTF16" (some 0) with
  accessFlags := 48
  interfaces := #[]
  cf := some (fileOf pool13 12 #[.nestMembers #[627, 629, 369]] #[{ accessFlags := 0, nameIndex := 9, descriptorIndex := 10, attributes := #[] }, { accessFlags := 8, nameIndex := 261, descriptorIndex := 262, attributes := #[] }, { accessFlags := 9, nameIndex := 117, descriptorIndex := 122, attributes := #[] }, { accessFlags := 9, nameIndex := 117, descriptorIndex := 118, attributes := #[] }] 48 6 #[] #[{ accessFlags := 26, nameIndex := 61, descriptorIndex := 62, attributes := #[] }, { accessFlags := 26, nameIndex := 65, descriptorIndex := 62, attributes := #[] }, { accessFlags := 24, nameIndex := 430, descriptorIndex := 62, attributes := #[] }, { accessFlags := 4120, nameIndex := 46, descriptorIndex := 47, attributes := #[] }])
  fields := #[{ name := "HI_BYTE_SHIFT", type := .int, accessFlags := 26, slot := 0, constantValue := 0 }, { name := "LO_BYTE_SHIFT", type := .int, accessFlags := 26, slot := 1, constantValue := 0 }, { name := "MAX_LENGTH", type := .int, accessFlags := 24, slot := 2, constantValue := 0 }, { name := "$assertionsDisabled", type := .boolean, accessFlags := 4120, slot := 3, constantValue := 0 }]
  methods := #[k13m0, k13m1, k13m2, k13m3]
  instanceTypes := #[]
  staticTypes := #[.int, .int, .int, .boolean]
  resolved := Array.replicate 635 none
  statics := none }

def pool14 : Array CpInfo := pool [(2, .class_ 4), (1, u "java/lang/Object"), (0, u "<init>"), (0, u "()V"), (17, .class_ 26), (1, u "jdk/internal/util/Preconditions"), (28, .class_ 56), (0, u "jdk/internal/util/Preconditions$4"), (57, .class_ 115), (0, u "jdk/internal/util/Preconditions$1"), (7, u "SIOOBE_FORMATTER"), (0, u "Ljava/util/function/BiFunction;"), (0, .class_ 126), (0, u "jdk/internal/util/Preconditions$2"), (3, u "AIOOBE_FORMATTER"), (0, .class_ 132), (0, u "jdk/internal/util/Preconditions$3"), (3, u "IOOBE_FORMATTER")] 57

def k14m0 : Method := { name := "<init>", desc := "()V", sig := { parameters := [], returnType := none }, accessFlags := 1, code := none }
/-- jdk/internal/util/Preconditions -/
def k14 : Class := { plain "jdk/internal/util/Preconditions" (some 0) with
  accessFlags := 33
  interfaces := #[]
  cf := some (fileOf pool14 24 #[.nestMembers #[55, 131, 125, 114]] #[{ accessFlags := 1, nameIndex := 5, descriptorIndex := 6, attributes := #[] }] 33 2 #[] #[{ accessFlags := 25, nameIndex := 123, descriptorIndex := 124, attributes := #[] }, { accessFlags := 25, nameIndex := 130, descriptorIndex := 124, attributes := #[] }, { accessFlags := 25, nameIndex := 136, descriptorIndex := 124, attributes := #[] }])
  fields := #[{ name := "SIOOBE_FORMATTER", type := (.object "java/util/function/BiFunction"), accessFlags := 25, slot := 0, constantValue := 0 }, { name := "AIOOBE_FORMATTER", type := (.object "java/util/function/BiFunction"), accessFlags := 25, slot := 1, constantValue := 0 }, { name := "IOOBE_FORMATTER", type := (.object "java/util/function/BiFunction"), accessFlags := 25, slot := 2, constantValue := 0 }]
  methods := #[k14m0]
  instanceTypes := #[]
  staticTypes := #[(.object "java/util/function/BiFunction"), (.object "java/util/function/BiFunction"), (.object "java/util/function/BiFunction")]
  resolved := Array.replicate 194 none
  statics := some 2 }

def pool15 : Array CpInfo := pool [(9, u "<init>"), (6, .class_ 18), (1, u "java/lang/Object"), (0, u "()V"), (1, .class_ 23), (1, u "jdk/internal/util/ArraysSupport"), (0, u "LOG2_ARRAY_LONG_INDEX_SCALE"), (0, u "I"), (2, u "U"), (0, u "Ljdk/internal/misc/Unsafe;"), (8, u "BIG_ENDIAN"), (0, u "Z"), (8, u "LOG2_BYTE_BIT_SIZE"), (4, u "LOG2_ARRAY_INT_INDEX_SCALE"), (54, u "JLA"), (0, u "Ljdk/internal/access/JavaLangAccess;"), (11, u "LOG2_ARRAY_BOOLEAN_INDEX_SCALE"), (9, u "LOG2_ARRAY_BYTE_INDEX_SCALE"), (5, u "LOG2_ARRAY_CHAR_INDEX_SCALE"), (5, u "LOG2_ARRAY_SHORT_INDEX_SCALE"), (18, u "LOG2_ARRAY_FLOAT_INDEX_SCALE"), (24, u "LOG2_ARRAY_DOUBLE_INDEX_SCALE"), (89, u "T_BOOLEAN"), (2, u "T_CHAR"), (1, u "T_FLOAT"), (1, u "T_DOUBLE"), (1, u "T_BYTE"), (1, u "T_SHORT"), (1, u "T_INT"), (1, u "T_LONG"), (1, u "SOFT_MAX_ARRAY_LENGTH")] 83

def k15m0 : Method := { name := "<init>", desc := "()V", sig := { parameters := [], returnType := none }, accessFlags := 2, code := none }
/-- jdk/internal/util/ArraysSupport -/
def k15 : Class := { plain "jdk/internal/util/ArraysSupport" (some 0) with
  accessFlags := 33
  interfaces := #[]
  cf := some (fileOf pool15 21 #[] #[{ accessFlags := 2, nameIndex := 9, descriptorIndex := 19, attributes := #[] }] 33 16 #[] #[{ accessFlags := 24, nameIndex := 28, descriptorIndex := 29, attributes := #[] }, { accessFlags := 26, nameIndex := 38, descriptorIndex := 39, attributes := #[] }, { accessFlags := 25, nameIndex := 121, descriptorIndex := 25, attributes := #[] }, { accessFlags := 25, nameIndex := 131, descriptorIndex := 25, attributes := #[] }, { accessFlags := 25, nameIndex := 137, descriptorIndex := 25, attributes := #[] }, { accessFlags := 25, nameIndex := 143, descriptorIndex := 25, attributes := #[] }, { accessFlags := 25, nameIndex := 53, descriptorIndex := 25, attributes := #[] }, { accessFlags := 25, nameIndex := 24, descriptorIndex := 25, attributes := #[] }, { accessFlags := 25, nameIndex := 162, descriptorIndex := 25, attributes := #[] }, { accessFlags := 25, nameIndex := 187, descriptorIndex := 25, attributes := #[] }, { accessFlags := 26, nameIndex := 48, descriptorIndex := 25, attributes := #[] }, { accessFlags := 25, nameIndex := 277, descriptorIndex := 25, attributes := #[] }, { accessFlags := 25, nameIndex := 280, descriptorIndex := 25, attributes := #[] }, { accessFlags := 25, nameIndex := 282, descriptorIndex := 25, attributes := #[] }, { accessFlags := 25, nameIndex := 284, descriptorIndex := 25, attributes := #[] }, { accessFlags := 25, nameIndex := 286, descriptorIndex := 25, attributes := #[] }, { accessFlags := 25, nameIndex := 288, descriptorIndex := 25, attributes := #[] }, { accessFlags := 25, nameIndex := 290, descriptorIndex := 25, attributes := #[] }, { accessFlags := 25, nameIndex := 292, descriptorIndex := 25, attributes := #[] }, { accessFlags := 26, nameIndex := 108, descriptorIndex := 109, attributes := #[] }, { accessFlags := 25, nameIndex := 294, descriptorIndex := 25, attributes := #[] }])
  fields := #[{ name := "U", type := (.object "jdk/internal/misc/Unsafe"), accessFlags := 24, slot := 0, constantValue := 0 }, { name := "BIG_ENDIAN", type := .boolean, accessFlags := 26, slot := 1, constantValue := 0 }, { name := "LOG2_ARRAY_BOOLEAN_INDEX_SCALE", type := .int, accessFlags := 25, slot := 2, constantValue := 0 }, { name := "LOG2_ARRAY_BYTE_INDEX_SCALE", type := .int, accessFlags := 25, slot := 3, constantValue := 0 }, { name := "LOG2_ARRAY_CHAR_INDEX_SCALE", type := .int, accessFlags := 25, slot := 4, constantValue := 0 }, { name := "LOG2_ARRAY_SHORT_INDEX_SCALE", type := .int, accessFlags := 25, slot := 5, constantValue := 0 }, { name := "LOG2_ARRAY_INT_INDEX_SCALE", type := .int, accessFlags := 25, slot := 6, constantValue := 0 }, { name := "LOG2_ARRAY_LONG_INDEX_SCALE", type := .int, accessFlags := 25, slot := 7, constantValue := 0 }, { name := "LOG2_ARRAY_FLOAT_INDEX_SCALE", type := .int, accessFlags := 25, slot := 8, constantValue := 0 }, { name := "LOG2_ARRAY_DOUBLE_INDEX_SCALE", type := .int, accessFlags := 25, slot := 9, constantValue := 0 }, { name := "LOG2_BYTE_BIT_SIZE", type := .int, accessFlags := 26, slot := 10, constantValue := 0 }, { name := "T_BOOLEAN", type := .int, accessFlags := 25, slot := 11, constantValue := 0 }, { name := "T_CHAR", type := .int, accessFlags := 25, slot := 12, constantValue := 0 }, { name := "T_FLOAT", type := .int, accessFlags := 25, slot := 13, constantValue := 0 }, { name := "T_DOUBLE", type := .int, accessFlags := 25, slot := 14, constantValue := 0 }, { name := "T_BYTE", type := .int, accessFlags := 25, slot := 15, constantValue := 0 }, { name := "T_SHORT", type := .int, accessFlags := 25, slot := 16, constantValue := 0 }, { name := "T_INT", type := .int, accessFlags := 25, slot := 17, constantValue := 0 }, { name := "T_LONG", type := .int, accessFlags := 25, slot := 18, constantValue := 0 }, { name := "JLA", type := (.object "jdk/internal/access/JavaLangAccess"), accessFlags := 26, slot := 19, constantValue := 0 }, { name := "SOFT_MAX_ARRAY_LENGTH", type := .int, accessFlags := 25, slot := 20, constantValue := 0 }]
  methods := #[k15m0]
  instanceTypes := #[]
  staticTypes := #[(.object "jdk/internal/misc/Unsafe"), .boolean, .int, .int, .int, .int, .int, .int, .int, .int, .int, .int, .int, .int, .int, .int, .int, .int, .int, (.object "jdk/internal/access/JavaLangAccess"), .int]
  resolved := Array.replicate 378 none
  statics := none }

def pool16 : Array CpInfo := pool [(1, u "java/lang/Cloneable"), (0, .class_ 1), (0, u "java/lang/Object"), (0, .class_ 3)] 3

/-- java/lang/Cloneable -/
def k16 : Class := { plain "java/lang/Cloneable" (some 0) with
  accessFlags := 1537
  interfaces := #[]
  cf := some (fileOf pool16 2 #[] #[] 1537 4 #[] #[])
  fields := #[]
  methods := #[]
  instanceTypes := #[]
  staticTypes := #[]
  resolved := Array.replicate 8 none
  statics := none }

/-- the primitive byte -/
def k17 : Class := { plain "byte" none with kind := .primitive 'B', accessFlags := 0x411 }
/-- [B -/
def k18 : Class := { plain "[B" (some 0) with kind := .array 17 .byte, interfaces := #[16, 2], accessFlags := 1041 }

/-- the primitive char -/
def k19 : Class := { plain "char" none with kind := .primitive 'C', accessFlags := 0x411 }
/-- [C -/
def k20 : Class := { plain "[C" (some 0) with kind := .array 19 .char, interfaces := #[16, 2], accessFlags := 1041 }

/-- the primitive int -/
def k21 : Class := { plain "int" none with kind := .primitive 'I', accessFlags := 0x411 }
/-- [I -/
def k22 : Class := { plain "[I" (some 0) with kind := .array 21 .int, interfaces := #[16, 2], accessFlags := 1041 }

def heap : Heap := #[{ cls := 7, slots := #[.long 0, .int 1, .null, .int 0, .null, .int 0, .int 0], vm := .statics 7 },
  { cls := 12, slots := #[.ref 7, .ref 9, .ref 10, .ref 8, .ref 5, .ref 12, .ref 6, .ref 3, .ref 11, .ref 4, .null], vm := .statics 12 },
  { cls := 14, slots := #[.null, .null, .null], vm := .statics 14 },
  { cls := 12, slots := #[.null, .int 7, .int 0], vm := .none },
  { cls := 12, slots := #[.null, .int 9, .int 0], vm := .none },
  { cls := 12, slots := #[.null, .int 4, .int 0], vm := .none },
  { cls := 12, slots := #[.null, .int 6, .int 0], vm := .none },
  { cls := 12, slots := #[.null, .int 0, .int 0], vm := .none },
  { cls := 12, slots := #[.null, .int 3, .int 0], vm := .none },
  { cls := 12, slots := #[.null, .int 1, .int 0], vm := .none },
  { cls := 12, slots := #[.null, .int 2, .int 0], vm := .none },
  { cls := 12, slots := #[.null, .int 8, .int 0], vm := .none },
  { cls := 12, slots := #[.null, .int 5, .int 0], vm := .none }]
def classes : Array Class := #[k0, k1, k2, k3, k4, k5, k6, k7, k8, k9, k10, k11, k12, k13, k14, k15, k16, k17, k18, k19, k20, k21, k22]
def interned : List (Array UInt16 × Addr) := []
def slotsUsed : Nat := 51
def theMethod : MethodId := ⟨1, 3⟩
def args0 : Array Value := #[.int 5, .int 5, .int 5, .int 5, .int 5, .int 5]
def aboutOver (below : List Frame) : State where
  vm := { classes := classes, interned := interned.toArray }
  heap := heap
  slotsUsed := slotsUsed
  threads := #[{ frames := .invoking theMethod args0 :: below }]
def below0 : List Frame := [.native { method := ⟨0, 0⟩, args := #[] }]
def about1 : State := aboutOver below0
def p0 : Program := .bare "" "" ""
def e0 : Env := launch0.env 0 0 0
theorem w_frames : about1.frames = Frame.invoking theMethod args0 :: below0 := rfl
set_option maxRecDepth 65536 in
theorem w_args : argsFit about1.vm theMethod args0 = true := by decide +kernel
set_option maxRecDepth 65536 in
theorem w_heap : heapFits about1 = true := by decide +kernel
set_option maxRecDepth 65536 in
theorem w_runnable : about1.curStatus? = some .runnable := by decide +kernel
set_option maxRecDepth 65536 in
theorem w_alone : about1.alone = true := by decide +kernel
set_option maxRecDepth 65536 in
theorem w_named : about1.methodNamed? x = some theMethod := by decide +kernel
set_option maxRecDepth 65536 in
theorem w_hears : about1.hears theMethod below0 = true := by decide +kernel
set_option maxRecDepth 65536 in
theorem w_ripe : about1.ripe theMethod args0 below0 = true := by decide +kernel
theorem w_running : about1.status = .running := rfl
set_option maxRecDepth 65536 in
theorem w_room : about1.hasRoom e0.platform room_1 = true :=
  launch0.hasRoom_least _ room_1 (by decide +kernel) (by decide +kernel) (by decide +kernel) (by decide +kernel) (by decide +kernel) (by decide +kernel)
theorem allAtoms_all (ts : List Jvm.Cond) (a : Array Jvm.Value) (st : Jvm.State) : (allAtoms ts).before a st = ts.all (fun c => c.before a st) := by
  induction ts with
  | nil => rfl
  | cons c t ih =>
    show (Jvm.Cond.and c (allAtoms t)).before a st = _
    rw [Jvm.Cond.before_and, ih, List.all_cons]
def words1 : List Jvm.Cond := Jvm.Cond.code x code maxLocals ret :: tables_1
/-- a 'code' word, met by the world's own term for the bytes: nothing is compared byte by byte -/
theorem code_word {y : MethodName} {bytes : ByteArray} {mx : Nat} {rt : Option FieldType} {a : Array Value} {s : State} {m : MethodId} {meth : Method} {c : Code} (h1 : s.methodNamed? y = some m) (h2 : s.vm.method? m = some meth) (h3 : meth.code = some c) (h4 : c.code = bytes)
    (h5 : (c.maxLocals == mx && c.exceptionTable.isEmpty && decide (c.maxStack ≤ mostOperands) && decide (meth.sig.returnType = rt) && !meth.locks && decide (parseMethodDescriptor y.desc = some meth.sig)) = true) : (Jvm.Cond.code y bytes mx rt).before a s = true := by
  simp only [Bool.and_eq_true, beq_iff_eq, Bool.not_eq_true', decide_eq_true_eq] at h5
  obtain ⟨⟨⟨⟨⟨g1, g2⟩, g3⟩, g4⟩, g5⟩, g6⟩ := h5
  simp [Cond.before, Cond.holds, Cond.value, h1, h2, h3, h4, g1, g2, g3, g4, g5, g6]
def isCode : Jvm.Cond → Bool
  | .code _ _ _ _ => true
  | _ => false
theorem all_split {L : List Jvm.Cond} {P : Jvm.Cond → Bool} (h1 : L.all (fun c => isCode c || P c) = true) (h2 : ∀ c ∈ L.filter isCode, P c = true) : L.all P = true := by
  refine List.all_eq_true.mpr fun c hc => ?_
  have h := List.all_eq_true.mp h1 c hc
  rcases Bool.eq_false_or_eq_true (isCode c) with hi | hi
  · exact h2 c (List.mem_filter.mpr ⟨hc, hi⟩)
  · simpa [hi] using h
set_option maxRecDepth 65536 in
theorem w_c0 : (Jvm.Cond.code x code maxLocals ret).before args0 about1 = true := code_word (m := ⟨1, 3⟩) (meth := k1m3) (c := k1c3) (by decide +kernel) rfl rfl rfl (by decide +kernel)
set_option maxRecDepth 65536 in
theorem w_c1 : (Jvm.Cond.code ({ cls := "com/example/key3/key3/cql/TokenIsSymbolPinLaw", name := "make", desc := "(ICC)Ljava/lang/String;" } : Jvm.MethodName) method_3_code (4 : Nat) (Option.some (Jvm.ClassFile.FieldType.object "java/lang/String"))).before args0 about1 = true := code_word (m := ⟨1, 2⟩) (meth := k1m2) (c := k1c2) (by decide +kernel) rfl rfl rfl (by decide +kernel)
set_option maxRecDepth 65536 in
theorem w_c2 : (Jvm.Cond.code ({ cls := "java/lang/String", name := "valueOf", desc := "(C)Ljava/lang/String;" } : Jvm.MethodName) jdk_42_method_139_code (1 : Nat) (Option.some (Jvm.ClassFile.FieldType.object "java/lang/String"))).before args0 about1 = true := code_word (m := ⟨7, 3⟩) (meth := k7m3) (c := k7c3) (by decide +kernel) rfl rfl rfl (by decide +kernel)
set_option maxRecDepth 65536 in
theorem w_c3 : (Jvm.Cond.code ({ cls := "java/lang/StringLatin1", name := "canEncode", desc := "(C)Z" } : Jvm.MethodName) jdk_43_method_3_code (1 : Nat) (Option.some Jvm.ClassFile.FieldType.boolean)).before args0 about1 = true := code_word (m := ⟨8, 1⟩) (meth := k8m1) (c := k8c1) (by decide +kernel) rfl rfl rfl (by decide +kernel)
set_option maxRecDepth 65536 in
theorem w_c4 : (Jvm.Cond.code ({ cls := "java/lang/StringLatin1", name := "toBytes", desc := "(C)[B" } : Jvm.MethodName) jdk_43_method_46_code (1 : Nat) (Option.some (Jvm.ClassFile.FieldType.array Jvm.ClassFile.FieldType.byte))).before args0 about1 = true := code_word (m := ⟨8, 3⟩) (meth := k8m3) (c := k8c3) (by decide +kernel) rfl rfl rfl (by decide +kernel)
set_option maxRecDepth 65536 in
theorem w_c5 : (Jvm.Cond.code ({ cls := "java/lang/String", name := "<init>", desc := "([BB)V" } : Jvm.MethodName) jdk_42_method_151_code (3 : Nat) (Option.none : Option Jvm.ClassFile.FieldType)).before args0 about1 = true := code_word (m := ⟨7, 5⟩) (meth := k7m5) (c := k7c5) (by decide +kernel) rfl rfl rfl (by decide +kernel)
set_option maxRecDepth 65536 in
theorem w_c6 : (Jvm.Cond.code ({ cls := "java/lang/Object", name := "<init>", desc := "()V" } : Jvm.MethodName) object_method_1_code (1 : Nat) (Option.none : Option Jvm.ClassFile.FieldType)).before args0 about1 = true := code_word (m := ⟨0, 0⟩) (meth := k0m0) (c := k0c0) (by decide +kernel) rfl rfl rfl (by decide +kernel)
set_option maxRecDepth 65536 in
theorem w_c7 : (Jvm.Cond.code ({ cls := "java/lang/String", name := "<init>", desc := "([C)V" } : Jvm.MethodName) jdk_42_method_3_code (2 : Nat) (Option.none : Option Jvm.ClassFile.FieldType)).before args0 about1 = true := code_word (m := ⟨7, 1⟩) (meth := k7m1) (c := k7c1) (by decide +kernel) rfl rfl rfl (by decide +kernel)
set_option maxRecDepth 65536 in
theorem w_c8 : (Jvm.Cond.code ({ cls := "java/lang/String", name := "<init>", desc := "([CIILjava/lang/Void;)V" } : Jvm.MethodName) jdk_42_method_149_code (6 : Nat) (Option.none : Option Jvm.ClassFile.FieldType)).before args0 about1 = true := code_word (m := ⟨7, 4⟩) (meth := k7m4) (c := k7c4) (by decide +kernel) rfl rfl rfl (by decide +kernel)
set_option maxRecDepth 65536 in
theorem w_c9 : (Jvm.Cond.code ({ cls := "com/example/key3/key3/cql/TokenIsSymbolPinLaw", name := "typeOf", desc := "(I)Lcom/example/key3/key3/cql/Token$Type;" } : Jvm.MethodName) method_2_code (1 : Nat) (Option.some (Jvm.ClassFile.FieldType.object "com/example/key3/key3/cql/Token$Type"))).before args0 about1 = true := code_word (m := ⟨1, 1⟩) (meth := k1m1) (c := k1c1) (by decide +kernel) rfl rfl rfl (by decide +kernel)
set_option maxRecDepth 65536 in
theorem w_c10 : (Jvm.Cond.code ({ cls := "com/example/key3/key3/cql/Token", name := "<init>", desc := "(Lcom/example/key3/key3/cql/Token$Type;Ljava/lang/String;II)V" } : Jvm.MethodName) prog_65_method_1_code (5 : Nat) (Option.none : Option Jvm.ClassFile.FieldType)).before args0 about1 = true := code_word (m := ⟨10, 0⟩) (meth := k10m0) (c := k10c0) (by decide +kernel) rfl rfl rfl (by decide +kernel)
set_option maxRecDepth 65536 in
theorem w_c11 : (Jvm.Cond.code ({ cls := "java/lang/Record", name := "<init>", desc := "()V" } : Jvm.MethodName) jdk_30_method_1_code (1 : Nat) (Option.none : Option Jvm.ClassFile.FieldType)).before args0 about1 = true := code_word (m := ⟨9, 0⟩) (meth := k9m0) (c := k9c0) (by decide +kernel) rfl rfl rfl (by decide +kernel)
set_option maxRecDepth 65536 in
theorem w_c12 : (Jvm.Cond.code ({ cls := "com/example/key3/key3/cql/Token", name := "isSymbol", desc := "(Ljava/lang/String;)Z" } : Jvm.MethodName) prog_65_method_3_code (2 : Nat) (Option.some Jvm.ClassFile.FieldType.boolean)).before args0 about1 = true := code_word (m := ⟨10, 1⟩) (meth := k10m1) (c := k10c1) (by decide +kernel) rfl rfl rfl (by decide +kernel)
set_option maxRecDepth 65536 in
theorem w_c13 : (Jvm.Cond.code ({ cls := "java/lang/String", name := "equals", desc := "(Ljava/lang/Object;)Z" } : Jvm.MethodName) jdk_42_method_66_code (3 : Nat) (Option.some Jvm.ClassFile.FieldType.boolean)).before args0 about1 = true := code_word (m := ⟨7, 2⟩) (meth := k7m2) (c := k7c2) (by decide +kernel) rfl rfl rfl (by decide +kernel)
set_option maxRecDepth 65536 in
theorem w_c14 : (Jvm.Cond.code ({ cls := "java/lang/StringUTF16", name := "compress", desc := "([CII)[B" } : Jvm.MethodName) jdk_52_method_16_code (6 : Nat) (Option.some (Jvm.ClassFile.FieldType.array Jvm.ClassFile.FieldType.byte))).before args0 about1 = true := code_word (m := ⟨13, 2⟩) (meth := k13m2) (c := k13c2) (by decide +kernel) rfl rfl rfl (by decide +kernel)
set_option maxRecDepth 65536 in
theorem w_c15 : (Jvm.Cond.code ({ cls := "java/lang/StringUTF16", name := "compress", desc := "([CI[BII)I" } : Jvm.MethodName) jdk_52_method_21_code (7 : Nat) (Option.some Jvm.ClassFile.FieldType.int)).before args0 about1 = true := code_word (m := ⟨13, 3⟩) (meth := k13m3) (c := k13c3) (by decide +kernel) rfl rfl rfl (by decide +kernel)
set_option maxRecDepth 65536 in
theorem w_c16 : (Jvm.Cond.code ({ cls := "java/lang/StringUTF16", name := "coderFromArrayLen", desc := "([BI)B" } : Jvm.MethodName) jdk_52_method_15_code (2 : Nat) (Option.some Jvm.ClassFile.FieldType.byte)).before args0 about1 = true := code_word (m := ⟨13, 1⟩) (meth := k13m1) (c := k13c1) (by decide +kernel) rfl rfl rfl (by decide +kernel)
set_option maxRecDepth 65536 in
theorem w_c17 : (Jvm.Cond.code ({ cls := "java/lang/StringLatin1", name := "equals", desc := "([B[B)Z" } : Jvm.MethodName) jdk_43_method_13_code (3 : Nat) (Option.some Jvm.ClassFile.FieldType.boolean)).before args0 about1 = true := code_word (m := ⟨8, 2⟩) (meth := k8m2) (c := k8c2) (by decide +kernel) rfl rfl rfl (by decide +kernel)
def codes1 : List Jvm.Cond := [Jvm.Cond.code x code maxLocals ret, Jvm.Cond.code ({ cls := "com/example/key3/key3/cql/TokenIsSymbolPinLaw", name := "make", desc := "(ICC)Ljava/lang/String;" } : Jvm.MethodName) method_3_code (4 : Nat) (Option.some (Jvm.ClassFile.FieldType.object "java/lang/String")), Jvm.Cond.code ({ cls := "java/lang/String", name := "valueOf", desc := "(C)Ljava/lang/String;" } : Jvm.MethodName) jdk_42_method_139_code (1 : Nat) (Option.some (Jvm.ClassFile.FieldType.object "java/lang/String")), Jvm.Cond.code ({ cls := "java/lang/StringLatin1", name := "canEncode", desc := "(C)Z" } : Jvm.MethodName) jdk_43_method_3_code (1 : Nat) (Option.some Jvm.ClassFile.FieldType.boolean), Jvm.Cond.code ({ cls := "java/lang/StringLatin1", name := "toBytes", desc := "(C)[B" } : Jvm.MethodName) jdk_43_method_46_code (1 : Nat) (Option.some (Jvm.ClassFile.FieldType.array Jvm.ClassFile.FieldType.byte)), Jvm.Cond.code ({ cls := "java/lang/String", name := "<init>", desc := "([BB)V" } : Jvm.MethodName) jdk_42_method_151_code (3 : Nat) (Option.none : Option Jvm.ClassFile.FieldType), Jvm.Cond.code ({ cls := "java/lang/Object", name := "<init>", desc := "()V" } : Jvm.MethodName) object_method_1_code (1 : Nat) (Option.none : Option Jvm.ClassFile.FieldType), Jvm.Cond.code ({ cls := "java/lang/String", name := "<init>", desc := "([C)V" } : Jvm.MethodName) jdk_42_method_3_code (2 : Nat) (Option.none : Option Jvm.ClassFile.FieldType), Jvm.Cond.code ({ cls := "java/lang/String", name := "<init>", desc := "([CIILjava/lang/Void;)V" } : Jvm.MethodName) jdk_42_method_149_code (6 : Nat) (Option.none : Option Jvm.ClassFile.FieldType), Jvm.Cond.code ({ cls := "com/example/key3/key3/cql/TokenIsSymbolPinLaw", name := "typeOf", desc := "(I)Lcom/example/key3/key3/cql/Token$Type;" } : Jvm.MethodName) method_2_code (1 : Nat) (Option.some (Jvm.ClassFile.FieldType.object "com/example/key3/key3/cql/Token$Type")), Jvm.Cond.code ({ cls := "com/example/key3/key3/cql/Token", name := "<init>", desc := "(Lcom/example/key3/key3/cql/Token$Type;Ljava/lang/String;II)V" } : Jvm.MethodName) prog_65_method_1_code (5 : Nat) (Option.none : Option Jvm.ClassFile.FieldType), Jvm.Cond.code ({ cls := "java/lang/Record", name := "<init>", desc := "()V" } : Jvm.MethodName) jdk_30_method_1_code (1 : Nat) (Option.none : Option Jvm.ClassFile.FieldType), Jvm.Cond.code ({ cls := "com/example/key3/key3/cql/Token", name := "isSymbol", desc := "(Ljava/lang/String;)Z" } : Jvm.MethodName) prog_65_method_3_code (2 : Nat) (Option.some Jvm.ClassFile.FieldType.boolean), Jvm.Cond.code ({ cls := "java/lang/String", name := "equals", desc := "(Ljava/lang/Object;)Z" } : Jvm.MethodName) jdk_42_method_66_code (3 : Nat) (Option.some Jvm.ClassFile.FieldType.boolean), Jvm.Cond.code ({ cls := "java/lang/StringUTF16", name := "compress", desc := "([CII)[B" } : Jvm.MethodName) jdk_52_method_16_code (6 : Nat) (Option.some (Jvm.ClassFile.FieldType.array Jvm.ClassFile.FieldType.byte)), Jvm.Cond.code ({ cls := "java/lang/StringUTF16", name := "compress", desc := "([CI[BII)I" } : Jvm.MethodName) jdk_52_method_21_code (7 : Nat) (Option.some Jvm.ClassFile.FieldType.int), Jvm.Cond.code ({ cls := "java/lang/StringUTF16", name := "coderFromArrayLen", desc := "([BI)B" } : Jvm.MethodName) jdk_52_method_15_code (2 : Nat) (Option.some Jvm.ClassFile.FieldType.byte), Jvm.Cond.code ({ cls := "java/lang/StringLatin1", name := "equals", desc := "([B[B)Z" } : Jvm.MethodName) jdk_43_method_13_code (3 : Nat) (Option.some Jvm.ClassFile.FieldType.boolean)]
set_option maxRecDepth 65536 in
theorem codes_eq : words1.filter isCode = codes1 := rfl
theorem w_codes : ∀ c ∈ words1.filter isCode, c.before args0 about1 = true := by
  rw [codes_eq]
  intro c hc
  simp only [codes1, List.mem_cons, List.not_mem_nil, or_false] at hc
  rcases hc with rfl | rfl | rfl | rfl | rfl | rfl | rfl | rfl | rfl | rfl | rfl | rfl | rfl | rfl | rfl | rfl | rfl | rfl
  · exact w_c0
  · exact w_c1
  · exact w_c2
  · exact w_c3
  · exact w_c4
  · exact w_c5
  · exact w_c6
  · exact w_c7
  · exact w_c8
  · exact w_c9
  · exact w_c10
  · exact w_c11
  · exact w_c12
  · exact w_c13
  · exact w_c14
  · exact w_c15
  · exact w_c16
  · exact w_c17
set_option maxRecDepth 65536 in
theorem w_t1 : (words1.take 24).all (fun c => isCode c || c.before args0 about1) = true := by decide +kernel
set_option maxRecDepth 65536 in
theorem w_t2 : ((words1.drop 24).take 24).all (fun c => isCode c || c.before args0 about1) = true := by decide +kernel
set_option maxRecDepth 65536 in
theorem w_t3 : (((words1.drop 24).drop 24).take 24).all (fun c => isCode c || c.before args0 about1) = true := by decide +kernel
set_option maxRecDepth 65536 in
theorem w_t4 : ((((words1.drop 24).drop 24).drop 24).take 24).all (fun c => isCode c || c.before args0 about1) = true := by decide +kernel
set_option maxRecDepth 65536 in
theorem w_t5 : ((((words1.drop 24).drop 24).drop 24).drop 24).all (fun c => isCode c || c.before args0 about1) = true := by decide +kernel
theorem w_tables : (allAtoms (Jvm.Cond.code x code maxLocals ret :: tables_1)).before args0 about1 = true := by
  rw [allAtoms_all]
  show words1.all (fun c => c.before args0 about1) = true
  refine all_split ?_ w_codes
  rw [← List.take_append_drop 24 words1, List.all_append, w_t1, ← List.take_append_drop 24 (words1.drop 24), List.all_append, w_t2, ← List.take_append_drop 24 ((words1.drop 24).drop 24), List.all_append, w_t3, ← List.take_append_drop 24 (((words1.drop 24).drop 24).drop 24), List.all_append, w_t4, w_t5]
  rfl
set_option maxRecDepth 65536 in
theorem w_rest : rest_1_c.before args0 about1 = true := by decide +kernel
set_option maxRecDepth 65536 in
theorem w_case : (Jvm.Cond.and given_1 narrow_1).before args0 about1 = true := by decide +kernel
set_option maxRecDepth 65536 in
theorem w_consts : constsHeld consts_1 about1 := Jvm.Lit.constsHeldB_iff.mp (by decide +kernel)
theorem w_applies : (headSpec (Jvm.Cond.code x code maxLocals ret :: tables_1) room_1).applies x e0.platform about1 = true :=
  (Spec.applies_iff w_frames).mpr ⟨w_running, w_runnable, w_alone, w_named, w_hears, w_ripe, w_room, w_tables⟩
theorem atStart : AtStart classFile x code maxLocals ret World_1 tables_1 room_1 Calls_1 rest_1 Pre_1 launch0 p0 e0 about1 theMethod args0 below0 :=
  ⟨lists_1, trivial, launch0.admits_env _ _ _, launch0.least_env, fairChoices_fair.cas, fairChoices_fair.clock, w_frames, w_args, w_heap, w_applies, ⟨w_consts, trivial⟩, w_rest, w_case⟩
end start1
theorem witness_1 : WitnessClaimed_1 := ⟨start1.p0, start1.e0, start1.about1, start1.theMethod, start1.args0, start1.below0, start1.atStart⟩
end Jvm.Pilot.@@N@@
