import JvmDerived
import JvmDerived.Pilot.@@N@@Statement
import JvmDerived.Pilot.@@N@@Code
set_option linter.unusedVariables false
set_option linter.unusedSimpArgs false
namespace Jvm.Pilot.@@N@@
open Jvm Jvm.ClassFile Sem Op Lib Jvm.Free Jvm.Stand Jvm.LawKit Jvm.RoadKit Bundle Jvm.Pilot.@@N@@.Jvm.D
section OwnSteps
variable {tb : Tables} [Ours tb] {e : Env} {below : List Frame} {T target : State} {m : MethodId} {c : Code} {g : JFrame} {rest : List Value}
theorem Own.iadd (h : At T m c below) (hx : tb.exec = Jvm.exec) (hg : g.method = m) {x : Int32} {y : Int32} {z : Int32} (hd : decode c.code g.pc = .ok (.iadd, 1)) (hs : g.stack = .int y :: .int x :: rest) (hz : (x + y) = z)
    (hr : Steps tb e below (T.setTop { g with pc := g.pc + 1, stack := .int z :: rest }) target) : Steps tb e below (T.setTop g) target := XS.iadd h hx hg hd hs (by rw [show (x + y) = z from hz]; exact hr)
theorem Own.isub (h : At T m c below) (hx : tb.exec = Jvm.exec) (hg : g.method = m) {x : Int32} {y : Int32} {z : Int32} (hd : decode c.code g.pc = .ok (.isub, 1)) (hs : g.stack = .int y :: .int x :: rest) (hz : (x - y) = z)
    (hr : Steps tb e below (T.setTop { g with pc := g.pc + 1, stack := .int z :: rest }) target) : Steps tb e below (T.setTop g) target := XS.isub h hx hg hd hs (by rw [show (x - y) = z from hz]; exact hr)
theorem Own.imul (h : At T m c below) (hx : tb.exec = Jvm.exec) (hg : g.method = m) {x : Int32} {y : Int32} {z : Int32} (hd : decode c.code g.pc = .ok (.imul, 1)) (hs : g.stack = .int y :: .int x :: rest) (hz : (x * y) = z)
    (hr : Steps tb e below (T.setTop { g with pc := g.pc + 1, stack := .int z :: rest }) target) : Steps tb e below (T.setTop g) target := XS.imul h hx hg hd hs (by rw [show (x * y) = z from hz]; exact hr)
theorem Own.iand (h : At T m c below) (hx : tb.exec = Jvm.exec) (hg : g.method = m) {x : Int32} {y : Int32} {z : Int32} (hd : decode c.code g.pc = .ok (.iand, 1)) (hs : g.stack = .int y :: .int x :: rest) (hz : (x &&& y) = z)
    (hr : Steps tb e below (T.setTop { g with pc := g.pc + 1, stack := .int z :: rest }) target) : Steps tb e below (T.setTop g) target := XS.iand h hx hg hd hs (by rw [show (x &&& y) = z from hz]; exact hr)
theorem Own.ior (h : At T m c below) (hx : tb.exec = Jvm.exec) (hg : g.method = m) {x : Int32} {y : Int32} {z : Int32} (hd : decode c.code g.pc = .ok (.ior, 1)) (hs : g.stack = .int y :: .int x :: rest) (hz : (x ||| y) = z)
    (hr : Steps tb e below (T.setTop { g with pc := g.pc + 1, stack := .int z :: rest }) target) : Steps tb e below (T.setTop g) target := XS.ior h hx hg hd hs (by rw [show (x ||| y) = z from hz]; exact hr)
theorem Own.ixor (h : At T m c below) (hx : tb.exec = Jvm.exec) (hg : g.method = m) {x : Int32} {y : Int32} {z : Int32} (hd : decode c.code g.pc = .ok (.ixor, 1)) (hs : g.stack = .int y :: .int x :: rest) (hz : (x ^^^ y) = z)
    (hr : Steps tb e below (T.setTop { g with pc := g.pc + 1, stack := .int z :: rest }) target) : Steps tb e below (T.setTop g) target := XS.ixor h hx hg hd hs (by rw [show (x ^^^ y) = z from hz]; exact hr)
theorem Own.ishl (h : At T m c below) (hx : tb.exec = Jvm.exec) (hg : g.method = m) {x : Int32} {y : Int32} {z : Int32} (hd : decode c.code g.pc = .ok (.ishl, 1)) (hs : g.stack = .int y :: .int x :: rest) (hz : (x <<< (y &&& 31)) = z)
    (hr : Steps tb e below (T.setTop { g with pc := g.pc + 1, stack := .int z :: rest }) target) : Steps tb e below (T.setTop g) target := XS.ishl h hx hg hd hs (by rw [show (x <<< (y &&& 31)) = z from hz]; exact hr)
theorem Own.ishr (h : At T m c below) (hx : tb.exec = Jvm.exec) (hg : g.method = m) {x : Int32} {y : Int32} {z : Int32} (hd : decode c.code g.pc = .ok (.ishr, 1)) (hs : g.stack = .int y :: .int x :: rest) (hz : (x >>> (y &&& 31)) = z)
    (hr : Steps tb e below (T.setTop { g with pc := g.pc + 1, stack := .int z :: rest }) target) : Steps tb e below (T.setTop g) target := XS.ishr h hx hg hd hs (by rw [show (x >>> (y &&& 31)) = z from hz]; exact hr)
theorem Own.iushr (h : At T m c below) (hx : tb.exec = Jvm.exec) (hg : g.method = m) {x : Int32} {y : Int32} {z : Int32} (hd : decode c.code g.pc = .ok (.iushr, 1)) (hs : g.stack = .int y :: .int x :: rest) (hz : ((x.toUInt32 >>> (y &&& 31).toUInt32).toInt32) = z)
    (hr : Steps tb e below (T.setTop { g with pc := g.pc + 1, stack := .int z :: rest }) target) : Steps tb e below (T.setTop g) target := XS.iushr h hx hg hd hs (by rw [show ((x.toUInt32 >>> (y &&& 31).toUInt32).toInt32) = z from hz]; exact hr)
theorem Own.ladd (h : At T m c below) (hx : tb.exec = Jvm.exec) (hg : g.method = m) {x : Int64} {y : Int64} {z : Int64} (hd : decode c.code g.pc = .ok (.ladd, 1)) (hs : g.stack = .long y :: .long x :: rest) (hz : (x + y) = z)
    (hr : Steps tb e below (T.setTop { g with pc := g.pc + 1, stack := .long z :: rest }) target) : Steps tb e below (T.setTop g) target := XS.ladd h hx hg hd hs (by rw [show (x + y) = z from hz]; exact hr)
theorem Own.lsub (h : At T m c below) (hx : tb.exec = Jvm.exec) (hg : g.method = m) {x : Int64} {y : Int64} {z : Int64} (hd : decode c.code g.pc = .ok (.lsub, 1)) (hs : g.stack = .long y :: .long x :: rest) (hz : (x - y) = z)
    (hr : Steps tb e below (T.setTop { g with pc := g.pc + 1, stack := .long z :: rest }) target) : Steps tb e below (T.setTop g) target := XS.lsub h hx hg hd hs (by rw [show (x - y) = z from hz]; exact hr)
theorem Own.lmul (h : At T m c below) (hx : tb.exec = Jvm.exec) (hg : g.method = m) {x : Int64} {y : Int64} {z : Int64} (hd : decode c.code g.pc = .ok (.lmul, 1)) (hs : g.stack = .long y :: .long x :: rest) (hz : (x * y) = z)
    (hr : Steps tb e below (T.setTop { g with pc := g.pc + 1, stack := .long z :: rest }) target) : Steps tb e below (T.setTop g) target := XS.lmul h hx hg hd hs (by rw [show (x * y) = z from hz]; exact hr)
theorem Own.land (h : At T m c below) (hx : tb.exec = Jvm.exec) (hg : g.method = m) {x : Int64} {y : Int64} {z : Int64} (hd : decode c.code g.pc = .ok (.land, 1)) (hs : g.stack = .long y :: .long x :: rest) (hz : (x &&& y) = z)
    (hr : Steps tb e below (T.setTop { g with pc := g.pc + 1, stack := .long z :: rest }) target) : Steps tb e below (T.setTop g) target := XS.land h hx hg hd hs (by rw [show (x &&& y) = z from hz]; exact hr)
theorem Own.lor (h : At T m c below) (hx : tb.exec = Jvm.exec) (hg : g.method = m) {x : Int64} {y : Int64} {z : Int64} (hd : decode c.code g.pc = .ok (.lor, 1)) (hs : g.stack = .long y :: .long x :: rest) (hz : (x ||| y) = z)
    (hr : Steps tb e below (T.setTop { g with pc := g.pc + 1, stack := .long z :: rest }) target) : Steps tb e below (T.setTop g) target := XS.lor h hx hg hd hs (by rw [show (x ||| y) = z from hz]; exact hr)
theorem Own.lxor (h : At T m c below) (hx : tb.exec = Jvm.exec) (hg : g.method = m) {x : Int64} {y : Int64} {z : Int64} (hd : decode c.code g.pc = .ok (.lxor, 1)) (hs : g.stack = .long y :: .long x :: rest) (hz : (x ^^^ y) = z)
    (hr : Steps tb e below (T.setTop { g with pc := g.pc + 1, stack := .long z :: rest }) target) : Steps tb e below (T.setTop g) target := XS.lxor h hx hg hd hs (by rw [show (x ^^^ y) = z from hz]; exact hr)
theorem Own.lshl (h : At T m c below) (hx : tb.exec = Jvm.exec) (hg : g.method = m) {x : Int64} {y : Int32} {z : Int64} (hd : decode c.code g.pc = .ok (.lshl, 1)) (hs : g.stack = .int y :: .long x :: rest) (hz : (x <<< (y &&& 63).toInt64) = z)
    (hr : Steps tb e below (T.setTop { g with pc := g.pc + 1, stack := .long z :: rest }) target) : Steps tb e below (T.setTop g) target := XS.lshl h hx hg hd hs (by rw [show (x <<< (y &&& 63).toInt64) = z from hz]; exact hr)
theorem Own.lshr (h : At T m c below) (hx : tb.exec = Jvm.exec) (hg : g.method = m) {x : Int64} {y : Int32} {z : Int64} (hd : decode c.code g.pc = .ok (.lshr, 1)) (hs : g.stack = .int y :: .long x :: rest) (hz : (x >>> (y &&& 63).toInt64) = z)
    (hr : Steps tb e below (T.setTop { g with pc := g.pc + 1, stack := .long z :: rest }) target) : Steps tb e below (T.setTop g) target := XS.lshr h hx hg hd hs (by rw [show (x >>> (y &&& 63).toInt64) = z from hz]; exact hr)
theorem Own.lushr (h : At T m c below) (hx : tb.exec = Jvm.exec) (hg : g.method = m) {x : Int64} {y : Int32} {z : Int64} (hd : decode c.code g.pc = .ok (.lushr, 1)) (hs : g.stack = .int y :: .long x :: rest) (hz : ((x.toUInt64 >>> (y &&& 63).toInt64.toUInt64).toInt64) = z)
    (hr : Steps tb e below (T.setTop { g with pc := g.pc + 1, stack := .long z :: rest }) target) : Steps tb e below (T.setTop g) target := XS.lushr h hx hg hd hs (by rw [show ((x.toUInt64 >>> (y &&& 63).toInt64.toUInt64).toInt64) = z from hz]; exact hr)
theorem Own.lcmp (h : At T m c below) (hx : tb.exec = Jvm.exec) (hg : g.method = m) {x : Int64} {y : Int64} {z : Int32} (hd : decode c.code g.pc = .ok (.lcmp, 1)) (hs : g.stack = .long y :: .long x :: rest) (hz : lcmpW x y = z)
    (hr : Steps tb e below (T.setTop { g with pc := g.pc + 1, stack := .int z :: rest }) target) : Steps tb e below (T.setTop g) target := XS.lcmp h hx hg hd hs (by rw [show (if x > y then (1 : Int32) else if x = y then 0 else -1) = z from hz]; exact hr)
theorem Own.ineg (h : At T m c below) (hx : tb.exec = Jvm.exec) (hg : g.method = m) {x : Int32} {z : Int32} (hd : decode c.code g.pc = .ok (.ineg, 1)) (hs : g.stack = .int x :: rest) (hz : (-x) = z)
    (hr : Steps tb e below (T.setTop { g with pc := g.pc + 1, stack := .int z :: rest }) target) : Steps tb e below (T.setTop g) target := XS.ineg h hx hg hd hs (by rw [show (-x) = z from hz]; exact hr)
theorem Own.i2l (h : At T m c below) (hx : tb.exec = Jvm.exec) (hg : g.method = m) {x : Int32} {z : Int64} (hd : decode c.code g.pc = .ok (.i2l, 1)) (hs : g.stack = .int x :: rest) (hz : (x.toInt64) = z)
    (hr : Steps tb e below (T.setTop { g with pc := g.pc + 1, stack := .long z :: rest }) target) : Steps tb e below (T.setTop g) target := XS.i2l h hx hg hd hs (by rw [show (x.toInt64) = z from hz]; exact hr)
theorem Own.i2b (h : At T m c below) (hx : tb.exec = Jvm.exec) (hg : g.method = m) {x : Int32} {z : Int32} (hd : decode c.code g.pc = .ok (.i2b, 1)) (hs : g.stack = .int x :: rest) (hz : (x.toInt8.toInt32) = z)
    (hr : Steps tb e below (T.setTop { g with pc := g.pc + 1, stack := .int z :: rest }) target) : Steps tb e below (T.setTop g) target := XS.i2b h hx hg hd hs (by rw [show (x.toInt8.toInt32) = z from hz]; exact hr)
theorem Own.i2c (h : At T m c below) (hx : tb.exec = Jvm.exec) (hg : g.method = m) {x : Int32} {z : Int32} (hd : decode c.code g.pc = .ok (.i2c, 1)) (hs : g.stack = .int x :: rest) (hz : (x.toUInt32.toUInt16.toUInt32.toInt32) = z)
    (hr : Steps tb e below (T.setTop { g with pc := g.pc + 1, stack := .int z :: rest }) target) : Steps tb e below (T.setTop g) target := XS.i2c h hx hg hd hs (by rw [show (x.toUInt32.toUInt16.toUInt32.toInt32) = z from hz]; exact hr)
theorem Own.i2s (h : At T m c below) (hx : tb.exec = Jvm.exec) (hg : g.method = m) {x : Int32} {z : Int32} (hd : decode c.code g.pc = .ok (.i2s, 1)) (hs : g.stack = .int x :: rest) (hz : (x.toInt16.toInt32) = z)
    (hr : Steps tb e below (T.setTop { g with pc := g.pc + 1, stack := .int z :: rest }) target) : Steps tb e below (T.setTop g) target := XS.i2s h hx hg hd hs (by rw [show (x.toInt16.toInt32) = z from hz]; exact hr)
theorem Own.lneg (h : At T m c below) (hx : tb.exec = Jvm.exec) (hg : g.method = m) {x : Int64} {z : Int64} (hd : decode c.code g.pc = .ok (.lneg, 1)) (hs : g.stack = .long x :: rest) (hz : (-x) = z)
    (hr : Steps tb e below (T.setTop { g with pc := g.pc + 1, stack := .long z :: rest }) target) : Steps tb e below (T.setTop g) target := XS.lneg h hx hg hd hs (by rw [show (-x) = z from hz]; exact hr)
theorem Own.l2i (h : At T m c below) (hx : tb.exec = Jvm.exec) (hg : g.method = m) {x : Int64} {z : Int32} (hd : decode c.code g.pc = .ok (.l2i, 1)) (hs : g.stack = .long x :: rest) (hz : (x.toInt32) = z)
    (hr : Steps tb e below (T.setTop { g with pc := g.pc + 1, stack := .int z :: rest }) target) : Steps tb e below (T.setTop g) target := XS.l2i h hx hg hd hs (by rw [show (x.toInt32) = z from hz]; exact hr)
theorem Own.idiv (h : At T m c below) (hx : tb.exec = Jvm.exec) (hg : g.method = m) {x y z : Int32} (hd : decode c.code g.pc = .ok (.idiv, 1)) (hs : g.stack = .int y :: .int x :: rest) (hy : y ≠ 0) (hz : x / y = z)
    (hr : Steps tb e below (T.setTop { g with pc := g.pc + 1, stack := .int z :: rest }) target) : Steps tb e below (T.setTop g) target := XS.idiv h hx hg hd hs hy (by rw [hz]; exact hr)
theorem Own.iinc (h : At T m c below) (hx : tb.exec = Jvm.exec) (hg : g.method = m) {k : Nat} {cst : Int} {x z : Int32} {l' : Array Slot} (hd : decode c.code g.pc = .ok (.iinc k cst, 3)) (hl : g.locals[k]? = some (.val (.int x))) (hz : x + Int32.ofInt cst = z) (hl' : storeLocals g.locals k (.int z) = some l')
    (hr : Steps tb e below (T.setTop { g with pc := g.pc + 3, locals := l' }) target) : Steps tb e below (T.setTop g) target := XS.iinc h hx hg hd hl (by rw [hz]; exact hl') hr
theorem Own.iload (h : At T m c below) (hx : tb.exec = Jvm.exec) (hg : g.method = m) {k : Nat} {v z : Int32} (hd : decode c.code g.pc = .ok (.iload k, 2)) (hl : g.locals[k]? = some (.val (.int v))) (hz : v = z)
    (hr : Steps tb e below (T.setTop { g with pc := g.pc + 2, stack := .int z :: g.stack }) target) : Steps tb e below (T.setTop g) target := XS.iload h hx hg hd hl (by rw [hz]; exact hr)
theorem Own.iloadN (h : At T m c below) (hx : tb.exec = Jvm.exec) (hg : g.method = m) {k : Fin 4} {v z : Int32} (hd : decode c.code g.pc = .ok (.iload_n k, 1)) (hl : g.locals[k.val]? = some (.val (.int v))) (hz : v = z)
    (hr : Steps tb e below (T.setTop { g with pc := g.pc + 1, stack := .int z :: g.stack }) target) : Steps tb e below (T.setTop g) target := XS.iloadN h hx hg hd hl (by rw [hz]; exact hr)
end OwnSteps
theorem own_irem {p : Program} {l : Launch} {e : Env} {R : Room} {s : State} {m : MethodId} {args : Array Value} {below : List Frame} {meth : Method} {c : Code} {T : State} {locs : List Loc} {cells slots : Nat} {g : JFrame} {target : State} (X : Stand p l e R s m args below meth c T locs cells slots) (hx : p.tables.exec = Jvm.exec) (hg : g.method = m) {x y z : Int32} {rest : List Value} (hd : decode c.code g.pc = .ok (.irem, 1)) (hs : g.stack = .int y :: .int x :: rest) (hy : y ≠ 0) (hz : x % y = z)
    (hr : Steps p.tables e below (T.setTop { g with pc := g.pc + 1, stack := .int z :: rest }) target) : Steps p.tables e below (T.setTop g) target := iremM X hx hg hd hs hy (by rw [hz]; exact hr)
section OwnCalls
variable {p : Program} {l : Launch} {e : Env} {R : Room} {s : State} {m : MethodId} {args : Array Value} {below : List Frame} {meth : Method} {c : Code} {T : State} {locs : List Loc} {cells slots : Nat} {Z : State} {a0 : Array Value} {h : Heap}
theorem own_callS (X : Stand p l e R s m args below meth c T locs cells slots) (hx : p.tables.exec = Jvm.exec) (hZ : Z.Warmed39 s.vm) {own : String} {index W maxL : Nat} {y : MethodName} {bytes : ByteArray} {ret : Option FieldType} {rm : Room} {as' : Array Value} {Q : Option Value → Heap → List Loc → Prop}
    (hown : s.vm.findClass own = some m.cls) (w1 : (Jvm.Cond.methodLink own index y).before a0 Z = true) (w2 : (Jvm.Cond.static y).before a0 Z = true) (w3 : (Jvm.Cond.initialized y.cls).before a0 Z = true) (w4 : (Jvm.Cond.code y bytes maxL ret).before a0 Z = true) (hy : y.cls ≠ "java/lang/invoke/MethodHandle" ∧ y.cls ≠ "java/lang/invoke/VarHandle")
    (hM : MetFree l y (head1 [Jvm.Cond.code y bytes maxL ret] rm) (fun a U => a = as' ∧ Z.Warmed39 U.vm ∧ U.heap = h) (fun _ _ _ _ _ => True) (fun _ U o U' => ∃ v L, o = .returned v ∧ Q v U'.heap L ∧ FrameEnd U o U' L rm.cells rm.slots)) (eT : T.heap = h)
    {g : JFrame} (hg : g.method = m) (hsize : g.locals.size = c.maxLocals) {argsL rest : List Value} (hlen : ∀ sig, parseMethodDescriptor y.desc = some sig → argsL.length = sig.parameters.length) (hstack : g.stack = argsL.reverse ++ rest) (has : argsL.toArray = as') (hW : 2 * g.monitorRoom + (rest.map fun v => v.category).sum ≤ W)
    (hdg : decode c.code g.pc = .ok (.invokestatic index, 3)) (hf : rm.frames + 1 ≤ R.frames) (hl : W + (maxL + 11) + rm.locals ≤ R.locals) (hc : cells + rm.cells ≤ R.cells) (hs : slots + rm.slots ≤ R.slots) :
    ∃ (v : Option Value) (T' : State) (L : List Loc), Q v T'.heap L ∧ Stand p l e R s m args below meth c T' (locs ++ L) (cells + rm.cells) (slots + rm.slots) ∧ ∀ target, Steps p.tables e below (T'.setTop { g with pc := g.pc + 3, stack := v.toList ++ rest }) target → Steps p.tables e below (T.setTop g) target := by
  obtain ⟨v, _, ⟨T', L', c', s'⟩, -, X', ⟨L, hq, e1, e2, e3⟩, st⟩ := Jvm.LawKit.callS X hx hown (mvT hZ w1) (mvT hZ w2) (mvT hZ w3) (mvT hZ w4) hy (backOf (W := W) hM hZ w4 w3 hf hl) hg hsize hlen hstack hW hdg (fun _ _ => ⟨has, eT, hc, hs⟩)
  subst e1 e2 e3
  exact ⟨v, T', L, hq, X', st⟩
theorem own_special (X : Stand p l e R s m args below meth c T locs cells slots) (hx : p.tables.exec = Jvm.exec) (hZ : Z.Warmed39 s.vm) {own : String} {index W maxL : Nat} {y : MethodName} {bytes : ByteArray} {rm : Room} {as' : Array Value} {Q : Option Value → Heap → List Loc → Prop} (hy1 : y.name = "<init>")
    (hown : s.vm.findClass own = some m.cls) (w1 : (Jvm.Cond.methodLink own index y).before a0 Z = true) (w2 : (Jvm.Cond.instanceMethod y).before a0 Z = true) (w3 : (Jvm.Cond.initialized y.cls).before a0 Z = true) (w4 : (Jvm.Cond.code y bytes maxL none).before a0 Z = true) (hy : y.cls ≠ "java/lang/invoke/MethodHandle" ∧ y.cls ≠ "java/lang/invoke/VarHandle")
    (hM : MetFree l y (head1 [Jvm.Cond.code y bytes maxL none] rm) (fun a U => a = as' ∧ Z.Warmed39 U.vm ∧ U.heap = h) (fun _ _ _ _ _ => True) (fun _ U o U' => ∃ v L, o = .returned v ∧ Q v U'.heap L ∧ FrameEnd U o U' L rm.cells rm.slots)) (eT : T.heap = h)
    {g : JFrame} (hg : g.method = m) (hsize : g.locals.size = c.maxLocals) {a : Addr} {argsL rest : List Value} (hlen : ∀ sig, parseMethodDescriptor y.desc = some sig → argsL.length = sig.parameters.length) (hstack : g.stack = argsL.reverse ++ .ref a :: rest) (has : (.ref a :: argsL).toArray = as') (hW : 2 * g.monitorRoom + (rest.map fun v => v.category).sum ≤ W)
    (hdg : decode c.code g.pc = .ok (.invokespecial index, 3)) (hf : rm.frames + 1 ≤ R.frames) (hl : W + (maxL + 11) + rm.locals ≤ R.locals) (hc : cells + rm.cells ≤ R.cells) (hs : slots + rm.slots ≤ R.slots) :
    ∃ (v : Option Value) (T' : State) (L : List Loc), Q v T'.heap L ∧ Stand p l e R s m args below meth c T' (locs ++ L) (cells + rm.cells) (slots + rm.slots) ∧ ∀ target, Steps p.tables e below (T'.setTop { g with pc := g.pc + 3, stack := v.toList ++ rest }) target → Steps p.tables e below (T.setTop g) target := by
  obtain ⟨v, _, ⟨T', L', c', s'⟩, -, X', ⟨L, hq, e1, e2, e3⟩, st⟩ := X.specialBack hx hy1 hown (mvT hZ w1) (mvT hZ w2) (mvT hZ w4) hy (backOf (W := W) hM hZ w4 w3 hf hl) hg hsize (Steps.refl _) hlen hstack hW hdg (fun _ _ => ⟨has, eT, hc, hs⟩)
  subst e1 e2 e3
  exact ⟨v, T', L, hq, X', fun _ k => st.trans k⟩
theorem own_virtual (X : Stand p l e R s m args below meth c T locs cells slots) (hx : p.tables.exec = Jvm.exec) (hZ : Z.Warmed39 s.vm) {own C : String} {index W maxL : Nat} {y z : MethodName} {bytes : ByteArray} {ret : Option FieldType} {rm : Room} {as' : Array Value} {Q : Option Value → Heap → List Loc → Prop}
    (hown : s.vm.findClass own = some m.cls) (w1 : (Jvm.Cond.methodLink own index y).before a0 Z = true) (w2 : (Jvm.Cond.declares y).before a0 Z = true) (nf : NotFace s y) (w5 : (Jvm.Cond.selects C y z).before a0 Z = true) (w6 : (Jvm.Cond.instanceMethod z).before a0 Z = true) (w3 : (Jvm.Cond.initialized z.cls).before a0 Z = true) (w4 : (Jvm.Cond.code z bytes maxL ret).before a0 Z = true) (hy : y.cls ≠ "java/lang/invoke/MethodHandle" ∧ y.cls ≠ "java/lang/invoke/VarHandle")
    (hM : MetFree l z (head1 [Jvm.Cond.code z bytes maxL ret] rm) (fun a U => a = as' ∧ Z.Warmed39 U.vm ∧ U.heap = h) (fun _ _ _ _ _ => True) (fun _ U o U' => ∃ v L, o = .returned v ∧ Q v U'.heap L ∧ FrameEnd U o U' L rm.cells rm.slots)) (eT : T.heap = h) {b : Addr} (E : Exa Z h b C)
    {g : JFrame} (hg : g.method = m) (hsize : g.locals.size = c.maxLocals) {argsL rest : List Value} (hlen : ∀ sig, parseMethodDescriptor y.desc = some sig → argsL.length = sig.parameters.length) (hstack : g.stack = argsL.reverse ++ .ref b :: rest) (has : (.ref b :: argsL).toArray = as') (hW : 2 * g.monitorRoom + (rest.map fun v => v.category).sum ≤ W)
    (hdg : decode c.code g.pc = .ok (.invokevirtual index, 3)) (hf : rm.frames + 1 ≤ R.frames) (hl : W + (maxL + 11) + rm.locals ≤ R.locals) (hc : cells + rm.cells ≤ R.cells) (hs : slots + rm.slots ≤ R.slots) :
    ∃ (v : Option Value) (T' : State) (L : List Loc), Q v T'.heap L ∧ Stand p l e R s m args below meth c T' (locs ++ L) (cells + rm.cells) (slots + rm.slots) ∧ ∀ target, Steps p.tables e below (T'.setTop { g with pc := g.pc + 3, stack := v.toList ++ rest }) target → Steps p.tables e below (T.setTop g) target := by
  obtain ⟨cB, kB, qa, qb, qc⟩ := isOf hZ eT E
  obtain ⟨v, _, ⟨T', L', c', s'⟩, -, X', ⟨L, hq, e1, e2, e3⟩, st⟩ := X.virtualBack hx hown (mvT hZ w1) (mvT hZ w2) nf (mvT hZ w5) (mvT hZ w6) hy (backOf (W := W) hM hZ w4 w3 hf hl) qa qc hg hsize (Steps.refl _) hlen hstack hW hdg (fun _ _ => ⟨has, eT, hc, hs⟩)
  subst e1 e2 e3
  exact ⟨v, T', L, hq, X', fun _ k => st.trans k⟩
theorem own_virtualUp (X : Stand p l e R s m args below meth c T locs cells slots) (hx : p.tables.exec = Jvm.exec) (hZ : Z.Warmed39 s.vm) {own C owner : String} {index W maxL : Nat} {y z : MethodName} {bytes : ByteArray} {ret : Option FieldType} {rm : Room} {as' : Array Value} {Q : Option Value → Heap → List Loc → Prop}
    (hown : s.vm.findClass own = some m.cls) (w1 : (Jvm.Cond.methodLink own index y).before a0 Z = true) (w7 : (Jvm.Cond.sameMethod y.cls owner y.name y.desc).before a0 Z = true) (w2 : (Jvm.Cond.declares ⟨owner, y.name, y.desc⟩).before a0 Z = true) (hy : owner ≠ "java/lang/invoke/MethodHandle" ∧ owner ≠ "java/lang/invoke/VarHandle") (w5 : (Jvm.Cond.selects C y z).before a0 Z = true) (w6 : (Jvm.Cond.instanceMethod z).before a0 Z = true) (w3 : (Jvm.Cond.initialized z.cls).before a0 Z = true) (w4 : (Jvm.Cond.code z bytes maxL ret).before a0 Z = true)
    (hM : MetFree l z (head1 [Jvm.Cond.code z bytes maxL ret] rm) (fun a U => a = as' ∧ Z.Warmed39 U.vm ∧ U.heap = h) (fun _ _ _ _ _ => True) (fun _ U o U' => ∃ v L, o = .returned v ∧ Q v U'.heap L ∧ FrameEnd U o U' L rm.cells rm.slots)) (eT : T.heap = h) {b : Addr} (E : Exa Z h b C)
    {g : JFrame} (hg : g.method = m) (hsize : g.locals.size = c.maxLocals) {argsL rest : List Value} (hlen : ∀ sig, parseMethodDescriptor y.desc = some sig → argsL.length = sig.parameters.length) (hstack : g.stack = argsL.reverse ++ .ref b :: rest) (has : (.ref b :: argsL).toArray = as') (hW : 2 * g.monitorRoom + (rest.map fun v => v.category).sum ≤ W)
    (hdg : decode c.code g.pc = .ok (.invokevirtual index, 3)) (hf : rm.frames + 1 ≤ R.frames) (hl : W + (maxL + 11) + rm.locals ≤ R.locals) (hc : cells + rm.cells ≤ R.cells) (hs : slots + rm.slots ≤ R.slots) :
    ∃ (v : Option Value) (T' : State) (L : List Loc), Q v T'.heap L ∧ Stand p l e R s m args below meth c T' (locs ++ L) (cells + rm.cells) (slots + rm.slots) ∧ ∀ target, Steps p.tables e below (T'.setTop { g with pc := g.pc + 3, stack := v.toList ++ rest }) target → Steps p.tables e below (T.setTop g) target := by
  obtain ⟨cB, kB, qa, qb, qc⟩ := isOf hZ eT E
  obtain ⟨v, _, ⟨T', L', c', s'⟩, -, X', ⟨L, hq, e1, e2, e3⟩, st⟩ := X.virtualBackUp hx (owner := owner) hown (mvT hZ w1) (mvT hZ w7) (mvT hZ w2) hy (mvT hZ w5) (mvT hZ w6) (backOf (W := W) hM hZ w4 w3 hf hl) qa qc hg hsize (Steps.refl _) hlen hstack hW hdg (fun _ _ => ⟨has, eT, hc, hs⟩)
  subst e1 e2 e3
  exact ⟨v, T', L, hq, X', fun _ k => st.trans k⟩
theorem own_iface (X : Stand p l e R s m args below meth c T locs cells slots) (hx : p.tables.exec = Jvm.exec) (hZ : Z.Warmed39 s.vm) {own C : String} {index count W maxL : Nat} {y z : MethodName} {bytes : ByteArray} {ret : Option FieldType} {rm : Room} {as' : Array Value} {Q : Option Value → Heap → List Loc → Prop}
    (hown : s.vm.findClass own = some m.cls) (w1 : (Jvm.Cond.methodLink own index y).before a0 Z = true) (w2 : (Jvm.Cond.declares y).before a0 Z = true) (w7 : (Jvm.Cond.interfaceMethod y.cls y.cls y.name y.desc).before args s = true) (w5 : (Jvm.Cond.selects C y z).before a0 Z = true) (w6 : (Jvm.Cond.instanceMethod z).before a0 Z = true) (w8 : (Jvm.Cond.publicMethod z).before args s = true) (w9 : (Jvm.Cond.unhidden C y.name y.desc).before args s = true) (w10 : (Jvm.Cond.castable C y.cls).before a0 Z = true) (w3 : (Jvm.Cond.initialized z.cls).before a0 Z = true) (w4 : (Jvm.Cond.code z bytes maxL ret).before a0 Z = true) (hy : y.cls ≠ "java/lang/invoke/MethodHandle" ∧ y.cls ≠ "java/lang/invoke/VarHandle")
    (hM : MetFree l z (head1 [Jvm.Cond.code z bytes maxL ret] rm) (fun a U => a = as' ∧ Z.Warmed39 U.vm ∧ U.heap = h) (fun _ _ _ _ _ => True) (fun _ U o U' => ∃ v L, o = .returned v ∧ Q v U'.heap L ∧ FrameEnd U o U' L rm.cells rm.slots)) (eT : T.heap = h) {b : Addr} (E : Exa Z h b C)
    {g : JFrame} (hg : g.method = m) (hsize : g.locals.size = c.maxLocals) {argsL rest : List Value} (hlen : ∀ sig, parseMethodDescriptor y.desc = some sig → argsL.length = sig.parameters.length) (hstack : g.stack = argsL.reverse ++ .ref b :: rest) (has : (.ref b :: argsL).toArray = as') (hW : 2 * g.monitorRoom + (rest.map fun v => v.category).sum ≤ W)
    (hdg : decode c.code g.pc = .ok (.invokeinterface index count, 5)) (hf : rm.frames + 1 ≤ R.frames) (hl : W + (maxL + 11) + rm.locals ≤ R.locals) (hc : cells + rm.cells ≤ R.cells) (hs : slots + rm.slots ≤ R.slots) :
    ∃ (v : Option Value) (T' : State) (L : List Loc), Q v T'.heap L ∧ Stand p l e R s m args below meth c T' (locs ++ L) (cells + rm.cells) (slots + rm.slots) ∧ ∀ target, Steps p.tables e below (T'.setTop { g with pc := g.pc + 5, stack := v.toList ++ rest }) target → Steps p.tables e below (T.setTop g) target := by
  obtain ⟨cB, kB, qa, qb, qc⟩ := isOf hZ eT E
  obtain ⟨v, _, ⟨T', L', c', s'⟩, -, X', ⟨L, hq, e1, e2, e3⟩, st⟩ := X.interfaceBack hx hown (mvT hZ w1) (mvT hZ w2) w7 (mvT hZ w5) (mvT hZ w6) w8 w9 (mvT hZ w10) hy (backOf (W := W) hM hZ w4 w3 hf hl) qa qb qc hg hsize (Steps.refl _) hlen hstack hW hdg (fun _ _ => ⟨has, eT, hc, hs⟩)
  subst e1 e2 e3
  exact ⟨v, T', L, hq, X', fun _ k => st.trans k⟩
theorem own_private (X : Stand p l e R s m args below meth c T locs cells slots) (hx : p.tables.exec = Jvm.exec) (hZ : Z.Warmed39 s.vm) {own K : String} {index W maxL : Nat} {y : MethodName} {bytes : ByteArray} {ret : Option FieldType} {rm : Room} {as' : Array Value} {Q : Option Value → Heap → List Loc → Prop}
    (hown : s.vm.findClass own = some m.cls) (w1 : (Jvm.Cond.methodLink own index y).before a0 Z = true) (w2 : (Jvm.Cond.instanceMethod y).before a0 Z = true) (hsel : (Jvm.Cond.selects y.cls y y).before args s = true) (w6 : (Jvm.Cond.privateMethod y).before a0 Z = true) (w3 : (Jvm.Cond.initialized y.cls).before a0 Z = true) (w4 : (Jvm.Cond.code y bytes maxL ret).before a0 Z = true) (hy : y.cls ≠ "java/lang/invoke/MethodHandle" ∧ y.cls ≠ "java/lang/invoke/VarHandle")
    (hM : MetFree l y (head1 [Jvm.Cond.code y bytes maxL ret] rm) (fun a U => a = as' ∧ Z.Warmed39 U.vm ∧ U.heap = h) (fun _ _ _ _ _ => True) (fun _ U o U' => ∃ v L, o = .returned v ∧ Q v U'.heap L ∧ FrameEnd U o U' L rm.cells rm.slots)) (eT : T.heap = h) {b : Addr} (E : Exa Z h b K)
    {g : JFrame} (hg : g.method = m) (hsize : g.locals.size = c.maxLocals) {argsL rest : List Value} (hlen : ∀ sig, parseMethodDescriptor y.desc = some sig → argsL.length = sig.parameters.length) (hstack : g.stack = argsL.reverse ++ .ref b :: rest) (has : (.ref b :: argsL).toArray = as') (hW : 2 * g.monitorRoom + (rest.map fun v => v.category).sum ≤ W)
    (hdg : decode c.code g.pc = .ok (.invokevirtual index, 3)) (hf : rm.frames + 1 ≤ R.frames) (hl : W + (maxL + 11) + rm.locals ≤ R.locals) (hc : cells + rm.cells ≤ R.cells) (hs : slots + rm.slots ≤ R.slots) :
    ∃ (v : Option Value) (T' : State) (L : List Loc), Q v T'.heap L ∧ Stand p l e R s m args below meth c T' (locs ++ L) (cells + rm.cells) (slots + rm.slots) ∧ ∀ target, Steps p.tables e below (T'.setTop { g with pc := g.pc + 3, stack := v.toList ++ rest }) target → Steps p.tables e below (T.setTop g) target := by
  obtain ⟨cq, q, q'⟩ := E.cell
  obtain ⟨v, _, ⟨T', L', c', s'⟩, -, X', ⟨L, hq, e1, e2, e3⟩, st⟩ := X.privateBack hx hown (mvT hZ w1) (mvT hZ w2) hsel (Cond.privateMethod_at (mvP hZ w6 (args := #[]))) (mvT hZ w4) hy (backOf (W := W) hM hZ w4 w3 hf hl) hg hsize (Steps.refl _) (by rw [eT]; exact q) q' hlen hstack hW hdg (fun _ _ => ⟨has, eT, hc, hs⟩)
  subst e1 e2 e3
  exact ⟨v, T', L, hq, X', fun _ k => st.trans k⟩
theorem own_super (X : Stand p l e R s m args below meth c T locs cells slots) (hx : p.tables.exec = Jvm.exec) (hZ : Z.Warmed39 s.vm) {own K : String} {index W maxL : Nat} {y : MethodName} {bytes : ByteArray} {ret : Option FieldType} {rm : Room} {as' : Array Value} {Q : Option Value → Heap → List Loc → Prop}
    (hown : s.vm.findClass own = some m.cls) (w1 : (Jvm.Cond.methodLink own index y).before a0 Z = true) (w2 : (Jvm.Cond.sameMethod y.cls y.cls y.name y.desc).before a0 Z = true) (w5 : (Jvm.Cond.instanceMethod y).before a0 Z = true) (w6 : (Jvm.Cond.superclass own y.cls).before a0 Z = true) (hn : y.name ≠ "<init>") (w3 : (Jvm.Cond.initialized y.cls).before a0 Z = true) (w4 : (Jvm.Cond.code y bytes maxL ret).before a0 Z = true)
    (hM : MetFree l y (head1 [Jvm.Cond.code y bytes maxL ret] rm) (fun a U => a = as' ∧ Z.Warmed39 U.vm ∧ U.heap = h) (fun _ _ _ _ _ => True) (fun _ U o U' => ∃ v L, o = .returned v ∧ Q v U'.heap L ∧ FrameEnd U o U' L rm.cells rm.slots)) (eT : T.heap = h) {b : Addr} (E : Exa Z h b K)
    {g : JFrame} (hg : g.method = m) (hsize : g.locals.size = c.maxLocals) {argsL rest : List Value} (hlen : ∀ sig, parseMethodDescriptor y.desc = some sig → argsL.length = sig.parameters.length) (hstack : g.stack = argsL.reverse ++ .ref b :: rest) (has : (.ref b :: argsL).toArray = as') (hW : 2 * g.monitorRoom + (rest.map fun v => v.category).sum ≤ W)
    (hdg : decode c.code g.pc = .ok (.invokespecial index, 3)) (hf : rm.frames + 1 ≤ R.frames) (hl : W + (maxL + 11) + rm.locals ≤ R.locals) (hc : cells + rm.cells ≤ R.cells) (hs : slots + rm.slots ≤ R.slots) :
    ∃ (v : Option Value) (T' : State) (L : List Loc), Q v T'.heap L ∧ Stand p l e R s m args below meth c T' (locs ++ L) (cells + rm.cells) (slots + rm.slots) ∧ ∀ target, Steps p.tables e below (T'.setTop { g with pc := g.pc + 3, stack := v.toList ++ rest }) target → Steps p.tables e below (T.setTop g) target := by
  obtain ⟨v, _, ⟨T', L', c', s'⟩, -, X', ⟨L, hq, e1, e2, e3⟩, st⟩ := superBack X hx hZ hown w1 w2 w5 w6 hn (backOf (W := W) hM hZ w4 w3 hf hl) eT (Ins.self E) hg hsize w4 hlen hstack hW hdg (fun _ _ => ⟨has, eT, hc, hs⟩)
  subst e1 e2 e3
  exact ⟨v, T', L, hq, X', fun _ k => st.trans k⟩
end OwnCalls
section OwnHeap
variable {p : Program} {l : Launch} {e : Env} {R : Room} {s : State} {m : MethodId} {args : Array Value} {below : List Frame} {meth : Method} {c : Code} {T : State} {locs : List Loc} {cells slots : Nat} {Z : State} {a0 : Array Value} {h h0 : Heap} {n0 : Nat} {ws : List Addr}
theorem own_newO (X : Stand p l e R s m args below meth c T locs cells slots) (hx : p.tables.exec = Jvm.exec) (hZ : Z.Warmed39 s.vm) {own C : String} {index n : Nat} (hown : s.vm.findClass own = some m.cls) (w : (Jvm.Cond.classLink own index C).before a0 Z = true) (wi : (Jvm.Cond.instantiable C n).before a0 Z = true) (wz : (Jvm.Cond.initialized C).before a0 Z = true) (eT : T.heap = h) (O : Old Z n0 h) (K : Keep h0 h ws)
    {g : JFrame} (hg : g.method = m) (hd : decode c.code g.pc = .ok (.new index, 3)) (hc : cells + 1 ≤ R.cells) (hl : slots + n ≤ R.slots) :
    ∃ (T' : State) (h' : Heap) (b : Addr), Stand p l e R s m args below meth c T' locs (cells + 1) (slots + n) ∧ T'.heap = h' ∧ Ext h h' ∧ Exa Z h' b C ∧ (∀ {O nm d : String} {ty : FieldType}, Laid Z a0 C O nm d → parseFieldDescriptor d = some ty → Fld Z h' b O nm d (defaultValue ty)) ∧ h.size ≤ b ∧ Old Z n0 h' ∧ Keep h0 h' ws ∧
      ∀ target, Steps p.tables e below (T'.setTop { g with pc := g.pc + 3, stack := .ref b :: g.stack }) target → Steps p.tables e below (T.setTop g) target := by
  obtain ⟨T', h', X', e', E', A', D', -, st⟩ := newO X hx hZ hown w wi wz eT hg hd hc hl
  exact ⟨T', h', h.size, X', e', E', A', D', Nat.le_refl _, O.ext E', K.ext E', st⟩
theorem own_newP (X : Stand p l e R s m args below meth c T locs cells slots) (hx : p.tables.exec = Jvm.exec) (hZ : Z.Warmed39 s.vm) {aty : ArrayType} {ty : FieldType} {dv : Value} {vs : List Value} {cap : Nat} (hty : newarray.typeOf aty = ty) (hdv : defaultValue ty = dv) (hvs : List.replicate cap dv = vs) (w : (Jvm.Cond.arrayClass ty).before a0 Z = true) (eT : T.heap = h) (O : Old Z n0 h) (K : Keep h0 h ws) {g : JFrame} (hg : g.method = m) (hd : decode c.code g.pc = .ok (.newarray aty, 2)) {n : Int32} {rest : List Value} (hs : g.stack = .int n :: rest)
    (hn : ¬ n < 0) (hcap : n.toNatClampNeg ≤ cap) (hb : cap * 8 ≤ 536870912) (hc : cells + 1 ≤ R.cells) (hl : slots + cap ≤ R.slots) :
    ∃ (T' : State) (h' : Heap) (k : ClassId) (b : Addr), Stand p l e R s m args below meth c T' locs (cells + 1) (slots + cap) ∧ T'.heap = h' ∧ Ext h h' ∧ Arv Z h' b k ty n vs dv ∧ h.size ≤ b ∧ Old Z n0 h' ∧ Keep h0 h' ws ∧
      ∀ target, Steps p.tables e below (T'.setTop { g with pc := g.pc + 2, stack := .ref b :: rest }) target → Steps p.tables e below (T.setTop g) target := by
  subst hty hdv hvs
  obtain ⟨T', h', k, X', e', E', A', st⟩ := newP X hx hZ w eT hg hd hs hn hcap hb hc hl
  exact ⟨T', h', k, h.size, X', e', E', (Arv.new A' hn).pad (pad_rep [] _ cap), Nat.le_refl _, O.ext E', K.ext E', st⟩
theorem own_newR (X : Stand p l e R s m args below meth c T locs cells slots) (hx : p.tables.exec = Jvm.exec) (hZ : Z.Warmed39 s.vm) {own C : String} {index cap : Nat} {vs : List Value} (hvs : List.replicate cap .null = vs) (hown : s.vm.findClass own = some m.cls) (w1 : (Jvm.Cond.classLink own index C).before a0 Z = true) (w2 : (Jvm.Cond.arrayOver (.object C)).before a0 Z = true) (eT : T.heap = h) (O : Old Z n0 h) (K : Keep h0 h ws) {g : JFrame} (hg : g.method = m) (hd : decode c.code g.pc = .ok (.anewarray index, 3)) {n : Int32} {rest : List Value} (hs : g.stack = .int n :: rest)
    (hn : ¬ n < 0) (hcap : n.toNatClampNeg ≤ cap) (hb : cap * 8 ≤ 536870912) (hc : cells + 1 ≤ R.cells) (hl : slots + cap ≤ R.slots) :
    ∃ (T' : State) (h' : Heap) (k : ClassId) (b : Addr), Stand p l e R s m args below meth c T' locs (cells + 1) (slots + cap) ∧ T'.heap = h' ∧ Ext h h' ∧ Arv Z h' b k (.object C) n vs .null ∧ Ovr Z k C ∧ h.size ≤ b ∧ Old Z n0 h' ∧ Keep h0 h' ws ∧
      ∀ target, Steps p.tables e below (T'.setTop { g with pc := g.pc + 3, stack := .ref b :: rest }) target → Steps p.tables e below (T.setTop g) target := by
  subst hvs
  obtain ⟨T', h', k, X', e', E', A', O', st⟩ := newR X hx hZ hown w1 w2 eT hg hd hs hn hcap hb hc hl
  exact ⟨T', h', k, h.size, X', e', E', (Arv.new A' hn).pad (pad_rep [] _ cap), O', Nat.le_refl _, O.ext E', K.ext E', st⟩
theorem own_put (X : Stand p l e R s m args below meth c T locs cells slots) (hx : p.tables.exec = Jvm.exec) (hZ : Z.Warmed39 s.vm) {own R0 Ow n d host C : String} {index kk : Nat} {ty : FieldType} (hown : s.vm.findClass own = some m.cls) (w : (Jvm.Cond.fieldLink own index R0 n d).before a0 Z = true ∨ (Jvm.Cond.fieldLinkNest own index R0 n d host).before a0 Z = true) (via : Via Z R0 Ow n d)
    (eT : T.heap = h) (O : Old Z n0 h) (K : Keep h0 h ws) (N : Fr n0 locs) {a : Addr} (qn : n0 ≤ a) (qk : a ∈ ws ∨ h0.size ≤ a) {v old : Value} (F : Fld Z h a Ow n d old) (E : Exa Z h a C) (L : (Jvm.Cond.lays C Ow n d).before a0 Z = true ∨ ((Jvm.Cond.laysFinal C Ow n d).before a0 Z = true ∧ own = Ow ∧ meth.name = "<init>")) (wi : (Jvm.Cond.instantiable C kk).before a0 Z = true)
    (hty : parseFieldDescriptor d = some ty) (hn : narrow ty v = v) (hf : fits ty v = true) {g : JFrame} (hg : g.method = m) {rest : List Value} (hs : g.stack = v :: .ref a :: rest) (hd : decode c.code g.pc = .ok (.putfield index, 3)) :
    ∃ (T' : State) (h' : Heap) (L' : List Loc), Stand p l e R s m args below meth c T' L' cells slots ∧ T'.heap = h' ∧ Wr h h' a (Jvm.RoadKit.slotOf Z Ow n d) v ∧ Fld Z h' a Ow n d v ∧ Old Z n0 h' ∧ Keep h0 h' ws ∧ Fr n0 L' ∧ ∀ target, Steps p.tables e below (T'.setTop { g with pc := g.pc + 3, stack := rest }) target → Steps p.tables e below (T.setTop g) target := by
  obtain ⟨T', h', X', e', W', st⟩ := putF X hx hZ hown w via eT F E L wi hty hn hf hg hs hd
  exact ⟨T', h', _, X', e', W', F.same W', O.wr W' qn, K.wr W' qk, Fr.snoc X' N qn, st⟩
theorem own_putN (X : Stand p l e R s m args below meth c T locs cells slots) (hx : p.tables.exec = Jvm.exec) (hZ : Z.Warmed39 s.vm) {own R0 Ow n d C : String} {index kk : Nat} {ty : FieldType} (hown : s.vm.findClass own = some m.cls) (w : (Jvm.Cond.fieldLink own index R0 n d).before a0 Z = true) (via : Via Z R0 Ow n d)
    (eT : T.heap = h) (O : Old Z n0 h) (K : Keep h0 h ws) (N : Fr n0 locs) {a : Addr} (qn : n0 ≤ a) (qk : a ∈ ws ∨ h0.size ≤ a) {v v' old : Value} (F : Fld Z h a Ow n d old) (E : Exa Z h a C) (L : (Jvm.Cond.lays C Ow n d).before a0 Z = true ∨ ((Jvm.Cond.laysFinal C Ow n d).before a0 Z = true ∧ own = Ow ∧ meth.name = "<init>")) (wi : (Jvm.Cond.instantiable C kk).before a0 Z = true)
    (hty : parseFieldDescriptor d = some ty) (hn : narrow ty v = v') (hf : fits ty v' = true) {g : JFrame} (hg : g.method = m) {rest : List Value} (hs : g.stack = v :: .ref a :: rest) (hd : decode c.code g.pc = .ok (.putfield index, 3)) :
    ∃ (T' : State) (h' : Heap) (L' : List Loc), Stand p l e R s m args below meth c T' L' cells slots ∧ T'.heap = h' ∧ Wr h h' a (Jvm.RoadKit.slotOf Z Ow n d) v' ∧ Fld Z h' a Ow n d v' ∧ Old Z n0 h' ∧ Keep h0 h' ws ∧ Fr n0 L' ∧ ∀ target, Steps p.tables e below (T'.setTop { g with pc := g.pc + 3, stack := rest }) target → Steps p.tables e below (T.setTop g) target := by
  obtain ⟨T', h', X', e', W', st⟩ := putFN X hx hZ hown w via eT F E L wi hty hn hf hg hs hd
  exact ⟨T', h', _, X', e', W', F.same W', O.wr W' qn, K.wr W' qk, Fr.snoc X' N qn, st⟩
theorem own_stR (X : Stand p l e R s m args below meth c T locs cells slots) (hx : p.tables.exec = Jvm.exec) (hZ : Z.Warmed39 s.vm) (eT : T.heap = h) {a : Addr} {k : ClassId} {ty : FieldType} {n : Int32} {vs vs' : List Value} {dv : Value} (V : Arv Z h a k ty n vs dv) (O : Old Z n0 h) (K : Keep h0 h ws) (N : Fr n0 locs) (qn : n0 ≤ a) (qk : a ∈ ws ∨ h0.size ≤ a) {j : Int32} (i : Nat) (hj : ((¬ j < 0 ∧ j < n) ∧ j.toNatClampNeg = i)) (hi : i < vs.length) {v : Value} (hvs : vs.set i v = vs') (hty : ty.isReference = true) (hfv : fits ty v = true)
    (sto : v = .null ∨ ∃ (y : Addr) (C : String), v = .ref y ∧ Ovr Z k C ∧ Ins Z h y C true) {g : JFrame} (hg : g.method = m) {rest : List Value} (hs : g.stack = v :: .int j :: .ref a :: rest) (hd : decode c.code g.pc = .ok (.aastore, 1)) :
    ∃ (T' : State) (h' : Heap) (L' : List Loc), Stand p l e R s m args below meth c T' L' cells slots ∧ T'.heap = h' ∧ Wr h h' a j.toNatClampNeg v ∧ Arv Z h' a k ty n vs' dv ∧ Old Z n0 h' ∧ Keep h0 h' ws ∧ Fr n0 L' ∧ ∀ target, Steps p.tables e below (T'.setTop { g with pc := g.pc + 1, stack := rest }) target → Steps p.tables e below (T.setTop g) target := by
  subst hvs
  obtain ⟨cl, Ar, q, Sz, Ng, Hs, Gt⟩ := V
  obtain ⟨T', h', X', e', W', st⟩ := stR X hx hZ eT Ar (j := j) (inb_of Sz hj.1) hty (sto.elim Or.inl fun ⟨y, C, e1, e2, e3⟩ => e1 ▸ Sto.ofV Ar q e2 e3) hg hs hd
  exact ⟨T', h', _, X', e', W', Arv.set Ar q Sz Ng Hs Gt hfv W' i hj.2 hi, O.wr W' qn, K.wr W' qk, Fr.snoc X' N qn, st⟩
theorem own_stI (X : Stand p l e R s m args below meth c T locs cells slots) (hx : p.tables.exec = Jvm.exec) (hZ : Z.Warmed39 s.vm) (eT : T.heap = h) {a : Addr} {k : ClassId} {n : Int32} {vs vs' : List Value} {dv : Value} (V : Arv Z h a k .int n vs dv) (O : Old Z n0 h) (K : Keep h0 h ws) (N : Fr n0 locs) (qn : n0 ≤ a) (qk : a ∈ ws ∨ h0.size ≤ a) {j : Int32} (i : Nat) (hj : ((¬ j < 0 ∧ j < n) ∧ j.toNatClampNeg = i)) (hi : i < vs.length) {x : Int32} {v : Value} (hv : (.int x : Value) = v) (hvs : vs.set i v = vs')
    {g : JFrame} (hg : g.method = m) {rest : List Value} (hs : g.stack = .int x :: .int j :: .ref a :: rest) (hd : decode c.code g.pc = .ok (.iastore, 1)) :
    ∃ (T' : State) (h' : Heap) (L' : List Loc), Stand p l e R s m args below meth c T' L' cells slots ∧ T'.heap = h' ∧ Wr h h' a j.toNatClampNeg v ∧ Arv Z h' a k .int n vs' dv ∧ Old Z n0 h' ∧ Keep h0 h' ws ∧ Fr n0 L' ∧ ∀ target, Steps p.tables e below (T'.setTop { g with pc := g.pc + 1, stack := rest }) target → Steps p.tables e below (T.setTop g) target := by
  subst hv hvs
  obtain ⟨cl, Ar, q, Sz, Ng, Hs, Gt⟩ := V
  obtain ⟨T', h', X', e', W', st⟩ := stI X hx hZ eT Ar (j := j) (inb_of Sz hj.1) hg hs hd
  exact ⟨T', h', _, X', e', W', Arv.set Ar q Sz Ng Hs Gt rfl W' i hj.2 hi, O.wr W' qn, K.wr W' qk, Fr.snoc X' N qn, st⟩
theorem own_stJ (X : Stand p l e R s m args below meth c T locs cells slots) (hx : p.tables.exec = Jvm.exec) (hZ : Z.Warmed39 s.vm) (eT : T.heap = h) {a : Addr} {k : ClassId} {n : Int32} {vs vs' : List Value} {dv : Value} (V : Arv Z h a k .long n vs dv) (O : Old Z n0 h) (K : Keep h0 h ws) (N : Fr n0 locs) (qn : n0 ≤ a) (qk : a ∈ ws ∨ h0.size ≤ a) {j : Int32} (i : Nat) (hj : ((¬ j < 0 ∧ j < n) ∧ j.toNatClampNeg = i)) (hi : i < vs.length) {x : Int64} {v : Value} (hv : (.long x : Value) = v) (hvs : vs.set i v = vs')
    {g : JFrame} (hg : g.method = m) {rest : List Value} (hs : g.stack = .long x :: .int j :: .ref a :: rest) (hd : decode c.code g.pc = .ok (.lastore, 1)) :
    ∃ (T' : State) (h' : Heap) (L' : List Loc), Stand p l e R s m args below meth c T' L' cells slots ∧ T'.heap = h' ∧ Wr h h' a j.toNatClampNeg v ∧ Arv Z h' a k .long n vs' dv ∧ Old Z n0 h' ∧ Keep h0 h' ws ∧ Fr n0 L' ∧ ∀ target, Steps p.tables e below (T'.setTop { g with pc := g.pc + 1, stack := rest }) target → Steps p.tables e below (T.setTop g) target := by
  subst hv hvs
  obtain ⟨cl, Ar, q, Sz, Ng, Hs, Gt⟩ := V
  obtain ⟨T', h', X', e', W', st⟩ := stJ X hx hZ eT Ar (j := j) (inb_of Sz hj.1) hg hs hd
  exact ⟨T', h', _, X', e', W', Arv.set Ar q Sz Ng Hs Gt rfl W' i hj.2 hi, O.wr W' qn, K.wr W' qk, Fr.snoc X' N qn, st⟩
theorem own_stC (X : Stand p l e R s m args below meth c T locs cells slots) (hx : p.tables.exec = Jvm.exec) (hZ : Z.Warmed39 s.vm) (eT : T.heap = h) {a : Addr} {k : ClassId} {n : Int32} {vs vs' : List Value} {dv : Value} (V : Arv Z h a k .char n vs dv) (O : Old Z n0 h) (K : Keep h0 h ws) (N : Fr n0 locs) (qn : n0 ≤ a) (qk : a ∈ ws ∨ h0.size ≤ a) {j : Int32} (i : Nat) (hj : ((¬ j < 0 ∧ j < n) ∧ j.toNatClampNeg = i)) (hi : i < vs.length) {x : Int32} {v : Value} (hv : (.int (nar .char x) : Value) = v) (hvs : vs.set i v = vs')
    {g : JFrame} (hg : g.method = m) {rest : List Value} (hs : g.stack = .int x :: .int j :: .ref a :: rest) (hd : decode c.code g.pc = .ok (.castore, 1)) :
    ∃ (T' : State) (h' : Heap) (L' : List Loc), Stand p l e R s m args below meth c T' L' cells slots ∧ T'.heap = h' ∧ Wr h h' a j.toNatClampNeg v ∧ Arv Z h' a k .char n vs' dv ∧ Old Z n0 h' ∧ Keep h0 h' ws ∧ Fr n0 L' ∧ ∀ target, Steps p.tables e below (T'.setTop { g with pc := g.pc + 1, stack := rest }) target → Steps p.tables e below (T.setTop g) target := by
  subst hv hvs
  obtain ⟨cl, Ar, q, Sz, Ng, Hs, Gt⟩ := V
  obtain ⟨T', h', X', e', W', st⟩ := stC X hx hZ eT Ar (j := j) (inb_of Sz hj.1) hg hs hd
  exact ⟨T', h', _, X', e', W', Arv.set Ar q Sz Ng Hs Gt (fits_nar_char _) W' i hj.2 hi, O.wr W' qn, K.wr W' qk, Fr.snoc X' N qn, st⟩
theorem own_stS (X : Stand p l e R s m args below meth c T locs cells slots) (hx : p.tables.exec = Jvm.exec) (hZ : Z.Warmed39 s.vm) (eT : T.heap = h) {a : Addr} {k : ClassId} {n : Int32} {vs vs' : List Value} {dv : Value} (V : Arv Z h a k .short n vs dv) (O : Old Z n0 h) (K : Keep h0 h ws) (N : Fr n0 locs) (qn : n0 ≤ a) (qk : a ∈ ws ∨ h0.size ≤ a) {j : Int32} (i : Nat) (hj : ((¬ j < 0 ∧ j < n) ∧ j.toNatClampNeg = i)) (hi : i < vs.length) {x : Int32} {v : Value} (hv : (.int (nar .short x) : Value) = v) (hvs : vs.set i v = vs')
    {g : JFrame} (hg : g.method = m) {rest : List Value} (hs : g.stack = .int x :: .int j :: .ref a :: rest) (hd : decode c.code g.pc = .ok (.sastore, 1)) :
    ∃ (T' : State) (h' : Heap) (L' : List Loc), Stand p l e R s m args below meth c T' L' cells slots ∧ T'.heap = h' ∧ Wr h h' a j.toNatClampNeg v ∧ Arv Z h' a k .short n vs' dv ∧ Old Z n0 h' ∧ Keep h0 h' ws ∧ Fr n0 L' ∧ ∀ target, Steps p.tables e below (T'.setTop { g with pc := g.pc + 1, stack := rest }) target → Steps p.tables e below (T.setTop g) target := by
  subst hv hvs
  obtain ⟨cl, Ar, q, Sz, Ng, Hs, Gt⟩ := V
  obtain ⟨T', h', X', e', W', st⟩ := stS X hx hZ eT Ar (j := j) (inb_of Sz hj.1) hg hs hd
  exact ⟨T', h', _, X', e', W', Arv.set Ar q Sz Ng Hs Gt (fits_nar_short _) W' i hj.2 hi, O.wr W' qn, K.wr W' qk, Fr.snoc X' N qn, st⟩
theorem own_stB (X : Stand p l e R s m args below meth c T locs cells slots) (hx : p.tables.exec = Jvm.exec) (hZ : Z.Warmed39 s.vm) (eT : T.heap = h) {a : Addr} {k : ClassId} {n : Int32} {vs vs' : List Value} {dv : Value} (V : Arv Z h a k .byte n vs dv) (O : Old Z n0 h) (K : Keep h0 h ws) (N : Fr n0 locs) (qn : n0 ≤ a) (qk : a ∈ ws ∨ h0.size ≤ a) {j : Int32} (i : Nat) (hj : ((¬ j < 0 ∧ j < n) ∧ j.toNatClampNeg = i)) (hi : i < vs.length) {x : Int32} {v : Value} (hv : (.int (nar .byte x) : Value) = v) (hvs : vs.set i v = vs')
    {g : JFrame} (hg : g.method = m) {rest : List Value} (hs : g.stack = .int x :: .int j :: .ref a :: rest) (hd : decode c.code g.pc = .ok (.bastore, 1)) :
    ∃ (T' : State) (h' : Heap) (L' : List Loc), Stand p l e R s m args below meth c T' L' cells slots ∧ T'.heap = h' ∧ Wr h h' a j.toNatClampNeg v ∧ Arv Z h' a k .byte n vs' dv ∧ Old Z n0 h' ∧ Keep h0 h' ws ∧ Fr n0 L' ∧ ∀ target, Steps p.tables e below (T'.setTop { g with pc := g.pc + 1, stack := rest }) target → Steps p.tables e below (T.setTop g) target := by
  subst hv hvs
  obtain ⟨cl, Ar, q, Sz, Ng, Hs, Gt⟩ := V
  obtain ⟨T', h', X', e', W', st⟩ := stB X hx hZ eT Ar (j := j) (inb_of Sz hj.1) hg hs hd
  exact ⟨T', h', _, X', e', W', Arv.set Ar q Sz Ng Hs Gt (fits_nar_byte _) W' i hj.2 hi, O.wr W' qn, K.wr W' qk, Fr.snoc X' N qn, st⟩
theorem own_stZ (X : Stand p l e R s m args below meth c T locs cells slots) (hx : p.tables.exec = Jvm.exec) (hZ : Z.Warmed39 s.vm) (eT : T.heap = h) {a : Addr} {k : ClassId} {n : Int32} {vs vs' : List Value} {dv : Value} (V : Arv Z h a k .boolean n vs dv) (O : Old Z n0 h) (K : Keep h0 h ws) (N : Fr n0 locs) (qn : n0 ≤ a) (qk : a ∈ ws ∨ h0.size ≤ a) {j : Int32} (i : Nat) (hj : ((¬ j < 0 ∧ j < n) ∧ j.toNatClampNeg = i)) (hi : i < vs.length) {x : Int32} {v : Value} (hv : (.int (nar .boolean x) : Value) = v) (hvs : vs.set i v = vs')
    {g : JFrame} (hg : g.method = m) {rest : List Value} (hs : g.stack = .int x :: .int j :: .ref a :: rest) (hd : decode c.code g.pc = .ok (.bastore, 1)) :
    ∃ (T' : State) (h' : Heap) (L' : List Loc), Stand p l e R s m args below meth c T' L' cells slots ∧ T'.heap = h' ∧ Wr h h' a j.toNatClampNeg v ∧ Arv Z h' a k .boolean n vs' dv ∧ Old Z n0 h' ∧ Keep h0 h' ws ∧ Fr n0 L' ∧ ∀ target, Steps p.tables e below (T'.setTop { g with pc := g.pc + 1, stack := rest }) target → Steps p.tables e below (T.setTop g) target := by
  subst hv hvs
  obtain ⟨cl, Ar, q, Sz, Ng, Hs, Gt⟩ := V
  obtain ⟨T', h', X', e', W', st⟩ := stZ X hx hZ eT Ar (j := j) (inb_of Sz hj.1) hg hs hd
  exact ⟨T', h', _, X', e', W', Arv.set Ar q Sz Ng Hs Gt (fits_nar_bool _) W' i hj.2 hi, O.wr W' qn, K.wr W' qk, Fr.snoc X' N qn, st⟩
theorem own_iaload (X : Stand p l e R s m args below meth c T locs cells slots) (hx : p.tables.exec = Jvm.exec) (hZ : Z.Warmed39 s.vm) (eT : T.heap = h) {a : Addr} {k : ClassId} {n : Int32} {vs : List Value} {dv : Value} (V : Arv Z h a k .int n vs dv) {j : Int32} (hj : ¬ j < 0 ∧ j < n) {v : Value} (hv : vs.getD j.toNatClampNeg dv = v)
    {g : JFrame} (hg : g.method = m) {rest : List Value} (hs : g.stack = .int j :: .ref a :: rest) (hd : decode c.code g.pc = .ok (.iaload, 1)) {target : State} (hr : Steps p.tables e below (T.setTop { g with pc := g.pc + 1, stack := v :: rest }) target) : Steps p.tables e below (T.setTop g) target := by
  obtain ⟨cl, Ar, q, Sz, Ng, Hs, Gt⟩ := V
  exact X.iaload hx (by rw [eT]; exact Ar.1) (State.isArrayOf_alike hZ.alike Ar.2.1) Ar.2.2 (inb_of Sz hj) (Hs.at (inb_of Sz hj) hv) hg hs hd _ hr
theorem own_laload (X : Stand p l e R s m args below meth c T locs cells slots) (hx : p.tables.exec = Jvm.exec) (hZ : Z.Warmed39 s.vm) (eT : T.heap = h) {a : Addr} {k : ClassId} {n : Int32} {vs : List Value} {dv : Value} (V : Arv Z h a k .long n vs dv) {j : Int32} (hj : ¬ j < 0 ∧ j < n) {v : Value} (hv : vs.getD j.toNatClampNeg dv = v)
    {g : JFrame} (hg : g.method = m) {rest : List Value} (hs : g.stack = .int j :: .ref a :: rest) (hd : decode c.code g.pc = .ok (.laload, 1)) {target : State} (hr : Steps p.tables e below (T.setTop { g with pc := g.pc + 1, stack := v :: rest }) target) : Steps p.tables e below (T.setTop g) target := by
  obtain ⟨cl, Ar, q, Sz, Ng, Hs, Gt⟩ := V
  exact X.laload hx (by rw [eT]; exact Ar.1) (State.isArrayOf_alike hZ.alike Ar.2.1) Ar.2.2 (inb_of Sz hj) (Hs.at (inb_of Sz hj) hv) hg hs hd _ hr
theorem own_caload (X : Stand p l e R s m args below meth c T locs cells slots) (hx : p.tables.exec = Jvm.exec) (hZ : Z.Warmed39 s.vm) (eT : T.heap = h) {a : Addr} {k : ClassId} {n : Int32} {vs : List Value} {dv : Value} (V : Arv Z h a k .char n vs dv) {j : Int32} (hj : ¬ j < 0 ∧ j < n) {v : Value} (hv : vs.getD j.toNatClampNeg dv = v)
    {g : JFrame} (hg : g.method = m) {rest : List Value} (hs : g.stack = .int j :: .ref a :: rest) (hd : decode c.code g.pc = .ok (.caload, 1)) {target : State} (hr : Steps p.tables e below (T.setTop { g with pc := g.pc + 1, stack := v :: rest }) target) : Steps p.tables e below (T.setTop g) target := by
  obtain ⟨cl, Ar, q, Sz, Ng, Hs, Gt⟩ := V
  exact X.caload hx (by rw [eT]; exact Ar.1) (State.isArrayOf_alike hZ.alike Ar.2.1) Ar.2.2 (inb_of Sz hj) (Hs.at (inb_of Sz hj) hv) hg hs hd _ hr
theorem own_saload (X : Stand p l e R s m args below meth c T locs cells slots) (hx : p.tables.exec = Jvm.exec) (hZ : Z.Warmed39 s.vm) (eT : T.heap = h) {a : Addr} {k : ClassId} {n : Int32} {vs : List Value} {dv : Value} (V : Arv Z h a k .short n vs dv) {j : Int32} (hj : ¬ j < 0 ∧ j < n) {v : Value} (hv : vs.getD j.toNatClampNeg dv = v)
    {g : JFrame} (hg : g.method = m) {rest : List Value} (hs : g.stack = .int j :: .ref a :: rest) (hd : decode c.code g.pc = .ok (.saload, 1)) {target : State} (hr : Steps p.tables e below (T.setTop { g with pc := g.pc + 1, stack := v :: rest }) target) : Steps p.tables e below (T.setTop g) target := by
  obtain ⟨cl, Ar, q, Sz, Ng, Hs, Gt⟩ := V
  exact X.saload hx (by rw [eT]; exact Ar.1) (State.isArrayOf_alike hZ.alike Ar.2.1) Ar.2.2 (inb_of Sz hj) (Hs.at (inb_of Sz hj) hv) hg hs hd _ hr
theorem own_baloadB (X : Stand p l e R s m args below meth c T locs cells slots) (hx : p.tables.exec = Jvm.exec) (hZ : Z.Warmed39 s.vm) (eT : T.heap = h) {a : Addr} {k : ClassId} {n : Int32} {vs : List Value} {dv : Value} (V : Arv Z h a k .byte n vs dv) {j : Int32} (hj : ¬ j < 0 ∧ j < n) {v : Value} (hv : vs.getD j.toNatClampNeg dv = v)
    {g : JFrame} (hg : g.method = m) {rest : List Value} (hs : g.stack = .int j :: .ref a :: rest) (hd : decode c.code g.pc = .ok (.baload, 1)) {target : State} (hr : Steps p.tables e below (T.setTop { g with pc := g.pc + 1, stack := v :: rest }) target) : Steps p.tables e below (T.setTop g) target := by
  obtain ⟨cl, Ar, q, Sz, Ng, Hs, Gt⟩ := V
  exact X.baloadBytes hx (by rw [eT]; exact Ar.1) (State.isArrayOf_alike hZ.alike Ar.2.1) Ar.2.2 (inb_of Sz hj) (Hs.at (inb_of Sz hj) hv) hg hs hd _ hr
theorem own_baloadZ (X : Stand p l e R s m args below meth c T locs cells slots) (hx : p.tables.exec = Jvm.exec) (hZ : Z.Warmed39 s.vm) (eT : T.heap = h) {a : Addr} {k : ClassId} {n : Int32} {vs : List Value} {dv : Value} (V : Arv Z h a k .boolean n vs dv) {j : Int32} (hj : ¬ j < 0 ∧ j < n) {v : Value} (hv : vs.getD j.toNatClampNeg dv = v)
    {g : JFrame} (hg : g.method = m) {rest : List Value} (hs : g.stack = .int j :: .ref a :: rest) (hd : decode c.code g.pc = .ok (.baload, 1)) {target : State} (hr : Steps p.tables e below (T.setTop { g with pc := g.pc + 1, stack := v :: rest }) target) : Steps p.tables e below (T.setTop g) target := by
  obtain ⟨cl, Ar, q, Sz, Ng, Hs, Gt⟩ := V
  exact X.baloadBooleans hx (by rw [eT]; exact Ar.1) (State.isArrayOf_alike hZ.alike Ar.2.1) Ar.2.2 (inb_of Sz hj) (Hs.at (inb_of Sz hj) hv) hg hs hd _ hr
theorem own_aaload (X : Stand p l e R s m args below meth c T locs cells slots) (hx : p.tables.exec = Jvm.exec) (hZ : Z.Warmed39 s.vm) (eT : T.heap = h) {a : Addr} {k : ClassId} {ty : FieldType} {n : Int32} {vs : List Value} {dv : Value} (V : Arv Z h a k ty n vs dv) {j : Int32} (hj : ¬ j < 0 ∧ j < n) {v : Value} (hv : vs.getD j.toNatClampNeg dv = v) (hty : ty.isReference = true)
    {g : JFrame} (hg : g.method = m) {rest : List Value} (hs : g.stack = .int j :: .ref a :: rest) (hd : decode c.code g.pc = .ok (.aaload, 1)) {target : State} (hr : Steps p.tables e below (T.setTop { g with pc := g.pc + 1, stack := v :: rest }) target) : Steps p.tables e below (T.setTop g) target := by
  obtain ⟨cl, Ar, q, Sz, Ng, Hs, Gt⟩ := V
  exact X.aaload hx (by rw [eT]; exact Ar.1) (State.isArrayOf_alike hZ.alike Ar.2.1) hty Ar.2.2 (inb_of Sz hj) (Hs.at (inb_of Sz hj) hv) hg hs hd _ hr
theorem own_alen (X : Stand p l e R s m args below meth c T locs cells slots) (hx : p.tables.exec = Jvm.exec) (hZ : Z.Warmed39 s.vm) (eT : T.heap = h) {a : Addr} {k : ClassId} {ty : FieldType} {n : Int32} {vs : List Value} {dv : Value} (V : Arv Z h a k ty n vs dv)
    {g : JFrame} (hg : g.method = m) {rest : List Value} (hs : g.stack = .ref a :: rest) (hd : decode c.code g.pc = .ok (.arraylength, 1)) {target : State} (hr : Steps p.tables e below (T.setTop { g with pc := g.pc + 1, stack := .int n :: rest }) target) : Steps p.tables e below (T.setTop g) target := by
  obtain ⟨cl, Ar, q, Sz, Ng, Hs, Gt⟩ := V
  exact X.arraylength hx (by rw [eT]; exact Ar.1) (State.isArrayOf_alike hZ.alike Ar.2.1) hg hs hd _ (by rw [len_of Sz Ng]; exact hr)
end OwnHeap
section OwnWide
variable {p : Program} {l : Launch} {e : Env} {R : Room} {s : State} {m : MethodId} {args : Array Value} {below : List Frame} {meth : Method} {c : Code} {T : State} {locs : List Loc} {cells slots : Nat} {Z : State} {a0 : Array Value} {h : Heap} {vm0 : Vm} {EL : List (String × Nat)} {sx : List Addr}
theorem own_backS {y : MethodName} {bytes : ByteArray} {maxL : Nat} {ret : Option FieldType} {rm : Room} {len W : Nat} {as' : Array Value} {Q : Option Value → Heap → List Loc → Prop}
    (hM : MetFree l y (head1 [Jvm.Cond.code y bytes maxL ret] rm) (fun a U => a = as' ∧ Z.Warmed39 U.vm ∧ U.heap = h ∧ CHv Z EL U.vm h ∧ ∀ x ∈ sx, Safe Z EL U.vm h x) (fun _ _ _ _ _ => True) (fun _ U o U' => ∃ v L, o = .returned v ∧ Q v U'.heap L ∧ CHr Z EL U.vm U.heap U'.vm U'.heap ∧ ReturnedEndW U o U' L rm.cells rm.slots))
    (hZ : Z.Warmed39 (s.setVm vm0).vm) (wc : (Jvm.Cond.code y bytes maxL ret).before a0 Z = true) (wz : (Jvm.Cond.initialized y.cls).before a0 Z = true) (hf : rm.frames + 1 ≤ R.frames) (hl : W + (maxL + 11) + rm.locals ≤ R.locals) (hEL : EW Z a0 EL) (H : CHv Z EL vm0 h) (hsx : ∀ x ∈ sx, x < h.size ∧ Safe Z EL vm0 h x) :
    BackS l R p e below (s.setVm vm0) args y len W (fun A a => a = as' ∧ A.U.heap = h ∧ A.cells + rm.cells ≤ R.cells ∧ A.slots + rm.slots ≤ R.slots)
      (fun A _ v B => ∃ L, Q v B.U.heap L ∧ B.locs = A.locs ++ L ∧ B.cells = A.cells + rm.cells ∧ B.slots = A.slots + rm.slots ∧ CHr Z EL vm0 h B.U.vm B.U.heap) :=
  BackS.of_freeW (bytes := bytes) (maxL := maxL) (ret := ret) (E := fun _ first o t L k n => k = rm.cells ∧ n = rm.slots ∧ (∃ v, o = .returned v ∧ Q v t.heap L) ∧ CHr Z EL first.vm first.heap t.vm t.heap) hM hf hl
    (fun m meth c A a Y hp => have hU : Z.Warmed39 A.U.vm := wtrans (s := s.setVm vm0) hZ Y.warmed
      ⟨by show (Jvm.Cond.and _ .tt).before a A.U = true; rw [Cond.before_and, mv hU wc]; rfl, mv hU wc, mv hU wz, hp.2.2.1, hp.2.2.2⟩)
    (fun m meth c A a g mk Y hp => ⟨hp.1, wtrans (s := s.setVm vm0) hZ Y.warmed, hp.2.1, (CHv.at Y hZ hEL H).1, fun x hx => (CHv.at Y hZ hEL H).safe (hsx x hx).1 (hsx x hx).2⟩) (fun _ _ _ _ _ _ _ _ _ => trivial)
    (fun _ _ _ _ ⟨v, L, h1, h2, h3, h4⟩ => ⟨L, _, _, h4, rfl, rfl, ⟨v, h1, h2⟩, h3⟩)
    (fun m meth c A a g mk v t L k n Y hp _ _ ⟨e1, e2, ⟨v', e3, e4⟩, e5⟩ => by
      cases e3; subst e1 e2
      refine ⟨L, e4, rfl, rfl, rfl, (CHv.at Y hZ hEL H).trans ?_⟩
      rw [← hp.2.1]; exact e5)
theorem own_callSW (X : Stand p l e R (s.setVm vm0) m args below meth c T locs cells slots) (hx : p.tables.exec = Jvm.exec) (hZ : Z.Warmed39 (s.setVm vm0).vm) {own : String} {index W maxL : Nat} {y : MethodName} {bytes : ByteArray} {ret : Option FieldType} {rm : Room} {as' : Array Value} {Q : Option Value → Heap → List Loc → Prop}
    (hown : (s.setVm vm0).vm.findClass own = some m.cls) (w1 : (Jvm.Cond.methodLink own index y).before a0 Z = true) (w2 : (Jvm.Cond.static y).before a0 Z = true) (w3 : (Jvm.Cond.initialized y.cls).before a0 Z = true) (w4 : (Jvm.Cond.code y bytes maxL ret).before a0 Z = true) (hy : y.cls ≠ "java/lang/invoke/MethodHandle" ∧ y.cls ≠ "java/lang/invoke/VarHandle")
    (hM : MetFree l y (head1 [Jvm.Cond.code y bytes maxL ret] rm) (fun a U => a = as' ∧ Z.Warmed39 U.vm ∧ U.heap = h ∧ CHv Z EL U.vm h ∧ ∀ x ∈ sx, Safe Z EL U.vm h x) (fun _ _ _ _ _ => True) (fun _ U o U' => ∃ v L, o = .returned v ∧ Q v U'.heap L ∧ CHr Z EL U.vm U.heap U'.vm U'.heap ∧ ReturnedEndW U o U' L rm.cells rm.slots)) (eT : T.heap = h) {k0 : Nat} (hS : s.Since vm0 k0) (hk : k0 ≤ h.size) (hEL : EW Z a0 EL) (H : CHv Z EL vm0 h) (hsx : ∀ x ∈ sx, x < h.size ∧ Safe Z EL vm0 h x)
    {g : JFrame} (hg : g.method = m) (hsize : g.locals.size = c.maxLocals) {argsL rest : List Value} (hlen : ∀ sig, parseMethodDescriptor y.desc = some sig → argsL.length = sig.parameters.length) (hstack : g.stack = argsL.reverse ++ rest) (has : argsL.toArray = as') (hW : 2 * g.monitorRoom + (rest.map fun v => v.category).sum ≤ W)
    (hdg : decode c.code g.pc = .ok (.invokestatic index, 3)) (hf : rm.frames + 1 ≤ R.frames) (hl : W + (maxL + 11) + rm.locals ≤ R.locals) (hc : cells + rm.cells ≤ R.cells) (hs : slots + rm.slots ≤ R.slots) :
    ∃ (v : Option Value) (T' : State) (L : List Loc), Q v T'.heap L ∧ s.Since T'.vm T'.heap.size ∧ Z.Warmed39 (s.setVm T'.vm).vm ∧ (s.setVm T'.vm).vm.findClass own = some m.cls ∧ CHr Z EL vm0 h T'.vm T'.heap ∧ Stand p l e R (s.setVm T'.vm) m args below meth c T' (locs ++ L) (cells + rm.cells) (slots + rm.slots) ∧ ∀ target, Steps p.tables e below (T'.setTop { g with pc := g.pc + 3, stack := v.toList ++ rest }) target → Steps p.tables e below (T.setTop g) target := by
  obtain ⟨v, _, ⟨T', L', c', s'⟩, -, X', hS2, hgr, ⟨L, hq, e1, e2, e3, hC⟩, st⟩ := callSS X hx hown (mvT hZ w1) (mvT hZ w2) (mvT hZ w3) (mvT hZ w4) hy (own_backS (W := W) hM hZ w4 w3 hf hl hEL H hsx) hg hsize hlen hstack hW hdg (fun _ _ => ⟨has, eT, hc, hs⟩)
  subst e1 e2 e3
  have hr := rebS (n1 := T.heap.size) hS (by rw [eT]; exact hk) X' hS2 hgr hZ hown
  exact ⟨v, T', L, hq, hr.2.1, hr.2.2.1, hr.2.2.2, hC, hr.1, fun _ k => st.trans k⟩
theorem own_specialW (X : Stand p l e R (s.setVm vm0) m args below meth c T locs cells slots) (hx : p.tables.exec = Jvm.exec) (hZ : Z.Warmed39 (s.setVm vm0).vm) {own : String} {index W maxL : Nat} {y : MethodName} {bytes : ByteArray} {rm : Room} {as' : Array Value} {Q : Option Value → Heap → List Loc → Prop} (hy1 : y.name = "<init>")
    (hown : (s.setVm vm0).vm.findClass own = some m.cls) (w1 : (Jvm.Cond.methodLink own index y).before a0 Z = true) (w2 : (Jvm.Cond.instanceMethod y).before a0 Z = true) (w3 : (Jvm.Cond.initialized y.cls).before a0 Z = true) (w4 : (Jvm.Cond.code y bytes maxL none).before a0 Z = true) (hy : y.cls ≠ "java/lang/invoke/MethodHandle" ∧ y.cls ≠ "java/lang/invoke/VarHandle")
    (hM : MetFree l y (head1 [Jvm.Cond.code y bytes maxL none] rm) (fun a U => a = as' ∧ Z.Warmed39 U.vm ∧ U.heap = h ∧ CHv Z EL U.vm h ∧ ∀ x ∈ sx, Safe Z EL U.vm h x) (fun _ _ _ _ _ => True) (fun _ U o U' => ∃ v L, o = .returned v ∧ Q v U'.heap L ∧ CHr Z EL U.vm U.heap U'.vm U'.heap ∧ ReturnedEndW U o U' L rm.cells rm.slots)) (eT : T.heap = h) {k0 : Nat} (hS : s.Since vm0 k0) (hk : k0 ≤ h.size) (hEL : EW Z a0 EL) (H : CHv Z EL vm0 h) (hsx : ∀ x ∈ sx, x < h.size ∧ Safe Z EL vm0 h x)
    {g : JFrame} (hg : g.method = m) (hsize : g.locals.size = c.maxLocals) {a : Addr} {argsL rest : List Value} (hlen : ∀ sig, parseMethodDescriptor y.desc = some sig → argsL.length = sig.parameters.length) (hstack : g.stack = argsL.reverse ++ .ref a :: rest) (has : (.ref a :: argsL).toArray = as') (hW : 2 * g.monitorRoom + (rest.map fun v => v.category).sum ≤ W)
    (hdg : decode c.code g.pc = .ok (.invokespecial index, 3)) (hf : rm.frames + 1 ≤ R.frames) (hl : W + (maxL + 11) + rm.locals ≤ R.locals) (hc : cells + rm.cells ≤ R.cells) (hs : slots + rm.slots ≤ R.slots) :
    ∃ (v : Option Value) (T' : State) (L : List Loc), Q v T'.heap L ∧ s.Since T'.vm T'.heap.size ∧ Z.Warmed39 (s.setVm T'.vm).vm ∧ (s.setVm T'.vm).vm.findClass own = some m.cls ∧ CHr Z EL vm0 h T'.vm T'.heap ∧ Stand p l e R (s.setVm T'.vm) m args below meth c T' (locs ++ L) (cells + rm.cells) (slots + rm.slots) ∧ ∀ target, Steps p.tables e below (T'.setTop { g with pc := g.pc + 3, stack := v.toList ++ rest }) target → Steps p.tables e below (T.setTop g) target := by
  obtain ⟨v, _, ⟨T', L', c', s'⟩, -, X', hS2, hgr, ⟨L, hq, e1, e2, e3, hC⟩, st⟩ := X.specialBackS hx hy1 hown (mvT hZ w1) (mvT hZ w2) (mvT hZ w4) hy (own_backS (W := W) hM hZ w4 w3 hf hl hEL H hsx) hg hsize (Steps.refl _) hlen hstack hW hdg (fun _ _ => ⟨has, eT, hc, hs⟩)
  subst e1 e2 e3
  have hr := rebS (n1 := T.heap.size) hS (by rw [eT]; exact hk) X' hS2 hgr hZ hown
  exact ⟨v, T', L, hq, hr.2.1, hr.2.2.1, hr.2.2.2, hC, hr.1, fun _ k => st.trans k⟩
theorem own_virtualW (X : Stand p l e R (s.setVm vm0) m args below meth c T locs cells slots) (hx : p.tables.exec = Jvm.exec) (hZ : Z.Warmed39 (s.setVm vm0).vm) {own C : String} {index W maxL : Nat} {y z : MethodName} {bytes : ByteArray} {ret : Option FieldType} {rm : Room} {as' : Array Value} {Q : Option Value → Heap → List Loc → Prop}
    (hown : (s.setVm vm0).vm.findClass own = some m.cls) (w1 : (Jvm.Cond.methodLink own index y).before a0 Z = true) (w2 : (Jvm.Cond.declares y).before a0 Z = true) (nf : NotFace (s.setVm vm0) y) (w5 : (Jvm.Cond.selects C y z).before a0 Z = true) (w6 : (Jvm.Cond.instanceMethod z).before a0 Z = true) (w3 : (Jvm.Cond.initialized z.cls).before a0 Z = true) (w4 : (Jvm.Cond.code z bytes maxL ret).before a0 Z = true) (hy : y.cls ≠ "java/lang/invoke/MethodHandle" ∧ y.cls ≠ "java/lang/invoke/VarHandle")
    (hM : MetFree l z (head1 [Jvm.Cond.code z bytes maxL ret] rm) (fun a U => a = as' ∧ Z.Warmed39 U.vm ∧ U.heap = h ∧ CHv Z EL U.vm h ∧ ∀ x ∈ sx, Safe Z EL U.vm h x) (fun _ _ _ _ _ => True) (fun _ U o U' => ∃ v L, o = .returned v ∧ Q v U'.heap L ∧ CHr Z EL U.vm U.heap U'.vm U'.heap ∧ ReturnedEndW U o U' L rm.cells rm.slots)) (eT : T.heap = h) {k0 : Nat} (hS : s.Since vm0 k0) (hk : k0 ≤ h.size) (hEL : EW Z a0 EL) (H : CHv Z EL vm0 h) (hsx : ∀ x ∈ sx, x < h.size ∧ Safe Z EL vm0 h x) {b : Addr} (E : Exa Z h b C)
    {g : JFrame} (hg : g.method = m) (hsize : g.locals.size = c.maxLocals) {argsL rest : List Value} (hlen : ∀ sig, parseMethodDescriptor y.desc = some sig → argsL.length = sig.parameters.length) (hstack : g.stack = argsL.reverse ++ .ref b :: rest) (has : (.ref b :: argsL).toArray = as') (hW : 2 * g.monitorRoom + (rest.map fun v => v.category).sum ≤ W)
    (hdg : decode c.code g.pc = .ok (.invokevirtual index, 3)) (hf : rm.frames + 1 ≤ R.frames) (hl : W + (maxL + 11) + rm.locals ≤ R.locals) (hc : cells + rm.cells ≤ R.cells) (hs : slots + rm.slots ≤ R.slots) :
    ∃ (v : Option Value) (T' : State) (L : List Loc), Q v T'.heap L ∧ s.Since T'.vm T'.heap.size ∧ Z.Warmed39 (s.setVm T'.vm).vm ∧ (s.setVm T'.vm).vm.findClass own = some m.cls ∧ CHr Z EL vm0 h T'.vm T'.heap ∧ Stand p l e R (s.setVm T'.vm) m args below meth c T' (locs ++ L) (cells + rm.cells) (slots + rm.slots) ∧ ∀ target, Steps p.tables e below (T'.setTop { g with pc := g.pc + 3, stack := v.toList ++ rest }) target → Steps p.tables e below (T.setTop g) target := by
  obtain ⟨cB, kB, qa, qb, qc⟩ := isOf hZ eT E
  obtain ⟨v, _, ⟨T', L', c', s'⟩, -, X', hS2, hgr, ⟨L, hq, e1, e2, e3, hC⟩, st⟩ := X.virtualBackS hx hown (mvT hZ w1) (mvT hZ w2) nf (mvT hZ w5) (mvT hZ w6) hy (own_backS (W := W) hM hZ w4 w3 hf hl hEL H hsx) qa qc hg hsize (Steps.refl _) hlen hstack hW hdg (fun _ _ => ⟨has, eT, hc, hs⟩)
  subst e1 e2 e3
  have hr := rebS (n1 := T.heap.size) hS (by rw [eT]; exact hk) X' hS2 hgr hZ hown
  exact ⟨v, T', L, hq, hr.2.1, hr.2.2.1, hr.2.2.2, hC, hr.1, fun _ k => st.trans k⟩
theorem own_virtualUpW (X : Stand p l e R (s.setVm vm0) m args below meth c T locs cells slots) (hx : p.tables.exec = Jvm.exec) (hZ : Z.Warmed39 (s.setVm vm0).vm) {own C owner : String} {index W maxL : Nat} {y z : MethodName} {bytes : ByteArray} {ret : Option FieldType} {rm : Room} {as' : Array Value} {Q : Option Value → Heap → List Loc → Prop}
    (hown : (s.setVm vm0).vm.findClass own = some m.cls) (w1 : (Jvm.Cond.methodLink own index y).before a0 Z = true) (w7 : (Jvm.Cond.sameMethod y.cls owner y.name y.desc).before a0 Z = true) (w2 : (Jvm.Cond.declares ⟨owner, y.name, y.desc⟩).before a0 Z = true) (hy : owner ≠ "java/lang/invoke/MethodHandle" ∧ owner ≠ "java/lang/invoke/VarHandle") (w5 : (Jvm.Cond.selects C y z).before a0 Z = true) (w6 : (Jvm.Cond.instanceMethod z).before a0 Z = true) (w3 : (Jvm.Cond.initialized z.cls).before a0 Z = true) (w4 : (Jvm.Cond.code z bytes maxL ret).before a0 Z = true)
    (hM : MetFree l z (head1 [Jvm.Cond.code z bytes maxL ret] rm) (fun a U => a = as' ∧ Z.Warmed39 U.vm ∧ U.heap = h ∧ CHv Z EL U.vm h ∧ ∀ x ∈ sx, Safe Z EL U.vm h x) (fun _ _ _ _ _ => True) (fun _ U o U' => ∃ v L, o = .returned v ∧ Q v U'.heap L ∧ CHr Z EL U.vm U.heap U'.vm U'.heap ∧ ReturnedEndW U o U' L rm.cells rm.slots)) (eT : T.heap = h) {k0 : Nat} (hS : s.Since vm0 k0) (hk : k0 ≤ h.size) (hEL : EW Z a0 EL) (H : CHv Z EL vm0 h) (hsx : ∀ x ∈ sx, x < h.size ∧ Safe Z EL vm0 h x) {b : Addr} (E : Exa Z h b C)
    {g : JFrame} (hg : g.method = m) (hsize : g.locals.size = c.maxLocals) {argsL rest : List Value} (hlen : ∀ sig, parseMethodDescriptor y.desc = some sig → argsL.length = sig.parameters.length) (hstack : g.stack = argsL.reverse ++ .ref b :: rest) (has : (.ref b :: argsL).toArray = as') (hW : 2 * g.monitorRoom + (rest.map fun v => v.category).sum ≤ W)
    (hdg : decode c.code g.pc = .ok (.invokevirtual index, 3)) (hf : rm.frames + 1 ≤ R.frames) (hl : W + (maxL + 11) + rm.locals ≤ R.locals) (hc : cells + rm.cells ≤ R.cells) (hs : slots + rm.slots ≤ R.slots) :
    ∃ (v : Option Value) (T' : State) (L : List Loc), Q v T'.heap L ∧ s.Since T'.vm T'.heap.size ∧ Z.Warmed39 (s.setVm T'.vm).vm ∧ (s.setVm T'.vm).vm.findClass own = some m.cls ∧ CHr Z EL vm0 h T'.vm T'.heap ∧ Stand p l e R (s.setVm T'.vm) m args below meth c T' (locs ++ L) (cells + rm.cells) (slots + rm.slots) ∧ ∀ target, Steps p.tables e below (T'.setTop { g with pc := g.pc + 3, stack := v.toList ++ rest }) target → Steps p.tables e below (T.setTop g) target := by
  obtain ⟨cB, kB, qa, qb, qc⟩ := isOf hZ eT E
  obtain ⟨v, _, ⟨T', L', c', s'⟩, -, X', hS2, hgr, ⟨L, hq, e1, e2, e3, hC⟩, st⟩ := X.virtualBackUpS hx (owner := owner) hown (mvT hZ w1) (mvT hZ w7) (mvT hZ w2) hy (mvT hZ w5) (mvT hZ w6) (own_backS (W := W) hM hZ w4 w3 hf hl hEL H hsx) qa qc hg hsize (Steps.refl _) hlen hstack hW hdg (fun _ _ => ⟨has, eT, hc, hs⟩)
  subst e1 e2 e3
  have hr := rebS (n1 := T.heap.size) hS (by rw [eT]; exact hk) X' hS2 hgr hZ hown
  exact ⟨v, T', L, hq, hr.2.1, hr.2.2.1, hr.2.2.2, hC, hr.1, fun _ k => st.trans k⟩
theorem own_ifaceW (X : Stand p l e R (s.setVm vm0) m args below meth c T locs cells slots) (hx : p.tables.exec = Jvm.exec) (hZ : Z.Warmed39 (s.setVm vm0).vm) {own C : String} {index count W maxL : Nat} {y z : MethodName} {bytes : ByteArray} {ret : Option FieldType} {rm : Room} {as' : Array Value} {Q : Option Value → Heap → List Loc → Prop}
    (hown : (s.setVm vm0).vm.findClass own = some m.cls) (w1 : (Jvm.Cond.methodLink own index y).before a0 Z = true) (w2 : (Jvm.Cond.declares y).before a0 Z = true) (w7 : (Jvm.Cond.interfaceMethod y.cls y.cls y.name y.desc).before args (s.setVm vm0) = true) (w5 : (Jvm.Cond.selects C y z).before a0 Z = true) (w6 : (Jvm.Cond.instanceMethod z).before a0 Z = true) (w8 : (Jvm.Cond.publicMethod z).before args (s.setVm vm0) = true) (w9 : (Jvm.Cond.unhidden C y.name y.desc).before args (s.setVm vm0) = true) (w10 : (Jvm.Cond.castable C y.cls).before a0 Z = true) (w3 : (Jvm.Cond.initialized z.cls).before a0 Z = true) (w4 : (Jvm.Cond.code z bytes maxL ret).before a0 Z = true) (hy : y.cls ≠ "java/lang/invoke/MethodHandle" ∧ y.cls ≠ "java/lang/invoke/VarHandle")
    (hM : MetFree l z (head1 [Jvm.Cond.code z bytes maxL ret] rm) (fun a U => a = as' ∧ Z.Warmed39 U.vm ∧ U.heap = h ∧ CHv Z EL U.vm h ∧ ∀ x ∈ sx, Safe Z EL U.vm h x) (fun _ _ _ _ _ => True) (fun _ U o U' => ∃ v L, o = .returned v ∧ Q v U'.heap L ∧ CHr Z EL U.vm U.heap U'.vm U'.heap ∧ ReturnedEndW U o U' L rm.cells rm.slots)) (eT : T.heap = h) {k0 : Nat} (hS : s.Since vm0 k0) (hk : k0 ≤ h.size) (hEL : EW Z a0 EL) (H : CHv Z EL vm0 h) (hsx : ∀ x ∈ sx, x < h.size ∧ Safe Z EL vm0 h x) {b : Addr} (E : Exa Z h b C)
    {g : JFrame} (hg : g.method = m) (hsize : g.locals.size = c.maxLocals) {argsL rest : List Value} (hlen : ∀ sig, parseMethodDescriptor y.desc = some sig → argsL.length = sig.parameters.length) (hstack : g.stack = argsL.reverse ++ .ref b :: rest) (has : (.ref b :: argsL).toArray = as') (hW : 2 * g.monitorRoom + (rest.map fun v => v.category).sum ≤ W)
    (hdg : decode c.code g.pc = .ok (.invokeinterface index count, 5)) (hf : rm.frames + 1 ≤ R.frames) (hl : W + (maxL + 11) + rm.locals ≤ R.locals) (hc : cells + rm.cells ≤ R.cells) (hs : slots + rm.slots ≤ R.slots) :
    ∃ (v : Option Value) (T' : State) (L : List Loc), Q v T'.heap L ∧ s.Since T'.vm T'.heap.size ∧ Z.Warmed39 (s.setVm T'.vm).vm ∧ (s.setVm T'.vm).vm.findClass own = some m.cls ∧ CHr Z EL vm0 h T'.vm T'.heap ∧ Stand p l e R (s.setVm T'.vm) m args below meth c T' (locs ++ L) (cells + rm.cells) (slots + rm.slots) ∧ ∀ target, Steps p.tables e below (T'.setTop { g with pc := g.pc + 5, stack := v.toList ++ rest }) target → Steps p.tables e below (T.setTop g) target := by
  obtain ⟨cB, kB, qa, qb, qc⟩ := isOf hZ eT E
  obtain ⟨v, _, ⟨T', L', c', s'⟩, -, X', hS2, hgr, ⟨L, hq, e1, e2, e3, hC⟩, st⟩ := X.interfaceBackS hx hown (mvT hZ w1) (mvT hZ w2) w7 (mvT hZ w5) (mvT hZ w6) w8 w9 (mvT hZ w10) hy (own_backS (W := W) hM hZ w4 w3 hf hl hEL H hsx) qa qb qc hg hsize (Steps.refl _) hlen hstack hW hdg (fun _ _ => ⟨has, eT, hc, hs⟩)
  subst e1 e2 e3
  have hr := rebS (n1 := T.heap.size) hS (by rw [eT]; exact hk) X' hS2 hgr hZ hown
  exact ⟨v, T', L, hq, hr.2.1, hr.2.2.1, hr.2.2.2, hC, hr.1, fun _ k => st.trans k⟩
theorem own_privateW (X : Stand p l e R (s.setVm vm0) m args below meth c T locs cells slots) (hx : p.tables.exec = Jvm.exec) (hZ : Z.Warmed39 (s.setVm vm0).vm) {own K : String} {index W maxL : Nat} {y : MethodName} {bytes : ByteArray} {ret : Option FieldType} {rm : Room} {as' : Array Value} {Q : Option Value → Heap → List Loc → Prop}
    (hown : (s.setVm vm0).vm.findClass own = some m.cls) (w1 : (Jvm.Cond.methodLink own index y).before a0 Z = true) (w2 : (Jvm.Cond.instanceMethod y).before a0 Z = true) (hsel : (Jvm.Cond.selects y.cls y y).before args (s.setVm vm0) = true) (w6 : (Jvm.Cond.privateMethod y).before a0 Z = true) (w3 : (Jvm.Cond.initialized y.cls).before a0 Z = true) (w4 : (Jvm.Cond.code y bytes maxL ret).before a0 Z = true) (hy : y.cls ≠ "java/lang/invoke/MethodHandle" ∧ y.cls ≠ "java/lang/invoke/VarHandle")
    (hM : MetFree l y (head1 [Jvm.Cond.code y bytes maxL ret] rm) (fun a U => a = as' ∧ Z.Warmed39 U.vm ∧ U.heap = h ∧ CHv Z EL U.vm h ∧ ∀ x ∈ sx, Safe Z EL U.vm h x) (fun _ _ _ _ _ => True) (fun _ U o U' => ∃ v L, o = .returned v ∧ Q v U'.heap L ∧ CHr Z EL U.vm U.heap U'.vm U'.heap ∧ ReturnedEndW U o U' L rm.cells rm.slots)) (eT : T.heap = h) {k0 : Nat} (hS : s.Since vm0 k0) (hk : k0 ≤ h.size) (hEL : EW Z a0 EL) (H : CHv Z EL vm0 h) (hsx : ∀ x ∈ sx, x < h.size ∧ Safe Z EL vm0 h x) {b : Addr} (E : Exa Z h b K)
    {g : JFrame} (hg : g.method = m) (hsize : g.locals.size = c.maxLocals) {argsL rest : List Value} (hlen : ∀ sig, parseMethodDescriptor y.desc = some sig → argsL.length = sig.parameters.length) (hstack : g.stack = argsL.reverse ++ .ref b :: rest) (has : (.ref b :: argsL).toArray = as') (hW : 2 * g.monitorRoom + (rest.map fun v => v.category).sum ≤ W)
    (hdg : decode c.code g.pc = .ok (.invokevirtual index, 3)) (hf : rm.frames + 1 ≤ R.frames) (hl : W + (maxL + 11) + rm.locals ≤ R.locals) (hc : cells + rm.cells ≤ R.cells) (hs : slots + rm.slots ≤ R.slots) :
    ∃ (v : Option Value) (T' : State) (L : List Loc), Q v T'.heap L ∧ s.Since T'.vm T'.heap.size ∧ Z.Warmed39 (s.setVm T'.vm).vm ∧ (s.setVm T'.vm).vm.findClass own = some m.cls ∧ CHr Z EL vm0 h T'.vm T'.heap ∧ Stand p l e R (s.setVm T'.vm) m args below meth c T' (locs ++ L) (cells + rm.cells) (slots + rm.slots) ∧ ∀ target, Steps p.tables e below (T'.setTop { g with pc := g.pc + 3, stack := v.toList ++ rest }) target → Steps p.tables e below (T.setTop g) target := by
  obtain ⟨cq, q, q'⟩ := E.cell
  obtain ⟨v, _, ⟨T', L', c', s'⟩, -, X', hS2, hgr, ⟨L, hq, e1, e2, e3, hC⟩, st⟩ := X.privateBackS hx hown (mvT hZ w1) (mvT hZ w2) hsel (Cond.privateMethod_at (mvP hZ w6 (args := #[]))) (mvT hZ w4) hy (own_backS (W := W) hM hZ w4 w3 hf hl hEL H hsx) hg hsize (Steps.refl _) (by rw [eT]; exact q) q' hlen hstack hW hdg (fun _ _ => ⟨has, eT, hc, hs⟩)
  subst e1 e2 e3
  have hr := rebS (n1 := T.heap.size) hS (by rw [eT]; exact hk) X' hS2 hgr hZ hown
  exact ⟨v, T', L, hq, hr.2.1, hr.2.2.1, hr.2.2.2, hC, hr.1, fun _ k => st.trans k⟩
theorem own_superW (X : Stand p l e R (s.setVm vm0) m args below meth c T locs cells slots) (hx : p.tables.exec = Jvm.exec) (hZ : Z.Warmed39 (s.setVm vm0).vm) {own K : String} {index W maxL : Nat} {y : MethodName} {bytes : ByteArray} {ret : Option FieldType} {rm : Room} {as' : Array Value} {Q : Option Value → Heap → List Loc → Prop}
    (hown : (s.setVm vm0).vm.findClass own = some m.cls) (w1 : (Jvm.Cond.methodLink own index y).before a0 Z = true) (w2 : (Jvm.Cond.sameMethod y.cls y.cls y.name y.desc).before a0 Z = true) (w5 : (Jvm.Cond.instanceMethod y).before a0 Z = true) (w6 : (Jvm.Cond.superclass own y.cls).before a0 Z = true) (hn : y.name ≠ "<init>") (w3 : (Jvm.Cond.initialized y.cls).before a0 Z = true) (w4 : (Jvm.Cond.code y bytes maxL ret).before a0 Z = true)
    (hM : MetFree l y (head1 [Jvm.Cond.code y bytes maxL ret] rm) (fun a U => a = as' ∧ Z.Warmed39 U.vm ∧ U.heap = h ∧ CHv Z EL U.vm h ∧ ∀ x ∈ sx, Safe Z EL U.vm h x) (fun _ _ _ _ _ => True) (fun _ U o U' => ∃ v L, o = .returned v ∧ Q v U'.heap L ∧ CHr Z EL U.vm U.heap U'.vm U'.heap ∧ ReturnedEndW U o U' L rm.cells rm.slots)) (eT : T.heap = h) {k0 : Nat} (hS : s.Since vm0 k0) (hk : k0 ≤ h.size) (hEL : EW Z a0 EL) (H : CHv Z EL vm0 h) (hsx : ∀ x ∈ sx, x < h.size ∧ Safe Z EL vm0 h x) {b : Addr} (E : Exa Z h b K)
    {g : JFrame} (hg : g.method = m) (hsize : g.locals.size = c.maxLocals) {argsL rest : List Value} (hlen : ∀ sig, parseMethodDescriptor y.desc = some sig → argsL.length = sig.parameters.length) (hstack : g.stack = argsL.reverse ++ .ref b :: rest) (has : (.ref b :: argsL).toArray = as') (hW : 2 * g.monitorRoom + (rest.map fun v => v.category).sum ≤ W)
    (hdg : decode c.code g.pc = .ok (.invokespecial index, 3)) (hf : rm.frames + 1 ≤ R.frames) (hl : W + (maxL + 11) + rm.locals ≤ R.locals) (hc : cells + rm.cells ≤ R.cells) (hs : slots + rm.slots ≤ R.slots) :
    ∃ (v : Option Value) (T' : State) (L : List Loc), Q v T'.heap L ∧ s.Since T'.vm T'.heap.size ∧ Z.Warmed39 (s.setVm T'.vm).vm ∧ (s.setVm T'.vm).vm.findClass own = some m.cls ∧ CHr Z EL vm0 h T'.vm T'.heap ∧ Stand p l e R (s.setVm T'.vm) m args below meth c T' (locs ++ L) (cells + rm.cells) (slots + rm.slots) ∧ ∀ target, Steps p.tables e below (T'.setTop { g with pc := g.pc + 3, stack := v.toList ++ rest }) target → Steps p.tables e below (T.setTop g) target := by
  obtain ⟨v, _, ⟨T', L', c', s'⟩, -, X', hS2, hgr, ⟨L, hq, e1, e2, e3, hC⟩, st⟩ := superBackS X hx hZ hown w1 w2 w5 w6 hn (own_backS (W := W) hM hZ w4 w3 hf hl hEL H hsx) eT (Ins.self E) hg hsize w4 hlen hstack hW hdg (fun _ _ => ⟨has, eT, hc, hs⟩)
  subst e1 e2 e3
  have hr := rebS (n1 := T.heap.size) hS (by rw [eT]; exact hk) X' hS2 hgr hZ hown
  exact ⟨v, T', L, hq, hr.2.1, hr.2.2.1, hr.2.2.2, hC, hr.1, fun _ k => st.trans k⟩
theorem own_chr {vm vm1 : Vm} {h0 h1 h2 : Heap} (e0 : h1 = h0) (eT : h2 = h) (C : CHr Z EL vm h0 vm1 h) : CHr Z EL vm h1 vm1 h2 := by subst e0 eT; exact C
theorem own_rwm {t : State} {o : Outcome} {L : List Loc} {k n k' n' : Nat} (hR : ReturnedEndW s o t L k n) (hk : k ≤ k') (hn : n ≤ n') : ReturnedEndW s o t L k' n' := ⟨hR.1, hR.2.1, hR.2.2.1, hR.2.2.2.mono hk hn⟩
theorem own_sx0 : ∀ x ∈ ([] : List Addr), x < h.size ∧ Safe Z EL vm0 h x := fun _ q => nomatch q
theorem own_sxS {y : Addr} {L : List Addr} (q : y < h.size) (r : Safe Z EL vm0 h y) (n : ∀ x ∈ L, x < h.size ∧ Safe Z EL vm0 h x) : ∀ x ∈ y :: L, x < h.size ∧ Safe Z EL vm0 h x := fun x z => (List.mem_cons.mp z).elim (fun u => u ▸ ⟨q, r⟩) (n x)
end OwnWide
theorem own_irr (x : Int32) : ¬ (x < x) := Int32.lt_irrefl
theorem own_irrL (x : Int64) : ¬ (x < x) := Int64.lt_irrefl
theorem own_lc_lt {x y : Int64} (h : x < y) : lcmpW x y = (-1 : Int32) := Int32.toInt_inj.mp ((c_lcmp x y).1 (Int64.lt_iff_toInt_lt.mp h))
theorem own_lc_eq {x y : Int64} (h : x = y) : lcmpW x y = (0 : Int32) := Int32.toInt_inj.mp ((c_lcmp x y).2.1 (congrArg _ h))
theorem own_lc_gt {x y : Int64} (h : ¬ (x < y)) (h' : ¬ (x = y)) : lcmpW x y = (1 : Int32) := Int32.toInt_inj.mp ((c_lcmp x y).2.2 (by
  have h1 : ¬ (x.toInt < y.toInt) := fun q => h (Int64.lt_iff_toInt_lt.mpr q)
  have h2 : ¬ (x.toInt = y.toInt) := fun q => h' (Int64.toInt_inj.mp q)
  omega))
theorem own_old_le {Z : State} {n0 : Nat} {h : Heap} (O : Old Z n0 h) : n0 ≤ h.size := O.1 ▸ O.2.1
theorem own_fld {Z : State} {args : Array Value} {t : Term} {a : Addr} {C n d : String} {z : Int32} (ev : t.eval args Z none [] Z = some (.ref a)) (h : (Jvm.Cond.eq (Term.field t C n d) (Term.int z)).value args Z none Z [] = some true) : Fld Z Z.heap a C n d (.int z) := by
  refine Fld.start ?_
  obtain ⟨x, y, e1, e2, k1, -⟩ := cmp_v (Or.inl h)
  rw [fld_at ev] at e1
  cases (Term.int_eval z).symm.trans e2
  have hx : ∃ q, x = .int q := by cases x <;> simp [Kin, Value.isRef] at k1 ⊢
  obtain ⟨q, rfl⟩ := hx
  have := gotT (P := q = z) (by simp [Cond.value, fld_at ev, e1, Term.int_eval]) h
  rw [e1, this]
theorem own_sta {Z : State} {args : Array Value} {C n d : String} {z : Int32} (h : (Jvm.Cond.eq (Term.static C n d) (Term.int z)).value args Z none Z [] = some true) : (Term.static C n d).eval args Z none [] Z = some (.int z) := by
  obtain ⟨x, y, e1, e2, k1, -⟩ := cmp_v (Or.inl h)
  cases (Term.int_eval z).symm.trans e2
  have hx : ∃ q, x = .int q := by cases x <;> simp [Kin, Value.isRef] at k1 ⊢
  obtain ⟨q, rfl⟩ := hx
  have := gotT (P := q = z) (by simp [Cond.value, e1, Term.int_eval]) h
  rw [e1, this]
theorem own_fldL {Z : State} {args : Array Value} {t : Term} {a : Addr} {C n d : String} {z : Int64} (ev : t.eval args Z none [] Z = some (.ref a)) (h : (Jvm.Cond.eq (Term.field t C n d) (Term.long z)).value args Z none Z [] = some true) : Fld Z Z.heap a C n d (.long z) := by
  refine Fld.start ?_
  obtain ⟨x, y, e1, e2, k1, -⟩ := cmp_v (Or.inl h)
  rw [fld_at ev] at e1
  cases (long_at z).symm.trans e2
  have hx : ∃ q, x = .long q := by cases x <;> simp [Kin, Value.isRef] at k1 ⊢
  obtain ⟨q, rfl⟩ := hx
  have := gotT (P := q = z) (eq_L (by rw [fld_at ev]; exact e1) (long_at z)) h
  rw [e1, this]
theorem own_len {Z : State} {args : Array Value} {t : Term} {a : Addr} {cl : Cell} {ty : FieldType} {z : Int32} (ev : t.eval args Z none [] Z = some (.ref a)) (A : Arr Z Z.heap a cl ty) (h : (Jvm.Cond.eq (Term.length t) (Term.int z)).value args Z none Z [] = some true) : cl.slots.size < 2 ^ 31 ∧ cl.slots.size.toInt32 = z := by
  obtain ⟨x, y, e1, e2, k1, -⟩ := cmp_v (Or.inl h)
  cases (Term.int_eval z).symm.trans e2
  have harr := A.fin (Vm.Alike.refl _)
  have h31 := SBG.length_lt ev harr e1
  refine ⟨h31, ?_⟩
  rw [len_f ev harr h31] at e1
  cases Option.some.inj e1
  exact gotT (P := cl.slots.size.toInt32 = z) (by simp [Cond.value, len_f ev harr h31, Term.int_eval]) h
theorem own_el {Z : State} {args : Array Value} {t u : Term} {a : Addr} {cl : Cell} {ty : FieldType} {j : Int32} {v : Value} (ev : t.eval args Z none [] Z = some (.ref a)) (A : Arr Z Z.heap a cl ty) (hu : u.eval args Z none [] Z = some v) (hr : v.isRef = true) (h : (Jvm.Cond.eq (Term.elem t (Term.int j)) u).value args Z none Z [] = some true) : cl.slots[j.toNatClampNeg]? = some v := by
  obtain ⟨x, y, e1, e2, k1, k2⟩ := cmp_v (Or.inl h)
  cases hu.symm.trans e2
  have hx : x.isRef = true := by rcases ref_cases hr with rfl | ⟨q, rfl⟩ <;> simp [Kin] at k2 <;> exact k2.2
  have := gotT (eq_R e1 hu hx hr) h
  subst this
  exact (elem_in e1 ev (Term.int_eval j) A.1).2
theorem own_rng (x : Int32) : -2147483648 ≤ x.toInt ∧ x.toInt ≤ 2147483647 := by have := rng32 x; omega
theorem own_mask (x m : Int32) {n : Int} (h : m.toInt = n ∧ 0 ≤ n) : 0 ≤ (x &&& m).toInt ∧ (x &&& m).toInt ≤ n := by have := c_and x m (by omega); omega
theorem own_rem (x y : Int32) (d : Int) {lo hi l h : Int} (hy : y.toInt = d ∧ 0 < d) (hx : lo ≤ x.toInt ∧ x.toInt ≤ hi) (q : (0 ≤ lo ∧ l = 0 ∧ d - 1 ≤ h) ∨ (l = -(d - 1) ∧ h = d - 1)) : l ≤ (x % y).toInt ∧ (x % y).toInt ≤ h := by
  have := c_iremV x y
  rcases Int.lt_or_le x.toInt 0 with g | g
  · have := this.2 g (by omega); omega
  · have := this.1 g (by omega); omega
theorem own_isub (x y : Int32) (d : Int) {lo hi l h : Int} (hy : y.toInt = d) (hx : lo ≤ x.toInt ∧ x.toInt ≤ hi) (q : l = lo - d ∧ h = hi - d ∧ -2147483648 ≤ l ∧ h ≤ 2147483647) : l ≤ (x - y).toInt ∧ (x - y).toInt ≤ h := by have := c_isub x y; have := rng32 (x - y); omega
theorem own_iadd (x y : Int32) (d : Int) {lo hi l h : Int} (hy : y.toInt = d) (hx : lo ≤ x.toInt ∧ x.toInt ≤ hi) (q : l = lo + d ∧ h = hi + d ∧ -2147483648 ≤ l ∧ h ≤ 2147483647) : l ≤ (x + y).toInt ∧ (x + y).toInt ≤ h := by have := c_iadd x y; have := rng32 (x + y); omega
theorem own_ltT {x y : Int32} (h : x.toInt < y.toInt) : x < y := Int32.lt_iff_toInt_lt.mpr h
theorem own_ltF {x y : Int32} (h : ¬ (x.toInt < y.toInt)) : ¬ (x < y) := fun q => h (Int32.lt_iff_toInt_lt.mp q)
theorem own_eqF {x y : Int32} (h : ¬ (x.toInt = y.toInt)) : ¬ (x = y) := fun q => h (q ▸ rfl)
theorem own_rngL (x : Int64) : -9223372036854775808 ≤ x.toInt ∧ x.toInt ≤ 9223372036854775807 := by have := rng64 x; omega
theorem own_ltTL {x y : Int64} (h : x.toInt < y.toInt) : x < y := Int64.lt_iff_toInt_lt.mpr h
theorem own_ltFL {x y : Int64} (h : ¬ (x.toInt < y.toInt)) : ¬ (x < y) := fun q => h (Int64.lt_iff_toInt_lt.mp q)
theorem own_eqFL {x y : Int64} (h : ¬ (x.toInt = y.toInt)) : ¬ (x = y) := fun q => h (q ▸ rfl)
theorem own_eqTL {x y : Int64} (h : x.toInt = y.toInt) : x = y := Int64.toInt_inj.mp h
theorem own_ltT'L {x y : Int64} (h : x < y) : x.toInt < y.toInt := Int64.lt_iff_toInt_lt.mp h
theorem own_ltF'L {x y : Int64} (h : ¬ (x < y)) : ¬ (x.toInt < y.toInt) := fun q => h (Int64.lt_iff_toInt_lt.mpr q)
theorem own_eqF'L {x y : Int64} (h : ¬ (x = y)) : ¬ (x.toInt = y.toInt) := fun q => h (Int64.toInt_inj.mp q)
theorem own_eqT'L {x y : Int64} (h : x = y) : x.toInt = y.toInt := h ▸ rfl
theorem own_sub {Z : State} {args : Array Value} {a b : Term} {idx : List Nat} {x y : Int32} (ha : a.eval args Z none idx Z = some (.int x)) (hb : b.eval args Z none idx Z = some (.int y)) : (Term.sub a b).eval args Z none idx Z = some (.int (x - y)) := by simp [Term.eval, ha, hb]
theorem own_box {Z : State} {a : Addr} {c : Cell} {K d : String} {z : Int32} {val : Int32 → Value} (B : Bxs Z a c K d z val) {j : Int32} (h1 : ¬ (j < 0)) (h2 : j < z) : ∃ b : Addr, c.slots[j.toNatClampNeg]? = some (.ref b) ∧ Exa Z Z.heap b K ∧ Fld Z Z.heap b K "value" d (val j) := B.2.2.2 j (inb_of B.2.1 ⟨h1, h2⟩)
theorem own_boxload {p : Program} {l : Launch} {e : Env} {R : Room} {s : State} {m : MethodId} {args : Array Value} {below : List Frame} {meth : Method} {c : Code} {T : State} {locs : List Loc} {cells slots : Nat} {Z : State} {h : Heap} {n0 : Nat} (X : Stand p l e R s m args below meth c T locs cells slots) (hx : p.tables.exec = Jvm.exec) (hZ : Z.Warmed39 s.vm) (eT : T.heap = h) (O : Old Z n0 h)
    {a b : Addr} {cl : Cell} {K d : String} {z : Int32} {val : Int32 → Value} (B : Bxs Z a cl K d z val) {j : Int32} (h1 : ¬ (j < 0)) (h2 : j < z) (el : cl.slots[j.toNatClampNeg]? = some (.ref b))
    {g : JFrame} (hg : g.method = m) {rest : List Value} (hs : g.stack = .int j :: .ref a :: rest) (hd : decode c.code g.pc = .ok (.aaload, 1)) {target : State} (hr : Steps p.tables e below (T.setTop { g with pc := g.pc + 1, stack := .ref b :: rest }) target) : Steps p.tables e below (T.setTop g) target := by
  have Ar := (B.ext O.2).1
  exact X.aaload hx (by rw [eT]; exact Ar.1) (State.isArrayOf_alike hZ.alike Ar.2.1) rfl Ar.2.2 (inb_of B.2.1 ⟨h1, h2⟩) el hg hs hd _ hr
theorem own_ltT' {x y : Int32} (h : x < y) : x.toInt < y.toInt := Int32.lt_iff_toInt_lt.mp h
theorem own_ltF' {x y : Int32} (h : ¬ (x < y)) : ¬ (x.toInt < y.toInt) := fun q => h (Int32.lt_iff_toInt_lt.mpr q)
theorem own_eqF' {x y : Int32} (h : ¬ (x = y)) : ¬ (x.toInt = y.toInt) := fun q => h (Int32.toInt_inj.mp q)
theorem own_eqT' {x y : Int32} (h : x = y) : x.toInt = y.toInt := h ▸ rfl
theorem own_eqT {x y : Int32} (h : x.toInt = y.toInt) : x = y := Int32.toInt_inj.mp h
abbrev z0 : String := "com/example/faultscope/faultscope/bpmn/NodeClassifier$Classification"
abbrev z1 : String := "com/example/faultscope/faultscope/bpmn/NodeKind"
abbrev z2 : String := "com/example/faultscope/faultscope/bpmn/NodeClassifier$Catcher"
abbrev z3 : String := "java/lang/String"
abbrev z4 : String := "Lcom/example/faultscope/faultscope/bpmn/NodeKind;"
abbrev z5 : String := "Lcom/example/faultscope/faultscope/bpmn/NodeClassifier$Catcher;"
abbrev z6 : String := "(Lcom/example/faultscope/faultscope/bpmn/NodeKind;Ljava/lang/String;Lcom/example/faultscope/faultscope/bpmn/NodeClassifier$Catcher;Ljava/lang/String;)V"
abbrev z7 : String := "(Lcom/example/faultscope/faultscope/bpmn/NodeKind;)Lcom/example/faultscope/faultscope/bpmn/NodeClassifier$Classification;"
abbrev z8 : String := "Ljava/lang/String;"
abbrev z9 : String := "()Lcom/example/faultscope/faultscope/bpmn/NodeKind;"
abbrev z10 : String := "com/example/faultscope/faultscope/bpmn/ClassificationRunsPinLaw"
abbrev z11 : String := "()Lcom/example/faultscope/faultscope/bpmn/NodeClassifier$Catcher;"
abbrev z12 : String := "()Ljava/lang/String;"
abbrev z13 : String := "java/lang/Record"
def SF (Z : State) (w0 : Addr) (w1 : Addr) (w2 : Addr) (w3 : Addr) (w4 : Addr) (w5 : Addr) (w6 : Addr) (w7 : Addr) (w8 : Addr) (w9 : Addr) (w10 : Addr) (w11 : Addr) (w12 : Addr) (w13 : Addr) (w14 : Addr) (w15 : Addr) (w16 : Addr) (w17 : Addr) : Prop := Sta Z Z.heap z2 "NONE" z5 (.ref w0) ∧ Exa Z Z.heap w0 z2 ∧ Sta Z Z.heap z1 "CALL_ACTIVITY" z4 (.ref w1) ∧ Exa Z Z.heap w1 z1 ∧ Sta Z Z.heap z1 "END_EVENT" z4 (.ref w2) ∧ Exa Z Z.heap w2 z1 ∧ Sta Z Z.heap z1 "ERROR_BOUNDARY_EVENT" z4 (.ref w3) ∧ Exa Z Z.heap w3 z1 ∧ Sta Z Z.heap z1 "ERROR_END_EVENT" z4 (.ref w4) ∧ Exa Z Z.heap w4 z1 ∧ Sta Z Z.heap z1 "ERROR_EVENT_SUBPROCESS" z4 (.ref w5) ∧ Exa Z Z.heap w5 z1 ∧ Sta Z Z.heap z1 "EVENT_BASED_GATEWAY" z4 (.ref w6) ∧ Exa Z Z.heap w6 z1 ∧ Sta Z Z.heap z1 "EXCLUSIVE_GATEWAY" z4 (.ref w7) ∧ Exa Z Z.heap w7 z1 ∧ Sta Z Z.heap z1 "FIRED_BOUNDARY_EVENT" z4 (.ref w8) ∧ Exa Z Z.heap w8 z1 ∧ Sta Z Z.heap z1 "FIRED_CATCH_EVENT" z4 (.ref w9) ∧ Exa Z Z.heap w9 z1 ∧ Sta Z Z.heap z1 "INTERMEDIATE_THROW_EVENT" z4 (.ref w10) ∧ Exa Z Z.heap w10 z1 ∧ Sta Z Z.heap z1 "MESSAGE_THROW_EVENT" z4 (.ref w11) ∧ Exa Z Z.heap w11 z1 ∧ Sta Z Z.heap z1 "PARALLEL_GATEWAY" z4 (.ref w12) ∧ Exa Z Z.heap w12 z1 ∧ Sta Z Z.heap z1 "START_EVENT" z4 (.ref w13) ∧ Exa Z Z.heap w13 z1 ∧ Sta Z Z.heap z1 "SUBPROCESS" z4 (.ref w14) ∧ Exa Z Z.heap w14 z1 ∧ Sta Z Z.heap z1 "TASK" z4 (.ref w15) ∧ Exa Z Z.heap w15 z1 ∧ Sta Z Z.heap z1 "TERMINATE_END_EVENT" z4 (.ref w16) ∧ Exa Z Z.heap w16 z1 ∧ Sta Z Z.heap z1 "UNSUPPORTED" z4 (.ref w17) ∧ Exa Z Z.heap w17 z1
theorem m0 : (Jvm.Cond.classLink z10 (7 : Nat) z1) ∈ tables_1 := List.mem_of_getElem? (i := 0) rfl
theorem m1 : (Jvm.Cond.arrayOver (FieldType.object z1)) ∈ tables_1 := List.mem_of_getElem? (i := 1) rfl
theorem m2 : (Jvm.Cond.fieldLink z10 (9 : Nat) z1 "START_EVENT" z4) ∈ tables_1 := List.mem_of_getElem? (i := 2) rfl
theorem m6 : (Jvm.Cond.fieldLink z10 (13 : Nat) z1 "END_EVENT" z4) ∈ tables_1 := List.mem_of_getElem? (i := 6) rfl
theorem m8 : (Jvm.Cond.fieldLink z10 (16 : Nat) z1 "INTERMEDIATE_THROW_EVENT" z4) ∈ tables_1 := List.mem_of_getElem? (i := 8) rfl
theorem m10 : (Jvm.Cond.fieldLink z10 (19 : Nat) z1 "MESSAGE_THROW_EVENT" z4) ∈ tables_1 := List.mem_of_getElem? (i := 10) rfl
theorem m12 : (Jvm.Cond.fieldLink z10 (22 : Nat) z1 "TERMINATE_END_EVENT" z4) ∈ tables_1 := List.mem_of_getElem? (i := 12) rfl
theorem m14 : (Jvm.Cond.fieldLink z10 (25 : Nat) z1 "ERROR_END_EVENT" z4) ∈ tables_1 := List.mem_of_getElem? (i := 14) rfl
theorem m16 : (Jvm.Cond.fieldLink z10 (28 : Nat) z1 "FIRED_CATCH_EVENT" z4) ∈ tables_1 := List.mem_of_getElem? (i := 16) rfl
theorem m18 : (Jvm.Cond.fieldLink z10 (31 : Nat) z1 "EXCLUSIVE_GATEWAY" z4) ∈ tables_1 := List.mem_of_getElem? (i := 18) rfl
theorem m20 : (Jvm.Cond.fieldLink z10 (34 : Nat) z1 "PARALLEL_GATEWAY" z4) ∈ tables_1 := List.mem_of_getElem? (i := 20) rfl
theorem m22 : (Jvm.Cond.fieldLink z10 (37 : Nat) z1 "EVENT_BASED_GATEWAY" z4) ∈ tables_1 := List.mem_of_getElem? (i := 22) rfl
theorem m24 : (Jvm.Cond.fieldLink z10 (40 : Nat) z1 "TASK" z4) ∈ tables_1 := List.mem_of_getElem? (i := 24) rfl
theorem m26 : (Jvm.Cond.fieldLink z10 (43 : Nat) z1 "SUBPROCESS" z4) ∈ tables_1 := List.mem_of_getElem? (i := 26) rfl
theorem m28 : (Jvm.Cond.fieldLink z10 (46 : Nat) z1 "CALL_ACTIVITY" z4) ∈ tables_1 := List.mem_of_getElem? (i := 28) rfl
theorem m30 : (Jvm.Cond.fieldLink z10 (49 : Nat) z1 "ERROR_EVENT_SUBPROCESS" z4) ∈ tables_1 := List.mem_of_getElem? (i := 30) rfl
theorem m32 : (Jvm.Cond.fieldLink z10 (52 : Nat) z1 "FIRED_BOUNDARY_EVENT" z4) ∈ tables_1 := List.mem_of_getElem? (i := 32) rfl
theorem m34 : (Jvm.Cond.fieldLink z10 (55 : Nat) z1 "ERROR_BOUNDARY_EVENT" z4) ∈ tables_1 := List.mem_of_getElem? (i := 34) rfl
theorem m36 : (Jvm.Cond.fieldLink z10 (58 : Nat) z1 "UNSUPPORTED" z4) ∈ tables_1 := List.mem_of_getElem? (i := 36) rfl
theorem m38 : (Jvm.Cond.constant z10 (61 : Nat) (2147483647 : Int32)) ∈ tables_1 := List.mem_of_getElem? (i := 38) rfl
theorem en_20 (t : Int32) (q : 0 ≤ t.toInt ∧ t.toInt ≤ 16) : t = (0 : Int32) ∨ t = (1 : Int32) ∨ t = (2 : Int32) ∨ t = (3 : Int32) ∨ t = (4 : Int32) ∨ t = (5 : Int32) ∨ t = (6 : Int32) ∨ t = (7 : Int32) ∨ t = (8 : Int32) ∨ t = (9 : Int32) ∨ t = (10 : Int32) ∨ t = (11 : Int32) ∨ t = (12 : Int32) ∨ t = (13 : Int32) ∨ t = (14 : Int32) ∨ t = (15 : Int32) ∨ t = (16 : Int32) := by
  have q' : t.toInt = 0 ∨ t.toInt = 1 ∨ t.toInt = 2 ∨ t.toInt = 3 ∨ t.toInt = 4 ∨ t.toInt = 5 ∨ t.toInt = 6 ∨ t.toInt = 7 ∨ t.toInt = 8 ∨ t.toInt = 9 ∨ t.toInt = 10 ∨ t.toInt = 11 ∨ t.toInt = 12 ∨ t.toInt = 13 ∨ t.toInt = 14 ∨ t.toInt = 15 ∨ t.toInt = 16 := by omega
  rcases q' with r | r | r | r | r | r | r | r | r | r | r | r | r | r | r | r | r
  · exact Or.inl (Int32.toInt_inj.mp (r.trans (by decide)))
  · exact Or.inr (Or.inl (Int32.toInt_inj.mp (r.trans (by decide))))
  · exact Or.inr (Or.inr (Or.inl (Int32.toInt_inj.mp (r.trans (by decide)))))
  · exact Or.inr (Or.inr (Or.inr (Or.inl (Int32.toInt_inj.mp (r.trans (by decide))))))
  · exact Or.inr (Or.inr (Or.inr (Or.inr (Or.inl (Int32.toInt_inj.mp (r.trans (by decide)))))))
  · exact Or.inr (Or.inr (Or.inr (Or.inr (Or.inr (Or.inl (Int32.toInt_inj.mp (r.trans (by decide))))))))
  · exact Or.inr (Or.inr (Or.inr (Or.inr (Or.inr (Or.inr (Or.inl (Int32.toInt_inj.mp (r.trans (by decide)))))))))
  · exact Or.inr (Or.inr (Or.inr (Or.inr (Or.inr (Or.inr (Or.inr (Or.inl (Int32.toInt_inj.mp (r.trans (by decide))))))))))
  · exact Or.inr (Or.inr (Or.inr (Or.inr (Or.inr (Or.inr (Or.inr (Or.inr (Or.inl (Int32.toInt_inj.mp (r.trans (by decide)))))))))))
  · exact Or.inr (Or.inr (Or.inr (Or.inr (Or.inr (Or.inr (Or.inr (Or.inr (Or.inr (Or.inl (Int32.toInt_inj.mp (r.trans (by decide))))))))))))
  · exact Or.inr (Or.inr (Or.inr (Or.inr (Or.inr (Or.inr (Or.inr (Or.inr (Or.inr (Or.inr (Or.inl (Int32.toInt_inj.mp (r.trans (by decide)))))))))))))
  · exact Or.inr (Or.inr (Or.inr (Or.inr (Or.inr (Or.inr (Or.inr (Or.inr (Or.inr (Or.inr (Or.inr (Or.inl (Int32.toInt_inj.mp (r.trans (by decide))))))))))))))
  · exact Or.inr (Or.inr (Or.inr (Or.inr (Or.inr (Or.inr (Or.inr (Or.inr (Or.inr (Or.inr (Or.inr (Or.inr (Or.inl (Int32.toInt_inj.mp (r.trans (by decide)))))))))))))))
  · exact Or.inr (Or.inr (Or.inr (Or.inr (Or.inr (Or.inr (Or.inr (Or.inr (Or.inr (Or.inr (Or.inr (Or.inr (Or.inr (Or.inl (Int32.toInt_inj.mp (r.trans (by decide))))))))))))))))
  · exact Or.inr (Or.inr (Or.inr (Or.inr (Or.inr (Or.inr (Or.inr (Or.inr (Or.inr (Or.inr (Or.inr (Or.inr (Or.inr (Or.inr (Or.inl (Int32.toInt_inj.mp (r.trans (by decide)))))))))))))))))
  · exact Or.inr (Or.inr (Or.inr (Or.inr (Or.inr (Or.inr (Or.inr (Or.inr (Or.inr (Or.inr (Or.inr (Or.inr (Or.inr (Or.inr (Or.inr (Or.inl (Int32.toInt_inj.mp (r.trans (by decide))))))))))))))))))
  · exact Or.inr (Or.inr (Or.inr (Or.inr (Or.inr (Or.inr (Or.inr (Or.inr (Or.inr (Or.inr (Or.inr (Or.inr (Or.inr (Or.inr (Or.inr (Or.inr ((Int32.toInt_inj.mp (r.trans (by decide)))))))))))))))))))
theorem m39 : (Jvm.Cond.methodLink z10 (62 : Nat) (⟨z0, "runs", z7⟩ : MethodName)) ∈ tables_1 := List.mem_of_getElem? (i := 39) rfl
theorem d1_0 : decode prog_27_method_2_code 0 = .ok (.new 8, 3) := by decide +kernel
theorem m43 : (Jvm.Cond.classLink z0 (8 : Nat) z0) ∈ tables_1 := List.mem_of_getElem? (i := 43) rfl
theorem m44 : (Jvm.Cond.instantiable z0 (4 : Nat)) ∈ tables_1 := List.mem_of_getElem? (i := 44) rfl
theorem m41 : (Jvm.Cond.initialized z0) ∈ tables_1 := List.mem_of_getElem? (i := 41) rfl
theorem m68 : (Jvm.Cond.laysFinal z0 z0 "kind" z4) ∈ tables_1 := List.mem_of_getElem? (i := 68) rfl
theorem m70 : (Jvm.Cond.laysFinal z0 z0 "limitation" z8) ∈ tables_1 := List.mem_of_getElem? (i := 70) rfl
theorem m72 : (Jvm.Cond.laysFinal z0 z0 "catcher" z5) ∈ tables_1 := List.mem_of_getElem? (i := 72) rfl
theorem m74 : (Jvm.Cond.laysFinal z0 z0 "errorCode" z8) ∈ tables_1 := List.mem_of_getElem? (i := 74) rfl
theorem d1_3 : decode prog_27_method_2_code 3 = .ok (.dup, 1) := by decide +kernel
theorem d1_4 : decode prog_27_method_2_code 4 = .ok (.aload_n 0, 1) := by decide +kernel
theorem d1_5 : decode prog_27_method_2_code 5 = .ok (.ldc 24, 2) := by decide +kernel
theorem m45 : (Jvm.Cond.stringLink z0 (24 : Nat) "") ∈ tables_1 := List.mem_of_getElem? (i := 45) rfl
theorem d1_7 : decode prog_27_method_2_code 7 = .ok (.getstatic 26, 3) := by decide +kernel
theorem m53 : (Jvm.Cond.fieldLink z0 (26 : Nat) z2 "NONE" z5) ∈ tables_1 := List.mem_of_getElem? (i := 53) rfl
theorem d1_10 : decode prog_27_method_2_code 10 = .ok (.ldc 24, 2) := by decide +kernel
theorem d1_12 : decode prog_27_method_2_code 12 = .ok (.invokespecial 31, 3) := by decide +kernel
theorem m56 : (Jvm.Cond.methodLink z0 (31 : Nat) (⟨z0, "<init>", z6⟩ : MethodName)) ∈ tables_1 := List.mem_of_getElem? (i := 56) rfl
theorem d2_0 : decode prog_27_method_1_code 0 = .ok (.aload_n 0, 1) := by decide +kernel
theorem d2_1 : decode prog_27_method_1_code 1 = .ok (.invokespecial 1, 3) := by decide +kernel
theorem m59 : (Jvm.Cond.methodLink z0 (1 : Nat) (⟨z13, "<init>", "()V"⟩ : MethodName)) ∈ tables_1 := List.mem_of_getElem? (i := 59) rfl
theorem d3_0 : decode jdk_30_method_1_code 0 = .ok (.aload_n 0, 1) := by decide +kernel
theorem d3_1 : decode jdk_30_method_1_code 1 = .ok (.invokespecial 1, 3) := by decide +kernel
theorem m64 : (Jvm.Cond.methodLink z13 (1 : Nat) (⟨"java/lang/Object", "<init>", "()V"⟩ : MethodName)) ∈ tables_1 := List.mem_of_getElem? (i := 64) rfl
theorem m66 : (Jvm.Cond.code (⟨"java/lang/Object", "<init>", "()V"⟩ : MethodName) object_method_1_code (1 : Nat) (Option.none : Option Jvm.ClassFile.FieldType)) ∈ tables_1 := List.mem_of_getElem? (i := 66) rfl
theorem m65 : (Jvm.Cond.instanceMethod (⟨"java/lang/Object", "<init>", "()V"⟩ : MethodName)) ∈ tables_1 := List.mem_of_getElem? (i := 65) rfl
theorem d3_4 : decode jdk_30_method_1_code 4 = .ok (.return_, 1) := by decide +kernel
theorem ef48 (m : MethodId) (x0 : Addr) : entryFrame m #[(.ref x0)] 1 = mkF m 0 #[.val (.ref x0)] [] := by first | (simp [entryFrame, mkF, argsToLocals, Value.category]; done) | rfl
theorem pn49 : plainName z13 = true := by first | (simp [plainName, overriddenIn]; done) | decide +kernel
theorem m63 : (Jvm.Cond.code (⟨z13, "<init>", "()V"⟩ : MethodName) jdk_30_method_1_code (1 : Nat) (Option.none : Option Jvm.ClassFile.FieldType)) ∈ tables_1 := List.mem_of_getElem? (i := 63) rfl
theorem m62 : (Jvm.Cond.initialized z13) ∈ tables_1 := List.mem_of_getElem? (i := 62) rfl
theorem pd52 : parseMethodDescriptor "()V" = some ⟨[], none⟩ := by decide +kernel
theorem m60 : (Jvm.Cond.instanceMethod (⟨z13, "<init>", "()V"⟩ : MethodName)) ∈ tables_1 := List.mem_of_getElem? (i := 60) rfl
theorem d2_4 : decode prog_27_method_1_code 4 = .ok (.aload_n 0, 1) := by decide +kernel
theorem d2_5 : decode prog_27_method_1_code 5 = .ok (.aload_n 1, 1) := by decide +kernel
theorem d2_6 : decode prog_27_method_1_code 6 = .ok (.putfield 7, 3) := by decide +kernel
theorem m67 : (Jvm.Cond.fieldLink z0 (7 : Nat) z0 "kind" z4) ∈ tables_1 := List.mem_of_getElem? (i := 67) rfl
theorem d2_9 : decode prog_27_method_1_code 9 = .ok (.aload_n 0, 1) := by decide +kernel
theorem d2_10 : decode prog_27_method_1_code 10 = .ok (.aload_n 2, 1) := by decide +kernel
theorem d2_11 : decode prog_27_method_1_code 11 = .ok (.putfield 13, 3) := by decide +kernel
theorem m69 : (Jvm.Cond.fieldLink z0 (13 : Nat) z0 "limitation" z8) ∈ tables_1 := List.mem_of_getElem? (i := 69) rfl
theorem d2_14 : decode prog_27_method_1_code 14 = .ok (.aload_n 0, 1) := by decide +kernel
theorem d2_15 : decode prog_27_method_1_code 15 = .ok (.aload_n 3, 1) := by decide +kernel
theorem d2_16 : decode prog_27_method_1_code 16 = .ok (.putfield 17, 3) := by decide +kernel
theorem m71 : (Jvm.Cond.fieldLink z0 (17 : Nat) z0 "catcher" z5) ∈ tables_1 := List.mem_of_getElem? (i := 71) rfl
theorem d2_19 : decode prog_27_method_1_code 19 = .ok (.aload_n 0, 1) := by decide +kernel
theorem d2_20 : decode prog_27_method_1_code 20 = .ok (.aload 4, 2) := by decide +kernel
theorem d2_22 : decode prog_27_method_1_code 22 = .ok (.putfield 21, 3) := by decide +kernel
theorem m73 : (Jvm.Cond.fieldLink z0 (21 : Nat) z0 "errorCode" z8) ∈ tables_1 := List.mem_of_getElem? (i := 73) rfl
theorem d2_25 : decode prog_27_method_1_code 25 = .ok (.return_, 1) := by decide +kernel
theorem ef71 (m : MethodId) (x0 : Addr) (x1 : Addr) (x2 : Addr) (x3 : Addr) (x4 : Addr) : entryFrame m #[(.ref x0), (.ref x1), (.ref x2), (.ref x3), (.ref x4)] 5 = mkF m 0 #[.val (.ref x0), .val (.ref x1), .val (.ref x2), .val (.ref x3), .val (.ref x4)] [] := by first | (simp [entryFrame, mkF, argsToLocals, Value.category]; done) | rfl
theorem pn72 : plainName z0 = true := by first | (simp [plainName, overriddenIn]; done) | decide +kernel
theorem m58 : (Jvm.Cond.code (⟨z0, "<init>", z6⟩ : MethodName) prog_27_method_1_code (5 : Nat) (Option.none : Option Jvm.ClassFile.FieldType)) ∈ tables_1 := List.mem_of_getElem? (i := 58) rfl
theorem pd74 : parseMethodDescriptor z6 = some ⟨[(.object z1), (.object z3), (.object z2), (.object z3)], none⟩ := by decide +kernel
theorem m57 : (Jvm.Cond.instanceMethod (⟨z0, "<init>", z6⟩ : MethodName)) ∈ tables_1 := List.mem_of_getElem? (i := 57) rfl
theorem d1_15 : decode prog_27_method_2_code 15 = .ok (.areturn, 1) := by decide +kernel
theorem m42 : (Jvm.Cond.code (⟨z0, "runs", z7⟩ : MethodName) prog_27_method_2_code (1 : Nat) (Option.some (FieldType.object z0))) ∈ tables_1 := List.mem_of_getElem? (i := 42) rfl
theorem pd78 : parseMethodDescriptor z7 = some ⟨[(.object z1)], some (.object z0)⟩ := by decide +kernel
theorem m40 : (Jvm.Cond.static (⟨z0, "runs", z7⟩ : MethodName)) ∈ tables_1 := List.mem_of_getElem? (i := 40) rfl
theorem m75 : (Jvm.Cond.methodLink z10 (68 : Nat) (⟨z0, "kind", z9⟩ : MethodName)) ∈ tables_1 := List.mem_of_getElem? (i := 75) rfl
theorem m78 : (Jvm.Cond.selects z0 (⟨z0, "kind", z9⟩ : MethodName) (⟨z0, "kind", z9⟩ : MethodName)) ∈ tables_1 := List.mem_of_getElem? (i := 78) rfl
theorem d5_0 : decode prog_27_method_7_code 0 = .ok (.aload_n 0, 1) := by decide +kernel
theorem d5_1 : decode prog_27_method_7_code 1 = .ok (.getfield 7, 3) := by decide +kernel
theorem d5_4 : decode prog_27_method_7_code 4 = .ok (.areturn, 1) := by decide +kernel
theorem m79 : (Jvm.Cond.code (⟨z0, "kind", z9⟩ : MethodName) prog_27_method_7_code (1 : Nat) (Option.some (FieldType.object z1))) ∈ tables_1 := List.mem_of_getElem? (i := 79) rfl
theorem pd86 : parseMethodDescriptor z9 = some ⟨[], some (.object z1)⟩ := by decide +kernel
theorem m76 : (Jvm.Cond.declares (⟨z0, "kind", z9⟩ : MethodName)) ∈ tables_1 := List.mem_of_getElem? (i := 76) rfl
theorem m77 : (Jvm.Cond.instanceMethod (⟨z0, "kind", z9⟩ : MethodName)) ∈ tables_1 := List.mem_of_getElem? (i := 77) rfl
theorem m80 : (Jvm.Cond.methodLink z10 (72 : Nat) (⟨z0, "limitation", z12⟩ : MethodName)) ∈ tables_1 := List.mem_of_getElem? (i := 80) rfl
theorem m83 : (Jvm.Cond.selects z0 (⟨z0, "limitation", z12⟩ : MethodName) (⟨z0, "limitation", z12⟩ : MethodName)) ∈ tables_1 := List.mem_of_getElem? (i := 83) rfl
theorem d6_0 : decode prog_27_method_8_code 0 = .ok (.aload_n 0, 1) := by decide +kernel
theorem d6_1 : decode prog_27_method_8_code 1 = .ok (.getfield 13, 3) := by decide +kernel
theorem d6_4 : decode prog_27_method_8_code 4 = .ok (.areturn, 1) := by decide +kernel
theorem m84 : (Jvm.Cond.code (⟨z0, "limitation", z12⟩ : MethodName) prog_27_method_8_code (1 : Nat) (Option.some (FieldType.object z3))) ∈ tables_1 := List.mem_of_getElem? (i := 84) rfl
theorem pd95 : parseMethodDescriptor z12 = some ⟨[], some (.object z3)⟩ := by decide +kernel
theorem m81 : (Jvm.Cond.declares (⟨z0, "limitation", z12⟩ : MethodName)) ∈ tables_1 := List.mem_of_getElem? (i := 81) rfl
theorem m82 : (Jvm.Cond.instanceMethod (⟨z0, "limitation", z12⟩ : MethodName)) ∈ tables_1 := List.mem_of_getElem? (i := 82) rfl
theorem m85 : (Jvm.Cond.methodLink z10 (76 : Nat) (⟨z3, "isEmpty", "()Z"⟩ : MethodName)) ∈ tables_1 := List.mem_of_getElem? (i := 85) rfl
theorem m88 : (Jvm.Cond.selects z3 (⟨z3, "isEmpty", "()Z"⟩ : MethodName) (⟨z3, "isEmpty", "()Z"⟩ : MethodName)) ∈ tables_1 := List.mem_of_getElem? (i := 88) rfl
theorem d7_0 : decode jdk_42_method_55_code 0 = .ok (.aload_n 0, 1) := by decide +kernel
theorem d7_1 : decode jdk_42_method_55_code 1 = .ok (.getfield 9, 3) := by decide +kernel
theorem m90 : (Jvm.Cond.fieldLink z3 (9 : Nat) z3 "value" "[B") ∈ tables_1 := List.mem_of_getElem? (i := 90) rfl
theorem d7_4 : decode jdk_42_method_55_code 4 = .ok (.arraylength, 1) := by decide +kernel
theorem d7_5 : decode jdk_42_method_55_code 5 = .ok (.ifCond .ne 7, 3) := by decide +kernel
theorem d7_8 : decode jdk_42_method_55_code 8 = .ok (.iconst 1, 1) := by decide +kernel
theorem d7_9 : decode jdk_42_method_55_code 9 = .ok (.goto 4, 3) := by decide +kernel
theorem d7_13 : decode jdk_42_method_55_code 13 = .ok (.ireturn, 1) := by decide +kernel
theorem pn108 : plainName z3 = true := by first | (simp [plainName, overriddenIn]; done) | decide +kernel
theorem m89 : (Jvm.Cond.code (⟨z3, "isEmpty", "()Z"⟩ : MethodName) jdk_42_method_55_code (1 : Nat) (Option.some FieldType.boolean)) ∈ tables_1 := List.mem_of_getElem? (i := 89) rfl
theorem m46 : (Jvm.Cond.initialized z3) ∈ tables_1 := List.mem_of_getElem? (i := 46) rfl
theorem pd111 : parseMethodDescriptor "()Z" = some ⟨[], some .boolean⟩ := by decide +kernel
theorem m86 : (Jvm.Cond.declares (⟨z3, "isEmpty", "()Z"⟩ : MethodName)) ∈ tables_1 := List.mem_of_getElem? (i := 86) rfl
theorem m87 : (Jvm.Cond.instanceMethod (⟨z3, "isEmpty", "()Z"⟩ : MethodName)) ∈ tables_1 := List.mem_of_getElem? (i := 87) rfl
theorem m91 : (Jvm.Cond.methodLink z10 (82 : Nat) (⟨z0, "catcher", z11⟩ : MethodName)) ∈ tables_1 := List.mem_of_getElem? (i := 91) rfl
theorem m94 : (Jvm.Cond.selects z0 (⟨z0, "catcher", z11⟩ : MethodName) (⟨z0, "catcher", z11⟩ : MethodName)) ∈ tables_1 := List.mem_of_getElem? (i := 94) rfl
theorem d8_0 : decode prog_27_method_9_code 0 = .ok (.aload_n 0, 1) := by decide +kernel
theorem d8_1 : decode prog_27_method_9_code 1 = .ok (.getfield 17, 3) := by decide +kernel
theorem d8_4 : decode prog_27_method_9_code 4 = .ok (.areturn, 1) := by decide +kernel
theorem m95 : (Jvm.Cond.code (⟨z0, "catcher", z11⟩ : MethodName) prog_27_method_9_code (1 : Nat) (Option.some (FieldType.object z2))) ∈ tables_1 := List.mem_of_getElem? (i := 95) rfl
theorem pd120 : parseMethodDescriptor z11 = some ⟨[], some (.object z2)⟩ := by decide +kernel
theorem m92 : (Jvm.Cond.declares (⟨z0, "catcher", z11⟩ : MethodName)) ∈ tables_1 := List.mem_of_getElem? (i := 92) rfl
theorem m93 : (Jvm.Cond.instanceMethod (⟨z0, "catcher", z11⟩ : MethodName)) ∈ tables_1 := List.mem_of_getElem? (i := 93) rfl
theorem m96 : (Jvm.Cond.fieldLink z10 (86 : Nat) z2 "NONE" z5) ∈ tables_1 := List.mem_of_getElem? (i := 96) rfl
theorem m97 : (Jvm.Cond.methodLink z10 (92 : Nat) (⟨z0, "errorCode", z12⟩ : MethodName)) ∈ tables_1 := List.mem_of_getElem? (i := 97) rfl
theorem m100 : (Jvm.Cond.selects z0 (⟨z0, "errorCode", z12⟩ : MethodName) (⟨z0, "errorCode", z12⟩ : MethodName)) ∈ tables_1 := List.mem_of_getElem? (i := 100) rfl
theorem d9_0 : decode prog_27_method_10_code 0 = .ok (.aload_n 0, 1) := by decide +kernel
theorem d9_1 : decode prog_27_method_10_code 1 = .ok (.getfield 21, 3) := by decide +kernel
theorem d9_4 : decode prog_27_method_10_code 4 = .ok (.areturn, 1) := by decide +kernel
theorem m101 : (Jvm.Cond.code (⟨z0, "errorCode", z12⟩ : MethodName) prog_27_method_10_code (1 : Nat) (Option.some (FieldType.object z3))) ∈ tables_1 := List.mem_of_getElem? (i := 101) rfl
theorem m98 : (Jvm.Cond.declares (⟨z0, "errorCode", z12⟩ : MethodName)) ∈ tables_1 := List.mem_of_getElem? (i := 98) rfl
theorem m99 : (Jvm.Cond.instanceMethod (⟨z0, "errorCode", z12⟩ : MethodName)) ∈ tables_1 := List.mem_of_getElem? (i := 99) rfl
theorem ef132 (m : MethodId) (x0 : Int32) : entryFrame m #[(.int x0)] maxLocals = mkF m 0 #[.val (.int x0), .unset, .unset, .unset] [] := by first | (simp [entryFrame, mkF, argsToLocals, Value.category, maxLocals]; done) | rfl
theorem pn133 : plainName z10 = true := by first | (simp [plainName, overriddenIn]; done) | decide +kernel
theorem m54 : (Jvm.Cond.initialized z2) ∈ tables_1 := List.mem_of_getElem? (i := 54) rfl
theorem m55 : (Jvm.Cond.laysStatic z2 "NONE" z5) ∈ tables_1 := List.mem_of_getElem? (i := 55) rfl
theorem m3 : (Jvm.Cond.initialized z1) ∈ tables_1 := List.mem_of_getElem? (i := 3) rfl
theorem m29 : (Jvm.Cond.laysStatic z1 "CALL_ACTIVITY" z4) ∈ tables_1 := List.mem_of_getElem? (i := 29) rfl
theorem m7 : (Jvm.Cond.laysStatic z1 "END_EVENT" z4) ∈ tables_1 := List.mem_of_getElem? (i := 7) rfl
theorem m35 : (Jvm.Cond.laysStatic z1 "ERROR_BOUNDARY_EVENT" z4) ∈ tables_1 := List.mem_of_getElem? (i := 35) rfl
theorem m15 : (Jvm.Cond.laysStatic z1 "ERROR_END_EVENT" z4) ∈ tables_1 := List.mem_of_getElem? (i := 15) rfl
theorem m31 : (Jvm.Cond.laysStatic z1 "ERROR_EVENT_SUBPROCESS" z4) ∈ tables_1 := List.mem_of_getElem? (i := 31) rfl
theorem m23 : (Jvm.Cond.laysStatic z1 "EVENT_BASED_GATEWAY" z4) ∈ tables_1 := List.mem_of_getElem? (i := 23) rfl
theorem m19 : (Jvm.Cond.laysStatic z1 "EXCLUSIVE_GATEWAY" z4) ∈ tables_1 := List.mem_of_getElem? (i := 19) rfl
theorem m33 : (Jvm.Cond.laysStatic z1 "FIRED_BOUNDARY_EVENT" z4) ∈ tables_1 := List.mem_of_getElem? (i := 33) rfl
theorem m17 : (Jvm.Cond.laysStatic z1 "FIRED_CATCH_EVENT" z4) ∈ tables_1 := List.mem_of_getElem? (i := 17) rfl
theorem m9 : (Jvm.Cond.laysStatic z1 "INTERMEDIATE_THROW_EVENT" z4) ∈ tables_1 := List.mem_of_getElem? (i := 9) rfl
theorem m11 : (Jvm.Cond.laysStatic z1 "MESSAGE_THROW_EVENT" z4) ∈ tables_1 := List.mem_of_getElem? (i := 11) rfl
theorem m21 : (Jvm.Cond.laysStatic z1 "PARALLEL_GATEWAY" z4) ∈ tables_1 := List.mem_of_getElem? (i := 21) rfl
theorem m4 : (Jvm.Cond.laysStatic z1 "START_EVENT" z4) ∈ tables_1 := List.mem_of_getElem? (i := 4) rfl
theorem m27 : (Jvm.Cond.laysStatic z1 "SUBPROCESS" z4) ∈ tables_1 := List.mem_of_getElem? (i := 27) rfl
theorem m25 : (Jvm.Cond.laysStatic z1 "TASK" z4) ∈ tables_1 := List.mem_of_getElem? (i := 25) rfl
theorem m13 : (Jvm.Cond.laysStatic z1 "TERMINATE_END_EVENT" z4) ∈ tables_1 := List.mem_of_getElem? (i := 13) rfl
theorem m37 : (Jvm.Cond.laysStatic z1 "UNSUPPORTED" z4) ∈ tables_1 := List.mem_of_getElem? (i := 37) rfl
theorem j2 : (Jvm.Cond.not (Jvm.Cond.eq (Jvm.Term.static z3 "COMPACT_STRINGS" "Z") (Jvm.Term.int (0 : Int32)))) ∈ jdkStatics_1 := List.mem_of_getElem? (i := 2) rfl
theorem m48 : (Jvm.Cond.arrayClass FieldType.byte) ∈ tables_1 := List.mem_of_getElem? (i := 48) rfl
theorem m47 : (Jvm.Cond.instantiable z3 (4 : Nat)) ∈ tables_1 := List.mem_of_getElem? (i := 47) rfl
theorem m49 : (Jvm.Cond.laysFinal z3 z3 "value" "[B") ∈ tables_1 := List.mem_of_getElem? (i := 49) rfl
theorem m50 : (Jvm.Cond.laysFinal z3 z3 "coder" "B") ∈ tables_1 := List.mem_of_getElem? (i := 50) rfl
theorem m51 : (Jvm.Cond.soleField z3 "value") ∈ tables_1 := List.mem_of_getElem? (i := 51) rfl
theorem m52 : (Jvm.Cond.soleField z3 "coder") ∈ tables_1 := List.mem_of_getElem? (i := 52) rfl
def EL : List (String × Nat) := consts_1
theorem own_str {Z : State} {a0 : Array Value} (hw : ∀ d ∈ tables_1, d.before a0 Z = true) (hj : ∀ d ∈ jdkStatics_1, d.before a0 Z = true) : ∀ a ∈ Bundle.stringAtoms, a.before a0 Z = true := fun d hd => by
  simp only [Bundle.stringAtoms, List.mem_cons, List.not_mem_nil, or_false] at hd
  rcases hd with rfl | rfl | rfl | rfl | rfl | rfl | rfl
  · exact (hw _ m46)
  · exact (hw _ m47)
  · exact (hw _ m48)
  · exact (hw _ m49)
  · exact (hw _ m50)
  · exact (hw _ m51)
  · exact (hw _ m52)
theorem own_EW {Z : State} {a0 : Array Value} (hw : ∀ d ∈ tables_1, d.before a0 Z = true) (hj : ∀ d ∈ jdkStatics_1, d.before a0 Z = true) : EW Z a0 EL := (EW.cons (hw _ m45) (by decide) EW.nil)
def Qrm1 (Z : State) (w0 : Addr) (w1 : Addr) (w2 : Addr) (w3 : Addr) (w4 : Addr) (w5 : Addr) (w6 : Addr) (w7 : Addr) (w8 : Addr) (w9 : Addr) (w10 : Addr) (w11 : Addr) (w12 : Addr) (w13 : Addr) (w14 : Addr) (w15 : Addr) (w16 : Addr) (w17 : Addr) (a1 : Addr) (h0 : Heap) (n0 : Nat) (v : Option Value) (h : Heap) (L : List Loc) : Prop := v = none ∧ Fr n0 L ∧ h = h0
set_option maxRecDepth 65536 in
set_option maxHeartbeats 40000000 in
theorem rm1 (l : Launch) (Z : State) (a0 : Array Value) (hw : ∀ d ∈ tables_1, d.before a0 Z = true) (hj : ∀ d ∈ jdkStatics_1, d.before a0 Z = true) (w0 : Addr) (w1 : Addr) (w2 : Addr) (w3 : Addr) (w4 : Addr) (w5 : Addr) (w6 : Addr) (w7 : Addr) (w8 : Addr) (w9 : Addr) (w10 : Addr) (w11 : Addr) (w12 : Addr) (w13 : Addr) (w14 : Addr) (w15 : Addr) (w16 : Addr) (w17 : Addr) (hS : SF Z w0 w1 w2 w3 w4 w5 w6 w7 w8 w9 w10 w11 w12 w13 w14 w15 w16 w17) (ws : List Jvm.Cond) (a1 : Addr) (h0 : Heap) (n0 : Nat) (O0 : Old Z n0 h0) :
    MetFree l (⟨z13, "<init>", "()V"⟩ : MethodName) (head1 (Jvm.Cond.code (⟨z13, "<init>", "()V"⟩ : MethodName) jdk_30_method_1_code 1 none :: ws) ({ frames := 1, cells := 0, slots := 0, locals := 12 } : Room)) (fun a U => a = #[(.ref a1)] ∧ Z.Warmed39 U.vm ∧ U.heap = h0) (fun _ _ _ _ _ => True) (fun _ U o U' => ∃ v L, o = .returned v ∧ Qrm1 Z w0 w1 w2 w3 w4 w5 w6 w7 w8 w9 w10 w11 w12 w13 w14 w15 w16 w17 a1 h0 n0 v U'.heap L ∧ FrameEnd U o U' L ({ frames := 1, cells := 0, slots := 0, locals := 12 } : Room).cells ({ frames := 1, cells := 0, slots := 0, locals := 12 } : Room).slots) := by
  refine MetFree.of_bodySF (plainFor_of_name pn49) hisR ?_
  intro p e s m args below meth c s₁ Bd hml0 hP hK
  obtain ⟨rfl, hZ, hh⟩ := hP
  have hx := Bd.exec
  have hby := Bd.bytes
  have hml : c.maxLocals = 1 := hml0
  have hown : s.vm.findClass z13 = some m.cls := findClass_of_methodNamed Bd.named
  have hnm := (name_of_methodNamed Bd.named Bd.method).1
  have X0 : Stand p l e ({ frames := 1, cells := 0, slots := 0, locals := 12 } : Room) s m #[(.ref a1)] below meth c s₁ [] 0 0 := Stand.of_body Bd
  have e0 : s₁.heap = h0 := by rw [← hh, Bd.state]; rfl
  have N0 := Fr.nil n0
  have pre0 : ∀ t, Steps p.tables e below (s₁.setTop (mkF m 0 #[.val (.ref a1)] [])) t → Steps p.tables e below (s₁.setTop (entryFrame m #[(.ref a1)] 1)) t := fun t k => castTop (ef48 m a1) k
  obtain ⟨T1, X1, e1, st1⟩ := initO X0 hx hZ hown (hw _ m64) (hw _ m65) (hw _ m66) e0 (g := (mkF m 1 #[.val (.ref a1)] [(.ref a1)])) rfl (by rw [hml]; rfl) rfl (hb hby d3_1) (by decide) (W := 0) (by show 2 * 0 + _ ≤ _; exact Nat.le_of_eq rfl) (by decide)
  obtain ⟨fs, hr, hrun, hended, hW, hsame⟩ := X1.leave (v := none) (fun _ => rfl)
  refine ⟨_, _, pre0 _ ?_, hrun, hended, _, _, rfl, ?_, ⟨_, rfl⟩, hW, hsame.mono (by decide) (by decide)⟩
  · show Steps p.tables e below (s₁.setTop (mkF m 0 #[.val (.ref a1)] [])) _
    refine XS.aloadN X0.here hx rfl (hb hby d3_0) rfl rfl ?_
    refine st1 _ ?_
    exact X1.returnOut hx Bd.returns (hb hby d3_4) hr
  · show Qrm1 Z w0 w1 w2 w3 w4 w5 w6 w7 w8 w9 w10 w11 w12 w13 w14 w15 w16 w17 a1 h0 n0 _ T1.heap _
    rw [e1]
    exact ⟨rfl, N0, rfl⟩
def Qrm2 (Z : State) (w0 : Addr) (w1 : Addr) (w2 : Addr) (w3 : Addr) (w4 : Addr) (w5 : Addr) (w6 : Addr) (w7 : Addr) (w8 : Addr) (w9 : Addr) (w10 : Addr) (w11 : Addr) (w12 : Addr) (w13 : Addr) (w14 : Addr) (w15 : Addr) (w16 : Addr) (w17 : Addr) (a1 : Addr) (a2 : Addr) (a3 : Addr) (h0 : Heap) (n0 : Nat) (v : Option Value) (h : Heap) (L : List Loc) : Prop := v = none ∧ Fr n0 L ∧ Keep h0 h [a1] ∧ Fld Z h a1 z0 "kind" z4 (.ref w13) ∧ Fld Z h a1 z0 "limitation" z8 (.ref a2) ∧ Fld Z h a1 z0 "catcher" z5 (.ref w0) ∧ Fld Z h a1 z0 "errorCode" z8 (.ref a3)
set_option maxRecDepth 65536 in
set_option maxHeartbeats 40000000 in
theorem rm2 (l : Launch) (Z : State) (a0 : Array Value) (hw : ∀ d ∈ tables_1, d.before a0 Z = true) (hj : ∀ d ∈ jdkStatics_1, d.before a0 Z = true) (w0 : Addr) (w1 : Addr) (w2 : Addr) (w3 : Addr) (w4 : Addr) (w5 : Addr) (w6 : Addr) (w7 : Addr) (w8 : Addr) (w9 : Addr) (w10 : Addr) (w11 : Addr) (w12 : Addr) (w13 : Addr) (w14 : Addr) (w15 : Addr) (w16 : Addr) (w17 : Addr) (hS : SF Z w0 w1 w2 w3 w4 w5 w6 w7 w8 w9 w10 w11 w12 w13 w14 w15 w16 w17) (ws : List Jvm.Cond) (a1 : Addr) (a2 : Addr) (a3 : Addr) (h0 : Heap) (n0 : Nat) (O0 : Old Z n0 h0) (E1 : Exa Z h0 a1 z0) (F2 : Fld Z h0 a1 z0 "kind" z4 .null) (F3 : Fld Z h0 a1 z0 "limitation" z8 .null) (F4 : Fld Z h0 a1 z0 "catcher" z5 .null) (F5 : Fld Z h0 a1 z0 "errorCode" z8 .null) (g6 : n0 ≤ a1) :
    MetFree l (⟨z0, "<init>", z6⟩ : MethodName) (head1 (Jvm.Cond.code (⟨z0, "<init>", z6⟩ : MethodName) prog_27_method_1_code 5 none :: ws) ({ frames := 2, cells := 0, slots := 0, locals := 24 } : Room)) (fun a U => a = #[(.ref a1), (.ref w13), (.ref a2), (.ref w0), (.ref a3)] ∧ Z.Warmed39 U.vm ∧ U.heap = h0) (fun _ _ _ _ _ => True) (fun _ U o U' => ∃ v L, o = .returned v ∧ Qrm2 Z w0 w1 w2 w3 w4 w5 w6 w7 w8 w9 w10 w11 w12 w13 w14 w15 w16 w17 a1 a2 a3 h0 n0 v U'.heap L ∧ FrameEnd U o U' L ({ frames := 2, cells := 0, slots := 0, locals := 24 } : Room).cells ({ frames := 2, cells := 0, slots := 0, locals := 24 } : Room).slots) := by
  refine MetFree.of_bodySF (plainFor_of_name pn72) hisR ?_
  intro p e s m args below meth c s₁ Bd hml0 hP hK
  obtain ⟨rfl, hZ, hh⟩ := hP
  have hx := Bd.exec
  have hby := Bd.bytes
  have hml : c.maxLocals = 5 := hml0
  have hown : s.vm.findClass z0 = some m.cls := findClass_of_methodNamed Bd.named
  have hnm := (name_of_methodNamed Bd.named Bd.method).1
  have X0 : Stand p l e ({ frames := 2, cells := 0, slots := 0, locals := 24 } : Room) s m #[(.ref a1), (.ref w13), (.ref a2), (.ref w0), (.ref a3)] below meth c s₁ [] 0 0 := Stand.of_body Bd
  have e0 : s₁.heap = h0 := by rw [← hh, Bd.state]; rfl
  have N0 := Fr.nil n0
  have pre0 : ∀ t, Steps p.tables e below (s₁.setTop (mkF m 0 #[.val (.ref a1), .val (.ref w13), .val (.ref a2), .val (.ref w0), .val (.ref a3)] [])) t → Steps p.tables e below (s₁.setTop (entryFrame m #[(.ref a1), (.ref w13), (.ref a2), (.ref w0), (.ref a3)] 5)) t := fun t k => castTop (ef71 m a1 w13 a2 w0 a3) k
  obtain ⟨_, T1, L1, hQ1, X1, st1⟩ := own_special X0 hx hZ (W := 0) rfl hown (hw _ m59) (hw _ m60) (hw _ m62) (hw _ m63) (by decide) (rm1 l Z a0 hw hj w0 w1 w2 w3 w4 w5 w6 w7 w8 w9 w10 w11 w12 w13 w14 w15 w16 w17 hS [] a1 h0 n0 O0) e0 (a := a1) (g := (mkF m 1 #[.val (.ref a1), .val (.ref w13), .val (.ref a2), .val (.ref w0), .val (.ref a3)] [(.ref a1)])) rfl (by rw [hml]; rfl) (argsL := []) (rest := []) (lenOf pd52 rfl) rfl rfl (by show 2 * 0 + _ ≤ _; exact Nat.le_of_eq rfl) (hb hby d2_1) (by decide) (by decide) (by decide) (by decide)
  obtain ⟨rfl, N1q, e1⟩ := hQ1
  have N1 := Fr.app N0 N1q
  have e1' : T1.heap = h0 := e1
  obtain ⟨T2, h2, L'2, X2, e2, W2, Fw2, O2, K2, N2, st2⟩ := own_put X1 hx hZ hown (host := "") (Or.inl (hw _ m67)) Via.refl e1' O0 (Keep.refl h0 [a1]) N1 g6 (Or.inl (List.mem_of_getElem? (i := 0) rfl)) F2 E1 (Or.inr ⟨(hw _ m68), rfl, hnm⟩) (hw _ m44) (ty := (.object z1)) (by decide) rfl rfl (g := (mkF m 6 #[.val (.ref a1), .val (.ref w13), .val (.ref a2), .val (.ref w0), .val (.ref a3)] [(.ref w13), (.ref a1)])) rfl rfl (hb hby d2_6)
  have f3 : Fld Z h2 a1 z0 "limitation" z8 .null := (F3.other W2 (Or.inr (slot_ne (Or.inr (hw _ m70)) (Or.inr (hw _ m68)) (by decide) (t := (.object z3)) (t' := (.object z1)) (by decide) (by decide))))
  have f4 : Exa Z h2 a1 z0 := (E1.wr W2)
  obtain ⟨T5, h5, L'5, X5, e5, W5, Fw5, O5, K5, N5, st5⟩ := own_put X2 hx hZ hown (host := "") (Or.inl (hw _ m69)) Via.refl e2 O2 K2 N2 g6 (Or.inl (List.mem_of_getElem? (i := 0) rfl)) f3 f4 (Or.inr ⟨(hw _ m70), rfl, hnm⟩) (hw _ m44) (ty := (.object z3)) (by decide) rfl rfl (g := (mkF m 11 #[.val (.ref a1), .val (.ref w13), .val (.ref a2), .val (.ref w0), .val (.ref a3)] [(.ref a2), (.ref a1)])) rfl rfl (hb hby d2_11)
  have f6 : Fld Z h5 a1 z0 "catcher" z5 .null := ((F4.other W2 (Or.inr (slot_ne (Or.inr (hw _ m72)) (Or.inr (hw _ m68)) (by decide) (t := (.object z2)) (t' := (.object z1)) (by decide) (by decide)))).other W5 (Or.inr (slot_ne (Or.inr (hw _ m72)) (Or.inr (hw _ m70)) (by decide) (t := (.object z2)) (t' := (.object z3)) (by decide) (by decide))))
  have f7 : Exa Z h5 a1 z0 := (f4.wr W5)
  obtain ⟨T8, h8, L'8, X8, e8, W8, Fw8, O8, K8, N8, st8⟩ := own_put X5 hx hZ hown (host := "") (Or.inl (hw _ m71)) Via.refl e5 O5 K5 N5 g6 (Or.inl (List.mem_of_getElem? (i := 0) rfl)) f6 f7 (Or.inr ⟨(hw _ m72), rfl, hnm⟩) (hw _ m44) (ty := (.object z2)) (by decide) rfl rfl (g := (mkF m 16 #[.val (.ref a1), .val (.ref w13), .val (.ref a2), .val (.ref w0), .val (.ref a3)] [(.ref w0), (.ref a1)])) rfl rfl (hb hby d2_16)
  have f9 : Fld Z h8 a1 z0 "errorCode" z8 .null := (((F5.other W2 (Or.inr (slot_ne (Or.inr (hw _ m74)) (Or.inr (hw _ m68)) (by decide) (t := (.object z3)) (t' := (.object z1)) (by decide) (by decide)))).other W5 (Or.inr (slot_ne (Or.inr (hw _ m74)) (Or.inr (hw _ m70)) (by decide) (t := (.object z3)) (t' := (.object z3)) (by decide) (by decide)))).other W8 (Or.inr (slot_ne (Or.inr (hw _ m74)) (Or.inr (hw _ m72)) (by decide) (t := (.object z3)) (t' := (.object z2)) (by decide) (by decide))))
  have f10 : Exa Z h8 a1 z0 := (f7.wr W8)
  obtain ⟨T11, h11, L'11, X11, e11, W11, Fw11, O11, K11, N11, st11⟩ := own_put X8 hx hZ hown (host := "") (Or.inl (hw _ m73)) Via.refl e8 O8 K8 N8 g6 (Or.inl (List.mem_of_getElem? (i := 0) rfl)) f9 f10 (Or.inr ⟨(hw _ m74), rfl, hnm⟩) (hw _ m44) (ty := (.object z3)) (by decide) rfl rfl (g := (mkF m 22 #[.val (.ref a1), .val (.ref w13), .val (.ref a2), .val (.ref w0), .val (.ref a3)] [(.ref a3), (.ref a1)])) rfl rfl (hb hby d2_22)
  have f12 : Fld Z h11 a1 z0 "kind" z4 (.ref w13) := (((Fw2.other W5 (Or.inr (slot_ne (Or.inr (hw _ m68)) (Or.inr (hw _ m70)) (by decide) (t := (.object z1)) (t' := (.object z3)) (by decide) (by decide)))).other W8 (Or.inr (slot_ne (Or.inr (hw _ m68)) (Or.inr (hw _ m72)) (by decide) (t := (.object z1)) (t' := (.object z2)) (by decide) (by decide)))).other W11 (Or.inr (slot_ne (Or.inr (hw _ m68)) (Or.inr (hw _ m74)) (by decide) (t := (.object z1)) (t' := (.object z3)) (by decide) (by decide))))
  have f13 : Fld Z h11 a1 z0 "limitation" z8 (.ref a2) := ((Fw5.other W8 (Or.inr (slot_ne (Or.inr (hw _ m70)) (Or.inr (hw _ m72)) (by decide) (t := (.object z3)) (t' := (.object z2)) (by decide) (by decide)))).other W11 (Or.inr (slot_ne (Or.inr (hw _ m70)) (Or.inr (hw _ m74)) (by decide) (t := (.object z3)) (t' := (.object z3)) (by decide) (by decide))))
  have f14 : Fld Z h11 a1 z0 "catcher" z5 (.ref w0) := (Fw8.other W11 (Or.inr (slot_ne (Or.inr (hw _ m72)) (Or.inr (hw _ m74)) (by decide) (t := (.object z2)) (t' := (.object z3)) (by decide) (by decide))))
  obtain ⟨fs, hr, hrun, hended, hW, hsame⟩ := X11.leave (v := none) (fun _ => rfl)
  refine ⟨_, _, pre0 _ ?_, hrun, hended, _, _, rfl, ?_, ⟨_, rfl⟩, hW, hsame.mono (by decide) (by decide)⟩
  · show Steps p.tables e below (s₁.setTop (mkF m 0 #[.val (.ref a1), .val (.ref w13), .val (.ref a2), .val (.ref w0), .val (.ref a3)] [])) _
    refine XS.aloadN X0.here hx rfl (hb hby d2_0) rfl rfl ?_
    refine st1 _ ?_
    refine XS.aloadN X1.here hx rfl (hb hby d2_4) rfl rfl ?_
    refine XS.aloadN X1.here hx rfl (hb hby d2_5) rfl rfl ?_
    show Steps p.tables e below (T1.setTop (mkF m 6 #[.val (.ref a1), .val (.ref w13), .val (.ref a2), .val (.ref w0), .val (.ref a3)] [(.ref w13), (.ref a1)])) _
    refine st2 _ ?_
    refine XS.aloadN X2.here hx rfl (hb hby d2_9) rfl rfl ?_
    refine XS.aloadN X2.here hx rfl (hb hby d2_10) rfl rfl ?_
    refine st5 _ ?_
    show Steps p.tables e below (T5.setTop (mkF m 14 #[.val (.ref a1), .val (.ref w13), .val (.ref a2), .val (.ref w0), .val (.ref a3)] [])) _
    refine XS.aloadN X5.here hx rfl (hb hby d2_14) rfl rfl ?_
    refine XS.aloadN X5.here hx rfl (hb hby d2_15) rfl rfl ?_
    refine st8 _ ?_
    refine XS.aloadN X8.here hx rfl (hb hby d2_19) rfl rfl ?_
    show Steps p.tables e below (T8.setTop (mkF m 20 #[.val (.ref a1), .val (.ref w13), .val (.ref a2), .val (.ref w0), .val (.ref a3)] [(.ref a1)])) _
    refine XS.aload X8.here hx rfl (hb hby d2_20) rfl rfl ?_
    refine st11 _ ?_
    exact X11.returnOut hx Bd.returns (hb hby d2_25) hr
  · show Qrm2 Z w0 w1 w2 w3 w4 w5 w6 w7 w8 w9 w10 w11 w12 w13 w14 w15 w16 w17 a1 a2 a3 h0 n0 _ T11.heap _
    rw [e11]
    exact ⟨rfl, N11, K11, f12, f13, f14, Fw11⟩
def Qrm3 (Z : State) (w0 : Addr) (w1 : Addr) (w2 : Addr) (w3 : Addr) (w4 : Addr) (w5 : Addr) (w6 : Addr) (w7 : Addr) (w8 : Addr) (w9 : Addr) (w10 : Addr) (w11 : Addr) (w12 : Addr) (w13 : Addr) (w14 : Addr) (w15 : Addr) (w16 : Addr) (w17 : Addr) (h0 : Heap) (n0 : Nat) (v : Option Value) (h : Heap) (L : List Loc) : Prop := ∃ x0 : Addr, ∃ x1 : Addr, ∃ x2 : Addr, ∃ x3 : Addr, ∃ x4 : Addr, ∃ xk0 : ClassId, ∃ xk1 : ClassId, v = some (.ref x0) ∧ Fr n0 L ∧ Keep h0 h [] ∧ h0.size ≤ x0 ∧ Exa Z h x0 z0 ∧ Fld Z h x0 z0 "kind" z4 (.ref w13) ∧ Fld Z h x0 z0 "limitation" z8 (.ref x1) ∧ Fld Z h x0 z0 "catcher" z5 (.ref w0) ∧ Fld Z h x0 z0 "errorCode" z8 (.ref x2) ∧ Exa Z h x1 z3 ∧ Fld Z h x1 z3 "coder" "B" (.int (0 : Int32)) ∧ Fld Z h x1 z3 "value" "[B" (.ref x3) ∧ Exa Z h x2 z3 ∧ Fld Z h x2 z3 "coder" "B" (.int (0 : Int32)) ∧ Fld Z h x2 z3 "value" "[B" (.ref x4) ∧ Arv Z h x3 xk0 .byte (0 : Int32) [] (.int (0 : Int32)) ∧ Arv Z h x4 xk1 .byte (0 : Int32) [] (.int (0 : Int32))
set_option maxRecDepth 65536 in
set_option maxHeartbeats 40000000 in
theorem rm3 (l : Launch) (Z : State) (a0 : Array Value) (hw : ∀ d ∈ tables_1, d.before a0 Z = true) (hj : ∀ d ∈ jdkStatics_1, d.before a0 Z = true) (w0 : Addr) (w1 : Addr) (w2 : Addr) (w3 : Addr) (w4 : Addr) (w5 : Addr) (w6 : Addr) (w7 : Addr) (w8 : Addr) (w9 : Addr) (w10 : Addr) (w11 : Addr) (w12 : Addr) (w13 : Addr) (w14 : Addr) (w15 : Addr) (w16 : Addr) (w17 : Addr) (hS : SF Z w0 w1 w2 w3 w4 w5 w6 w7 w8 w9 w10 w11 w12 w13 w14 w15 w16 w17) (ws : List Jvm.Cond) (h0 : Heap) (n0 : Nat) (O0 : Old Z n0 h0) :
    MetFree l (⟨z0, "runs", z7⟩ : MethodName) (head1 (Jvm.Cond.code (⟨z0, "runs", z7⟩ : MethodName) prog_27_method_2_code 1 (some (.object z0)) :: ws) ({ frames := 3, cells := 5, slots := 12, locals := 41 } : Room)) (fun a U => a = #[(.ref w13)] ∧ Z.Warmed39 U.vm ∧ U.heap = h0 ∧ CHv Z EL U.vm h0 ∧ ∀ x ∈ ([] : List Addr), Safe Z EL U.vm h0 x) (fun _ _ _ _ _ => True) (fun _ U o U' => ∃ v L, o = .returned v ∧ Qrm3 Z w0 w1 w2 w3 w4 w5 w6 w7 w8 w9 w10 w11 w12 w13 w14 w15 w16 w17 h0 n0 v U'.heap L ∧ CHr Z EL U.vm U.heap U'.vm U'.heap ∧ ReturnedEndW U o U' L ({ frames := 3, cells := 5, slots := 12, locals := 41 } : Room).cells ({ frames := 3, cells := 5, slots := 12, locals := 41 } : Room).slots) := by
  refine MetFree.of_bodySF (plainFor_of_name pn72) hisR ?_
  intro p e s m args below meth c s₁ Bd hml0 hP hK
  obtain ⟨rfl, hZ, hh, H0, hsx⟩ := hP
  have hx := Bd.exec
  have hby := Bd.bytes
  have hml : c.maxLocals = 1 := hml0
  have hown : s.vm.findClass z0 = some m.cls := findClass_of_methodNamed Bd.named
  have hnm := (name_of_methodNamed Bd.named Bd.method).1
  have X0 : Stand p l e ({ frames := 3, cells := 5, slots := 12, locals := 41 } : Room) (s.setVm s.vm) m #[(.ref w13)] below meth c s₁ [] 0 0 := Stand.of_body Bd
  have e0 : s₁.heap = h0 := by rw [← hh, Bd.state]; rfl
  have N0 := Fr.nil n0
  have pre0 : ∀ t, Steps p.tables e below (s₁.setTop (mkF m 0 #[.val (.ref w13)] [])) t → Steps p.tables e below (s₁.setTop (entryFrame m #[(.ref w13)] 1)) t := fun t k => castTop (ef48 m w13) k
  have hS0 : s.Since s.vm h0.size := (State.WarmedH.refl s).since _
  have C0 : CHr Z EL s.vm h0 s.vm h0 := CHr.refl H0
  obtain ⟨T1, h1, b1, X1, e1, E1, A1, D1, g1, O1, K1, st1⟩ := own_newO X0 hx hZ hown (hw _ m43) (hw _ m44) (hw _ m41) e0 O0 (Keep.refl h0 []) (g := (mkF m 0 #[.val (.ref w13)] [])) rfl (hb hby d1_0) (by decide) (by decide)
  have C1 := C0.trans (CHr.ext E1 C0.1)
  have F1_1 : Fld Z h1 b1 z0 "kind" z4 .null := D1 (Or.inr (hw _ m68)) (ty := (.object z1)) (by decide)
  have F1_2 : Fld Z h1 b1 z0 "limitation" z8 .null := D1 (Or.inr (hw _ m70)) (ty := (.object z3)) (by decide)
  have F1_3 : Fld Z h1 b1 z0 "catcher" z5 .null := D1 (Or.inr (hw _ m72)) (ty := (.object z2)) (by decide)
  have F1_4 : Fld Z h1 b1 z0 "errorCode" z8 .null := D1 (Or.inr (hw _ m74)) (ty := (.object z3)) (by decide)
  obtain ⟨sa2, T2, h2, k12, sb2, k2, X2, e2, E2, hS2, hk2, hZ2, hown2, A2, Fc2, Fv2, V2, la2, lb2, Cq2, -, hn2, st2⟩ := ldcCH X1 hx hZ hown (hw _ m45) (own_str hw hj) e1 hS0 (Nat.le_trans (Nat.le_refl _) E1.1) (own_EW hw hj) (List.mem_of_getElem? (i := 0) rfl) C1.1 (vs := []) (z := (0 : Int32)) ⟨by decide, by decide⟩ (by decide) (by decide) (g := (mkF m 5 #[.val (.ref w13)] [(.ref w13), (.ref b1), (.ref b1)])) rfl (hb hby d1_5) (n := 0) (by decide) (by decide) (by decide) (by decide)
  have O2 : Old Z n0 h2 := O1.ext E2
  have K2 : Keep h0 h2 [] := K1.ext E2
  have C2 := C1.trans Cq2
  obtain ⟨T3, X3, e3, st3⟩ := getS2 X2 hx hZ2 hown2 (host := "") (Or.inl (hw _ m53)) Via.refl e2 (hS.1.ext O2.2) (g := (mkF m 7 #[.val (.ref w13)] [(.ref sa2), (.ref w13), (.ref b1), (.ref b1)])) rfl (hb hby d1_7)
  obtain ⟨sa4, T4, h4, k14, sb4, k4, X4, e4, E4, hS4, hk4, hZ4, hown4, A4, Fc4, Fv4, V4, la4, lb4, Cq4, -, hn4, st4⟩ := ldcCH X3 hx hZ2 hown2 (hw _ m45) (own_str hw hj) e3 hS2 hk2 (own_EW hw hj) (List.mem_of_getElem? (i := 0) rfl) C2.1 (vs := []) (z := (0 : Int32)) ⟨by decide, by decide⟩ (by decide) (by decide) (g := (mkF m 10 #[.val (.ref w13)] [(.ref w0), (.ref sa2), (.ref w13), (.ref b1), (.ref b1)])) rfl (hb hby d1_10) (n := 0) (by decide) (by decide) (by decide) (by decide)
  have O4 : Old Z n0 h4 := O2.ext E4
  have K4 : Keep h0 h4 [] := K2.ext E4
  have C4 := C2.trans Cq4
  have f6 : Exa Z h4 b1 z0 := ((A1.ext E2).ext E4)
  have f7 : Fld Z h4 b1 z0 "kind" z4 .null := ((F1_1.ext E2).ext E4)
  have f8 : Fld Z h4 b1 z0 "limitation" z8 .null := ((F1_2.ext E2).ext E4)
  have f9 : Fld Z h4 b1 z0 "catcher" z5 .null := ((F1_3.ext E2).ext E4)
  have f10 : Fld Z h4 b1 z0 "errorCode" z8 .null := ((F1_4.ext E2).ext E4)
  have sf5 := ((sfS (Safe.exa (EL := EL) hZ4.alike f6 (by decide) (by decide)) sf0) : ∀ x ∈ [b1], Safe Z EL T4.vm h4 x)
  obtain ⟨_, T5, L5, hQ5, X5, st5⟩ := own_special X4 hx hZ4 (W := 1) rfl hown4 (hw _ m56) (hw _ m57) (hw _ m41) (hw _ m58) (by decide) (rm2 l Z a0 hw hj w0 w1 w2 w3 w4 w5 w6 w7 w8 w9 w10 w11 w12 w13 w14 w15 w16 w17 hS [] b1 sa2 sa4 h4 n0 O4 f6 f7 f8 f9 f10 (Nat.le_trans (own_old_le O0) g1)) e4 (a := b1) (g := (mkF m 12 #[.val (.ref w13)] [(.ref sa4), (.ref w0), (.ref sa2), (.ref w13), (.ref b1), (.ref b1)])) rfl (by rw [hml]; rfl) (argsL := [(.ref w13), (.ref sa2), (.ref w0), (.ref sa4)]) (rest := [(.ref b1)]) (lenOf pd74 rfl) rfl rfl (by show 2 * 0 + _ ≤ _; exact Nat.le_of_eq rfl) (hb hby d1_12) (by decide) (by decide) (by decide) (by decide)
  obtain ⟨rfl, N5q, Kq5, q5_0, q5_1, q5_2, q5_3⟩ := hQ5
  have N5 := Fr.app N0 N5q
  have C5 := C4.trans (CHr.keep Kq5 sf5 C4.1)
  have O5 : Old Z n0 T5.heap := O4.keep Kq5 (allS (Nat.le_trans (own_old_le O0) g1) all0)
  have K5 : Keep h0 T5.heap [] := K4.trans Kq5 (allS (Or.inr (Nat.le_trans (Keep.refl h0 []).1 g1)) all0)
  have f11 : Exa Z T5.heap b1 z0 := (f6.keep Kq5)
  have f12 : Exa Z T5.heap sa2 z3 := ((A2.ext E4).keep Kq5)
  have f13 : Fld Z T5.heap sa2 z3 "coder" "B" (.int (0 : Int32)) := ((Fc2.ext E4).keep Kq5 (ninS (ne_exa A2 (A1.ext E2) (by decide)) nin0))
  have f14 : Fld Z T5.heap sa2 z3 "value" "[B" (.ref sb2) := ((Fv2.ext E4).keep Kq5 (ninS (ne_exa A2 (A1.ext E2) (by decide)) nin0))
  have f15 : Exa Z T5.heap sa4 z3 := (A4.keep Kq5)
  have f16 : Fld Z T5.heap sa4 z3 "coder" "B" (.int (0 : Int32)) := (Fc4.keep Kq5 (ninS (ne_exa A4 f6 (by decide)) nin0))
  have f17 : Fld Z T5.heap sa4 z3 "value" "[B" (.ref sb4) := (Fv4.keep Kq5 (ninS (ne_exa A4 f6 (by decide)) nin0))
  have f18 : Arv Z T5.heap sb2 k2 .byte (0 : Int32) [] (.int (0 : Int32)) := ((V2.ext E4).keep Kq5 (ninS (Ne.symm (Exa.neArv (A1.ext E2) V2 (hw _ m44))) nin0))
  have f19 : Arv Z T5.heap sb4 k4 .byte (0 : Int32) [] (.int (0 : Int32)) := (V4.keep Kq5 (ninS (Ne.symm (Exa.neArv f6 V4 (hw _ m44))) nin0))
  obtain ⟨fs, hr, hrun, hended, hRW⟩ := X5.leaveW hS4 (by rw [(rfl : T5.heap = T5.heap)]; exact (Nat.le_trans hk4 Kq5.1)) (v := some (.ref b1)) (fun h => by rw [Bd.returns] at h; cases h)
  refine ⟨_, _, pre0 _ ?_, hrun, hended, _, _, rfl, ?_, ?_, hRW⟩
  · show Steps p.tables e below (s₁.setTop (mkF m 0 #[.val (.ref w13)] [])) _
    refine st1 _ ?_
    refine XS.dup X1.here hx rfl (hb hby d1_3) rfl rfl ?_
    refine XS.aloadN X1.here hx rfl (hb hby d1_4) rfl rfl ?_
    refine st2 _ ?_
    show Steps p.tables e below (T2.setTop (mkF m 7 #[.val (.ref w13)] [(.ref sa2), (.ref w13), (.ref b1), (.ref b1)])) _
    refine st3 _ ?_
    refine st4 _ ?_
    refine st5 _ ?_
    exact retOut X5 hx Bd.returns rfl (Or.inr (Or.inr (Or.inr (Or.inr ⟨rfl, rfl, rfl⟩)))) (hb hby d1_15) hr
  · show Qrm3 Z w0 w1 w2 w3 w4 w5 w6 w7 w8 w9 w10 w11 w12 w13 w14 w15 w16 w17 h0 n0 _ T5.heap _
    exact ⟨b1, sa2, sa4, sb2, sb4, k2, k4, rfl, N5, K5, (Nat.le_trans (Keep.refl h0 []).1 g1), f11, q5_0, q5_1, q5_2, q5_3, f12, f13, f14, f15, f16, f17, f18, f19⟩
  · show CHr Z EL _ _ T5.vm T5.heap
    exact own_chr (by rw [← hh]) (rfl : T5.heap = T5.heap) (C5.trans (CHv.at X5 hZ4 (own_EW hw hj) C5.1))
def Qrm4 (Z : State) (w0 : Addr) (w1 : Addr) (w2 : Addr) (w3 : Addr) (w4 : Addr) (w5 : Addr) (w6 : Addr) (w7 : Addr) (w8 : Addr) (w9 : Addr) (w10 : Addr) (w11 : Addr) (w12 : Addr) (w13 : Addr) (w14 : Addr) (w15 : Addr) (w16 : Addr) (w17 : Addr) (a1 : Addr) (h0 : Heap) (n0 : Nat) (v : Option Value) (h : Heap) (L : List Loc) : Prop := v = some (.ref w13) ∧ Fr n0 L ∧ h = h0
set_option maxRecDepth 65536 in
set_option maxHeartbeats 40000000 in
theorem rm4 (l : Launch) (Z : State) (a0 : Array Value) (hw : ∀ d ∈ tables_1, d.before a0 Z = true) (hj : ∀ d ∈ jdkStatics_1, d.before a0 Z = true) (w0 : Addr) (w1 : Addr) (w2 : Addr) (w3 : Addr) (w4 : Addr) (w5 : Addr) (w6 : Addr) (w7 : Addr) (w8 : Addr) (w9 : Addr) (w10 : Addr) (w11 : Addr) (w12 : Addr) (w13 : Addr) (w14 : Addr) (w15 : Addr) (w16 : Addr) (w17 : Addr) (hS : SF Z w0 w1 w2 w3 w4 w5 w6 w7 w8 w9 w10 w11 w12 w13 w14 w15 w16 w17) (ws : List Jvm.Cond) (a1 : Addr) (h0 : Heap) (n0 : Nat) (O0 : Old Z n0 h0) (F1 : Fld Z h0 a1 z0 "kind" z4 (.ref w13)) :
    MetFree l (⟨z0, "kind", z9⟩ : MethodName) (head1 (Jvm.Cond.code (⟨z0, "kind", z9⟩ : MethodName) prog_27_method_7_code 1 (some (.object z1)) :: ws) ({ frames := 0, cells := 0, slots := 0, locals := 0 } : Room)) (fun a U => a = #[(.ref a1)] ∧ Z.Warmed39 U.vm ∧ U.heap = h0) (fun _ _ _ _ _ => True) (fun _ U o U' => ∃ v L, o = .returned v ∧ Qrm4 Z w0 w1 w2 w3 w4 w5 w6 w7 w8 w9 w10 w11 w12 w13 w14 w15 w16 w17 a1 h0 n0 v U'.heap L ∧ FrameEnd U o U' L ({ frames := 0, cells := 0, slots := 0, locals := 0 } : Room).cells ({ frames := 0, cells := 0, slots := 0, locals := 0 } : Room).slots) := by
  refine MetFree.of_bodySF (plainFor_of_name pn72) hisR ?_
  intro p e s m args below meth c s₁ Bd hml0 hP hK
  obtain ⟨rfl, hZ, hh⟩ := hP
  have hx := Bd.exec
  have hby := Bd.bytes
  have hml : c.maxLocals = 1 := hml0
  have hown : s.vm.findClass z0 = some m.cls := findClass_of_methodNamed Bd.named
  have hnm := (name_of_methodNamed Bd.named Bd.method).1
  have X0 : Stand p l e ({ frames := 0, cells := 0, slots := 0, locals := 0 } : Room) s m #[(.ref a1)] below meth c s₁ [] 0 0 := Stand.of_body Bd
  have e0 : s₁.heap = h0 := by rw [← hh, Bd.state]; rfl
  have N0 := Fr.nil n0
  have pre0 : ∀ t, Steps p.tables e below (s₁.setTop (mkF m 0 #[.val (.ref a1)] [])) t → Steps p.tables e below (s₁.setTop (entryFrame m #[(.ref a1)] 1)) t := fun t k => castTop (ef48 m a1) k
  obtain ⟨T1, X1, e1, st1⟩ := getF X0 hx hZ hown (host := "") (Or.inl (hw _ m67)) Via.refl e0 F1 (g := (mkF m 1 #[.val (.ref a1)] [(.ref a1)])) rfl rfl (hb hby d5_1)
  obtain ⟨fs, hr, hrun, hended, hW, hsame⟩ := X1.leave (v := some (.ref w13)) (fun h => by rw [Bd.returns] at h; cases h)
  refine ⟨_, _, pre0 _ ?_, hrun, hended, _, _, rfl, ?_, ⟨_, rfl⟩, hW, hsame.mono (by decide) (by decide)⟩
  · show Steps p.tables e below (s₁.setTop (mkF m 0 #[.val (.ref a1)] [])) _
    refine XS.aloadN X0.here hx rfl (hb hby d5_0) rfl rfl ?_
    refine st1 _ ?_
    exact retOut X1 hx Bd.returns rfl (Or.inr (Or.inr (Or.inr (Or.inr ⟨rfl, rfl, rfl⟩)))) (hb hby d5_4) hr
  · show Qrm4 Z w0 w1 w2 w3 w4 w5 w6 w7 w8 w9 w10 w11 w12 w13 w14 w15 w16 w17 a1 h0 n0 _ T1.heap _
    rw [e1]
    exact ⟨rfl, N0, rfl⟩
def Qrm5 (Z : State) (w0 : Addr) (w1 : Addr) (w2 : Addr) (w3 : Addr) (w4 : Addr) (w5 : Addr) (w6 : Addr) (w7 : Addr) (w8 : Addr) (w9 : Addr) (w10 : Addr) (w11 : Addr) (w12 : Addr) (w13 : Addr) (w14 : Addr) (w15 : Addr) (w16 : Addr) (w17 : Addr) (a1 : Addr) (a2 : Addr) (h0 : Heap) (n0 : Nat) (v : Option Value) (h : Heap) (L : List Loc) : Prop := v = some (.ref a2) ∧ Fr n0 L ∧ h = h0
set_option maxRecDepth 65536 in
set_option maxHeartbeats 40000000 in
theorem rm5 (l : Launch) (Z : State) (a0 : Array Value) (hw : ∀ d ∈ tables_1, d.before a0 Z = true) (hj : ∀ d ∈ jdkStatics_1, d.before a0 Z = true) (w0 : Addr) (w1 : Addr) (w2 : Addr) (w3 : Addr) (w4 : Addr) (w5 : Addr) (w6 : Addr) (w7 : Addr) (w8 : Addr) (w9 : Addr) (w10 : Addr) (w11 : Addr) (w12 : Addr) (w13 : Addr) (w14 : Addr) (w15 : Addr) (w16 : Addr) (w17 : Addr) (hS : SF Z w0 w1 w2 w3 w4 w5 w6 w7 w8 w9 w10 w11 w12 w13 w14 w15 w16 w17) (ws : List Jvm.Cond) (a1 : Addr) (a2 : Addr) (h0 : Heap) (n0 : Nat) (O0 : Old Z n0 h0) (F1 : Fld Z h0 a1 z0 "limitation" z8 (.ref a2)) :
    MetFree l (⟨z0, "limitation", z12⟩ : MethodName) (head1 (Jvm.Cond.code (⟨z0, "limitation", z12⟩ : MethodName) prog_27_method_8_code 1 (some (.object z3)) :: ws) ({ frames := 0, cells := 0, slots := 0, locals := 0 } : Room)) (fun a U => a = #[(.ref a1)] ∧ Z.Warmed39 U.vm ∧ U.heap = h0) (fun _ _ _ _ _ => True) (fun _ U o U' => ∃ v L, o = .returned v ∧ Qrm5 Z w0 w1 w2 w3 w4 w5 w6 w7 w8 w9 w10 w11 w12 w13 w14 w15 w16 w17 a1 a2 h0 n0 v U'.heap L ∧ FrameEnd U o U' L ({ frames := 0, cells := 0, slots := 0, locals := 0 } : Room).cells ({ frames := 0, cells := 0, slots := 0, locals := 0 } : Room).slots) := by
  refine MetFree.of_bodySF (plainFor_of_name pn72) hisR ?_
  intro p e s m args below meth c s₁ Bd hml0 hP hK
  obtain ⟨rfl, hZ, hh⟩ := hP
  have hx := Bd.exec
  have hby := Bd.bytes
  have hml : c.maxLocals = 1 := hml0
  have hown : s.vm.findClass z0 = some m.cls := findClass_of_methodNamed Bd.named
  have hnm := (name_of_methodNamed Bd.named Bd.method).1
  have X0 : Stand p l e ({ frames := 0, cells := 0, slots := 0, locals := 0 } : Room) s m #[(.ref a1)] below meth c s₁ [] 0 0 := Stand.of_body Bd
  have e0 : s₁.heap = h0 := by rw [← hh, Bd.state]; rfl
  have N0 := Fr.nil n0
  have pre0 : ∀ t, Steps p.tables e below (s₁.setTop (mkF m 0 #[.val (.ref a1)] [])) t → Steps p.tables e below (s₁.setTop (entryFrame m #[(.ref a1)] 1)) t := fun t k => castTop (ef48 m a1) k
  obtain ⟨T1, X1, e1, st1⟩ := getF X0 hx hZ hown (host := "") (Or.inl (hw _ m69)) Via.refl e0 F1 (g := (mkF m 1 #[.val (.ref a1)] [(.ref a1)])) rfl rfl (hb hby d6_1)
  obtain ⟨fs, hr, hrun, hended, hW, hsame⟩ := X1.leave (v := some (.ref a2)) (fun h => by rw [Bd.returns] at h; cases h)
  refine ⟨_, _, pre0 _ ?_, hrun, hended, _, _, rfl, ?_, ⟨_, rfl⟩, hW, hsame.mono (by decide) (by decide)⟩
  · show Steps p.tables e below (s₁.setTop (mkF m 0 #[.val (.ref a1)] [])) _
    refine XS.aloadN X0.here hx rfl (hb hby d6_0) rfl rfl ?_
    refine st1 _ ?_
    exact retOut X1 hx Bd.returns rfl (Or.inr (Or.inr (Or.inr (Or.inr ⟨rfl, rfl, rfl⟩)))) (hb hby d6_4) hr
  · show Qrm5 Z w0 w1 w2 w3 w4 w5 w6 w7 w8 w9 w10 w11 w12 w13 w14 w15 w16 w17 a1 a2 h0 n0 _ T1.heap _
    rw [e1]
    exact ⟨rfl, N0, rfl⟩
def Qrm6 (Z : State) (w0 : Addr) (w1 : Addr) (w2 : Addr) (w3 : Addr) (w4 : Addr) (w5 : Addr) (w6 : Addr) (w7 : Addr) (w8 : Addr) (w9 : Addr) (w10 : Addr) (w11 : Addr) (w12 : Addr) (w13 : Addr) (w14 : Addr) (w15 : Addr) (w16 : Addr) (w17 : Addr) (a1 : Addr) (a2 : Addr) (k3 : ClassId) (h0 : Heap) (n0 : Nat) (v : Option Value) (h : Heap) (L : List Loc) : Prop := v = some (.int (1 : Int32)) ∧ Fr n0 L ∧ h = h0
set_option maxRecDepth 65536 in
set_option maxHeartbeats 40000000 in
theorem rm6 (l : Launch) (Z : State) (a0 : Array Value) (hw : ∀ d ∈ tables_1, d.before a0 Z = true) (hj : ∀ d ∈ jdkStatics_1, d.before a0 Z = true) (w0 : Addr) (w1 : Addr) (w2 : Addr) (w3 : Addr) (w4 : Addr) (w5 : Addr) (w6 : Addr) (w7 : Addr) (w8 : Addr) (w9 : Addr) (w10 : Addr) (w11 : Addr) (w12 : Addr) (w13 : Addr) (w14 : Addr) (w15 : Addr) (w16 : Addr) (w17 : Addr) (hS : SF Z w0 w1 w2 w3 w4 w5 w6 w7 w8 w9 w10 w11 w12 w13 w14 w15 w16 w17) (ws : List Jvm.Cond) (a1 : Addr) (a2 : Addr) (k3 : ClassId) (h0 : Heap) (n0 : Nat) (O0 : Old Z n0 h0) (F1 : Fld Z h0 a1 z3 "value" "[B" (.ref a2)) (V2 : Arv Z h0 a2 k3 .byte (0 : Int32) [] (.int (0 : Int32))) :
    MetFree l (⟨z3, "isEmpty", "()Z"⟩ : MethodName) (head1 (Jvm.Cond.code (⟨z3, "isEmpty", "()Z"⟩ : MethodName) jdk_42_method_55_code 1 (some .boolean) :: ws) ({ frames := 0, cells := 0, slots := 0, locals := 0 } : Room)) (fun a U => a = #[(.ref a1)] ∧ Z.Warmed39 U.vm ∧ U.heap = h0) (fun _ _ _ _ _ => True) (fun _ U o U' => ∃ v L, o = .returned v ∧ Qrm6 Z w0 w1 w2 w3 w4 w5 w6 w7 w8 w9 w10 w11 w12 w13 w14 w15 w16 w17 a1 a2 k3 h0 n0 v U'.heap L ∧ FrameEnd U o U' L ({ frames := 0, cells := 0, slots := 0, locals := 0 } : Room).cells ({ frames := 0, cells := 0, slots := 0, locals := 0 } : Room).slots) := by
  refine MetFree.of_bodySF (plainFor_of_name pn108) hisR ?_
  intro p e s m args below meth c s₁ Bd hml0 hP hK
  obtain ⟨rfl, hZ, hh⟩ := hP
  have hx := Bd.exec
  have hby := Bd.bytes
  have hml : c.maxLocals = 1 := hml0
  have hown : s.vm.findClass z3 = some m.cls := findClass_of_methodNamed Bd.named
  have hnm := (name_of_methodNamed Bd.named Bd.method).1
  have X0 : Stand p l e ({ frames := 0, cells := 0, slots := 0, locals := 0 } : Room) s m #[(.ref a1)] below meth c s₁ [] 0 0 := Stand.of_body Bd
  have e0 : s₁.heap = h0 := by rw [← hh, Bd.state]; rfl
  have N0 := Fr.nil n0
  have pre0 : ∀ t, Steps p.tables e below (s₁.setTop (mkF m 0 #[.val (.ref a1)] [])) t → Steps p.tables e below (s₁.setTop (entryFrame m #[(.ref a1)] 1)) t := fun t k => castTop (ef48 m a1) k
  obtain ⟨T1, X1, e1, st1⟩ := getF X0 hx hZ hown (host := "") (Or.inl (hw _ m90)) Via.refl e0 F1 (g := (mkF m 1 #[.val (.ref a1)] [(.ref a1)])) rfl rfl (hb hby d7_1)
  obtain ⟨fs, hr, hrun, hended, hW, hsame⟩ := X1.leave (v := some (.int (1 : Int32))) (fun h => by rw [Bd.returns] at h; cases h)
  refine ⟨_, _, pre0 _ ?_, hrun, hended, _, _, rfl, ?_, ⟨_, rfl⟩, hW, hsame.mono (by decide) (by decide)⟩
  · show Steps p.tables e below (s₁.setTop (mkF m 0 #[.val (.ref a1)] [])) _
    refine XS.aloadN X0.here hx rfl (hb hby d7_0) rfl rfl ?_
    refine st1 _ ?_
    refine own_alen X1 hx hZ e1 V2 (g := (mkF m 4 #[.val (.ref a1)] [(.ref a2)])) rfl rfl (hb hby d7_4) ?_
    refine XS.ifNo X1.here hx rfl (hb hby d7_5) rfl ((if0 _ _).trans (teq (by decide : (0 : Int32) = (0 : Int32))).2) ?_
    show Steps p.tables e below (T1.setTop (mkF m 8 #[.val (.ref a1)] [])) _
    refine XS.iconst X1.here hx rfl (hb hby d7_8) ?_
    refine XS.goto X1.here hx rfl (pc0 := 9) (pc' := 13) rfl (hb hby d7_9) (by decide) (by decide) ?_
    exact retN X1 hx (t := .boolean) Bd.returns (by simp) (hb hby d7_13) hr
  · show Qrm6 Z w0 w1 w2 w3 w4 w5 w6 w7 w8 w9 w10 w11 w12 w13 w14 w15 w16 w17 a1 a2 k3 h0 n0 _ T1.heap _
    rw [e1]
    exact ⟨rfl, N0, rfl⟩
def Qrm7 (Z : State) (w0 : Addr) (w1 : Addr) (w2 : Addr) (w3 : Addr) (w4 : Addr) (w5 : Addr) (w6 : Addr) (w7 : Addr) (w8 : Addr) (w9 : Addr) (w10 : Addr) (w11 : Addr) (w12 : Addr) (w13 : Addr) (w14 : Addr) (w15 : Addr) (w16 : Addr) (w17 : Addr) (a1 : Addr) (h0 : Heap) (n0 : Nat) (v : Option Value) (h : Heap) (L : List Loc) : Prop := v = some (.ref w0) ∧ Fr n0 L ∧ h = h0
set_option maxRecDepth 65536 in
set_option maxHeartbeats 40000000 in
theorem rm7 (l : Launch) (Z : State) (a0 : Array Value) (hw : ∀ d ∈ tables_1, d.before a0 Z = true) (hj : ∀ d ∈ jdkStatics_1, d.before a0 Z = true) (w0 : Addr) (w1 : Addr) (w2 : Addr) (w3 : Addr) (w4 : Addr) (w5 : Addr) (w6 : Addr) (w7 : Addr) (w8 : Addr) (w9 : Addr) (w10 : Addr) (w11 : Addr) (w12 : Addr) (w13 : Addr) (w14 : Addr) (w15 : Addr) (w16 : Addr) (w17 : Addr) (hS : SF Z w0 w1 w2 w3 w4 w5 w6 w7 w8 w9 w10 w11 w12 w13 w14 w15 w16 w17) (ws : List Jvm.Cond) (a1 : Addr) (h0 : Heap) (n0 : Nat) (O0 : Old Z n0 h0) (F1 : Fld Z h0 a1 z0 "catcher" z5 (.ref w0)) :
    MetFree l (⟨z0, "catcher", z11⟩ : MethodName) (head1 (Jvm.Cond.code (⟨z0, "catcher", z11⟩ : MethodName) prog_27_method_9_code 1 (some (.object z2)) :: ws) ({ frames := 0, cells := 0, slots := 0, locals := 0 } : Room)) (fun a U => a = #[(.ref a1)] ∧ Z.Warmed39 U.vm ∧ U.heap = h0) (fun _ _ _ _ _ => True) (fun _ U o U' => ∃ v L, o = .returned v ∧ Qrm7 Z w0 w1 w2 w3 w4 w5 w6 w7 w8 w9 w10 w11 w12 w13 w14 w15 w16 w17 a1 h0 n0 v U'.heap L ∧ FrameEnd U o U' L ({ frames := 0, cells := 0, slots := 0, locals := 0 } : Room).cells ({ frames := 0, cells := 0, slots := 0, locals := 0 } : Room).slots) := by
  refine MetFree.of_bodySF (plainFor_of_name pn72) hisR ?_
  intro p e s m args below meth c s₁ Bd hml0 hP hK
  obtain ⟨rfl, hZ, hh⟩ := hP
  have hx := Bd.exec
  have hby := Bd.bytes
  have hml : c.maxLocals = 1 := hml0
  have hown : s.vm.findClass z0 = some m.cls := findClass_of_methodNamed Bd.named
  have hnm := (name_of_methodNamed Bd.named Bd.method).1
  have X0 : Stand p l e ({ frames := 0, cells := 0, slots := 0, locals := 0 } : Room) s m #[(.ref a1)] below meth c s₁ [] 0 0 := Stand.of_body Bd
  have e0 : s₁.heap = h0 := by rw [← hh, Bd.state]; rfl
  have N0 := Fr.nil n0
  have pre0 : ∀ t, Steps p.tables e below (s₁.setTop (mkF m 0 #[.val (.ref a1)] [])) t → Steps p.tables e below (s₁.setTop (entryFrame m #[(.ref a1)] 1)) t := fun t k => castTop (ef48 m a1) k
  obtain ⟨T1, X1, e1, st1⟩ := getF X0 hx hZ hown (host := "") (Or.inl (hw _ m71)) Via.refl e0 F1 (g := (mkF m 1 #[.val (.ref a1)] [(.ref a1)])) rfl rfl (hb hby d8_1)
  obtain ⟨fs, hr, hrun, hended, hW, hsame⟩ := X1.leave (v := some (.ref w0)) (fun h => by rw [Bd.returns] at h; cases h)
  refine ⟨_, _, pre0 _ ?_, hrun, hended, _, _, rfl, ?_, ⟨_, rfl⟩, hW, hsame.mono (by decide) (by decide)⟩
  · show Steps p.tables e below (s₁.setTop (mkF m 0 #[.val (.ref a1)] [])) _
    refine XS.aloadN X0.here hx rfl (hb hby d8_0) rfl rfl ?_
    refine st1 _ ?_
    exact retOut X1 hx Bd.returns rfl (Or.inr (Or.inr (Or.inr (Or.inr ⟨rfl, rfl, rfl⟩)))) (hb hby d8_4) hr
  · show Qrm7 Z w0 w1 w2 w3 w4 w5 w6 w7 w8 w9 w10 w11 w12 w13 w14 w15 w16 w17 a1 h0 n0 _ T1.heap _
    rw [e1]
    exact ⟨rfl, N0, rfl⟩
def Qrm8 (Z : State) (w0 : Addr) (w1 : Addr) (w2 : Addr) (w3 : Addr) (w4 : Addr) (w5 : Addr) (w6 : Addr) (w7 : Addr) (w8 : Addr) (w9 : Addr) (w10 : Addr) (w11 : Addr) (w12 : Addr) (w13 : Addr) (w14 : Addr) (w15 : Addr) (w16 : Addr) (w17 : Addr) (a1 : Addr) (a2 : Addr) (h0 : Heap) (n0 : Nat) (v : Option Value) (h : Heap) (L : List Loc) : Prop := v = some (.ref a2) ∧ Fr n0 L ∧ h = h0
set_option maxRecDepth 65536 in
set_option maxHeartbeats 40000000 in
theorem rm8 (l : Launch) (Z : State) (a0 : Array Value) (hw : ∀ d ∈ tables_1, d.before a0 Z = true) (hj : ∀ d ∈ jdkStatics_1, d.before a0 Z = true) (w0 : Addr) (w1 : Addr) (w2 : Addr) (w3 : Addr) (w4 : Addr) (w5 : Addr) (w6 : Addr) (w7 : Addr) (w8 : Addr) (w9 : Addr) (w10 : Addr) (w11 : Addr) (w12 : Addr) (w13 : Addr) (w14 : Addr) (w15 : Addr) (w16 : Addr) (w17 : Addr) (hS : SF Z w0 w1 w2 w3 w4 w5 w6 w7 w8 w9 w10 w11 w12 w13 w14 w15 w16 w17) (ws : List Jvm.Cond) (a1 : Addr) (a2 : Addr) (h0 : Heap) (n0 : Nat) (O0 : Old Z n0 h0) (F1 : Fld Z h0 a1 z0 "errorCode" z8 (.ref a2)) :
    MetFree l (⟨z0, "errorCode", z12⟩ : MethodName) (head1 (Jvm.Cond.code (⟨z0, "errorCode", z12⟩ : MethodName) prog_27_method_10_code 1 (some (.object z3)) :: ws) ({ frames := 0, cells := 0, slots := 0, locals := 0 } : Room)) (fun a U => a = #[(.ref a1)] ∧ Z.Warmed39 U.vm ∧ U.heap = h0) (fun _ _ _ _ _ => True) (fun _ U o U' => ∃ v L, o = .returned v ∧ Qrm8 Z w0 w1 w2 w3 w4 w5 w6 w7 w8 w9 w10 w11 w12 w13 w14 w15 w16 w17 a1 a2 h0 n0 v U'.heap L ∧ FrameEnd U o U' L ({ frames := 0, cells := 0, slots := 0, locals := 0 } : Room).cells ({ frames := 0, cells := 0, slots := 0, locals := 0 } : Room).slots) := by
  refine MetFree.of_bodySF (plainFor_of_name pn72) hisR ?_
  intro p e s m args below meth c s₁ Bd hml0 hP hK
  obtain ⟨rfl, hZ, hh⟩ := hP
  have hx := Bd.exec
  have hby := Bd.bytes
  have hml : c.maxLocals = 1 := hml0
  have hown : s.vm.findClass z0 = some m.cls := findClass_of_methodNamed Bd.named
  have hnm := (name_of_methodNamed Bd.named Bd.method).1
  have X0 : Stand p l e ({ frames := 0, cells := 0, slots := 0, locals := 0 } : Room) s m #[(.ref a1)] below meth c s₁ [] 0 0 := Stand.of_body Bd
  have e0 : s₁.heap = h0 := by rw [← hh, Bd.state]; rfl
  have N0 := Fr.nil n0
  have pre0 : ∀ t, Steps p.tables e below (s₁.setTop (mkF m 0 #[.val (.ref a1)] [])) t → Steps p.tables e below (s₁.setTop (entryFrame m #[(.ref a1)] 1)) t := fun t k => castTop (ef48 m a1) k
  obtain ⟨T1, X1, e1, st1⟩ := getF X0 hx hZ hown (host := "") (Or.inl (hw _ m73)) Via.refl e0 F1 (g := (mkF m 1 #[.val (.ref a1)] [(.ref a1)])) rfl rfl (hb hby d9_1)
  obtain ⟨fs, hr, hrun, hended, hW, hsame⟩ := X1.leave (v := some (.ref a2)) (fun h => by rw [Bd.returns] at h; cases h)
  refine ⟨_, _, pre0 _ ?_, hrun, hended, _, _, rfl, ?_, ⟨_, rfl⟩, hW, hsame.mono (by decide) (by decide)⟩
  · show Steps p.tables e below (s₁.setTop (mkF m 0 #[.val (.ref a1)] [])) _
    refine XS.aloadN X0.here hx rfl (hb hby d9_0) rfl rfl ?_
    refine st1 _ ?_
    exact retOut X1 hx Bd.returns rfl (Or.inr (Or.inr (Or.inr (Or.inr ⟨rfl, rfl, rfl⟩)))) (hb hby d9_4) hr
  · show Qrm8 Z w0 w1 w2 w3 w4 w5 w6 w7 w8 w9 w10 w11 w12 w13 w14 w15 w16 w17 a1 a2 h0 n0 _ T1.heap _
    rw [e1]
    exact ⟨rfl, N0, rfl⟩
def Qrm9 (Z : State) (w0 : Addr) (w1 : Addr) (w2 : Addr) (w3 : Addr) (w4 : Addr) (w5 : Addr) (w6 : Addr) (w7 : Addr) (w8 : Addr) (w9 : Addr) (w10 : Addr) (w11 : Addr) (w12 : Addr) (w13 : Addr) (w14 : Addr) (w15 : Addr) (w16 : Addr) (w17 : Addr) (a1 : Addr) (a2 : Addr) (a3 : Addr) (h0 : Heap) (n0 : Nat) (v : Option Value) (h : Heap) (L : List Loc) : Prop := v = none ∧ Fr n0 L ∧ Keep h0 h [a1] ∧ Fld Z h a1 z0 "kind" z4 (.ref w2) ∧ Fld Z h a1 z0 "limitation" z8 (.ref a2) ∧ Fld Z h a1 z0 "catcher" z5 (.ref w0) ∧ Fld Z h a1 z0 "errorCode" z8 (.ref a3)
set_option maxRecDepth 65536 in
set_option maxHeartbeats 40000000 in
theorem rm9 (l : Launch) (Z : State) (a0 : Array Value) (hw : ∀ d ∈ tables_1, d.before a0 Z = true) (hj : ∀ d ∈ jdkStatics_1, d.before a0 Z = true) (w0 : Addr) (w1 : Addr) (w2 : Addr) (w3 : Addr) (w4 : Addr) (w5 : Addr) (w6 : Addr) (w7 : Addr) (w8 : Addr) (w9 : Addr) (w10 : Addr) (w11 : Addr) (w12 : Addr) (w13 : Addr) (w14 : Addr) (w15 : Addr) (w16 : Addr) (w17 : Addr) (hS : SF Z w0 w1 w2 w3 w4 w5 w6 w7 w8 w9 w10 w11 w12 w13 w14 w15 w16 w17) (ws : List Jvm.Cond) (a1 : Addr) (a2 : Addr) (a3 : Addr) (h0 : Heap) (n0 : Nat) (O0 : Old Z n0 h0) (E1 : Exa Z h0 a1 z0) (F2 : Fld Z h0 a1 z0 "kind" z4 .null) (F3 : Fld Z h0 a1 z0 "limitation" z8 .null) (F4 : Fld Z h0 a1 z0 "catcher" z5 .null) (F5 : Fld Z h0 a1 z0 "errorCode" z8 .null) (g6 : n0 ≤ a1) :
    MetFree l (⟨z0, "<init>", z6⟩ : MethodName) (head1 (Jvm.Cond.code (⟨z0, "<init>", z6⟩ : MethodName) prog_27_method_1_code 5 none :: ws) ({ frames := 2, cells := 0, slots := 0, locals := 24 } : Room)) (fun a U => a = #[(.ref a1), (.ref w2), (.ref a2), (.ref w0), (.ref a3)] ∧ Z.Warmed39 U.vm ∧ U.heap = h0) (fun _ _ _ _ _ => True) (fun _ U o U' => ∃ v L, o = .returned v ∧ Qrm9 Z w0 w1 w2 w3 w4 w5 w6 w7 w8 w9 w10 w11 w12 w13 w14 w15 w16 w17 a1 a2 a3 h0 n0 v U'.heap L ∧ FrameEnd U o U' L ({ frames := 2, cells := 0, slots := 0, locals := 24 } : Room).cells ({ frames := 2, cells := 0, slots := 0, locals := 24 } : Room).slots) := by
  refine MetFree.of_bodySF (plainFor_of_name pn72) hisR ?_
  intro p e s m args below meth c s₁ Bd hml0 hP hK
  obtain ⟨rfl, hZ, hh⟩ := hP
  have hx := Bd.exec
  have hby := Bd.bytes
  have hml : c.maxLocals = 5 := hml0
  have hown : s.vm.findClass z0 = some m.cls := findClass_of_methodNamed Bd.named
  have hnm := (name_of_methodNamed Bd.named Bd.method).1
  have X0 : Stand p l e ({ frames := 2, cells := 0, slots := 0, locals := 24 } : Room) s m #[(.ref a1), (.ref w2), (.ref a2), (.ref w0), (.ref a3)] below meth c s₁ [] 0 0 := Stand.of_body Bd
  have e0 : s₁.heap = h0 := by rw [← hh, Bd.state]; rfl
  have N0 := Fr.nil n0
  have pre0 : ∀ t, Steps p.tables e below (s₁.setTop (mkF m 0 #[.val (.ref a1), .val (.ref w2), .val (.ref a2), .val (.ref w0), .val (.ref a3)] [])) t → Steps p.tables e below (s₁.setTop (entryFrame m #[(.ref a1), (.ref w2), (.ref a2), (.ref w0), (.ref a3)] 5)) t := fun t k => castTop (ef71 m a1 w2 a2 w0 a3) k
  obtain ⟨_, T1, L1, hQ1, X1, st1⟩ := own_special X0 hx hZ (W := 0) rfl hown (hw _ m59) (hw _ m60) (hw _ m62) (hw _ m63) (by decide) (rm1 l Z a0 hw hj w0 w1 w2 w3 w4 w5 w6 w7 w8 w9 w10 w11 w12 w13 w14 w15 w16 w17 hS [] a1 h0 n0 O0) e0 (a := a1) (g := (mkF m 1 #[.val (.ref a1), .val (.ref w2), .val (.ref a2), .val (.ref w0), .val (.ref a3)] [(.ref a1)])) rfl (by rw [hml]; rfl) (argsL := []) (rest := []) (lenOf pd52 rfl) rfl rfl (by show 2 * 0 + _ ≤ _; exact Nat.le_of_eq rfl) (hb hby d2_1) (by decide) (by decide) (by decide) (by decide)
  obtain ⟨rfl, N1q, e1⟩ := hQ1
  have N1 := Fr.app N0 N1q
  have e1' : T1.heap = h0 := e1
  obtain ⟨T2, h2, L'2, X2, e2, W2, Fw2, O2, K2, N2, st2⟩ := own_put X1 hx hZ hown (host := "") (Or.inl (hw _ m67)) Via.refl e1' O0 (Keep.refl h0 [a1]) N1 g6 (Or.inl (List.mem_of_getElem? (i := 0) rfl)) F2 E1 (Or.inr ⟨(hw _ m68), rfl, hnm⟩) (hw _ m44) (ty := (.object z1)) (by decide) rfl rfl (g := (mkF m 6 #[.val (.ref a1), .val (.ref w2), .val (.ref a2), .val (.ref w0), .val (.ref a3)] [(.ref w2), (.ref a1)])) rfl rfl (hb hby d2_6)
  have f3 : Fld Z h2 a1 z0 "limitation" z8 .null := (F3.other W2 (Or.inr (slot_ne (Or.inr (hw _ m70)) (Or.inr (hw _ m68)) (by decide) (t := (.object z3)) (t' := (.object z1)) (by decide) (by decide))))
  have f4 : Exa Z h2 a1 z0 := (E1.wr W2)
  obtain ⟨T5, h5, L'5, X5, e5, W5, Fw5, O5, K5, N5, st5⟩ := own_put X2 hx hZ hown (host := "") (Or.inl (hw _ m69)) Via.refl e2 O2 K2 N2 g6 (Or.inl (List.mem_of_getElem? (i := 0) rfl)) f3 f4 (Or.inr ⟨(hw _ m70), rfl, hnm⟩) (hw _ m44) (ty := (.object z3)) (by decide) rfl rfl (g := (mkF m 11 #[.val (.ref a1), .val (.ref w2), .val (.ref a2), .val (.ref w0), .val (.ref a3)] [(.ref a2), (.ref a1)])) rfl rfl (hb hby d2_11)
  have f6 : Fld Z h5 a1 z0 "catcher" z5 .null := ((F4.other W2 (Or.inr (slot_ne (Or.inr (hw _ m72)) (Or.inr (hw _ m68)) (by decide) (t := (.object z2)) (t' := (.object z1)) (by decide) (by decide)))).other W5 (Or.inr (slot_ne (Or.inr (hw _ m72)) (Or.inr (hw _ m70)) (by decide) (t := (.object z2)) (t' := (.object z3)) (by decide) (by decide))))
  have f7 : Exa Z h5 a1 z0 := (f4.wr W5)
  obtain ⟨T8, h8, L'8, X8, e8, W8, Fw8, O8, K8, N8, st8⟩ := own_put X5 hx hZ hown (host := "") (Or.inl (hw _ m71)) Via.refl e5 O5 K5 N5 g6 (Or.inl (List.mem_of_getElem? (i := 0) rfl)) f6 f7 (Or.inr ⟨(hw _ m72), rfl, hnm⟩) (hw _ m44) (ty := (.object z2)) (by decide) rfl rfl (g := (mkF m 16 #[.val (.ref a1), .val (.ref w2), .val (.ref a2), .val (.ref w0), .val (.ref a3)] [(.ref w0), (.ref a1)])) rfl rfl (hb hby d2_16)
  have f9 : Fld Z h8 a1 z0 "errorCode" z8 .null := (((F5.other W2 (Or.inr (slot_ne (Or.inr (hw _ m74)) (Or.inr (hw _ m68)) (by decide) (t := (.object z3)) (t' := (.object z1)) (by decide) (by decide)))).other W5 (Or.inr (slot_ne (Or.inr (hw _ m74)) (Or.inr (hw _ m70)) (by decide) (t := (.object z3)) (t' := (.object z3)) (by decide) (by decide)))).other W8 (Or.inr (slot_ne (Or.inr (hw _ m74)) (Or.inr (hw _ m72)) (by decide) (t := (.object z3)) (t' := (.object z2)) (by decide) (by decide))))
  have f10 : Exa Z h8 a1 z0 := (f7.wr W8)
  obtain ⟨T11, h11, L'11, X11, e11, W11, Fw11, O11, K11, N11, st11⟩ := own_put X8 hx hZ hown (host := "") (Or.inl (hw _ m73)) Via.refl e8 O8 K8 N8 g6 (Or.inl (List.mem_of_getElem? (i := 0) rfl)) f9 f10 (Or.inr ⟨(hw _ m74), rfl, hnm⟩) (hw _ m44) (ty := (.object z3)) (by decide) rfl rfl (g := (mkF m 22 #[.val (.ref a1), .val (.ref w2), .val (.ref a2), .val (.ref w0), .val (.ref a3)] [(.ref a3), (.ref a1)])) rfl rfl (hb hby d2_22)
  have f12 : Fld Z h11 a1 z0 "kind" z4 (.ref w2) := (((Fw2.other W5 (Or.inr (slot_ne (Or.inr (hw _ m68)) (Or.inr (hw _ m70)) (by decide) (t := (.object z1)) (t' := (.object z3)) (by decide) (by decide)))).other W8 (Or.inr (slot_ne (Or.inr (hw _ m68)) (Or.inr (hw _ m72)) (by decide) (t := (.object z1)) (t' := (.object z2)) (by decide) (by decide)))).other W11 (Or.inr (slot_ne (Or.inr (hw _ m68)) (Or.inr (hw _ m74)) (by decide) (t := (.object z1)) (t' := (.object z3)) (by decide) (by decide))))
  have f13 : Fld Z h11 a1 z0 "limitation" z8 (.ref a2) := ((Fw5.other W8 (Or.inr (slot_ne (Or.inr (hw _ m70)) (Or.inr (hw _ m72)) (by decide) (t := (.object z3)) (t' := (.object z2)) (by decide) (by decide)))).other W11 (Or.inr (slot_ne (Or.inr (hw _ m70)) (Or.inr (hw _ m74)) (by decide) (t := (.object z3)) (t' := (.object z3)) (by decide) (by decide))))
  have f14 : Fld Z h11 a1 z0 "catcher" z5 (.ref w0) := (Fw8.other W11 (Or.inr (slot_ne (Or.inr (hw _ m72)) (Or.inr (hw _ m74)) (by decide) (t := (.object z2)) (t' := (.object z3)) (by decide) (by decide))))
  obtain ⟨fs, hr, hrun, hended, hW, hsame⟩ := X11.leave (v := none) (fun _ => rfl)
  refine ⟨_, _, pre0 _ ?_, hrun, hended, _, _, rfl, ?_, ⟨_, rfl⟩, hW, hsame.mono (by decide) (by decide)⟩
  · show Steps p.tables e below (s₁.setTop (mkF m 0 #[.val (.ref a1), .val (.ref w2), .val (.ref a2), .val (.ref w0), .val (.ref a3)] [])) _
    refine XS.aloadN X0.here hx rfl (hb hby d2_0) rfl rfl ?_
    refine st1 _ ?_
    refine XS.aloadN X1.here hx rfl (hb hby d2_4) rfl rfl ?_
    refine XS.aloadN X1.here hx rfl (hb hby d2_5) rfl rfl ?_
    show Steps p.tables e below (T1.setTop (mkF m 6 #[.val (.ref a1), .val (.ref w2), .val (.ref a2), .val (.ref w0), .val (.ref a3)] [(.ref w2), (.ref a1)])) _
    refine st2 _ ?_
    refine XS.aloadN X2.here hx rfl (hb hby d2_9) rfl rfl ?_
    refine XS.aloadN X2.here hx rfl (hb hby d2_10) rfl rfl ?_
    refine st5 _ ?_
    show Steps p.tables e below (T5.setTop (mkF m 14 #[.val (.ref a1), .val (.ref w2), .val (.ref a2), .val (.ref w0), .val (.ref a3)] [])) _
    refine XS.aloadN X5.here hx rfl (hb hby d2_14) rfl rfl ?_
    refine XS.aloadN X5.here hx rfl (hb hby d2_15) rfl rfl ?_
    refine st8 _ ?_
    refine XS.aloadN X8.here hx rfl (hb hby d2_19) rfl rfl ?_
    show Steps p.tables e below (T8.setTop (mkF m 20 #[.val (.ref a1), .val (.ref w2), .val (.ref a2), .val (.ref w0), .val (.ref a3)] [(.ref a1)])) _
    refine XS.aload X8.here hx rfl (hb hby d2_20) rfl rfl ?_
    refine st11 _ ?_
    exact X11.returnOut hx Bd.returns (hb hby d2_25) hr
  · show Qrm9 Z w0 w1 w2 w3 w4 w5 w6 w7 w8 w9 w10 w11 w12 w13 w14 w15 w16 w17 a1 a2 a3 h0 n0 _ T11.heap _
    rw [e11]
    exact ⟨rfl, N11, K11, f12, f13, f14, Fw11⟩
def Qrm10 (Z : State) (w0 : Addr) (w1 : Addr) (w2 : Addr) (w3 : Addr) (w4 : Addr) (w5 : Addr) (w6 : Addr) (w7 : Addr) (w8 : Addr) (w9 : Addr) (w10 : Addr) (w11 : Addr) (w12 : Addr) (w13 : Addr) (w14 : Addr) (w15 : Addr) (w16 : Addr) (w17 : Addr) (h0 : Heap) (n0 : Nat) (v : Option Value) (h : Heap) (L : List Loc) : Prop := ∃ x0 : Addr, ∃ x1 : Addr, ∃ x2 : Addr, ∃ x3 : Addr, ∃ x4 : Addr, ∃ xk0 : ClassId, ∃ xk1 : ClassId, v = some (.ref x0) ∧ Fr n0 L ∧ Keep h0 h [] ∧ h0.size ≤ x0 ∧ Exa Z h x0 z0 ∧ Fld Z h x0 z0 "kind" z4 (.ref w2) ∧ Fld Z h x0 z0 "limitation" z8 (.ref x1) ∧ Fld Z h x0 z0 "catcher" z5 (.ref w0) ∧ Fld Z h x0 z0 "errorCode" z8 (.ref x2) ∧ Exa Z h x1 z3 ∧ Fld Z h x1 z3 "coder" "B" (.int (0 : Int32)) ∧ Fld Z h x1 z3 "value" "[B" (.ref x3) ∧ Exa Z h x2 z3 ∧ Fld Z h x2 z3 "coder" "B" (.int (0 : Int32)) ∧ Fld Z h x2 z3 "value" "[B" (.ref x4) ∧ Arv Z h x3 xk0 .byte (0 : Int32) [] (.int (0 : Int32)) ∧ Arv Z h x4 xk1 .byte (0 : Int32) [] (.int (0 : Int32))
set_option maxRecDepth 65536 in
set_option maxHeartbeats 40000000 in
theorem rm10 (l : Launch) (Z : State) (a0 : Array Value) (hw : ∀ d ∈ tables_1, d.before a0 Z = true) (hj : ∀ d ∈ jdkStatics_1, d.before a0 Z = true) (w0 : Addr) (w1 : Addr) (w2 : Addr) (w3 : Addr) (w4 : Addr) (w5 : Addr) (w6 : Addr) (w7 : Addr) (w8 : Addr) (w9 : Addr) (w10 : Addr) (w11 : Addr) (w12 : Addr) (w13 : Addr) (w14 : Addr) (w15 : Addr) (w16 : Addr) (w17 : Addr) (hS : SF Z w0 w1 w2 w3 w4 w5 w6 w7 w8 w9 w10 w11 w12 w13 w14 w15 w16 w17) (ws : List Jvm.Cond) (h0 : Heap) (n0 : Nat) (O0 : Old Z n0 h0) :
    MetFree l (⟨z0, "runs", z7⟩ : MethodName) (head1 (Jvm.Cond.code (⟨z0, "runs", z7⟩ : MethodName) prog_27_method_2_code 1 (some (.object z0)) :: ws) ({ frames := 3, cells := 5, slots := 12, locals := 41 } : Room)) (fun a U => a = #[(.ref w2)] ∧ Z.Warmed39 U.vm ∧ U.heap = h0 ∧ CHv Z EL U.vm h0 ∧ ∀ x ∈ ([] : List Addr), Safe Z EL U.vm h0 x) (fun _ _ _ _ _ => True) (fun _ U o U' => ∃ v L, o = .returned v ∧ Qrm10 Z w0 w1 w2 w3 w4 w5 w6 w7 w8 w9 w10 w11 w12 w13 w14 w15 w16 w17 h0 n0 v U'.heap L ∧ CHr Z EL U.vm U.heap U'.vm U'.heap ∧ ReturnedEndW U o U' L ({ frames := 3, cells := 5, slots := 12, locals := 41 } : Room).cells ({ frames := 3, cells := 5, slots := 12, locals := 41 } : Room).slots) := by
  refine MetFree.of_bodySF (plainFor_of_name pn72) hisR ?_
  intro p e s m args below meth c s₁ Bd hml0 hP hK
  obtain ⟨rfl, hZ, hh, H0, hsx⟩ := hP
  have hx := Bd.exec
  have hby := Bd.bytes
  have hml : c.maxLocals = 1 := hml0
  have hown : s.vm.findClass z0 = some m.cls := findClass_of_methodNamed Bd.named
  have hnm := (name_of_methodNamed Bd.named Bd.method).1
  have X0 : Stand p l e ({ frames := 3, cells := 5, slots := 12, locals := 41 } : Room) (s.setVm s.vm) m #[(.ref w2)] below meth c s₁ [] 0 0 := Stand.of_body Bd
  have e0 : s₁.heap = h0 := by rw [← hh, Bd.state]; rfl
  have N0 := Fr.nil n0
  have pre0 : ∀ t, Steps p.tables e below (s₁.setTop (mkF m 0 #[.val (.ref w2)] [])) t → Steps p.tables e below (s₁.setTop (entryFrame m #[(.ref w2)] 1)) t := fun t k => castTop (ef48 m w2) k
  have hS0 : s.Since s.vm h0.size := (State.WarmedH.refl s).since _
  have C0 : CHr Z EL s.vm h0 s.vm h0 := CHr.refl H0
  obtain ⟨T1, h1, b1, X1, e1, E1, A1, D1, g1, O1, K1, st1⟩ := own_newO X0 hx hZ hown (hw _ m43) (hw _ m44) (hw _ m41) e0 O0 (Keep.refl h0 []) (g := (mkF m 0 #[.val (.ref w2)] [])) rfl (hb hby d1_0) (by decide) (by decide)
  have C1 := C0.trans (CHr.ext E1 C0.1)
  have F1_1 : Fld Z h1 b1 z0 "kind" z4 .null := D1 (Or.inr (hw _ m68)) (ty := (.object z1)) (by decide)
  have F1_2 : Fld Z h1 b1 z0 "limitation" z8 .null := D1 (Or.inr (hw _ m70)) (ty := (.object z3)) (by decide)
  have F1_3 : Fld Z h1 b1 z0 "catcher" z5 .null := D1 (Or.inr (hw _ m72)) (ty := (.object z2)) (by decide)
  have F1_4 : Fld Z h1 b1 z0 "errorCode" z8 .null := D1 (Or.inr (hw _ m74)) (ty := (.object z3)) (by decide)
  obtain ⟨sa2, T2, h2, k12, sb2, k2, X2, e2, E2, hS2, hk2, hZ2, hown2, A2, Fc2, Fv2, V2, la2, lb2, Cq2, -, hn2, st2⟩ := ldcCH X1 hx hZ hown (hw _ m45) (own_str hw hj) e1 hS0 (Nat.le_trans (Nat.le_refl _) E1.1) (own_EW hw hj) (List.mem_of_getElem? (i := 0) rfl) C1.1 (vs := []) (z := (0 : Int32)) ⟨by decide, by decide⟩ (by decide) (by decide) (g := (mkF m 5 #[.val (.ref w2)] [(.ref w2), (.ref b1), (.ref b1)])) rfl (hb hby d1_5) (n := 0) (by decide) (by decide) (by decide) (by decide)
  have O2 : Old Z n0 h2 := O1.ext E2
  have K2 : Keep h0 h2 [] := K1.ext E2
  have C2 := C1.trans Cq2
  obtain ⟨T3, X3, e3, st3⟩ := getS2 X2 hx hZ2 hown2 (host := "") (Or.inl (hw _ m53)) Via.refl e2 (hS.1.ext O2.2) (g := (mkF m 7 #[.val (.ref w2)] [(.ref sa2), (.ref w2), (.ref b1), (.ref b1)])) rfl (hb hby d1_7)
  obtain ⟨sa4, T4, h4, k14, sb4, k4, X4, e4, E4, hS4, hk4, hZ4, hown4, A4, Fc4, Fv4, V4, la4, lb4, Cq4, -, hn4, st4⟩ := ldcCH X3 hx hZ2 hown2 (hw _ m45) (own_str hw hj) e3 hS2 hk2 (own_EW hw hj) (List.mem_of_getElem? (i := 0) rfl) C2.1 (vs := []) (z := (0 : Int32)) ⟨by decide, by decide⟩ (by decide) (by decide) (g := (mkF m 10 #[.val (.ref w2)] [(.ref w0), (.ref sa2), (.ref w2), (.ref b1), (.ref b1)])) rfl (hb hby d1_10) (n := 0) (by decide) (by decide) (by decide) (by decide)
  have O4 : Old Z n0 h4 := O2.ext E4
  have K4 : Keep h0 h4 [] := K2.ext E4
  have C4 := C2.trans Cq4
  have f6 : Exa Z h4 b1 z0 := ((A1.ext E2).ext E4)
  have f7 : Fld Z h4 b1 z0 "kind" z4 .null := ((F1_1.ext E2).ext E4)
  have f8 : Fld Z h4 b1 z0 "limitation" z8 .null := ((F1_2.ext E2).ext E4)
  have f9 : Fld Z h4 b1 z0 "catcher" z5 .null := ((F1_3.ext E2).ext E4)
  have f10 : Fld Z h4 b1 z0 "errorCode" z8 .null := ((F1_4.ext E2).ext E4)
  have sf5 := ((sfS (Safe.exa (EL := EL) hZ4.alike f6 (by decide) (by decide)) sf0) : ∀ x ∈ [b1], Safe Z EL T4.vm h4 x)
  obtain ⟨_, T5, L5, hQ5, X5, st5⟩ := own_special X4 hx hZ4 (W := 1) rfl hown4 (hw _ m56) (hw _ m57) (hw _ m41) (hw _ m58) (by decide) (rm9 l Z a0 hw hj w0 w1 w2 w3 w4 w5 w6 w7 w8 w9 w10 w11 w12 w13 w14 w15 w16 w17 hS [] b1 sa2 sa4 h4 n0 O4 f6 f7 f8 f9 f10 (Nat.le_trans (own_old_le O0) g1)) e4 (a := b1) (g := (mkF m 12 #[.val (.ref w2)] [(.ref sa4), (.ref w0), (.ref sa2), (.ref w2), (.ref b1), (.ref b1)])) rfl (by rw [hml]; rfl) (argsL := [(.ref w2), (.ref sa2), (.ref w0), (.ref sa4)]) (rest := [(.ref b1)]) (lenOf pd74 rfl) rfl rfl (by show 2 * 0 + _ ≤ _; exact Nat.le_of_eq rfl) (hb hby d1_12) (by decide) (by decide) (by decide) (by decide)
  obtain ⟨rfl, N5q, Kq5, q5_0, q5_1, q5_2, q5_3⟩ := hQ5
  have N5 := Fr.app N0 N5q
  have C5 := C4.trans (CHr.keep Kq5 sf5 C4.1)
  have O5 : Old Z n0 T5.heap := O4.keep Kq5 (allS (Nat.le_trans (own_old_le O0) g1) all0)
  have K5 : Keep h0 T5.heap [] := K4.trans Kq5 (allS (Or.inr (Nat.le_trans (Keep.refl h0 []).1 g1)) all0)
  have f11 : Exa Z T5.heap b1 z0 := (f6.keep Kq5)
  have f12 : Exa Z T5.heap sa2 z3 := ((A2.ext E4).keep Kq5)
  have f13 : Fld Z T5.heap sa2 z3 "coder" "B" (.int (0 : Int32)) := ((Fc2.ext E4).keep Kq5 (ninS (ne_exa A2 (A1.ext E2) (by decide)) nin0))
  have f14 : Fld Z T5.heap sa2 z3 "value" "[B" (.ref sb2) := ((Fv2.ext E4).keep Kq5 (ninS (ne_exa A2 (A1.ext E2) (by decide)) nin0))
  have f15 : Exa Z T5.heap sa4 z3 := (A4.keep Kq5)
  have f16 : Fld Z T5.heap sa4 z3 "coder" "B" (.int (0 : Int32)) := (Fc4.keep Kq5 (ninS (ne_exa A4 f6 (by decide)) nin0))
  have f17 : Fld Z T5.heap sa4 z3 "value" "[B" (.ref sb4) := (Fv4.keep Kq5 (ninS (ne_exa A4 f6 (by decide)) nin0))
  have f18 : Arv Z T5.heap sb2 k2 .byte (0 : Int32) [] (.int (0 : Int32)) := ((V2.ext E4).keep Kq5 (ninS (Ne.symm (Exa.neArv (A1.ext E2) V2 (hw _ m44))) nin0))
  have f19 : Arv Z T5.heap sb4 k4 .byte (0 : Int32) [] (.int (0 : Int32)) := (V4.keep Kq5 (ninS (Ne.symm (Exa.neArv f6 V4 (hw _ m44))) nin0))
  obtain ⟨fs, hr, hrun, hended, hRW⟩ := X5.leaveW hS4 (by rw [(rfl : T5.heap = T5.heap)]; exact (Nat.le_trans hk4 Kq5.1)) (v := some (.ref b1)) (fun h => by rw [Bd.returns] at h; cases h)
  refine ⟨_, _, pre0 _ ?_, hrun, hended, _, _, rfl, ?_, ?_, hRW⟩
  · show Steps p.tables e below (s₁.setTop (mkF m 0 #[.val (.ref w2)] [])) _
    refine st1 _ ?_
    refine XS.dup X1.here hx rfl (hb hby d1_3) rfl rfl ?_
    refine XS.aloadN X1.here hx rfl (hb hby d1_4) rfl rfl ?_
    refine st2 _ ?_
    show Steps p.tables e below (T2.setTop (mkF m 7 #[.val (.ref w2)] [(.ref sa2), (.ref w2), (.ref b1), (.ref b1)])) _
    refine st3 _ ?_
    refine st4 _ ?_
    refine st5 _ ?_
    exact retOut X5 hx Bd.returns rfl (Or.inr (Or.inr (Or.inr (Or.inr ⟨rfl, rfl, rfl⟩)))) (hb hby d1_15) hr
  · show Qrm10 Z w0 w1 w2 w3 w4 w5 w6 w7 w8 w9 w10 w11 w12 w13 w14 w15 w16 w17 h0 n0 _ T5.heap _
    exact ⟨b1, sa2, sa4, sb2, sb4, k2, k4, rfl, N5, K5, (Nat.le_trans (Keep.refl h0 []).1 g1), f11, q5_0, q5_1, q5_2, q5_3, f12, f13, f14, f15, f16, f17, f18, f19⟩
  · show CHr Z EL _ _ T5.vm T5.heap
    exact own_chr (by rw [← hh]) (rfl : T5.heap = T5.heap) (C5.trans (CHv.at X5 hZ4 (own_EW hw hj) C5.1))
def Qrm11 (Z : State) (w0 : Addr) (w1 : Addr) (w2 : Addr) (w3 : Addr) (w4 : Addr) (w5 : Addr) (w6 : Addr) (w7 : Addr) (w8 : Addr) (w9 : Addr) (w10 : Addr) (w11 : Addr) (w12 : Addr) (w13 : Addr) (w14 : Addr) (w15 : Addr) (w16 : Addr) (w17 : Addr) (a1 : Addr) (h0 : Heap) (n0 : Nat) (v : Option Value) (h : Heap) (L : List Loc) : Prop := v = some (.ref w2) ∧ Fr n0 L ∧ h = h0
set_option maxRecDepth 65536 in
set_option maxHeartbeats 40000000 in
theorem rm11 (l : Launch) (Z : State) (a0 : Array Value) (hw : ∀ d ∈ tables_1, d.before a0 Z = true) (hj : ∀ d ∈ jdkStatics_1, d.before a0 Z = true) (w0 : Addr) (w1 : Addr) (w2 : Addr) (w3 : Addr) (w4 : Addr) (w5 : Addr) (w6 : Addr) (w7 : Addr) (w8 : Addr) (w9 : Addr) (w10 : Addr) (w11 : Addr) (w12 : Addr) (w13 : Addr) (w14 : Addr) (w15 : Addr) (w16 : Addr) (w17 : Addr) (hS : SF Z w0 w1 w2 w3 w4 w5 w6 w7 w8 w9 w10 w11 w12 w13 w14 w15 w16 w17) (ws : List Jvm.Cond) (a1 : Addr) (h0 : Heap) (n0 : Nat) (O0 : Old Z n0 h0) (F1 : Fld Z h0 a1 z0 "kind" z4 (.ref w2)) :
    MetFree l (⟨z0, "kind", z9⟩ : MethodName) (head1 (Jvm.Cond.code (⟨z0, "kind", z9⟩ : MethodName) prog_27_method_7_code 1 (some (.object z1)) :: ws) ({ frames := 0, cells := 0, slots := 0, locals := 0 } : Room)) (fun a U => a = #[(.ref a1)] ∧ Z.Warmed39 U.vm ∧ U.heap = h0) (fun _ _ _ _ _ => True) (fun _ U o U' => ∃ v L, o = .returned v ∧ Qrm11 Z w0 w1 w2 w3 w4 w5 w6 w7 w8 w9 w10 w11 w12 w13 w14 w15 w16 w17 a1 h0 n0 v U'.heap L ∧ FrameEnd U o U' L ({ frames := 0, cells := 0, slots := 0, locals := 0 } : Room).cells ({ frames := 0, cells := 0, slots := 0, locals := 0 } : Room).slots) := by
  refine MetFree.of_bodySF (plainFor_of_name pn72) hisR ?_
  intro p e s m args below meth c s₁ Bd hml0 hP hK
  obtain ⟨rfl, hZ, hh⟩ := hP
  have hx := Bd.exec
  have hby := Bd.bytes
  have hml : c.maxLocals = 1 := hml0
  have hown : s.vm.findClass z0 = some m.cls := findClass_of_methodNamed Bd.named
  have hnm := (name_of_methodNamed Bd.named Bd.method).1
  have X0 : Stand p l e ({ frames := 0, cells := 0, slots := 0, locals := 0 } : Room) s m #[(.ref a1)] below meth c s₁ [] 0 0 := Stand.of_body Bd
  have e0 : s₁.heap = h0 := by rw [← hh, Bd.state]; rfl
  have N0 := Fr.nil n0
  have pre0 : ∀ t, Steps p.tables e below (s₁.setTop (mkF m 0 #[.val (.ref a1)] [])) t → Steps p.tables e below (s₁.setTop (entryFrame m #[(.ref a1)] 1)) t := fun t k => castTop (ef48 m a1) k
  obtain ⟨T1, X1, e1, st1⟩ := getF X0 hx hZ hown (host := "") (Or.inl (hw _ m67)) Via.refl e0 F1 (g := (mkF m 1 #[.val (.ref a1)] [(.ref a1)])) rfl rfl (hb hby d5_1)
  obtain ⟨fs, hr, hrun, hended, hW, hsame⟩ := X1.leave (v := some (.ref w2)) (fun h => by rw [Bd.returns] at h; cases h)
  refine ⟨_, _, pre0 _ ?_, hrun, hended, _, _, rfl, ?_, ⟨_, rfl⟩, hW, hsame.mono (by decide) (by decide)⟩
  · show Steps p.tables e below (s₁.setTop (mkF m 0 #[.val (.ref a1)] [])) _
    refine XS.aloadN X0.here hx rfl (hb hby d5_0) rfl rfl ?_
    refine st1 _ ?_
    exact retOut X1 hx Bd.returns rfl (Or.inr (Or.inr (Or.inr (Or.inr ⟨rfl, rfl, rfl⟩)))) (hb hby d5_4) hr
  · show Qrm11 Z w0 w1 w2 w3 w4 w5 w6 w7 w8 w9 w10 w11 w12 w13 w14 w15 w16 w17 a1 h0 n0 _ T1.heap _
    rw [e1]
    exact ⟨rfl, N0, rfl⟩
def Qrm12 (Z : State) (w0 : Addr) (w1 : Addr) (w2 : Addr) (w3 : Addr) (w4 : Addr) (w5 : Addr) (w6 : Addr) (w7 : Addr) (w8 : Addr) (w9 : Addr) (w10 : Addr) (w11 : Addr) (w12 : Addr) (w13 : Addr) (w14 : Addr) (w15 : Addr) (w16 : Addr) (w17 : Addr) (a1 : Addr) (a2 : Addr) (a3 : Addr) (h0 : Heap) (n0 : Nat) (v : Option Value) (h : Heap) (L : List Loc) : Prop := v = none ∧ Fr n0 L ∧ Keep h0 h [a1] ∧ Fld Z h a1 z0 "kind" z4 (.ref w10) ∧ Fld Z h a1 z0 "limitation" z8 (.ref a2) ∧ Fld Z h a1 z0 "catcher" z5 (.ref w0) ∧ Fld Z h a1 z0 "errorCode" z8 (.ref a3)
set_option maxRecDepth 65536 in
set_option maxHeartbeats 40000000 in
theorem rm12 (l : Launch) (Z : State) (a0 : Array Value) (hw : ∀ d ∈ tables_1, d.before a0 Z = true) (hj : ∀ d ∈ jdkStatics_1, d.before a0 Z = true) (w0 : Addr) (w1 : Addr) (w2 : Addr) (w3 : Addr) (w4 : Addr) (w5 : Addr) (w6 : Addr) (w7 : Addr) (w8 : Addr) (w9 : Addr) (w10 : Addr) (w11 : Addr) (w12 : Addr) (w13 : Addr) (w14 : Addr) (w15 : Addr) (w16 : Addr) (w17 : Addr) (hS : SF Z w0 w1 w2 w3 w4 w5 w6 w7 w8 w9 w10 w11 w12 w13 w14 w15 w16 w17) (ws : List Jvm.Cond) (a1 : Addr) (a2 : Addr) (a3 : Addr) (h0 : Heap) (n0 : Nat) (O0 : Old Z n0 h0) (E1 : Exa Z h0 a1 z0) (F2 : Fld Z h0 a1 z0 "kind" z4 .null) (F3 : Fld Z h0 a1 z0 "limitation" z8 .null) (F4 : Fld Z h0 a1 z0 "catcher" z5 .null) (F5 : Fld Z h0 a1 z0 "errorCode" z8 .null) (g6 : n0 ≤ a1) :
    MetFree l (⟨z0, "<init>", z6⟩ : MethodName) (head1 (Jvm.Cond.code (⟨z0, "<init>", z6⟩ : MethodName) prog_27_method_1_code 5 none :: ws) ({ frames := 2, cells := 0, slots := 0, locals := 24 } : Room)) (fun a U => a = #[(.ref a1), (.ref w10), (.ref a2), (.ref w0), (.ref a3)] ∧ Z.Warmed39 U.vm ∧ U.heap = h0) (fun _ _ _ _ _ => True) (fun _ U o U' => ∃ v L, o = .returned v ∧ Qrm12 Z w0 w1 w2 w3 w4 w5 w6 w7 w8 w9 w10 w11 w12 w13 w14 w15 w16 w17 a1 a2 a3 h0 n0 v U'.heap L ∧ FrameEnd U o U' L ({ frames := 2, cells := 0, slots := 0, locals := 24 } : Room).cells ({ frames := 2, cells := 0, slots := 0, locals := 24 } : Room).slots) := by
  refine MetFree.of_bodySF (plainFor_of_name pn72) hisR ?_
  intro p e s m args below meth c s₁ Bd hml0 hP hK
  obtain ⟨rfl, hZ, hh⟩ := hP
  have hx := Bd.exec
  have hby := Bd.bytes
  have hml : c.maxLocals = 5 := hml0
  have hown : s.vm.findClass z0 = some m.cls := findClass_of_methodNamed Bd.named
  have hnm := (name_of_methodNamed Bd.named Bd.method).1
  have X0 : Stand p l e ({ frames := 2, cells := 0, slots := 0, locals := 24 } : Room) s m #[(.ref a1), (.ref w10), (.ref a2), (.ref w0), (.ref a3)] below meth c s₁ [] 0 0 := Stand.of_body Bd
  have e0 : s₁.heap = h0 := by rw [← hh, Bd.state]; rfl
  have N0 := Fr.nil n0
  have pre0 : ∀ t, Steps p.tables e below (s₁.setTop (mkF m 0 #[.val (.ref a1), .val (.ref w10), .val (.ref a2), .val (.ref w0), .val (.ref a3)] [])) t → Steps p.tables e below (s₁.setTop (entryFrame m #[(.ref a1), (.ref w10), (.ref a2), (.ref w0), (.ref a3)] 5)) t := fun t k => castTop (ef71 m a1 w10 a2 w0 a3) k
  obtain ⟨_, T1, L1, hQ1, X1, st1⟩ := own_special X0 hx hZ (W := 0) rfl hown (hw _ m59) (hw _ m60) (hw _ m62) (hw _ m63) (by decide) (rm1 l Z a0 hw hj w0 w1 w2 w3 w4 w5 w6 w7 w8 w9 w10 w11 w12 w13 w14 w15 w16 w17 hS [] a1 h0 n0 O0) e0 (a := a1) (g := (mkF m 1 #[.val (.ref a1), .val (.ref w10), .val (.ref a2), .val (.ref w0), .val (.ref a3)] [(.ref a1)])) rfl (by rw [hml]; rfl) (argsL := []) (rest := []) (lenOf pd52 rfl) rfl rfl (by show 2 * 0 + _ ≤ _; exact Nat.le_of_eq rfl) (hb hby d2_1) (by decide) (by decide) (by decide) (by decide)
  obtain ⟨rfl, N1q, e1⟩ := hQ1
  have N1 := Fr.app N0 N1q
  have e1' : T1.heap = h0 := e1
  obtain ⟨T2, h2, L'2, X2, e2, W2, Fw2, O2, K2, N2, st2⟩ := own_put X1 hx hZ hown (host := "") (Or.inl (hw _ m67)) Via.refl e1' O0 (Keep.refl h0 [a1]) N1 g6 (Or.inl (List.mem_of_getElem? (i := 0) rfl)) F2 E1 (Or.inr ⟨(hw _ m68), rfl, hnm⟩) (hw _ m44) (ty := (.object z1)) (by decide) rfl rfl (g := (mkF m 6 #[.val (.ref a1), .val (.ref w10), .val (.ref a2), .val (.ref w0), .val (.ref a3)] [(.ref w10), (.ref a1)])) rfl rfl (hb hby d2_6)
  have f3 : Fld Z h2 a1 z0 "limitation" z8 .null := (F3.other W2 (Or.inr (slot_ne (Or.inr (hw _ m70)) (Or.inr (hw _ m68)) (by decide) (t := (.object z3)) (t' := (.object z1)) (by decide) (by decide))))
  have f4 : Exa Z h2 a1 z0 := (E1.wr W2)
  obtain ⟨T5, h5, L'5, X5, e5, W5, Fw5, O5, K5, N5, st5⟩ := own_put X2 hx hZ hown (host := "") (Or.inl (hw _ m69)) Via.refl e2 O2 K2 N2 g6 (Or.inl (List.mem_of_getElem? (i := 0) rfl)) f3 f4 (Or.inr ⟨(hw _ m70), rfl, hnm⟩) (hw _ m44) (ty := (.object z3)) (by decide) rfl rfl (g := (mkF m 11 #[.val (.ref a1), .val (.ref w10), .val (.ref a2), .val (.ref w0), .val (.ref a3)] [(.ref a2), (.ref a1)])) rfl rfl (hb hby d2_11)
  have f6 : Fld Z h5 a1 z0 "catcher" z5 .null := ((F4.other W2 (Or.inr (slot_ne (Or.inr (hw _ m72)) (Or.inr (hw _ m68)) (by decide) (t := (.object z2)) (t' := (.object z1)) (by decide) (by decide)))).other W5 (Or.inr (slot_ne (Or.inr (hw _ m72)) (Or.inr (hw _ m70)) (by decide) (t := (.object z2)) (t' := (.object z3)) (by decide) (by decide))))
  have f7 : Exa Z h5 a1 z0 := (f4.wr W5)
  obtain ⟨T8, h8, L'8, X8, e8, W8, Fw8, O8, K8, N8, st8⟩ := own_put X5 hx hZ hown (host := "") (Or.inl (hw _ m71)) Via.refl e5 O5 K5 N5 g6 (Or.inl (List.mem_of_getElem? (i := 0) rfl)) f6 f7 (Or.inr ⟨(hw _ m72), rfl, hnm⟩) (hw _ m44) (ty := (.object z2)) (by decide) rfl rfl (g := (mkF m 16 #[.val (.ref a1), .val (.ref w10), .val (.ref a2), .val (.ref w0), .val (.ref a3)] [(.ref w0), (.ref a1)])) rfl rfl (hb hby d2_16)
  have f9 : Fld Z h8 a1 z0 "errorCode" z8 .null := (((F5.other W2 (Or.inr (slot_ne (Or.inr (hw _ m74)) (Or.inr (hw _ m68)) (by decide) (t := (.object z3)) (t' := (.object z1)) (by decide) (by decide)))).other W5 (Or.inr (slot_ne (Or.inr (hw _ m74)) (Or.inr (hw _ m70)) (by decide) (t := (.object z3)) (t' := (.object z3)) (by decide) (by decide)))).other W8 (Or.inr (slot_ne (Or.inr (hw _ m74)) (Or.inr (hw _ m72)) (by decide) (t := (.object z3)) (t' := (.object z2)) (by decide) (by decide))))
  have f10 : Exa Z h8 a1 z0 := (f7.wr W8)
  obtain ⟨T11, h11, L'11, X11, e11, W11, Fw11, O11, K11, N11, st11⟩ := own_put X8 hx hZ hown (host := "") (Or.inl (hw _ m73)) Via.refl e8 O8 K8 N8 g6 (Or.inl (List.mem_of_getElem? (i := 0) rfl)) f9 f10 (Or.inr ⟨(hw _ m74), rfl, hnm⟩) (hw _ m44) (ty := (.object z3)) (by decide) rfl rfl (g := (mkF m 22 #[.val (.ref a1), .val (.ref w10), .val (.ref a2), .val (.ref w0), .val (.ref a3)] [(.ref a3), (.ref a1)])) rfl rfl (hb hby d2_22)
  have f12 : Fld Z h11 a1 z0 "kind" z4 (.ref w10) := (((Fw2.other W5 (Or.inr (slot_ne (Or.inr (hw _ m68)) (Or.inr (hw _ m70)) (by decide) (t := (.object z1)) (t' := (.object z3)) (by decide) (by decide)))).other W8 (Or.inr (slot_ne (Or.inr (hw _ m68)) (Or.inr (hw _ m72)) (by decide) (t := (.object z1)) (t' := (.object z2)) (by decide) (by decide)))).other W11 (Or.inr (slot_ne (Or.inr (hw _ m68)) (Or.inr (hw _ m74)) (by decide) (t := (.object z1)) (t' := (.object z3)) (by decide) (by decide))))
  have f13 : Fld Z h11 a1 z0 "limitation" z8 (.ref a2) := ((Fw5.other W8 (Or.inr (slot_ne (Or.inr (hw _ m70)) (Or.inr (hw _ m72)) (by decide) (t := (.object z3)) (t' := (.object z2)) (by decide) (by decide)))).other W11 (Or.inr (slot_ne (Or.inr (hw _ m70)) (Or.inr (hw _ m74)) (by decide) (t := (.object z3)) (t' := (.object z3)) (by decide) (by decide))))
  have f14 : Fld Z h11 a1 z0 "catcher" z5 (.ref w0) := (Fw8.other W11 (Or.inr (slot_ne (Or.inr (hw _ m72)) (Or.inr (hw _ m74)) (by decide) (t := (.object z2)) (t' := (.object z3)) (by decide) (by decide))))
  obtain ⟨fs, hr, hrun, hended, hW, hsame⟩ := X11.leave (v := none) (fun _ => rfl)
  refine ⟨_, _, pre0 _ ?_, hrun, hended, _, _, rfl, ?_, ⟨_, rfl⟩, hW, hsame.mono (by decide) (by decide)⟩
  · show Steps p.tables e below (s₁.setTop (mkF m 0 #[.val (.ref a1), .val (.ref w10), .val (.ref a2), .val (.ref w0), .val (.ref a3)] [])) _
    refine XS.aloadN X0.here hx rfl (hb hby d2_0) rfl rfl ?_
    refine st1 _ ?_
    refine XS.aloadN X1.here hx rfl (hb hby d2_4) rfl rfl ?_
    refine XS.aloadN X1.here hx rfl (hb hby d2_5) rfl rfl ?_
    show Steps p.tables e below (T1.setTop (mkF m 6 #[.val (.ref a1), .val (.ref w10), .val (.ref a2), .val (.ref w0), .val (.ref a3)] [(.ref w10), (.ref a1)])) _
    refine st2 _ ?_
    refine XS.aloadN X2.here hx rfl (hb hby d2_9) rfl rfl ?_
    refine XS.aloadN X2.here hx rfl (hb hby d2_10) rfl rfl ?_
    refine st5 _ ?_
    show Steps p.tables e below (T5.setTop (mkF m 14 #[.val (.ref a1), .val (.ref w10), .val (.ref a2), .val (.ref w0), .val (.ref a3)] [])) _
    refine XS.aloadN X5.here hx rfl (hb hby d2_14) rfl rfl ?_
    refine XS.aloadN X5.here hx rfl (hb hby d2_15) rfl rfl ?_
    refine st8 _ ?_
    refine XS.aloadN X8.here hx rfl (hb hby d2_19) rfl rfl ?_
    show Steps p.tables e below (T8.setTop (mkF m 20 #[.val (.ref a1), .val (.ref w10), .val (.ref a2), .val (.ref w0), .val (.ref a3)] [(.ref a1)])) _
    refine XS.aload X8.here hx rfl (hb hby d2_20) rfl rfl ?_
    refine st11 _ ?_
    exact X11.returnOut hx Bd.returns (hb hby d2_25) hr
  · show Qrm12 Z w0 w1 w2 w3 w4 w5 w6 w7 w8 w9 w10 w11 w12 w13 w14 w15 w16 w17 a1 a2 a3 h0 n0 _ T11.heap _
    rw [e11]
    exact ⟨rfl, N11, K11, f12, f13, f14, Fw11⟩
def Qrm13 (Z : State) (w0 : Addr) (w1 : Addr) (w2 : Addr) (w3 : Addr) (w4 : Addr) (w5 : Addr) (w6 : Addr) (w7 : Addr) (w8 : Addr) (w9 : Addr) (w10 : Addr) (w11 : Addr) (w12 : Addr) (w13 : Addr) (w14 : Addr) (w15 : Addr) (w16 : Addr) (w17 : Addr) (h0 : Heap) (n0 : Nat) (v : Option Value) (h : Heap) (L : List Loc) : Prop := ∃ x0 : Addr, ∃ x1 : Addr, ∃ x2 : Addr, ∃ x3 : Addr, ∃ x4 : Addr, ∃ xk0 : ClassId, ∃ xk1 : ClassId, v = some (.ref x0) ∧ Fr n0 L ∧ Keep h0 h [] ∧ h0.size ≤ x0 ∧ Exa Z h x0 z0 ∧ Fld Z h x0 z0 "kind" z4 (.ref w10) ∧ Fld Z h x0 z0 "limitation" z8 (.ref x1) ∧ Fld Z h x0 z0 "catcher" z5 (.ref w0) ∧ Fld Z h x0 z0 "errorCode" z8 (.ref x2) ∧ Exa Z h x1 z3 ∧ Fld Z h x1 z3 "coder" "B" (.int (0 : Int32)) ∧ Fld Z h x1 z3 "value" "[B" (.ref x3) ∧ Exa Z h x2 z3 ∧ Fld Z h x2 z3 "coder" "B" (.int (0 : Int32)) ∧ Fld Z h x2 z3 "value" "[B" (.ref x4) ∧ Arv Z h x3 xk0 .byte (0 : Int32) [] (.int (0 : Int32)) ∧ Arv Z h x4 xk1 .byte (0 : Int32) [] (.int (0 : Int32))
set_option maxRecDepth 65536 in
set_option maxHeartbeats 40000000 in
theorem rm13 (l : Launch) (Z : State) (a0 : Array Value) (hw : ∀ d ∈ tables_1, d.before a0 Z = true) (hj : ∀ d ∈ jdkStatics_1, d.before a0 Z = true) (w0 : Addr) (w1 : Addr) (w2 : Addr) (w3 : Addr) (w4 : Addr) (w5 : Addr) (w6 : Addr) (w7 : Addr) (w8 : Addr) (w9 : Addr) (w10 : Addr) (w11 : Addr) (w12 : Addr) (w13 : Addr) (w14 : Addr) (w15 : Addr) (w16 : Addr) (w17 : Addr) (hS : SF Z w0 w1 w2 w3 w4 w5 w6 w7 w8 w9 w10 w11 w12 w13 w14 w15 w16 w17) (ws : List Jvm.Cond) (h0 : Heap) (n0 : Nat) (O0 : Old Z n0 h0) :
    MetFree l (⟨z0, "runs", z7⟩ : MethodName) (head1 (Jvm.Cond.code (⟨z0, "runs", z7⟩ : MethodName) prog_27_method_2_code 1 (some (.object z0)) :: ws) ({ frames := 3, cells := 5, slots := 12, locals := 41 } : Room)) (fun a U => a = #[(.ref w10)] ∧ Z.Warmed39 U.vm ∧ U.heap = h0 ∧ CHv Z EL U.vm h0 ∧ ∀ x ∈ ([] : List Addr), Safe Z EL U.vm h0 x) (fun _ _ _ _ _ => True) (fun _ U o U' => ∃ v L, o = .returned v ∧ Qrm13 Z w0 w1 w2 w3 w4 w5 w6 w7 w8 w9 w10 w11 w12 w13 w14 w15 w16 w17 h0 n0 v U'.heap L ∧ CHr Z EL U.vm U.heap U'.vm U'.heap ∧ ReturnedEndW U o U' L ({ frames := 3, cells := 5, slots := 12, locals := 41 } : Room).cells ({ frames := 3, cells := 5, slots := 12, locals := 41 } : Room).slots) := by
  refine MetFree.of_bodySF (plainFor_of_name pn72) hisR ?_
  intro p e s m args below meth c s₁ Bd hml0 hP hK
  obtain ⟨rfl, hZ, hh, H0, hsx⟩ := hP
  have hx := Bd.exec
  have hby := Bd.bytes
  have hml : c.maxLocals = 1 := hml0
  have hown : s.vm.findClass z0 = some m.cls := findClass_of_methodNamed Bd.named
  have hnm := (name_of_methodNamed Bd.named Bd.method).1
  have X0 : Stand p l e ({ frames := 3, cells := 5, slots := 12, locals := 41 } : Room) (s.setVm s.vm) m #[(.ref w10)] below meth c s₁ [] 0 0 := Stand.of_body Bd
  have e0 : s₁.heap = h0 := by rw [← hh, Bd.state]; rfl
  have N0 := Fr.nil n0
  have pre0 : ∀ t, Steps p.tables e below (s₁.setTop (mkF m 0 #[.val (.ref w10)] [])) t → Steps p.tables e below (s₁.setTop (entryFrame m #[(.ref w10)] 1)) t := fun t k => castTop (ef48 m w10) k
  have hS0 : s.Since s.vm h0.size := (State.WarmedH.refl s).since _
  have C0 : CHr Z EL s.vm h0 s.vm h0 := CHr.refl H0
  obtain ⟨T1, h1, b1, X1, e1, E1, A1, D1, g1, O1, K1, st1⟩ := own_newO X0 hx hZ hown (hw _ m43) (hw _ m44) (hw _ m41) e0 O0 (Keep.refl h0 []) (g := (mkF m 0 #[.val (.ref w10)] [])) rfl (hb hby d1_0) (by decide) (by decide)
  have C1 := C0.trans (CHr.ext E1 C0.1)
  have F1_1 : Fld Z h1 b1 z0 "kind" z4 .null := D1 (Or.inr (hw _ m68)) (ty := (.object z1)) (by decide)
  have F1_2 : Fld Z h1 b1 z0 "limitation" z8 .null := D1 (Or.inr (hw _ m70)) (ty := (.object z3)) (by decide)
  have F1_3 : Fld Z h1 b1 z0 "catcher" z5 .null := D1 (Or.inr (hw _ m72)) (ty := (.object z2)) (by decide)
  have F1_4 : Fld Z h1 b1 z0 "errorCode" z8 .null := D1 (Or.inr (hw _ m74)) (ty := (.object z3)) (by decide)
  obtain ⟨sa2, T2, h2, k12, sb2, k2, X2, e2, E2, hS2, hk2, hZ2, hown2, A2, Fc2, Fv2, V2, la2, lb2, Cq2, -, hn2, st2⟩ := ldcCH X1 hx hZ hown (hw _ m45) (own_str hw hj) e1 hS0 (Nat.le_trans (Nat.le_refl _) E1.1) (own_EW hw hj) (List.mem_of_getElem? (i := 0) rfl) C1.1 (vs := []) (z := (0 : Int32)) ⟨by decide, by decide⟩ (by decide) (by decide) (g := (mkF m 5 #[.val (.ref w10)] [(.ref w10), (.ref b1), (.ref b1)])) rfl (hb hby d1_5) (n := 0) (by decide) (by decide) (by decide) (by decide)
  have O2 : Old Z n0 h2 := O1.ext E2
  have K2 : Keep h0 h2 [] := K1.ext E2
  have C2 := C1.trans Cq2
  obtain ⟨T3, X3, e3, st3⟩ := getS2 X2 hx hZ2 hown2 (host := "") (Or.inl (hw _ m53)) Via.refl e2 (hS.1.ext O2.2) (g := (mkF m 7 #[.val (.ref w10)] [(.ref sa2), (.ref w10), (.ref b1), (.ref b1)])) rfl (hb hby d1_7)
  obtain ⟨sa4, T4, h4, k14, sb4, k4, X4, e4, E4, hS4, hk4, hZ4, hown4, A4, Fc4, Fv4, V4, la4, lb4, Cq4, -, hn4, st4⟩ := ldcCH X3 hx hZ2 hown2 (hw _ m45) (own_str hw hj) e3 hS2 hk2 (own_EW hw hj) (List.mem_of_getElem? (i := 0) rfl) C2.1 (vs := []) (z := (0 : Int32)) ⟨by decide, by decide⟩ (by decide) (by decide) (g := (mkF m 10 #[.val (.ref w10)] [(.ref w0), (.ref sa2), (.ref w10), (.ref b1), (.ref b1)])) rfl (hb hby d1_10) (n := 0) (by decide) (by decide) (by decide) (by decide)
  have O4 : Old Z n0 h4 := O2.ext E4
  have K4 : Keep h0 h4 [] := K2.ext E4
  have C4 := C2.trans Cq4
  have f6 : Exa Z h4 b1 z0 := ((A1.ext E2).ext E4)
  have f7 : Fld Z h4 b1 z0 "kind" z4 .null := ((F1_1.ext E2).ext E4)
  have f8 : Fld Z h4 b1 z0 "limitation" z8 .null := ((F1_2.ext E2).ext E4)
  have f9 : Fld Z h4 b1 z0 "catcher" z5 .null := ((F1_3.ext E2).ext E4)
  have f10 : Fld Z h4 b1 z0 "errorCode" z8 .null := ((F1_4.ext E2).ext E4)
  have sf5 := ((sfS (Safe.exa (EL := EL) hZ4.alike f6 (by decide) (by decide)) sf0) : ∀ x ∈ [b1], Safe Z EL T4.vm h4 x)
  obtain ⟨_, T5, L5, hQ5, X5, st5⟩ := own_special X4 hx hZ4 (W := 1) rfl hown4 (hw _ m56) (hw _ m57) (hw _ m41) (hw _ m58) (by decide) (rm12 l Z a0 hw hj w0 w1 w2 w3 w4 w5 w6 w7 w8 w9 w10 w11 w12 w13 w14 w15 w16 w17 hS [] b1 sa2 sa4 h4 n0 O4 f6 f7 f8 f9 f10 (Nat.le_trans (own_old_le O0) g1)) e4 (a := b1) (g := (mkF m 12 #[.val (.ref w10)] [(.ref sa4), (.ref w0), (.ref sa2), (.ref w10), (.ref b1), (.ref b1)])) rfl (by rw [hml]; rfl) (argsL := [(.ref w10), (.ref sa2), (.ref w0), (.ref sa4)]) (rest := [(.ref b1)]) (lenOf pd74 rfl) rfl rfl (by show 2 * 0 + _ ≤ _; exact Nat.le_of_eq rfl) (hb hby d1_12) (by decide) (by decide) (by decide) (by decide)
  obtain ⟨rfl, N5q, Kq5, q5_0, q5_1, q5_2, q5_3⟩ := hQ5
  have N5 := Fr.app N0 N5q
  have C5 := C4.trans (CHr.keep Kq5 sf5 C4.1)
  have O5 : Old Z n0 T5.heap := O4.keep Kq5 (allS (Nat.le_trans (own_old_le O0) g1) all0)
  have K5 : Keep h0 T5.heap [] := K4.trans Kq5 (allS (Or.inr (Nat.le_trans (Keep.refl h0 []).1 g1)) all0)
  have f11 : Exa Z T5.heap b1 z0 := (f6.keep Kq5)
  have f12 : Exa Z T5.heap sa2 z3 := ((A2.ext E4).keep Kq5)
  have f13 : Fld Z T5.heap sa2 z3 "coder" "B" (.int (0 : Int32)) := ((Fc2.ext E4).keep Kq5 (ninS (ne_exa A2 (A1.ext E2) (by decide)) nin0))
  have f14 : Fld Z T5.heap sa2 z3 "value" "[B" (.ref sb2) := ((Fv2.ext E4).keep Kq5 (ninS (ne_exa A2 (A1.ext E2) (by decide)) nin0))
  have f15 : Exa Z T5.heap sa4 z3 := (A4.keep Kq5)
  have f16 : Fld Z T5.heap sa4 z3 "coder" "B" (.int (0 : Int32)) := (Fc4.keep Kq5 (ninS (ne_exa A4 f6 (by decide)) nin0))
  have f17 : Fld Z T5.heap sa4 z3 "value" "[B" (.ref sb4) := (Fv4.keep Kq5 (ninS (ne_exa A4 f6 (by decide)) nin0))
  have f18 : Arv Z T5.heap sb2 k2 .byte (0 : Int32) [] (.int (0 : Int32)) := ((V2.ext E4).keep Kq5 (ninS (Ne.symm (Exa.neArv (A1.ext E2) V2 (hw _ m44))) nin0))
  have f19 : Arv Z T5.heap sb4 k4 .byte (0 : Int32) [] (.int (0 : Int32)) := (V4.keep Kq5 (ninS (Ne.symm (Exa.neArv f6 V4 (hw _ m44))) nin0))
  obtain ⟨fs, hr, hrun, hended, hRW⟩ := X5.leaveW hS4 (by rw [(rfl : T5.heap = T5.heap)]; exact (Nat.le_trans hk4 Kq5.1)) (v := some (.ref b1)) (fun h => by rw [Bd.returns] at h; cases h)
  refine ⟨_, _, pre0 _ ?_, hrun, hended, _, _, rfl, ?_, ?_, hRW⟩
  · show Steps p.tables e below (s₁.setTop (mkF m 0 #[.val (.ref w10)] [])) _
    refine st1 _ ?_
    refine XS.dup X1.here hx rfl (hb hby d1_3) rfl rfl ?_
    refine XS.aloadN X1.here hx rfl (hb hby d1_4) rfl rfl ?_
    refine st2 _ ?_
    show Steps p.tables e below (T2.setTop (mkF m 7 #[.val (.ref w10)] [(.ref sa2), (.ref w10), (.ref b1), (.ref b1)])) _
    refine st3 _ ?_
    refine st4 _ ?_
    refine st5 _ ?_
    exact retOut X5 hx Bd.returns rfl (Or.inr (Or.inr (Or.inr (Or.inr ⟨rfl, rfl, rfl⟩)))) (hb hby d1_15) hr
  · show Qrm13 Z w0 w1 w2 w3 w4 w5 w6 w7 w8 w9 w10 w11 w12 w13 w14 w15 w16 w17 h0 n0 _ T5.heap _
    exact ⟨b1, sa2, sa4, sb2, sb4, k2, k4, rfl, N5, K5, (Nat.le_trans (Keep.refl h0 []).1 g1), f11, q5_0, q5_1, q5_2, q5_3, f12, f13, f14, f15, f16, f17, f18, f19⟩
  · show CHr Z EL _ _ T5.vm T5.heap
    exact own_chr (by rw [← hh]) (rfl : T5.heap = T5.heap) (C5.trans (CHv.at X5 hZ4 (own_EW hw hj) C5.1))
def Qrm14 (Z : State) (w0 : Addr) (w1 : Addr) (w2 : Addr) (w3 : Addr) (w4 : Addr) (w5 : Addr) (w6 : Addr) (w7 : Addr) (w8 : Addr) (w9 : Addr) (w10 : Addr) (w11 : Addr) (w12 : Addr) (w13 : Addr) (w14 : Addr) (w15 : Addr) (w16 : Addr) (w17 : Addr) (a1 : Addr) (h0 : Heap) (n0 : Nat) (v : Option Value) (h : Heap) (L : List Loc) : Prop := v = some (.ref w10) ∧ Fr n0 L ∧ h = h0
set_option maxRecDepth 65536 in
set_option maxHeartbeats 40000000 in
theorem rm14 (l : Launch) (Z : State) (a0 : Array Value) (hw : ∀ d ∈ tables_1, d.before a0 Z = true) (hj : ∀ d ∈ jdkStatics_1, d.before a0 Z = true) (w0 : Addr) (w1 : Addr) (w2 : Addr) (w3 : Addr) (w4 : Addr) (w5 : Addr) (w6 : Addr) (w7 : Addr) (w8 : Addr) (w9 : Addr) (w10 : Addr) (w11 : Addr) (w12 : Addr) (w13 : Addr) (w14 : Addr) (w15 : Addr) (w16 : Addr) (w17 : Addr) (hS : SF Z w0 w1 w2 w3 w4 w5 w6 w7 w8 w9 w10 w11 w12 w13 w14 w15 w16 w17) (ws : List Jvm.Cond) (a1 : Addr) (h0 : Heap) (n0 : Nat) (O0 : Old Z n0 h0) (F1 : Fld Z h0 a1 z0 "kind" z4 (.ref w10)) :
    MetFree l (⟨z0, "kind", z9⟩ : MethodName) (head1 (Jvm.Cond.code (⟨z0, "kind", z9⟩ : MethodName) prog_27_method_7_code 1 (some (.object z1)) :: ws) ({ frames := 0, cells := 0, slots := 0, locals := 0 } : Room)) (fun a U => a = #[(.ref a1)] ∧ Z.Warmed39 U.vm ∧ U.heap = h0) (fun _ _ _ _ _ => True) (fun _ U o U' => ∃ v L, o = .returned v ∧ Qrm14 Z w0 w1 w2 w3 w4 w5 w6 w7 w8 w9 w10 w11 w12 w13 w14 w15 w16 w17 a1 h0 n0 v U'.heap L ∧ FrameEnd U o U' L ({ frames := 0, cells := 0, slots := 0, locals := 0 } : Room).cells ({ frames := 0, cells := 0, slots := 0, locals := 0 } : Room).slots) := by
  refine MetFree.of_bodySF (plainFor_of_name pn72) hisR ?_
  intro p e s m args below meth c s₁ Bd hml0 hP hK
  obtain ⟨rfl, hZ, hh⟩ := hP
  have hx := Bd.exec
  have hby := Bd.bytes
  have hml : c.maxLocals = 1 := hml0
  have hown : s.vm.findClass z0 = some m.cls := findClass_of_methodNamed Bd.named
  have hnm := (name_of_methodNamed Bd.named Bd.method).1
  have X0 : Stand p l e ({ frames := 0, cells := 0, slots := 0, locals := 0 } : Room) s m #[(.ref a1)] below meth c s₁ [] 0 0 := Stand.of_body Bd
  have e0 : s₁.heap = h0 := by rw [← hh, Bd.state]; rfl
  have N0 := Fr.nil n0
  have pre0 : ∀ t, Steps p.tables e below (s₁.setTop (mkF m 0 #[.val (.ref a1)] [])) t → Steps p.tables e below (s₁.setTop (entryFrame m #[(.ref a1)] 1)) t := fun t k => castTop (ef48 m a1) k
  obtain ⟨T1, X1, e1, st1⟩ := getF X0 hx hZ hown (host := "") (Or.inl (hw _ m67)) Via.refl e0 F1 (g := (mkF m 1 #[.val (.ref a1)] [(.ref a1)])) rfl rfl (hb hby d5_1)
  obtain ⟨fs, hr, hrun, hended, hW, hsame⟩ := X1.leave (v := some (.ref w10)) (fun h => by rw [Bd.returns] at h; cases h)
  refine ⟨_, _, pre0 _ ?_, hrun, hended, _, _, rfl, ?_, ⟨_, rfl⟩, hW, hsame.mono (by decide) (by decide)⟩
  · show Steps p.tables e below (s₁.setTop (mkF m 0 #[.val (.ref a1)] [])) _
    refine XS.aloadN X0.here hx rfl (hb hby d5_0) rfl rfl ?_
    refine st1 _ ?_
    exact retOut X1 hx Bd.returns rfl (Or.inr (Or.inr (Or.inr (Or.inr ⟨rfl, rfl, rfl⟩)))) (hb hby d5_4) hr
  · show Qrm14 Z w0 w1 w2 w3 w4 w5 w6 w7 w8 w9 w10 w11 w12 w13 w14 w15 w16 w17 a1 h0 n0 _ T1.heap _
    rw [e1]
    exact ⟨rfl, N0, rfl⟩
def Qrm15 (Z : State) (w0 : Addr) (w1 : Addr) (w2 : Addr) (w3 : Addr) (w4 : Addr) (w5 : Addr) (w6 : Addr) (w7 : Addr) (w8 : Addr) (w9 : Addr) (w10 : Addr) (w11 : Addr) (w12 : Addr) (w13 : Addr) (w14 : Addr) (w15 : Addr) (w16 : Addr) (w17 : Addr) (a1 : Addr) (a2 : Addr) (a3 : Addr) (h0 : Heap) (n0 : Nat) (v : Option Value) (h : Heap) (L : List Loc) : Prop := v = none ∧ Fr n0 L ∧ Keep h0 h [a1] ∧ Fld Z h a1 z0 "kind" z4 (.ref w11) ∧ Fld Z h a1 z0 "limitation" z8 (.ref a2) ∧ Fld Z h a1 z0 "catcher" z5 (.ref w0) ∧ Fld Z h a1 z0 "errorCode" z8 (.ref a3)
set_option maxRecDepth 65536 in
set_option maxHeartbeats 40000000 in
theorem rm15 (l : Launch) (Z : State) (a0 : Array Value) (hw : ∀ d ∈ tables_1, d.before a0 Z = true) (hj : ∀ d ∈ jdkStatics_1, d.before a0 Z = true) (w0 : Addr) (w1 : Addr) (w2 : Addr) (w3 : Addr) (w4 : Addr) (w5 : Addr) (w6 : Addr) (w7 : Addr) (w8 : Addr) (w9 : Addr) (w10 : Addr) (w11 : Addr) (w12 : Addr) (w13 : Addr) (w14 : Addr) (w15 : Addr) (w16 : Addr) (w17 : Addr) (hS : SF Z w0 w1 w2 w3 w4 w5 w6 w7 w8 w9 w10 w11 w12 w13 w14 w15 w16 w17) (ws : List Jvm.Cond) (a1 : Addr) (a2 : Addr) (a3 : Addr) (h0 : Heap) (n0 : Nat) (O0 : Old Z n0 h0) (E1 : Exa Z h0 a1 z0) (F2 : Fld Z h0 a1 z0 "kind" z4 .null) (F3 : Fld Z h0 a1 z0 "limitation" z8 .null) (F4 : Fld Z h0 a1 z0 "catcher" z5 .null) (F5 : Fld Z h0 a1 z0 "errorCode" z8 .null) (g6 : n0 ≤ a1) :
    MetFree l (⟨z0, "<init>", z6⟩ : MethodName) (head1 (Jvm.Cond.code (⟨z0, "<init>", z6⟩ : MethodName) prog_27_method_1_code 5 none :: ws) ({ frames := 2, cells := 0, slots := 0, locals := 24 } : Room)) (fun a U => a = #[(.ref a1), (.ref w11), (.ref a2), (.ref w0), (.ref a3)] ∧ Z.Warmed39 U.vm ∧ U.heap = h0) (fun _ _ _ _ _ => True) (fun _ U o U' => ∃ v L, o = .returned v ∧ Qrm15 Z w0 w1 w2 w3 w4 w5 w6 w7 w8 w9 w10 w11 w12 w13 w14 w15 w16 w17 a1 a2 a3 h0 n0 v U'.heap L ∧ FrameEnd U o U' L ({ frames := 2, cells := 0, slots := 0, locals := 24 } : Room).cells ({ frames := 2, cells := 0, slots := 0, locals := 24 } : Room).slots) := by
  refine MetFree.of_bodySF (plainFor_of_name pn72) hisR ?_
  intro p e s m args below meth c s₁ Bd hml0 hP hK
  obtain ⟨rfl, hZ, hh⟩ := hP
  have hx := Bd.exec
  have hby := Bd.bytes
  have hml : c.maxLocals = 5 := hml0
  have hown : s.vm.findClass z0 = some m.cls := findClass_of_methodNamed Bd.named
  have hnm := (name_of_methodNamed Bd.named Bd.method).1
  have X0 : Stand p l e ({ frames := 2, cells := 0, slots := 0, locals := 24 } : Room) s m #[(.ref a1), (.ref w11), (.ref a2), (.ref w0), (.ref a3)] below meth c s₁ [] 0 0 := Stand.of_body Bd
  have e0 : s₁.heap = h0 := by rw [← hh, Bd.state]; rfl
  have N0 := Fr.nil n0
  have pre0 : ∀ t, Steps p.tables e below (s₁.setTop (mkF m 0 #[.val (.ref a1), .val (.ref w11), .val (.ref a2), .val (.ref w0), .val (.ref a3)] [])) t → Steps p.tables e below (s₁.setTop (entryFrame m #[(.ref a1), (.ref w11), (.ref a2), (.ref w0), (.ref a3)] 5)) t := fun t k => castTop (ef71 m a1 w11 a2 w0 a3) k
  obtain ⟨_, T1, L1, hQ1, X1, st1⟩ := own_special X0 hx hZ (W := 0) rfl hown (hw _ m59) (hw _ m60) (hw _ m62) (hw _ m63) (by decide) (rm1 l Z a0 hw hj w0 w1 w2 w3 w4 w5 w6 w7 w8 w9 w10 w11 w12 w13 w14 w15 w16 w17 hS [] a1 h0 n0 O0) e0 (a := a1) (g := (mkF m 1 #[.val (.ref a1), .val (.ref w11), .val (.ref a2), .val (.ref w0), .val (.ref a3)] [(.ref a1)])) rfl (by rw [hml]; rfl) (argsL := []) (rest := []) (lenOf pd52 rfl) rfl rfl (by show 2 * 0 + _ ≤ _; exact Nat.le_of_eq rfl) (hb hby d2_1) (by decide) (by decide) (by decide) (by decide)
  obtain ⟨rfl, N1q, e1⟩ := hQ1
  have N1 := Fr.app N0 N1q
  have e1' : T1.heap = h0 := e1
  obtain ⟨T2, h2, L'2, X2, e2, W2, Fw2, O2, K2, N2, st2⟩ := own_put X1 hx hZ hown (host := "") (Or.inl (hw _ m67)) Via.refl e1' O0 (Keep.refl h0 [a1]) N1 g6 (Or.inl (List.mem_of_getElem? (i := 0) rfl)) F2 E1 (Or.inr ⟨(hw _ m68), rfl, hnm⟩) (hw _ m44) (ty := (.object z1)) (by decide) rfl rfl (g := (mkF m 6 #[.val (.ref a1), .val (.ref w11), .val (.ref a2), .val (.ref w0), .val (.ref a3)] [(.ref w11), (.ref a1)])) rfl rfl (hb hby d2_6)
  have f3 : Fld Z h2 a1 z0 "limitation" z8 .null := (F3.other W2 (Or.inr (slot_ne (Or.inr (hw _ m70)) (Or.inr (hw _ m68)) (by decide) (t := (.object z3)) (t' := (.object z1)) (by decide) (by decide))))
  have f4 : Exa Z h2 a1 z0 := (E1.wr W2)
  obtain ⟨T5, h5, L'5, X5, e5, W5, Fw5, O5, K5, N5, st5⟩ := own_put X2 hx hZ hown (host := "") (Or.inl (hw _ m69)) Via.refl e2 O2 K2 N2 g6 (Or.inl (List.mem_of_getElem? (i := 0) rfl)) f3 f4 (Or.inr ⟨(hw _ m70), rfl, hnm⟩) (hw _ m44) (ty := (.object z3)) (by decide) rfl rfl (g := (mkF m 11 #[.val (.ref a1), .val (.ref w11), .val (.ref a2), .val (.ref w0), .val (.ref a3)] [(.ref a2), (.ref a1)])) rfl rfl (hb hby d2_11)
  have f6 : Fld Z h5 a1 z0 "catcher" z5 .null := ((F4.other W2 (Or.inr (slot_ne (Or.inr (hw _ m72)) (Or.inr (hw _ m68)) (by decide) (t := (.object z2)) (t' := (.object z1)) (by decide) (by decide)))).other W5 (Or.inr (slot_ne (Or.inr (hw _ m72)) (Or.inr (hw _ m70)) (by decide) (t := (.object z2)) (t' := (.object z3)) (by decide) (by decide))))
  have f7 : Exa Z h5 a1 z0 := (f4.wr W5)
  obtain ⟨T8, h8, L'8, X8, e8, W8, Fw8, O8, K8, N8, st8⟩ := own_put X5 hx hZ hown (host := "") (Or.inl (hw _ m71)) Via.refl e5 O5 K5 N5 g6 (Or.inl (List.mem_of_getElem? (i := 0) rfl)) f6 f7 (Or.inr ⟨(hw _ m72), rfl, hnm⟩) (hw _ m44) (ty := (.object z2)) (by decide) rfl rfl (g := (mkF m 16 #[.val (.ref a1), .val (.ref w11), .val (.ref a2), .val (.ref w0), .val (.ref a3)] [(.ref w0), (.ref a1)])) rfl rfl (hb hby d2_16)
  have f9 : Fld Z h8 a1 z0 "errorCode" z8 .null := (((F5.other W2 (Or.inr (slot_ne (Or.inr (hw _ m74)) (Or.inr (hw _ m68)) (by decide) (t := (.object z3)) (t' := (.object z1)) (by decide) (by decide)))).other W5 (Or.inr (slot_ne (Or.inr (hw _ m74)) (Or.inr (hw _ m70)) (by decide) (t := (.object z3)) (t' := (.object z3)) (by decide) (by decide)))).other W8 (Or.inr (slot_ne (Or.inr (hw _ m74)) (Or.inr (hw _ m72)) (by decide) (t := (.object z3)) (t' := (.object z2)) (by decide) (by decide))))
  have f10 : Exa Z h8 a1 z0 := (f7.wr W8)
  obtain ⟨T11, h11, L'11, X11, e11, W11, Fw11, O11, K11, N11, st11⟩ := own_put X8 hx hZ hown (host := "") (Or.inl (hw _ m73)) Via.refl e8 O8 K8 N8 g6 (Or.inl (List.mem_of_getElem? (i := 0) rfl)) f9 f10 (Or.inr ⟨(hw _ m74), rfl, hnm⟩) (hw _ m44) (ty := (.object z3)) (by decide) rfl rfl (g := (mkF m 22 #[.val (.ref a1), .val (.ref w11), .val (.ref a2), .val (.ref w0), .val (.ref a3)] [(.ref a3), (.ref a1)])) rfl rfl (hb hby d2_22)
  have f12 : Fld Z h11 a1 z0 "kind" z4 (.ref w11) := (((Fw2.other W5 (Or.inr (slot_ne (Or.inr (hw _ m68)) (Or.inr (hw _ m70)) (by decide) (t := (.object z1)) (t' := (.object z3)) (by decide) (by decide)))).other W8 (Or.inr (slot_ne (Or.inr (hw _ m68)) (Or.inr (hw _ m72)) (by decide) (t := (.object z1)) (t' := (.object z2)) (by decide) (by decide)))).other W11 (Or.inr (slot_ne (Or.inr (hw _ m68)) (Or.inr (hw _ m74)) (by decide) (t := (.object z1)) (t' := (.object z3)) (by decide) (by decide))))
  have f13 : Fld Z h11 a1 z0 "limitation" z8 (.ref a2) := ((Fw5.other W8 (Or.inr (slot_ne (Or.inr (hw _ m70)) (Or.inr (hw _ m72)) (by decide) (t := (.object z3)) (t' := (.object z2)) (by decide) (by decide)))).other W11 (Or.inr (slot_ne (Or.inr (hw _ m70)) (Or.inr (hw _ m74)) (by decide) (t := (.object z3)) (t' := (.object z3)) (by decide) (by decide))))
  have f14 : Fld Z h11 a1 z0 "catcher" z5 (.ref w0) := (Fw8.other W11 (Or.inr (slot_ne (Or.inr (hw _ m72)) (Or.inr (hw _ m74)) (by decide) (t := (.object z2)) (t' := (.object z3)) (by decide) (by decide))))
  obtain ⟨fs, hr, hrun, hended, hW, hsame⟩ := X11.leave (v := none) (fun _ => rfl)
  refine ⟨_, _, pre0 _ ?_, hrun, hended, _, _, rfl, ?_, ⟨_, rfl⟩, hW, hsame.mono (by decide) (by decide)⟩
  · show Steps p.tables e below (s₁.setTop (mkF m 0 #[.val (.ref a1), .val (.ref w11), .val (.ref a2), .val (.ref w0), .val (.ref a3)] [])) _
    refine XS.aloadN X0.here hx rfl (hb hby d2_0) rfl rfl ?_
    refine st1 _ ?_
    refine XS.aloadN X1.here hx rfl (hb hby d2_4) rfl rfl ?_
    refine XS.aloadN X1.here hx rfl (hb hby d2_5) rfl rfl ?_
    show Steps p.tables e below (T1.setTop (mkF m 6 #[.val (.ref a1), .val (.ref w11), .val (.ref a2), .val (.ref w0), .val (.ref a3)] [(.ref w11), (.ref a1)])) _
    refine st2 _ ?_
    refine XS.aloadN X2.here hx rfl (hb hby d2_9) rfl rfl ?_
    refine XS.aloadN X2.here hx rfl (hb hby d2_10) rfl rfl ?_
    refine st5 _ ?_
    show Steps p.tables e below (T5.setTop (mkF m 14 #[.val (.ref a1), .val (.ref w11), .val (.ref a2), .val (.ref w0), .val (.ref a3)] [])) _
    refine XS.aloadN X5.here hx rfl (hb hby d2_14) rfl rfl ?_
    refine XS.aloadN X5.here hx rfl (hb hby d2_15) rfl rfl ?_
    refine st8 _ ?_
    refine XS.aloadN X8.here hx rfl (hb hby d2_19) rfl rfl ?_
    show Steps p.tables e below (T8.setTop (mkF m 20 #[.val (.ref a1), .val (.ref w11), .val (.ref a2), .val (.ref w0), .val (.ref a3)] [(.ref a1)])) _
    refine XS.aload X8.here hx rfl (hb hby d2_20) rfl rfl ?_
    refine st11 _ ?_
    exact X11.returnOut hx Bd.returns (hb hby d2_25) hr
  · show Qrm15 Z w0 w1 w2 w3 w4 w5 w6 w7 w8 w9 w10 w11 w12 w13 w14 w15 w16 w17 a1 a2 a3 h0 n0 _ T11.heap _
    rw [e11]
    exact ⟨rfl, N11, K11, f12, f13, f14, Fw11⟩
def Qrm16 (Z : State) (w0 : Addr) (w1 : Addr) (w2 : Addr) (w3 : Addr) (w4 : Addr) (w5 : Addr) (w6 : Addr) (w7 : Addr) (w8 : Addr) (w9 : Addr) (w10 : Addr) (w11 : Addr) (w12 : Addr) (w13 : Addr) (w14 : Addr) (w15 : Addr) (w16 : Addr) (w17 : Addr) (h0 : Heap) (n0 : Nat) (v : Option Value) (h : Heap) (L : List Loc) : Prop := ∃ x0 : Addr, ∃ x1 : Addr, ∃ x2 : Addr, ∃ x3 : Addr, ∃ x4 : Addr, ∃ xk0 : ClassId, ∃ xk1 : ClassId, v = some (.ref x0) ∧ Fr n0 L ∧ Keep h0 h [] ∧ h0.size ≤ x0 ∧ Exa Z h x0 z0 ∧ Fld Z h x0 z0 "kind" z4 (.ref w11) ∧ Fld Z h x0 z0 "limitation" z8 (.ref x1) ∧ Fld Z h x0 z0 "catcher" z5 (.ref w0) ∧ Fld Z h x0 z0 "errorCode" z8 (.ref x2) ∧ Exa Z h x1 z3 ∧ Fld Z h x1 z3 "coder" "B" (.int (0 : Int32)) ∧ Fld Z h x1 z3 "value" "[B" (.ref x3) ∧ Exa Z h x2 z3 ∧ Fld Z h x2 z3 "coder" "B" (.int (0 : Int32)) ∧ Fld Z h x2 z3 "value" "[B" (.ref x4) ∧ Arv Z h x3 xk0 .byte (0 : Int32) [] (.int (0 : Int32)) ∧ Arv Z h x4 xk1 .byte (0 : Int32) [] (.int (0 : Int32))
set_option maxRecDepth 65536 in
set_option maxHeartbeats 40000000 in
theorem rm16 (l : Launch) (Z : State) (a0 : Array Value) (hw : ∀ d ∈ tables_1, d.before a0 Z = true) (hj : ∀ d ∈ jdkStatics_1, d.before a0 Z = true) (w0 : Addr) (w1 : Addr) (w2 : Addr) (w3 : Addr) (w4 : Addr) (w5 : Addr) (w6 : Addr) (w7 : Addr) (w8 : Addr) (w9 : Addr) (w10 : Addr) (w11 : Addr) (w12 : Addr) (w13 : Addr) (w14 : Addr) (w15 : Addr) (w16 : Addr) (w17 : Addr) (hS : SF Z w0 w1 w2 w3 w4 w5 w6 w7 w8 w9 w10 w11 w12 w13 w14 w15 w16 w17) (ws : List Jvm.Cond) (h0 : Heap) (n0 : Nat) (O0 : Old Z n0 h0) :
    MetFree l (⟨z0, "runs", z7⟩ : MethodName) (head1 (Jvm.Cond.code (⟨z0, "runs", z7⟩ : MethodName) prog_27_method_2_code 1 (some (.object z0)) :: ws) ({ frames := 3, cells := 5, slots := 12, locals := 41 } : Room)) (fun a U => a = #[(.ref w11)] ∧ Z.Warmed39 U.vm ∧ U.heap = h0 ∧ CHv Z EL U.vm h0 ∧ ∀ x ∈ ([] : List Addr), Safe Z EL U.vm h0 x) (fun _ _ _ _ _ => True) (fun _ U o U' => ∃ v L, o = .returned v ∧ Qrm16 Z w0 w1 w2 w3 w4 w5 w6 w7 w8 w9 w10 w11 w12 w13 w14 w15 w16 w17 h0 n0 v U'.heap L ∧ CHr Z EL U.vm U.heap U'.vm U'.heap ∧ ReturnedEndW U o U' L ({ frames := 3, cells := 5, slots := 12, locals := 41 } : Room).cells ({ frames := 3, cells := 5, slots := 12, locals := 41 } : Room).slots) := by
  refine MetFree.of_bodySF (plainFor_of_name pn72) hisR ?_
  intro p e s m args below meth c s₁ Bd hml0 hP hK
  obtain ⟨rfl, hZ, hh, H0, hsx⟩ := hP
  have hx := Bd.exec
  have hby := Bd.bytes
  have hml : c.maxLocals = 1 := hml0
  have hown : s.vm.findClass z0 = some m.cls := findClass_of_methodNamed Bd.named
  have hnm := (name_of_methodNamed Bd.named Bd.method).1
  have X0 : Stand p l e ({ frames := 3, cells := 5, slots := 12, locals := 41 } : Room) (s.setVm s.vm) m #[(.ref w11)] below meth c s₁ [] 0 0 := Stand.of_body Bd
  have e0 : s₁.heap = h0 := by rw [← hh, Bd.state]; rfl
  have N0 := Fr.nil n0
  have pre0 : ∀ t, Steps p.tables e below (s₁.setTop (mkF m 0 #[.val (.ref w11)] [])) t → Steps p.tables e below (s₁.setTop (entryFrame m #[(.ref w11)] 1)) t := fun t k => castTop (ef48 m w11) k
  have hS0 : s.Since s.vm h0.size := (State.WarmedH.refl s).since _
  have C0 : CHr Z EL s.vm h0 s.vm h0 := CHr.refl H0
  obtain ⟨T1, h1, b1, X1, e1, E1, A1, D1, g1, O1, K1, st1⟩ := own_newO X0 hx hZ hown (hw _ m43) (hw _ m44) (hw _ m41) e0 O0 (Keep.refl h0 []) (g := (mkF m 0 #[.val (.ref w11)] [])) rfl (hb hby d1_0) (by decide) (by decide)
  have C1 := C0.trans (CHr.ext E1 C0.1)
  have F1_1 : Fld Z h1 b1 z0 "kind" z4 .null := D1 (Or.inr (hw _ m68)) (ty := (.object z1)) (by decide)
  have F1_2 : Fld Z h1 b1 z0 "limitation" z8 .null := D1 (Or.inr (hw _ m70)) (ty := (.object z3)) (by decide)
  have F1_3 : Fld Z h1 b1 z0 "catcher" z5 .null := D1 (Or.inr (hw _ m72)) (ty := (.object z2)) (by decide)
  have F1_4 : Fld Z h1 b1 z0 "errorCode" z8 .null := D1 (Or.inr (hw _ m74)) (ty := (.object z3)) (by decide)
  obtain ⟨sa2, T2, h2, k12, sb2, k2, X2, e2, E2, hS2, hk2, hZ2, hown2, A2, Fc2, Fv2, V2, la2, lb2, Cq2, -, hn2, st2⟩ := ldcCH X1 hx hZ hown (hw _ m45) (own_str hw hj) e1 hS0 (Nat.le_trans (Nat.le_refl _) E1.1) (own_EW hw hj) (List.mem_of_getElem? (i := 0) rfl) C1.1 (vs := []) (z := (0 : Int32)) ⟨by decide, by decide⟩ (by decide) (by decide) (g := (mkF m 5 #[.val (.ref w11)] [(.ref w11), (.ref b1), (.ref b1)])) rfl (hb hby d1_5) (n := 0) (by decide) (by decide) (by decide) (by decide)
  have O2 : Old Z n0 h2 := O1.ext E2
  have K2 : Keep h0 h2 [] := K1.ext E2
  have C2 := C1.trans Cq2
  obtain ⟨T3, X3, e3, st3⟩ := getS2 X2 hx hZ2 hown2 (host := "") (Or.inl (hw _ m53)) Via.refl e2 (hS.1.ext O2.2) (g := (mkF m 7 #[.val (.ref w11)] [(.ref sa2), (.ref w11), (.ref b1), (.ref b1)])) rfl (hb hby d1_7)
  obtain ⟨sa4, T4, h4, k14, sb4, k4, X4, e4, E4, hS4, hk4, hZ4, hown4, A4, Fc4, Fv4, V4, la4, lb4, Cq4, -, hn4, st4⟩ := ldcCH X3 hx hZ2 hown2 (hw _ m45) (own_str hw hj) e3 hS2 hk2 (own_EW hw hj) (List.mem_of_getElem? (i := 0) rfl) C2.1 (vs := []) (z := (0 : Int32)) ⟨by decide, by decide⟩ (by decide) (by decide) (g := (mkF m 10 #[.val (.ref w11)] [(.ref w0), (.ref sa2), (.ref w11), (.ref b1), (.ref b1)])) rfl (hb hby d1_10) (n := 0) (by decide) (by decide) (by decide) (by decide)
  have O4 : Old Z n0 h4 := O2.ext E4
  have K4 : Keep h0 h4 [] := K2.ext E4
  have C4 := C2.trans Cq4
  have f6 : Exa Z h4 b1 z0 := ((A1.ext E2).ext E4)
  have f7 : Fld Z h4 b1 z0 "kind" z4 .null := ((F1_1.ext E2).ext E4)
  have f8 : Fld Z h4 b1 z0 "limitation" z8 .null := ((F1_2.ext E2).ext E4)
  have f9 : Fld Z h4 b1 z0 "catcher" z5 .null := ((F1_3.ext E2).ext E4)
  have f10 : Fld Z h4 b1 z0 "errorCode" z8 .null := ((F1_4.ext E2).ext E4)
  have sf5 := ((sfS (Safe.exa (EL := EL) hZ4.alike f6 (by decide) (by decide)) sf0) : ∀ x ∈ [b1], Safe Z EL T4.vm h4 x)
  obtain ⟨_, T5, L5, hQ5, X5, st5⟩ := own_special X4 hx hZ4 (W := 1) rfl hown4 (hw _ m56) (hw _ m57) (hw _ m41) (hw _ m58) (by decide) (rm15 l Z a0 hw hj w0 w1 w2 w3 w4 w5 w6 w7 w8 w9 w10 w11 w12 w13 w14 w15 w16 w17 hS [] b1 sa2 sa4 h4 n0 O4 f6 f7 f8 f9 f10 (Nat.le_trans (own_old_le O0) g1)) e4 (a := b1) (g := (mkF m 12 #[.val (.ref w11)] [(.ref sa4), (.ref w0), (.ref sa2), (.ref w11), (.ref b1), (.ref b1)])) rfl (by rw [hml]; rfl) (argsL := [(.ref w11), (.ref sa2), (.ref w0), (.ref sa4)]) (rest := [(.ref b1)]) (lenOf pd74 rfl) rfl rfl (by show 2 * 0 + _ ≤ _; exact Nat.le_of_eq rfl) (hb hby d1_12) (by decide) (by decide) (by decide) (by decide)
  obtain ⟨rfl, N5q, Kq5, q5_0, q5_1, q5_2, q5_3⟩ := hQ5
  have N5 := Fr.app N0 N5q
  have C5 := C4.trans (CHr.keep Kq5 sf5 C4.1)
  have O5 : Old Z n0 T5.heap := O4.keep Kq5 (allS (Nat.le_trans (own_old_le O0) g1) all0)
  have K5 : Keep h0 T5.heap [] := K4.trans Kq5 (allS (Or.inr (Nat.le_trans (Keep.refl h0 []).1 g1)) all0)
  have f11 : Exa Z T5.heap b1 z0 := (f6.keep Kq5)
  have f12 : Exa Z T5.heap sa2 z3 := ((A2.ext E4).keep Kq5)
  have f13 : Fld Z T5.heap sa2 z3 "coder" "B" (.int (0 : Int32)) := ((Fc2.ext E4).keep Kq5 (ninS (ne_exa A2 (A1.ext E2) (by decide)) nin0))
  have f14 : Fld Z T5.heap sa2 z3 "value" "[B" (.ref sb2) := ((Fv2.ext E4).keep Kq5 (ninS (ne_exa A2 (A1.ext E2) (by decide)) nin0))
  have f15 : Exa Z T5.heap sa4 z3 := (A4.keep Kq5)
  have f16 : Fld Z T5.heap sa4 z3 "coder" "B" (.int (0 : Int32)) := (Fc4.keep Kq5 (ninS (ne_exa A4 f6 (by decide)) nin0))
  have f17 : Fld Z T5.heap sa4 z3 "value" "[B" (.ref sb4) := (Fv4.keep Kq5 (ninS (ne_exa A4 f6 (by decide)) nin0))
  have f18 : Arv Z T5.heap sb2 k2 .byte (0 : Int32) [] (.int (0 : Int32)) := ((V2.ext E4).keep Kq5 (ninS (Ne.symm (Exa.neArv (A1.ext E2) V2 (hw _ m44))) nin0))
  have f19 : Arv Z T5.heap sb4 k4 .byte (0 : Int32) [] (.int (0 : Int32)) := (V4.keep Kq5 (ninS (Ne.symm (Exa.neArv f6 V4 (hw _ m44))) nin0))
  obtain ⟨fs, hr, hrun, hended, hRW⟩ := X5.leaveW hS4 (by rw [(rfl : T5.heap = T5.heap)]; exact (Nat.le_trans hk4 Kq5.1)) (v := some (.ref b1)) (fun h => by rw [Bd.returns] at h; cases h)
  refine ⟨_, _, pre0 _ ?_, hrun, hended, _, _, rfl, ?_, ?_, hRW⟩
  · show Steps p.tables e below (s₁.setTop (mkF m 0 #[.val (.ref w11)] [])) _
    refine st1 _ ?_
    refine XS.dup X1.here hx rfl (hb hby d1_3) rfl rfl ?_
    refine XS.aloadN X1.here hx rfl (hb hby d1_4) rfl rfl ?_
    refine st2 _ ?_
    show Steps p.tables e below (T2.setTop (mkF m 7 #[.val (.ref w11)] [(.ref sa2), (.ref w11), (.ref b1), (.ref b1)])) _
    refine st3 _ ?_
    refine st4 _ ?_
    refine st5 _ ?_
    exact retOut X5 hx Bd.returns rfl (Or.inr (Or.inr (Or.inr (Or.inr ⟨rfl, rfl, rfl⟩)))) (hb hby d1_15) hr
  · show Qrm16 Z w0 w1 w2 w3 w4 w5 w6 w7 w8 w9 w10 w11 w12 w13 w14 w15 w16 w17 h0 n0 _ T5.heap _
    exact ⟨b1, sa2, sa4, sb2, sb4, k2, k4, rfl, N5, K5, (Nat.le_trans (Keep.refl h0 []).1 g1), f11, q5_0, q5_1, q5_2, q5_3, f12, f13, f14, f15, f16, f17, f18, f19⟩
  · show CHr Z EL _ _ T5.vm T5.heap
    exact own_chr (by rw [← hh]) (rfl : T5.heap = T5.heap) (C5.trans (CHv.at X5 hZ4 (own_EW hw hj) C5.1))
def Qrm17 (Z : State) (w0 : Addr) (w1 : Addr) (w2 : Addr) (w3 : Addr) (w4 : Addr) (w5 : Addr) (w6 : Addr) (w7 : Addr) (w8 : Addr) (w9 : Addr) (w10 : Addr) (w11 : Addr) (w12 : Addr) (w13 : Addr) (w14 : Addr) (w15 : Addr) (w16 : Addr) (w17 : Addr) (a1 : Addr) (h0 : Heap) (n0 : Nat) (v : Option Value) (h : Heap) (L : List Loc) : Prop := v = some (.ref w11) ∧ Fr n0 L ∧ h = h0
set_option maxRecDepth 65536 in
set_option maxHeartbeats 40000000 in
theorem rm17 (l : Launch) (Z : State) (a0 : Array Value) (hw : ∀ d ∈ tables_1, d.before a0 Z = true) (hj : ∀ d ∈ jdkStatics_1, d.before a0 Z = true) (w0 : Addr) (w1 : Addr) (w2 : Addr) (w3 : Addr) (w4 : Addr) (w5 : Addr) (w6 : Addr) (w7 : Addr) (w8 : Addr) (w9 : Addr) (w10 : Addr) (w11 : Addr) (w12 : Addr) (w13 : Addr) (w14 : Addr) (w15 : Addr) (w16 : Addr) (w17 : Addr) (hS : SF Z w0 w1 w2 w3 w4 w5 w6 w7 w8 w9 w10 w11 w12 w13 w14 w15 w16 w17) (ws : List Jvm.Cond) (a1 : Addr) (h0 : Heap) (n0 : Nat) (O0 : Old Z n0 h0) (F1 : Fld Z h0 a1 z0 "kind" z4 (.ref w11)) :
    MetFree l (⟨z0, "kind", z9⟩ : MethodName) (head1 (Jvm.Cond.code (⟨z0, "kind", z9⟩ : MethodName) prog_27_method_7_code 1 (some (.object z1)) :: ws) ({ frames := 0, cells := 0, slots := 0, locals := 0 } : Room)) (fun a U => a = #[(.ref a1)] ∧ Z.Warmed39 U.vm ∧ U.heap = h0) (fun _ _ _ _ _ => True) (fun _ U o U' => ∃ v L, o = .returned v ∧ Qrm17 Z w0 w1 w2 w3 w4 w5 w6 w7 w8 w9 w10 w11 w12 w13 w14 w15 w16 w17 a1 h0 n0 v U'.heap L ∧ FrameEnd U o U' L ({ frames := 0, cells := 0, slots := 0, locals := 0 } : Room).cells ({ frames := 0, cells := 0, slots := 0, locals := 0 } : Room).slots) := by
  refine MetFree.of_bodySF (plainFor_of_name pn72) hisR ?_
  intro p e s m args below meth c s₁ Bd hml0 hP hK
  obtain ⟨rfl, hZ, hh⟩ := hP
  have hx := Bd.exec
  have hby := Bd.bytes
  have hml : c.maxLocals = 1 := hml0
  have hown : s.vm.findClass z0 = some m.cls := findClass_of_methodNamed Bd.named
  have hnm := (name_of_methodNamed Bd.named Bd.method).1
  have X0 : Stand p l e ({ frames := 0, cells := 0, slots := 0, locals := 0 } : Room) s m #[(.ref a1)] below meth c s₁ [] 0 0 := Stand.of_body Bd
  have e0 : s₁.heap = h0 := by rw [← hh, Bd.state]; rfl
  have N0 := Fr.nil n0
  have pre0 : ∀ t, Steps p.tables e below (s₁.setTop (mkF m 0 #[.val (.ref a1)] [])) t → Steps p.tables e below (s₁.setTop (entryFrame m #[(.ref a1)] 1)) t := fun t k => castTop (ef48 m a1) k
  obtain ⟨T1, X1, e1, st1⟩ := getF X0 hx hZ hown (host := "") (Or.inl (hw _ m67)) Via.refl e0 F1 (g := (mkF m 1 #[.val (.ref a1)] [(.ref a1)])) rfl rfl (hb hby d5_1)
  obtain ⟨fs, hr, hrun, hended, hW, hsame⟩ := X1.leave (v := some (.ref w11)) (fun h => by rw [Bd.returns] at h; cases h)
  refine ⟨_, _, pre0 _ ?_, hrun, hended, _, _, rfl, ?_, ⟨_, rfl⟩, hW, hsame.mono (by decide) (by decide)⟩
  · show Steps p.tables e below (s₁.setTop (mkF m 0 #[.val (.ref a1)] [])) _
    refine XS.aloadN X0.here hx rfl (hb hby d5_0) rfl rfl ?_
    refine st1 _ ?_
    exact retOut X1 hx Bd.returns rfl (Or.inr (Or.inr (Or.inr (Or.inr ⟨rfl, rfl, rfl⟩)))) (hb hby d5_4) hr
  · show Qrm17 Z w0 w1 w2 w3 w4 w5 w6 w7 w8 w9 w10 w11 w12 w13 w14 w15 w16 w17 a1 h0 n0 _ T1.heap _
    rw [e1]
    exact ⟨rfl, N0, rfl⟩
def Qrm18 (Z : State) (w0 : Addr) (w1 : Addr) (w2 : Addr) (w3 : Addr) (w4 : Addr) (w5 : Addr) (w6 : Addr) (w7 : Addr) (w8 : Addr) (w9 : Addr) (w10 : Addr) (w11 : Addr) (w12 : Addr) (w13 : Addr) (w14 : Addr) (w15 : Addr) (w16 : Addr) (w17 : Addr) (a1 : Addr) (a2 : Addr) (a3 : Addr) (h0 : Heap) (n0 : Nat) (v : Option Value) (h : Heap) (L : List Loc) : Prop := v = none ∧ Fr n0 L ∧ Keep h0 h [a1] ∧ Fld Z h a1 z0 "kind" z4 (.ref w16) ∧ Fld Z h a1 z0 "limitation" z8 (.ref a2) ∧ Fld Z h a1 z0 "catcher" z5 (.ref w0) ∧ Fld Z h a1 z0 "errorCode" z8 (.ref a3)
set_option maxRecDepth 65536 in
set_option maxHeartbeats 40000000 in
theorem rm18 (l : Launch) (Z : State) (a0 : Array Value) (hw : ∀ d ∈ tables_1, d.before a0 Z = true) (hj : ∀ d ∈ jdkStatics_1, d.before a0 Z = true) (w0 : Addr) (w1 : Addr) (w2 : Addr) (w3 : Addr) (w4 : Addr) (w5 : Addr) (w6 : Addr) (w7 : Addr) (w8 : Addr) (w9 : Addr) (w10 : Addr) (w11 : Addr) (w12 : Addr) (w13 : Addr) (w14 : Addr) (w15 : Addr) (w16 : Addr) (w17 : Addr) (hS : SF Z w0 w1 w2 w3 w4 w5 w6 w7 w8 w9 w10 w11 w12 w13 w14 w15 w16 w17) (ws : List Jvm.Cond) (a1 : Addr) (a2 : Addr) (a3 : Addr) (h0 : Heap) (n0 : Nat) (O0 : Old Z n0 h0) (E1 : Exa Z h0 a1 z0) (F2 : Fld Z h0 a1 z0 "kind" z4 .null) (F3 : Fld Z h0 a1 z0 "limitation" z8 .null) (F4 : Fld Z h0 a1 z0 "catcher" z5 .null) (F5 : Fld Z h0 a1 z0 "errorCode" z8 .null) (g6 : n0 ≤ a1) :
    MetFree l (⟨z0, "<init>", z6⟩ : MethodName) (head1 (Jvm.Cond.code (⟨z0, "<init>", z6⟩ : MethodName) prog_27_method_1_code 5 none :: ws) ({ frames := 2, cells := 0, slots := 0, locals := 24 } : Room)) (fun a U => a = #[(.ref a1), (.ref w16), (.ref a2), (.ref w0), (.ref a3)] ∧ Z.Warmed39 U.vm ∧ U.heap = h0) (fun _ _ _ _ _ => True) (fun _ U o U' => ∃ v L, o = .returned v ∧ Qrm18 Z w0 w1 w2 w3 w4 w5 w6 w7 w8 w9 w10 w11 w12 w13 w14 w15 w16 w17 a1 a2 a3 h0 n0 v U'.heap L ∧ FrameEnd U o U' L ({ frames := 2, cells := 0, slots := 0, locals := 24 } : Room).cells ({ frames := 2, cells := 0, slots := 0, locals := 24 } : Room).slots) := by
  refine MetFree.of_bodySF (plainFor_of_name pn72) hisR ?_
  intro p e s m args below meth c s₁ Bd hml0 hP hK
  obtain ⟨rfl, hZ, hh⟩ := hP
  have hx := Bd.exec
  have hby := Bd.bytes
  have hml : c.maxLocals = 5 := hml0
  have hown : s.vm.findClass z0 = some m.cls := findClass_of_methodNamed Bd.named
  have hnm := (name_of_methodNamed Bd.named Bd.method).1
  have X0 : Stand p l e ({ frames := 2, cells := 0, slots := 0, locals := 24 } : Room) s m #[(.ref a1), (.ref w16), (.ref a2), (.ref w0), (.ref a3)] below meth c s₁ [] 0 0 := Stand.of_body Bd
  have e0 : s₁.heap = h0 := by rw [← hh, Bd.state]; rfl
  have N0 := Fr.nil n0
  have pre0 : ∀ t, Steps p.tables e below (s₁.setTop (mkF m 0 #[.val (.ref a1), .val (.ref w16), .val (.ref a2), .val (.ref w0), .val (.ref a3)] [])) t → Steps p.tables e below (s₁.setTop (entryFrame m #[(.ref a1), (.ref w16), (.ref a2), (.ref w0), (.ref a3)] 5)) t := fun t k => castTop (ef71 m a1 w16 a2 w0 a3) k
  obtain ⟨_, T1, L1, hQ1, X1, st1⟩ := own_special X0 hx hZ (W := 0) rfl hown (hw _ m59) (hw _ m60) (hw _ m62) (hw _ m63) (by decide) (rm1 l Z a0 hw hj w0 w1 w2 w3 w4 w5 w6 w7 w8 w9 w10 w11 w12 w13 w14 w15 w16 w17 hS [] a1 h0 n0 O0) e0 (a := a1) (g := (mkF m 1 #[.val (.ref a1), .val (.ref w16), .val (.ref a2), .val (.ref w0), .val (.ref a3)] [(.ref a1)])) rfl (by rw [hml]; rfl) (argsL := []) (rest := []) (lenOf pd52 rfl) rfl rfl (by show 2 * 0 + _ ≤ _; exact Nat.le_of_eq rfl) (hb hby d2_1) (by decide) (by decide) (by decide) (by decide)
  obtain ⟨rfl, N1q, e1⟩ := hQ1
  have N1 := Fr.app N0 N1q
  have e1' : T1.heap = h0 := e1
  obtain ⟨T2, h2, L'2, X2, e2, W2, Fw2, O2, K2, N2, st2⟩ := own_put X1 hx hZ hown (host := "") (Or.inl (hw _ m67)) Via.refl e1' O0 (Keep.refl h0 [a1]) N1 g6 (Or.inl (List.mem_of_getElem? (i := 0) rfl)) F2 E1 (Or.inr ⟨(hw _ m68), rfl, hnm⟩) (hw _ m44) (ty := (.object z1)) (by decide) rfl rfl (g := (mkF m 6 #[.val (.ref a1), .val (.ref w16), .val (.ref a2), .val (.ref w0), .val (.ref a3)] [(.ref w16), (.ref a1)])) rfl rfl (hb hby d2_6)
  have f3 : Fld Z h2 a1 z0 "limitation" z8 .null := (F3.other W2 (Or.inr (slot_ne (Or.inr (hw _ m70)) (Or.inr (hw _ m68)) (by decide) (t := (.object z3)) (t' := (.object z1)) (by decide) (by decide))))
  have f4 : Exa Z h2 a1 z0 := (E1.wr W2)
  obtain ⟨T5, h5, L'5, X5, e5, W5, Fw5, O5, K5, N5, st5⟩ := own_put X2 hx hZ hown (host := "") (Or.inl (hw _ m69)) Via.refl e2 O2 K2 N2 g6 (Or.inl (List.mem_of_getElem? (i := 0) rfl)) f3 f4 (Or.inr ⟨(hw _ m70), rfl, hnm⟩) (hw _ m44) (ty := (.object z3)) (by decide) rfl rfl (g := (mkF m 11 #[.val (.ref a1), .val (.ref w16), .val (.ref a2), .val (.ref w0), .val (.ref a3)] [(.ref a2), (.ref a1)])) rfl rfl (hb hby d2_11)
  have f6 : Fld Z h5 a1 z0 "catcher" z5 .null := ((F4.other W2 (Or.inr (slot_ne (Or.inr (hw _ m72)) (Or.inr (hw _ m68)) (by decide) (t := (.object z2)) (t' := (.object z1)) (by decide) (by decide)))).other W5 (Or.inr (slot_ne (Or.inr (hw _ m72)) (Or.inr (hw _ m70)) (by decide) (t := (.object z2)) (t' := (.object z3)) (by decide) (by decide))))
  have f7 : Exa Z h5 a1 z0 := (f4.wr W5)
  obtain ⟨T8, h8, L'8, X8, e8, W8, Fw8, O8, K8, N8, st8⟩ := own_put X5 hx hZ hown (host := "") (Or.inl (hw _ m71)) Via.refl e5 O5 K5 N5 g6 (Or.inl (List.mem_of_getElem? (i := 0) rfl)) f6 f7 (Or.inr ⟨(hw _ m72), rfl, hnm⟩) (hw _ m44) (ty := (.object z2)) (by decide) rfl rfl (g := (mkF m 16 #[.val (.ref a1), .val (.ref w16), .val (.ref a2), .val (.ref w0), .val (.ref a3)] [(.ref w0), (.ref a1)])) rfl rfl (hb hby d2_16)
  have f9 : Fld Z h8 a1 z0 "errorCode" z8 .null := (((F5.other W2 (Or.inr (slot_ne (Or.inr (hw _ m74)) (Or.inr (hw _ m68)) (by decide) (t := (.object z3)) (t' := (.object z1)) (by decide) (by decide)))).other W5 (Or.inr (slot_ne (Or.inr (hw _ m74)) (Or.inr (hw _ m70)) (by decide) (t := (.object z3)) (t' := (.object z3)) (by decide) (by decide)))).other W8 (Or.inr (slot_ne (Or.inr (hw _ m74)) (Or.inr (hw _ m72)) (by decide) (t := (.object z3)) (t' := (.object z2)) (by decide) (by decide))))
  have f10 : Exa Z h8 a1 z0 := (f7.wr W8)
  obtain ⟨T11, h11, L'11, X11, e11, W11, Fw11, O11, K11, N11, st11⟩ := own_put X8 hx hZ hown (host := "") (Or.inl (hw _ m73)) Via.refl e8 O8 K8 N8 g6 (Or.inl (List.mem_of_getElem? (i := 0) rfl)) f9 f10 (Or.inr ⟨(hw _ m74), rfl, hnm⟩) (hw _ m44) (ty := (.object z3)) (by decide) rfl rfl (g := (mkF m 22 #[.val (.ref a1), .val (.ref w16), .val (.ref a2), .val (.ref w0), .val (.ref a3)] [(.ref a3), (.ref a1)])) rfl rfl (hb hby d2_22)
  have f12 : Fld Z h11 a1 z0 "kind" z4 (.ref w16) := (((Fw2.other W5 (Or.inr (slot_ne (Or.inr (hw _ m68)) (Or.inr (hw _ m70)) (by decide) (t := (.object z1)) (t' := (.object z3)) (by decide) (by decide)))).other W8 (Or.inr (slot_ne (Or.inr (hw _ m68)) (Or.inr (hw _ m72)) (by decide) (t := (.object z1)) (t' := (.object z2)) (by decide) (by decide)))).other W11 (Or.inr (slot_ne (Or.inr (hw _ m68)) (Or.inr (hw _ m74)) (by decide) (t := (.object z1)) (t' := (.object z3)) (by decide) (by decide))))
  have f13 : Fld Z h11 a1 z0 "limitation" z8 (.ref a2) := ((Fw5.other W8 (Or.inr (slot_ne (Or.inr (hw _ m70)) (Or.inr (hw _ m72)) (by decide) (t := (.object z3)) (t' := (.object z2)) (by decide) (by decide)))).other W11 (Or.inr (slot_ne (Or.inr (hw _ m70)) (Or.inr (hw _ m74)) (by decide) (t := (.object z3)) (t' := (.object z3)) (by decide) (by decide))))
  have f14 : Fld Z h11 a1 z0 "catcher" z5 (.ref w0) := (Fw8.other W11 (Or.inr (slot_ne (Or.inr (hw _ m72)) (Or.inr (hw _ m74)) (by decide) (t := (.object z2)) (t' := (.object z3)) (by decide) (by decide))))
  obtain ⟨fs, hr, hrun, hended, hW, hsame⟩ := X11.leave (v := none) (fun _ => rfl)
  refine ⟨_, _, pre0 _ ?_, hrun, hended, _, _, rfl, ?_, ⟨_, rfl⟩, hW, hsame.mono (by decide) (by decide)⟩
  · show Steps p.tables e below (s₁.setTop (mkF m 0 #[.val (.ref a1), .val (.ref w16), .val (.ref a2), .val (.ref w0), .val (.ref a3)] [])) _
    refine XS.aloadN X0.here hx rfl (hb hby d2_0) rfl rfl ?_
    refine st1 _ ?_
    refine XS.aloadN X1.here hx rfl (hb hby d2_4) rfl rfl ?_
    refine XS.aloadN X1.here hx rfl (hb hby d2_5) rfl rfl ?_
    show Steps p.tables e below (T1.setTop (mkF m 6 #[.val (.ref a1), .val (.ref w16), .val (.ref a2), .val (.ref w0), .val (.ref a3)] [(.ref w16), (.ref a1)])) _
    refine st2 _ ?_
    refine XS.aloadN X2.here hx rfl (hb hby d2_9) rfl rfl ?_
    refine XS.aloadN X2.here hx rfl (hb hby d2_10) rfl rfl ?_
    refine st5 _ ?_
    show Steps p.tables e below (T5.setTop (mkF m 14 #[.val (.ref a1), .val (.ref w16), .val (.ref a2), .val (.ref w0), .val (.ref a3)] [])) _
    refine XS.aloadN X5.here hx rfl (hb hby d2_14) rfl rfl ?_
    refine XS.aloadN X5.here hx rfl (hb hby d2_15) rfl rfl ?_
    refine st8 _ ?_
    refine XS.aloadN X8.here hx rfl (hb hby d2_19) rfl rfl ?_
    show Steps p.tables e below (T8.setTop (mkF m 20 #[.val (.ref a1), .val (.ref w16), .val (.ref a2), .val (.ref w0), .val (.ref a3)] [(.ref a1)])) _
    refine XS.aload X8.here hx rfl (hb hby d2_20) rfl rfl ?_
    refine st11 _ ?_
    exact X11.returnOut hx Bd.returns (hb hby d2_25) hr
  · show Qrm18 Z w0 w1 w2 w3 w4 w5 w6 w7 w8 w9 w10 w11 w12 w13 w14 w15 w16 w17 a1 a2 a3 h0 n0 _ T11.heap _
    rw [e11]
    exact ⟨rfl, N11, K11, f12, f13, f14, Fw11⟩
def Qrm19 (Z : State) (w0 : Addr) (w1 : Addr) (w2 : Addr) (w3 : Addr) (w4 : Addr) (w5 : Addr) (w6 : Addr) (w7 : Addr) (w8 : Addr) (w9 : Addr) (w10 : Addr) (w11 : Addr) (w12 : Addr) (w13 : Addr) (w14 : Addr) (w15 : Addr) (w16 : Addr) (w17 : Addr) (h0 : Heap) (n0 : Nat) (v : Option Value) (h : Heap) (L : List Loc) : Prop := ∃ x0 : Addr, ∃ x1 : Addr, ∃ x2 : Addr, ∃ x3 : Addr, ∃ x4 : Addr, ∃ xk0 : ClassId, ∃ xk1 : ClassId, v = some (.ref x0) ∧ Fr n0 L ∧ Keep h0 h [] ∧ h0.size ≤ x0 ∧ Exa Z h x0 z0 ∧ Fld Z h x0 z0 "kind" z4 (.ref w16) ∧ Fld Z h x0 z0 "limitation" z8 (.ref x1) ∧ Fld Z h x0 z0 "catcher" z5 (.ref w0) ∧ Fld Z h x0 z0 "errorCode" z8 (.ref x2) ∧ Exa Z h x1 z3 ∧ Fld Z h x1 z3 "coder" "B" (.int (0 : Int32)) ∧ Fld Z h x1 z3 "value" "[B" (.ref x3) ∧ Exa Z h x2 z3 ∧ Fld Z h x2 z3 "coder" "B" (.int (0 : Int32)) ∧ Fld Z h x2 z3 "value" "[B" (.ref x4) ∧ Arv Z h x3 xk0 .byte (0 : Int32) [] (.int (0 : Int32)) ∧ Arv Z h x4 xk1 .byte (0 : Int32) [] (.int (0 : Int32))
set_option maxRecDepth 65536 in
set_option maxHeartbeats 40000000 in
theorem rm19 (l : Launch) (Z : State) (a0 : Array Value) (hw : ∀ d ∈ tables_1, d.before a0 Z = true) (hj : ∀ d ∈ jdkStatics_1, d.before a0 Z = true) (w0 : Addr) (w1 : Addr) (w2 : Addr) (w3 : Addr) (w4 : Addr) (w5 : Addr) (w6 : Addr) (w7 : Addr) (w8 : Addr) (w9 : Addr) (w10 : Addr) (w11 : Addr) (w12 : Addr) (w13 : Addr) (w14 : Addr) (w15 : Addr) (w16 : Addr) (w17 : Addr) (hS : SF Z w0 w1 w2 w3 w4 w5 w6 w7 w8 w9 w10 w11 w12 w13 w14 w15 w16 w17) (ws : List Jvm.Cond) (h0 : Heap) (n0 : Nat) (O0 : Old Z n0 h0) :
    MetFree l (⟨z0, "runs", z7⟩ : MethodName) (head1 (Jvm.Cond.code (⟨z0, "runs", z7⟩ : MethodName) prog_27_method_2_code 1 (some (.object z0)) :: ws) ({ frames := 3, cells := 5, slots := 12, locals := 41 } : Room)) (fun a U => a = #[(.ref w16)] ∧ Z.Warmed39 U.vm ∧ U.heap = h0 ∧ CHv Z EL U.vm h0 ∧ ∀ x ∈ ([] : List Addr), Safe Z EL U.vm h0 x) (fun _ _ _ _ _ => True) (fun _ U o U' => ∃ v L, o = .returned v ∧ Qrm19 Z w0 w1 w2 w3 w4 w5 w6 w7 w8 w9 w10 w11 w12 w13 w14 w15 w16 w17 h0 n0 v U'.heap L ∧ CHr Z EL U.vm U.heap U'.vm U'.heap ∧ ReturnedEndW U o U' L ({ frames := 3, cells := 5, slots := 12, locals := 41 } : Room).cells ({ frames := 3, cells := 5, slots := 12, locals := 41 } : Room).slots) := by
  refine MetFree.of_bodySF (plainFor_of_name pn72) hisR ?_
  intro p e s m args below meth c s₁ Bd hml0 hP hK
  obtain ⟨rfl, hZ, hh, H0, hsx⟩ := hP
  have hx := Bd.exec
  have hby := Bd.bytes
  have hml : c.maxLocals = 1 := hml0
  have hown : s.vm.findClass z0 = some m.cls := findClass_of_methodNamed Bd.named
  have hnm := (name_of_methodNamed Bd.named Bd.method).1
  have X0 : Stand p l e ({ frames := 3, cells := 5, slots := 12, locals := 41 } : Room) (s.setVm s.vm) m #[(.ref w16)] below meth c s₁ [] 0 0 := Stand.of_body Bd
  have e0 : s₁.heap = h0 := by rw [← hh, Bd.state]; rfl
  have N0 := Fr.nil n0
  have pre0 : ∀ t, Steps p.tables e below (s₁.setTop (mkF m 0 #[.val (.ref w16)] [])) t → Steps p.tables e below (s₁.setTop (entryFrame m #[(.ref w16)] 1)) t := fun t k => castTop (ef48 m w16) k
  have hS0 : s.Since s.vm h0.size := (State.WarmedH.refl s).since _
  have C0 : CHr Z EL s.vm h0 s.vm h0 := CHr.refl H0
  obtain ⟨T1, h1, b1, X1, e1, E1, A1, D1, g1, O1, K1, st1⟩ := own_newO X0 hx hZ hown (hw _ m43) (hw _ m44) (hw _ m41) e0 O0 (Keep.refl h0 []) (g := (mkF m 0 #[.val (.ref w16)] [])) rfl (hb hby d1_0) (by decide) (by decide)
  have C1 := C0.trans (CHr.ext E1 C0.1)
  have F1_1 : Fld Z h1 b1 z0 "kind" z4 .null := D1 (Or.inr (hw _ m68)) (ty := (.object z1)) (by decide)
  have F1_2 : Fld Z h1 b1 z0 "limitation" z8 .null := D1 (Or.inr (hw _ m70)) (ty := (.object z3)) (by decide)
  have F1_3 : Fld Z h1 b1 z0 "catcher" z5 .null := D1 (Or.inr (hw _ m72)) (ty := (.object z2)) (by decide)
  have F1_4 : Fld Z h1 b1 z0 "errorCode" z8 .null := D1 (Or.inr (hw _ m74)) (ty := (.object z3)) (by decide)
  obtain ⟨sa2, T2, h2, k12, sb2, k2, X2, e2, E2, hS2, hk2, hZ2, hown2, A2, Fc2, Fv2, V2, la2, lb2, Cq2, -, hn2, st2⟩ := ldcCH X1 hx hZ hown (hw _ m45) (own_str hw hj) e1 hS0 (Nat.le_trans (Nat.le_refl _) E1.1) (own_EW hw hj) (List.mem_of_getElem? (i := 0) rfl) C1.1 (vs := []) (z := (0 : Int32)) ⟨by decide, by decide⟩ (by decide) (by decide) (g := (mkF m 5 #[.val (.ref w16)] [(.ref w16), (.ref b1), (.ref b1)])) rfl (hb hby d1_5) (n := 0) (by decide) (by decide) (by decide) (by decide)
  have O2 : Old Z n0 h2 := O1.ext E2
  have K2 : Keep h0 h2 [] := K1.ext E2
  have C2 := C1.trans Cq2
  obtain ⟨T3, X3, e3, st3⟩ := getS2 X2 hx hZ2 hown2 (host := "") (Or.inl (hw _ m53)) Via.refl e2 (hS.1.ext O2.2) (g := (mkF m 7 #[.val (.ref w16)] [(.ref sa2), (.ref w16), (.ref b1), (.ref b1)])) rfl (hb hby d1_7)
  obtain ⟨sa4, T4, h4, k14, sb4, k4, X4, e4, E4, hS4, hk4, hZ4, hown4, A4, Fc4, Fv4, V4, la4, lb4, Cq4, -, hn4, st4⟩ := ldcCH X3 hx hZ2 hown2 (hw _ m45) (own_str hw hj) e3 hS2 hk2 (own_EW hw hj) (List.mem_of_getElem? (i := 0) rfl) C2.1 (vs := []) (z := (0 : Int32)) ⟨by decide, by decide⟩ (by decide) (by decide) (g := (mkF m 10 #[.val (.ref w16)] [(.ref w0), (.ref sa2), (.ref w16), (.ref b1), (.ref b1)])) rfl (hb hby d1_10) (n := 0) (by decide) (by decide) (by decide) (by decide)
  have O4 : Old Z n0 h4 := O2.ext E4
  have K4 : Keep h0 h4 [] := K2.ext E4
  have C4 := C2.trans Cq4
  have f6 : Exa Z h4 b1 z0 := ((A1.ext E2).ext E4)
  have f7 : Fld Z h4 b1 z0 "kind" z4 .null := ((F1_1.ext E2).ext E4)
  have f8 : Fld Z h4 b1 z0 "limitation" z8 .null := ((F1_2.ext E2).ext E4)
  have f9 : Fld Z h4 b1 z0 "catcher" z5 .null := ((F1_3.ext E2).ext E4)
  have f10 : Fld Z h4 b1 z0 "errorCode" z8 .null := ((F1_4.ext E2).ext E4)
  have sf5 := ((sfS (Safe.exa (EL := EL) hZ4.alike f6 (by decide) (by decide)) sf0) : ∀ x ∈ [b1], Safe Z EL T4.vm h4 x)
  obtain ⟨_, T5, L5, hQ5, X5, st5⟩ := own_special X4 hx hZ4 (W := 1) rfl hown4 (hw _ m56) (hw _ m57) (hw _ m41) (hw _ m58) (by decide) (rm18 l Z a0 hw hj w0 w1 w2 w3 w4 w5 w6 w7 w8 w9 w10 w11 w12 w13 w14 w15 w16 w17 hS [] b1 sa2 sa4 h4 n0 O4 f6 f7 f8 f9 f10 (Nat.le_trans (own_old_le O0) g1)) e4 (a := b1) (g := (mkF m 12 #[.val (.ref w16)] [(.ref sa4), (.ref w0), (.ref sa2), (.ref w16), (.ref b1), (.ref b1)])) rfl (by rw [hml]; rfl) (argsL := [(.ref w16), (.ref sa2), (.ref w0), (.ref sa4)]) (rest := [(.ref b1)]) (lenOf pd74 rfl) rfl rfl (by show 2 * 0 + _ ≤ _; exact Nat.le_of_eq rfl) (hb hby d1_12) (by decide) (by decide) (by decide) (by decide)
  obtain ⟨rfl, N5q, Kq5, q5_0, q5_1, q5_2, q5_3⟩ := hQ5
  have N5 := Fr.app N0 N5q
  have C5 := C4.trans (CHr.keep Kq5 sf5 C4.1)
  have O5 : Old Z n0 T5.heap := O4.keep Kq5 (allS (Nat.le_trans (own_old_le O0) g1) all0)
  have K5 : Keep h0 T5.heap [] := K4.trans Kq5 (allS (Or.inr (Nat.le_trans (Keep.refl h0 []).1 g1)) all0)
  have f11 : Exa Z T5.heap b1 z0 := (f6.keep Kq5)
  have f12 : Exa Z T5.heap sa2 z3 := ((A2.ext E4).keep Kq5)
  have f13 : Fld Z T5.heap sa2 z3 "coder" "B" (.int (0 : Int32)) := ((Fc2.ext E4).keep Kq5 (ninS (ne_exa A2 (A1.ext E2) (by decide)) nin0))
  have f14 : Fld Z T5.heap sa2 z3 "value" "[B" (.ref sb2) := ((Fv2.ext E4).keep Kq5 (ninS (ne_exa A2 (A1.ext E2) (by decide)) nin0))
  have f15 : Exa Z T5.heap sa4 z3 := (A4.keep Kq5)
  have f16 : Fld Z T5.heap sa4 z3 "coder" "B" (.int (0 : Int32)) := (Fc4.keep Kq5 (ninS (ne_exa A4 f6 (by decide)) nin0))
  have f17 : Fld Z T5.heap sa4 z3 "value" "[B" (.ref sb4) := (Fv4.keep Kq5 (ninS (ne_exa A4 f6 (by decide)) nin0))
  have f18 : Arv Z T5.heap sb2 k2 .byte (0 : Int32) [] (.int (0 : Int32)) := ((V2.ext E4).keep Kq5 (ninS (Ne.symm (Exa.neArv (A1.ext E2) V2 (hw _ m44))) nin0))
  have f19 : Arv Z T5.heap sb4 k4 .byte (0 : Int32) [] (.int (0 : Int32)) := (V4.keep Kq5 (ninS (Ne.symm (Exa.neArv f6 V4 (hw _ m44))) nin0))
  obtain ⟨fs, hr, hrun, hended, hRW⟩ := X5.leaveW hS4 (by rw [(rfl : T5.heap = T5.heap)]; exact (Nat.le_trans hk4 Kq5.1)) (v := some (.ref b1)) (fun h => by rw [Bd.returns] at h; cases h)
  refine ⟨_, _, pre0 _ ?_, hrun, hended, _, _, rfl, ?_, ?_, hRW⟩
  · show Steps p.tables e below (s₁.setTop (mkF m 0 #[.val (.ref w16)] [])) _
    refine st1 _ ?_
    refine XS.dup X1.here hx rfl (hb hby d1_3) rfl rfl ?_
    refine XS.aloadN X1.here hx rfl (hb hby d1_4) rfl rfl ?_
    refine st2 _ ?_
    show Steps p.tables e below (T2.setTop (mkF m 7 #[.val (.ref w16)] [(.ref sa2), (.ref w16), (.ref b1), (.ref b1)])) _
    refine st3 _ ?_
    refine st4 _ ?_
    refine st5 _ ?_
    exact retOut X5 hx Bd.returns rfl (Or.inr (Or.inr (Or.inr (Or.inr ⟨rfl, rfl, rfl⟩)))) (hb hby d1_15) hr
  · show Qrm19 Z w0 w1 w2 w3 w4 w5 w6 w7 w8 w9 w10 w11 w12 w13 w14 w15 w16 w17 h0 n0 _ T5.heap _
    exact ⟨b1, sa2, sa4, sb2, sb4, k2, k4, rfl, N5, K5, (Nat.le_trans (Keep.refl h0 []).1 g1), f11, q5_0, q5_1, q5_2, q5_3, f12, f13, f14, f15, f16, f17, f18, f19⟩
  · show CHr Z EL _ _ T5.vm T5.heap
    exact own_chr (by rw [← hh]) (rfl : T5.heap = T5.heap) (C5.trans (CHv.at X5 hZ4 (own_EW hw hj) C5.1))
def Qrm20 (Z : State) (w0 : Addr) (w1 : Addr) (w2 : Addr) (w3 : Addr) (w4 : Addr) (w5 : Addr) (w6 : Addr) (w7 : Addr) (w8 : Addr) (w9 : Addr) (w10 : Addr) (w11 : Addr) (w12 : Addr) (w13 : Addr) (w14 : Addr) (w15 : Addr) (w16 : Addr) (w17 : Addr) (a1 : Addr) (h0 : Heap) (n0 : Nat) (v : Option Value) (h : Heap) (L : List Loc) : Prop := v = some (.ref w16) ∧ Fr n0 L ∧ h = h0
set_option maxRecDepth 65536 in
set_option maxHeartbeats 40000000 in
theorem rm20 (l : Launch) (Z : State) (a0 : Array Value) (hw : ∀ d ∈ tables_1, d.before a0 Z = true) (hj : ∀ d ∈ jdkStatics_1, d.before a0 Z = true) (w0 : Addr) (w1 : Addr) (w2 : Addr) (w3 : Addr) (w4 : Addr) (w5 : Addr) (w6 : Addr) (w7 : Addr) (w8 : Addr) (w9 : Addr) (w10 : Addr) (w11 : Addr) (w12 : Addr) (w13 : Addr) (w14 : Addr) (w15 : Addr) (w16 : Addr) (w17 : Addr) (hS : SF Z w0 w1 w2 w3 w4 w5 w6 w7 w8 w9 w10 w11 w12 w13 w14 w15 w16 w17) (ws : List Jvm.Cond) (a1 : Addr) (h0 : Heap) (n0 : Nat) (O0 : Old Z n0 h0) (F1 : Fld Z h0 a1 z0 "kind" z4 (.ref w16)) :
    MetFree l (⟨z0, "kind", z9⟩ : MethodName) (head1 (Jvm.Cond.code (⟨z0, "kind", z9⟩ : MethodName) prog_27_method_7_code 1 (some (.object z1)) :: ws) ({ frames := 0, cells := 0, slots := 0, locals := 0 } : Room)) (fun a U => a = #[(.ref a1)] ∧ Z.Warmed39 U.vm ∧ U.heap = h0) (fun _ _ _ _ _ => True) (fun _ U o U' => ∃ v L, o = .returned v ∧ Qrm20 Z w0 w1 w2 w3 w4 w5 w6 w7 w8 w9 w10 w11 w12 w13 w14 w15 w16 w17 a1 h0 n0 v U'.heap L ∧ FrameEnd U o U' L ({ frames := 0, cells := 0, slots := 0, locals := 0 } : Room).cells ({ frames := 0, cells := 0, slots := 0, locals := 0 } : Room).slots) := by
  refine MetFree.of_bodySF (plainFor_of_name pn72) hisR ?_
  intro p e s m args below meth c s₁ Bd hml0 hP hK
  obtain ⟨rfl, hZ, hh⟩ := hP
  have hx := Bd.exec
  have hby := Bd.bytes
  have hml : c.maxLocals = 1 := hml0
  have hown : s.vm.findClass z0 = some m.cls := findClass_of_methodNamed Bd.named
  have hnm := (name_of_methodNamed Bd.named Bd.method).1
  have X0 : Stand p l e ({ frames := 0, cells := 0, slots := 0, locals := 0 } : Room) s m #[(.ref a1)] below meth c s₁ [] 0 0 := Stand.of_body Bd
  have e0 : s₁.heap = h0 := by rw [← hh, Bd.state]; rfl
  have N0 := Fr.nil n0
  have pre0 : ∀ t, Steps p.tables e below (s₁.setTop (mkF m 0 #[.val (.ref a1)] [])) t → Steps p.tables e below (s₁.setTop (entryFrame m #[(.ref a1)] 1)) t := fun t k => castTop (ef48 m a1) k
  obtain ⟨T1, X1, e1, st1⟩ := getF X0 hx hZ hown (host := "") (Or.inl (hw _ m67)) Via.refl e0 F1 (g := (mkF m 1 #[.val (.ref a1)] [(.ref a1)])) rfl rfl (hb hby d5_1)
  obtain ⟨fs, hr, hrun, hended, hW, hsame⟩ := X1.leave (v := some (.ref w16)) (fun h => by rw [Bd.returns] at h; cases h)
  refine ⟨_, _, pre0 _ ?_, hrun, hended, _, _, rfl, ?_, ⟨_, rfl⟩, hW, hsame.mono (by decide) (by decide)⟩
  · show Steps p.tables e below (s₁.setTop (mkF m 0 #[.val (.ref a1)] [])) _
    refine XS.aloadN X0.here hx rfl (hb hby d5_0) rfl rfl ?_
    refine st1 _ ?_
    exact retOut X1 hx Bd.returns rfl (Or.inr (Or.inr (Or.inr (Or.inr ⟨rfl, rfl, rfl⟩)))) (hb hby d5_4) hr
  · show Qrm20 Z w0 w1 w2 w3 w4 w5 w6 w7 w8 w9 w10 w11 w12 w13 w14 w15 w16 w17 a1 h0 n0 _ T1.heap _
    rw [e1]
    exact ⟨rfl, N0, rfl⟩
def Qrm21 (Z : State) (w0 : Addr) (w1 : Addr) (w2 : Addr) (w3 : Addr) (w4 : Addr) (w5 : Addr) (w6 : Addr) (w7 : Addr) (w8 : Addr) (w9 : Addr) (w10 : Addr) (w11 : Addr) (w12 : Addr) (w13 : Addr) (w14 : Addr) (w15 : Addr) (w16 : Addr) (w17 : Addr) (a1 : Addr) (a2 : Addr) (a3 : Addr) (h0 : Heap) (n0 : Nat) (v : Option Value) (h : Heap) (L : List Loc) : Prop := v = none ∧ Fr n0 L ∧ Keep h0 h [a1] ∧ Fld Z h a1 z0 "kind" z4 (.ref w4) ∧ Fld Z h a1 z0 "limitation" z8 (.ref a2) ∧ Fld Z h a1 z0 "catcher" z5 (.ref w0) ∧ Fld Z h a1 z0 "errorCode" z8 (.ref a3)
set_option maxRecDepth 65536 in
set_option maxHeartbeats 40000000 in
theorem rm21 (l : Launch) (Z : State) (a0 : Array Value) (hw : ∀ d ∈ tables_1, d.before a0 Z = true) (hj : ∀ d ∈ jdkStatics_1, d.before a0 Z = true) (w0 : Addr) (w1 : Addr) (w2 : Addr) (w3 : Addr) (w4 : Addr) (w5 : Addr) (w6 : Addr) (w7 : Addr) (w8 : Addr) (w9 : Addr) (w10 : Addr) (w11 : Addr) (w12 : Addr) (w13 : Addr) (w14 : Addr) (w15 : Addr) (w16 : Addr) (w17 : Addr) (hS : SF Z w0 w1 w2 w3 w4 w5 w6 w7 w8 w9 w10 w11 w12 w13 w14 w15 w16 w17) (ws : List Jvm.Cond) (a1 : Addr) (a2 : Addr) (a3 : Addr) (h0 : Heap) (n0 : Nat) (O0 : Old Z n0 h0) (E1 : Exa Z h0 a1 z0) (F2 : Fld Z h0 a1 z0 "kind" z4 .null) (F3 : Fld Z h0 a1 z0 "limitation" z8 .null) (F4 : Fld Z h0 a1 z0 "catcher" z5 .null) (F5 : Fld Z h0 a1 z0 "errorCode" z8 .null) (g6 : n0 ≤ a1) :
    MetFree l (⟨z0, "<init>", z6⟩ : MethodName) (head1 (Jvm.Cond.code (⟨z0, "<init>", z6⟩ : MethodName) prog_27_method_1_code 5 none :: ws) ({ frames := 2, cells := 0, slots := 0, locals := 24 } : Room)) (fun a U => a = #[(.ref a1), (.ref w4), (.ref a2), (.ref w0), (.ref a3)] ∧ Z.Warmed39 U.vm ∧ U.heap = h0) (fun _ _ _ _ _ => True) (fun _ U o U' => ∃ v L, o = .returned v ∧ Qrm21 Z w0 w1 w2 w3 w4 w5 w6 w7 w8 w9 w10 w11 w12 w13 w14 w15 w16 w17 a1 a2 a3 h0 n0 v U'.heap L ∧ FrameEnd U o U' L ({ frames := 2, cells := 0, slots := 0, locals := 24 } : Room).cells ({ frames := 2, cells := 0, slots := 0, locals := 24 } : Room).slots) := by
  refine MetFree.of_bodySF (plainFor_of_name pn72) hisR ?_
  intro p e s m args below meth c s₁ Bd hml0 hP hK
  obtain ⟨rfl, hZ, hh⟩ := hP
  have hx := Bd.exec
  have hby := Bd.bytes
  have hml : c.maxLocals = 5 := hml0
  have hown : s.vm.findClass z0 = some m.cls := findClass_of_methodNamed Bd.named
  have hnm := (name_of_methodNamed Bd.named Bd.method).1
  have X0 : Stand p l e ({ frames := 2, cells := 0, slots := 0, locals := 24 } : Room) s m #[(.ref a1), (.ref w4), (.ref a2), (.ref w0), (.ref a3)] below meth c s₁ [] 0 0 := Stand.of_body Bd
  have e0 : s₁.heap = h0 := by rw [← hh, Bd.state]; rfl
  have N0 := Fr.nil n0
  have pre0 : ∀ t, Steps p.tables e below (s₁.setTop (mkF m 0 #[.val (.ref a1), .val (.ref w4), .val (.ref a2), .val (.ref w0), .val (.ref a3)] [])) t → Steps p.tables e below (s₁.setTop (entryFrame m #[(.ref a1), (.ref w4), (.ref a2), (.ref w0), (.ref a3)] 5)) t := fun t k => castTop (ef71 m a1 w4 a2 w0 a3) k
  obtain ⟨_, T1, L1, hQ1, X1, st1⟩ := own_special X0 hx hZ (W := 0) rfl hown (hw _ m59) (hw _ m60) (hw _ m62) (hw _ m63) (by decide) (rm1 l Z a0 hw hj w0 w1 w2 w3 w4 w5 w6 w7 w8 w9 w10 w11 w12 w13 w14 w15 w16 w17 hS [] a1 h0 n0 O0) e0 (a := a1) (g := (mkF m 1 #[.val (.ref a1), .val (.ref w4), .val (.ref a2), .val (.ref w0), .val (.ref a3)] [(.ref a1)])) rfl (by rw [hml]; rfl) (argsL := []) (rest := []) (lenOf pd52 rfl) rfl rfl (by show 2 * 0 + _ ≤ _; exact Nat.le_of_eq rfl) (hb hby d2_1) (by decide) (by decide) (by decide) (by decide)
  obtain ⟨rfl, N1q, e1⟩ := hQ1
  have N1 := Fr.app N0 N1q
  have e1' : T1.heap = h0 := e1
  obtain ⟨T2, h2, L'2, X2, e2, W2, Fw2, O2, K2, N2, st2⟩ := own_put X1 hx hZ hown (host := "") (Or.inl (hw _ m67)) Via.refl e1' O0 (Keep.refl h0 [a1]) N1 g6 (Or.inl (List.mem_of_getElem? (i := 0) rfl)) F2 E1 (Or.inr ⟨(hw _ m68), rfl, hnm⟩) (hw _ m44) (ty := (.object z1)) (by decide) rfl rfl (g := (mkF m 6 #[.val (.ref a1), .val (.ref w4), .val (.ref a2), .val (.ref w0), .val (.ref a3)] [(.ref w4), (.ref a1)])) rfl rfl (hb hby d2_6)
  have f3 : Fld Z h2 a1 z0 "limitation" z8 .null := (F3.other W2 (Or.inr (slot_ne (Or.inr (hw _ m70)) (Or.inr (hw _ m68)) (by decide) (t := (.object z3)) (t' := (.object z1)) (by decide) (by decide))))
  have f4 : Exa Z h2 a1 z0 := (E1.wr W2)
  obtain ⟨T5, h5, L'5, X5, e5, W5, Fw5, O5, K5, N5, st5⟩ := own_put X2 hx hZ hown (host := "") (Or.inl (hw _ m69)) Via.refl e2 O2 K2 N2 g6 (Or.inl (List.mem_of_getElem? (i := 0) rfl)) f3 f4 (Or.inr ⟨(hw _ m70), rfl, hnm⟩) (hw _ m44) (ty := (.object z3)) (by decide) rfl rfl (g := (mkF m 11 #[.val (.ref a1), .val (.ref w4), .val (.ref a2), .val (.ref w0), .val (.ref a3)] [(.ref a2), (.ref a1)])) rfl rfl (hb hby d2_11)
  have f6 : Fld Z h5 a1 z0 "catcher" z5 .null := ((F4.other W2 (Or.inr (slot_ne (Or.inr (hw _ m72)) (Or.inr (hw _ m68)) (by decide) (t := (.object z2)) (t' := (.object z1)) (by decide) (by decide)))).other W5 (Or.inr (slot_ne (Or.inr (hw _ m72)) (Or.inr (hw _ m70)) (by decide) (t := (.object z2)) (t' := (.object z3)) (by decide) (by decide))))
  have f7 : Exa Z h5 a1 z0 := (f4.wr W5)
  obtain ⟨T8, h8, L'8, X8, e8, W8, Fw8, O8, K8, N8, st8⟩ := own_put X5 hx hZ hown (host := "") (Or.inl (hw _ m71)) Via.refl e5 O5 K5 N5 g6 (Or.inl (List.mem_of_getElem? (i := 0) rfl)) f6 f7 (Or.inr ⟨(hw _ m72), rfl, hnm⟩) (hw _ m44) (ty := (.object z2)) (by decide) rfl rfl (g := (mkF m 16 #[.val (.ref a1), .val (.ref w4), .val (.ref a2), .val (.ref w0), .val (.ref a3)] [(.ref w0), (.ref a1)])) rfl rfl (hb hby d2_16)
  have f9 : Fld Z h8 a1 z0 "errorCode" z8 .null := (((F5.other W2 (Or.inr (slot_ne (Or.inr (hw _ m74)) (Or.inr (hw _ m68)) (by decide) (t := (.object z3)) (t' := (.object z1)) (by decide) (by decide)))).other W5 (Or.inr (slot_ne (Or.inr (hw _ m74)) (Or.inr (hw _ m70)) (by decide) (t := (.object z3)) (t' := (.object z3)) (by decide) (by decide)))).other W8 (Or.inr (slot_ne (Or.inr (hw _ m74)) (Or.inr (hw _ m72)) (by decide) (t := (.object z3)) (t' := (.object z2)) (by decide) (by decide))))
  have f10 : Exa Z h8 a1 z0 := (f7.wr W8)
  obtain ⟨T11, h11, L'11, X11, e11, W11, Fw11, O11, K11, N11, st11⟩ := own_put X8 hx hZ hown (host := "") (Or.inl (hw _ m73)) Via.refl e8 O8 K8 N8 g6 (Or.inl (List.mem_of_getElem? (i := 0) rfl)) f9 f10 (Or.inr ⟨(hw _ m74), rfl, hnm⟩) (hw _ m44) (ty := (.object z3)) (by decide) rfl rfl (g := (mkF m 22 #[.val (.ref a1), .val (.ref w4), .val (.ref a2), .val (.ref w0), .val (.ref a3)] [(.ref a3), (.ref a1)])) rfl rfl (hb hby d2_22)
  have f12 : Fld Z h11 a1 z0 "kind" z4 (.ref w4) := (((Fw2.other W5 (Or.inr (slot_ne (Or.inr (hw _ m68)) (Or.inr (hw _ m70)) (by decide) (t := (.object z1)) (t' := (.object z3)) (by decide) (by decide)))).other W8 (Or.inr (slot_ne (Or.inr (hw _ m68)) (Or.inr (hw _ m72)) (by decide) (t := (.object z1)) (t' := (.object z2)) (by decide) (by decide)))).other W11 (Or.inr (slot_ne (Or.inr (hw _ m68)) (Or.inr (hw _ m74)) (by decide) (t := (.object z1)) (t' := (.object z3)) (by decide) (by decide))))
  have f13 : Fld Z h11 a1 z0 "limitation" z8 (.ref a2) := ((Fw5.other W8 (Or.inr (slot_ne (Or.inr (hw _ m70)) (Or.inr (hw _ m72)) (by decide) (t := (.object z3)) (t' := (.object z2)) (by decide) (by decide)))).other W11 (Or.inr (slot_ne (Or.inr (hw _ m70)) (Or.inr (hw _ m74)) (by decide) (t := (.object z3)) (t' := (.object z3)) (by decide) (by decide))))
  have f14 : Fld Z h11 a1 z0 "catcher" z5 (.ref w0) := (Fw8.other W11 (Or.inr (slot_ne (Or.inr (hw _ m72)) (Or.inr (hw _ m74)) (by decide) (t := (.object z2)) (t' := (.object z3)) (by decide) (by decide))))
  obtain ⟨fs, hr, hrun, hended, hW, hsame⟩ := X11.leave (v := none) (fun _ => rfl)
  refine ⟨_, _, pre0 _ ?_, hrun, hended, _, _, rfl, ?_, ⟨_, rfl⟩, hW, hsame.mono (by decide) (by decide)⟩
  · show Steps p.tables e below (s₁.setTop (mkF m 0 #[.val (.ref a1), .val (.ref w4), .val (.ref a2), .val (.ref w0), .val (.ref a3)] [])) _
    refine XS.aloadN X0.here hx rfl (hb hby d2_0) rfl rfl ?_
    refine st1 _ ?_
    refine XS.aloadN X1.here hx rfl (hb hby d2_4) rfl rfl ?_
    refine XS.aloadN X1.here hx rfl (hb hby d2_5) rfl rfl ?_
    show Steps p.tables e below (T1.setTop (mkF m 6 #[.val (.ref a1), .val (.ref w4), .val (.ref a2), .val (.ref w0), .val (.ref a3)] [(.ref w4), (.ref a1)])) _
    refine st2 _ ?_
    refine XS.aloadN X2.here hx rfl (hb hby d2_9) rfl rfl ?_
    refine XS.aloadN X2.here hx rfl (hb hby d2_10) rfl rfl ?_
    refine st5 _ ?_
    show Steps p.tables e below (T5.setTop (mkF m 14 #[.val (.ref a1), .val (.ref w4), .val (.ref a2), .val (.ref w0), .val (.ref a3)] [])) _
    refine XS.aloadN X5.here hx rfl (hb hby d2_14) rfl rfl ?_
    refine XS.aloadN X5.here hx rfl (hb hby d2_15) rfl rfl ?_
    refine st8 _ ?_
    refine XS.aloadN X8.here hx rfl (hb hby d2_19) rfl rfl ?_
    show Steps p.tables e below (T8.setTop (mkF m 20 #[.val (.ref a1), .val (.ref w4), .val (.ref a2), .val (.ref w0), .val (.ref a3)] [(.ref a1)])) _
    refine XS.aload X8.here hx rfl (hb hby d2_20) rfl rfl ?_
    refine st11 _ ?_
    exact X11.returnOut hx Bd.returns (hb hby d2_25) hr
  · show Qrm21 Z w0 w1 w2 w3 w4 w5 w6 w7 w8 w9 w10 w11 w12 w13 w14 w15 w16 w17 a1 a2 a3 h0 n0 _ T11.heap _
    rw [e11]
    exact ⟨rfl, N11, K11, f12, f13, f14, Fw11⟩
def Qrm22 (Z : State) (w0 : Addr) (w1 : Addr) (w2 : Addr) (w3 : Addr) (w4 : Addr) (w5 : Addr) (w6 : Addr) (w7 : Addr) (w8 : Addr) (w9 : Addr) (w10 : Addr) (w11 : Addr) (w12 : Addr) (w13 : Addr) (w14 : Addr) (w15 : Addr) (w16 : Addr) (w17 : Addr) (h0 : Heap) (n0 : Nat) (v : Option Value) (h : Heap) (L : List Loc) : Prop := ∃ x0 : Addr, ∃ x1 : Addr, ∃ x2 : Addr, ∃ x3 : Addr, ∃ x4 : Addr, ∃ xk0 : ClassId, ∃ xk1 : ClassId, v = some (.ref x0) ∧ Fr n0 L ∧ Keep h0 h [] ∧ h0.size ≤ x0 ∧ Exa Z h x0 z0 ∧ Fld Z h x0 z0 "kind" z4 (.ref w4) ∧ Fld Z h x0 z0 "limitation" z8 (.ref x1) ∧ Fld Z h x0 z0 "catcher" z5 (.ref w0) ∧ Fld Z h x0 z0 "errorCode" z8 (.ref x2) ∧ Exa Z h x1 z3 ∧ Fld Z h x1 z3 "coder" "B" (.int (0 : Int32)) ∧ Fld Z h x1 z3 "value" "[B" (.ref x3) ∧ Exa Z h x2 z3 ∧ Fld Z h x2 z3 "coder" "B" (.int (0 : Int32)) ∧ Fld Z h x2 z3 "value" "[B" (.ref x4) ∧ Arv Z h x3 xk0 .byte (0 : Int32) [] (.int (0 : Int32)) ∧ Arv Z h x4 xk1 .byte (0 : Int32) [] (.int (0 : Int32))
set_option maxRecDepth 65536 in
set_option maxHeartbeats 40000000 in
theorem rm22 (l : Launch) (Z : State) (a0 : Array Value) (hw : ∀ d ∈ tables_1, d.before a0 Z = true) (hj : ∀ d ∈ jdkStatics_1, d.before a0 Z = true) (w0 : Addr) (w1 : Addr) (w2 : Addr) (w3 : Addr) (w4 : Addr) (w5 : Addr) (w6 : Addr) (w7 : Addr) (w8 : Addr) (w9 : Addr) (w10 : Addr) (w11 : Addr) (w12 : Addr) (w13 : Addr) (w14 : Addr) (w15 : Addr) (w16 : Addr) (w17 : Addr) (hS : SF Z w0 w1 w2 w3 w4 w5 w6 w7 w8 w9 w10 w11 w12 w13 w14 w15 w16 w17) (ws : List Jvm.Cond) (h0 : Heap) (n0 : Nat) (O0 : Old Z n0 h0) :
    MetFree l (⟨z0, "runs", z7⟩ : MethodName) (head1 (Jvm.Cond.code (⟨z0, "runs", z7⟩ : MethodName) prog_27_method_2_code 1 (some (.object z0)) :: ws) ({ frames := 3, cells := 5, slots := 12, locals := 41 } : Room)) (fun a U => a = #[(.ref w4)] ∧ Z.Warmed39 U.vm ∧ U.heap = h0 ∧ CHv Z EL U.vm h0 ∧ ∀ x ∈ ([] : List Addr), Safe Z EL U.vm h0 x) (fun _ _ _ _ _ => True) (fun _ U o U' => ∃ v L, o = .returned v ∧ Qrm22 Z w0 w1 w2 w3 w4 w5 w6 w7 w8 w9 w10 w11 w12 w13 w14 w15 w16 w17 h0 n0 v U'.heap L ∧ CHr Z EL U.vm U.heap U'.vm U'.heap ∧ ReturnedEndW U o U' L ({ frames := 3, cells := 5, slots := 12, locals := 41 } : Room).cells ({ frames := 3, cells := 5, slots := 12, locals := 41 } : Room).slots) := by
  refine MetFree.of_bodySF (plainFor_of_name pn72) hisR ?_
  intro p e s m args below meth c s₁ Bd hml0 hP hK
  obtain ⟨rfl, hZ, hh, H0, hsx⟩ := hP
  have hx := Bd.exec
  have hby := Bd.bytes
  have hml : c.maxLocals = 1 := hml0
  have hown : s.vm.findClass z0 = some m.cls := findClass_of_methodNamed Bd.named
  have hnm := (name_of_methodNamed Bd.named Bd.method).1
  have X0 : Stand p l e ({ frames := 3, cells := 5, slots := 12, locals := 41 } : Room) (s.setVm s.vm) m #[(.ref w4)] below meth c s₁ [] 0 0 := Stand.of_body Bd
  have e0 : s₁.heap = h0 := by rw [← hh, Bd.state]; rfl
  have N0 := Fr.nil n0
  have pre0 : ∀ t, Steps p.tables e below (s₁.setTop (mkF m 0 #[.val (.ref w4)] [])) t → Steps p.tables e below (s₁.setTop (entryFrame m #[(.ref w4)] 1)) t := fun t k => castTop (ef48 m w4) k
  have hS0 : s.Since s.vm h0.size := (State.WarmedH.refl s).since _
  have C0 : CHr Z EL s.vm h0 s.vm h0 := CHr.refl H0
  obtain ⟨T1, h1, b1, X1, e1, E1, A1, D1, g1, O1, K1, st1⟩ := own_newO X0 hx hZ hown (hw _ m43) (hw _ m44) (hw _ m41) e0 O0 (Keep.refl h0 []) (g := (mkF m 0 #[.val (.ref w4)] [])) rfl (hb hby d1_0) (by decide) (by decide)
  have C1 := C0.trans (CHr.ext E1 C0.1)
  have F1_1 : Fld Z h1 b1 z0 "kind" z4 .null := D1 (Or.inr (hw _ m68)) (ty := (.object z1)) (by decide)
  have F1_2 : Fld Z h1 b1 z0 "limitation" z8 .null := D1 (Or.inr (hw _ m70)) (ty := (.object z3)) (by decide)
  have F1_3 : Fld Z h1 b1 z0 "catcher" z5 .null := D1 (Or.inr (hw _ m72)) (ty := (.object z2)) (by decide)
  have F1_4 : Fld Z h1 b1 z0 "errorCode" z8 .null := D1 (Or.inr (hw _ m74)) (ty := (.object z3)) (by decide)
  obtain ⟨sa2, T2, h2, k12, sb2, k2, X2, e2, E2, hS2, hk2, hZ2, hown2, A2, Fc2, Fv2, V2, la2, lb2, Cq2, -, hn2, st2⟩ := ldcCH X1 hx hZ hown (hw _ m45) (own_str hw hj) e1 hS0 (Nat.le_trans (Nat.le_refl _) E1.1) (own_EW hw hj) (List.mem_of_getElem? (i := 0) rfl) C1.1 (vs := []) (z := (0 : Int32)) ⟨by decide, by decide⟩ (by decide) (by decide) (g := (mkF m 5 #[.val (.ref w4)] [(.ref w4), (.ref b1), (.ref b1)])) rfl (hb hby d1_5) (n := 0) (by decide) (by decide) (by decide) (by decide)
  have O2 : Old Z n0 h2 := O1.ext E2
  have K2 : Keep h0 h2 [] := K1.ext E2
  have C2 := C1.trans Cq2
  obtain ⟨T3, X3, e3, st3⟩ := getS2 X2 hx hZ2 hown2 (host := "") (Or.inl (hw _ m53)) Via.refl e2 (hS.1.ext O2.2) (g := (mkF m 7 #[.val (.ref w4)] [(.ref sa2), (.ref w4), (.ref b1), (.ref b1)])) rfl (hb hby d1_7)
  obtain ⟨sa4, T4, h4, k14, sb4, k4, X4, e4, E4, hS4, hk4, hZ4, hown4, A4, Fc4, Fv4, V4, la4, lb4, Cq4, -, hn4, st4⟩ := ldcCH X3 hx hZ2 hown2 (hw _ m45) (own_str hw hj) e3 hS2 hk2 (own_EW hw hj) (List.mem_of_getElem? (i := 0) rfl) C2.1 (vs := []) (z := (0 : Int32)) ⟨by decide, by decide⟩ (by decide) (by decide) (g := (mkF m 10 #[.val (.ref w4)] [(.ref w0), (.ref sa2), (.ref w4), (.ref b1), (.ref b1)])) rfl (hb hby d1_10) (n := 0) (by decide) (by decide) (by decide) (by decide)
  have O4 : Old Z n0 h4 := O2.ext E4
  have K4 : Keep h0 h4 [] := K2.ext E4
  have C4 := C2.trans Cq4
  have f6 : Exa Z h4 b1 z0 := ((A1.ext E2).ext E4)
  have f7 : Fld Z h4 b1 z0 "kind" z4 .null := ((F1_1.ext E2).ext E4)
  have f8 : Fld Z h4 b1 z0 "limitation" z8 .null := ((F1_2.ext E2).ext E4)
  have f9 : Fld Z h4 b1 z0 "catcher" z5 .null := ((F1_3.ext E2).ext E4)
  have f10 : Fld Z h4 b1 z0 "errorCode" z8 .null := ((F1_4.ext E2).ext E4)
  have sf5 := ((sfS (Safe.exa (EL := EL) hZ4.alike f6 (by decide) (by decide)) sf0) : ∀ x ∈ [b1], Safe Z EL T4.vm h4 x)
  obtain ⟨_, T5, L5, hQ5, X5, st5⟩ := own_special X4 hx hZ4 (W := 1) rfl hown4 (hw _ m56) (hw _ m57) (hw _ m41) (hw _ m58) (by decide) (rm21 l Z a0 hw hj w0 w1 w2 w3 w4 w5 w6 w7 w8 w9 w10 w11 w12 w13 w14 w15 w16 w17 hS [] b1 sa2 sa4 h4 n0 O4 f6 f7 f8 f9 f10 (Nat.le_trans (own_old_le O0) g1)) e4 (a := b1) (g := (mkF m 12 #[.val (.ref w4)] [(.ref sa4), (.ref w0), (.ref sa2), (.ref w4), (.ref b1), (.ref b1)])) rfl (by rw [hml]; rfl) (argsL := [(.ref w4), (.ref sa2), (.ref w0), (.ref sa4)]) (rest := [(.ref b1)]) (lenOf pd74 rfl) rfl rfl (by show 2 * 0 + _ ≤ _; exact Nat.le_of_eq rfl) (hb hby d1_12) (by decide) (by decide) (by decide) (by decide)
  obtain ⟨rfl, N5q, Kq5, q5_0, q5_1, q5_2, q5_3⟩ := hQ5
  have N5 := Fr.app N0 N5q
  have C5 := C4.trans (CHr.keep Kq5 sf5 C4.1)
  have O5 : Old Z n0 T5.heap := O4.keep Kq5 (allS (Nat.le_trans (own_old_le O0) g1) all0)
  have K5 : Keep h0 T5.heap [] := K4.trans Kq5 (allS (Or.inr (Nat.le_trans (Keep.refl h0 []).1 g1)) all0)
  have f11 : Exa Z T5.heap b1 z0 := (f6.keep Kq5)
  have f12 : Exa Z T5.heap sa2 z3 := ((A2.ext E4).keep Kq5)
  have f13 : Fld Z T5.heap sa2 z3 "coder" "B" (.int (0 : Int32)) := ((Fc2.ext E4).keep Kq5 (ninS (ne_exa A2 (A1.ext E2) (by decide)) nin0))
  have f14 : Fld Z T5.heap sa2 z3 "value" "[B" (.ref sb2) := ((Fv2.ext E4).keep Kq5 (ninS (ne_exa A2 (A1.ext E2) (by decide)) nin0))
  have f15 : Exa Z T5.heap sa4 z3 := (A4.keep Kq5)
  have f16 : Fld Z T5.heap sa4 z3 "coder" "B" (.int (0 : Int32)) := (Fc4.keep Kq5 (ninS (ne_exa A4 f6 (by decide)) nin0))
  have f17 : Fld Z T5.heap sa4 z3 "value" "[B" (.ref sb4) := (Fv4.keep Kq5 (ninS (ne_exa A4 f6 (by decide)) nin0))
  have f18 : Arv Z T5.heap sb2 k2 .byte (0 : Int32) [] (.int (0 : Int32)) := ((V2.ext E4).keep Kq5 (ninS (Ne.symm (Exa.neArv (A1.ext E2) V2 (hw _ m44))) nin0))
  have f19 : Arv Z T5.heap sb4 k4 .byte (0 : Int32) [] (.int (0 : Int32)) := (V4.keep Kq5 (ninS (Ne.symm (Exa.neArv f6 V4 (hw _ m44))) nin0))
  obtain ⟨fs, hr, hrun, hended, hRW⟩ := X5.leaveW hS4 (by rw [(rfl : T5.heap = T5.heap)]; exact (Nat.le_trans hk4 Kq5.1)) (v := some (.ref b1)) (fun h => by rw [Bd.returns] at h; cases h)
  refine ⟨_, _, pre0 _ ?_, hrun, hended, _, _, rfl, ?_, ?_, hRW⟩
  · show Steps p.tables e below (s₁.setTop (mkF m 0 #[.val (.ref w4)] [])) _
    refine st1 _ ?_
    refine XS.dup X1.here hx rfl (hb hby d1_3) rfl rfl ?_
    refine XS.aloadN X1.here hx rfl (hb hby d1_4) rfl rfl ?_
    refine st2 _ ?_
    show Steps p.tables e below (T2.setTop (mkF m 7 #[.val (.ref w4)] [(.ref sa2), (.ref w4), (.ref b1), (.ref b1)])) _
    refine st3 _ ?_
    refine st4 _ ?_
    refine st5 _ ?_
    exact retOut X5 hx Bd.returns rfl (Or.inr (Or.inr (Or.inr (Or.inr ⟨rfl, rfl, rfl⟩)))) (hb hby d1_15) hr
  · show Qrm22 Z w0 w1 w2 w3 w4 w5 w6 w7 w8 w9 w10 w11 w12 w13 w14 w15 w16 w17 h0 n0 _ T5.heap _
    exact ⟨b1, sa2, sa4, sb2, sb4, k2, k4, rfl, N5, K5, (Nat.le_trans (Keep.refl h0 []).1 g1), f11, q5_0, q5_1, q5_2, q5_3, f12, f13, f14, f15, f16, f17, f18, f19⟩
  · show CHr Z EL _ _ T5.vm T5.heap
    exact own_chr (by rw [← hh]) (rfl : T5.heap = T5.heap) (C5.trans (CHv.at X5 hZ4 (own_EW hw hj) C5.1))
def Qrm23 (Z : State) (w0 : Addr) (w1 : Addr) (w2 : Addr) (w3 : Addr) (w4 : Addr) (w5 : Addr) (w6 : Addr) (w7 : Addr) (w8 : Addr) (w9 : Addr) (w10 : Addr) (w11 : Addr) (w12 : Addr) (w13 : Addr) (w14 : Addr) (w15 : Addr) (w16 : Addr) (w17 : Addr) (a1 : Addr) (h0 : Heap) (n0 : Nat) (v : Option Value) (h : Heap) (L : List Loc) : Prop := v = some (.ref w4) ∧ Fr n0 L ∧ h = h0
set_option maxRecDepth 65536 in
set_option maxHeartbeats 40000000 in
theorem rm23 (l : Launch) (Z : State) (a0 : Array Value) (hw : ∀ d ∈ tables_1, d.before a0 Z = true) (hj : ∀ d ∈ jdkStatics_1, d.before a0 Z = true) (w0 : Addr) (w1 : Addr) (w2 : Addr) (w3 : Addr) (w4 : Addr) (w5 : Addr) (w6 : Addr) (w7 : Addr) (w8 : Addr) (w9 : Addr) (w10 : Addr) (w11 : Addr) (w12 : Addr) (w13 : Addr) (w14 : Addr) (w15 : Addr) (w16 : Addr) (w17 : Addr) (hS : SF Z w0 w1 w2 w3 w4 w5 w6 w7 w8 w9 w10 w11 w12 w13 w14 w15 w16 w17) (ws : List Jvm.Cond) (a1 : Addr) (h0 : Heap) (n0 : Nat) (O0 : Old Z n0 h0) (F1 : Fld Z h0 a1 z0 "kind" z4 (.ref w4)) :
    MetFree l (⟨z0, "kind", z9⟩ : MethodName) (head1 (Jvm.Cond.code (⟨z0, "kind", z9⟩ : MethodName) prog_27_method_7_code 1 (some (.object z1)) :: ws) ({ frames := 0, cells := 0, slots := 0, locals := 0 } : Room)) (fun a U => a = #[(.ref a1)] ∧ Z.Warmed39 U.vm ∧ U.heap = h0) (fun _ _ _ _ _ => True) (fun _ U o U' => ∃ v L, o = .returned v ∧ Qrm23 Z w0 w1 w2 w3 w4 w5 w6 w7 w8 w9 w10 w11 w12 w13 w14 w15 w16 w17 a1 h0 n0 v U'.heap L ∧ FrameEnd U o U' L ({ frames := 0, cells := 0, slots := 0, locals := 0 } : Room).cells ({ frames := 0, cells := 0, slots := 0, locals := 0 } : Room).slots) := by
  refine MetFree.of_bodySF (plainFor_of_name pn72) hisR ?_
  intro p e s m args below meth c s₁ Bd hml0 hP hK
  obtain ⟨rfl, hZ, hh⟩ := hP
  have hx := Bd.exec
  have hby := Bd.bytes
  have hml : c.maxLocals = 1 := hml0
  have hown : s.vm.findClass z0 = some m.cls := findClass_of_methodNamed Bd.named
  have hnm := (name_of_methodNamed Bd.named Bd.method).1
  have X0 : Stand p l e ({ frames := 0, cells := 0, slots := 0, locals := 0 } : Room) s m #[(.ref a1)] below meth c s₁ [] 0 0 := Stand.of_body Bd
  have e0 : s₁.heap = h0 := by rw [← hh, Bd.state]; rfl
  have N0 := Fr.nil n0
  have pre0 : ∀ t, Steps p.tables e below (s₁.setTop (mkF m 0 #[.val (.ref a1)] [])) t → Steps p.tables e below (s₁.setTop (entryFrame m #[(.ref a1)] 1)) t := fun t k => castTop (ef48 m a1) k
  obtain ⟨T1, X1, e1, st1⟩ := getF X0 hx hZ hown (host := "") (Or.inl (hw _ m67)) Via.refl e0 F1 (g := (mkF m 1 #[.val (.ref a1)] [(.ref a1)])) rfl rfl (hb hby d5_1)
  obtain ⟨fs, hr, hrun, hended, hW, hsame⟩ := X1.leave (v := some (.ref w4)) (fun h => by rw [Bd.returns] at h; cases h)
  refine ⟨_, _, pre0 _ ?_, hrun, hended, _, _, rfl, ?_, ⟨_, rfl⟩, hW, hsame.mono (by decide) (by decide)⟩
  · show Steps p.tables e below (s₁.setTop (mkF m 0 #[.val (.ref a1)] [])) _
    refine XS.aloadN X0.here hx rfl (hb hby d5_0) rfl rfl ?_
    refine st1 _ ?_
    exact retOut X1 hx Bd.returns rfl (Or.inr (Or.inr (Or.inr (Or.inr ⟨rfl, rfl, rfl⟩)))) (hb hby d5_4) hr
  · show Qrm23 Z w0 w1 w2 w3 w4 w5 w6 w7 w8 w9 w10 w11 w12 w13 w14 w15 w16 w17 a1 h0 n0 _ T1.heap _
    rw [e1]
    exact ⟨rfl, N0, rfl⟩
def Qrm24 (Z : State) (w0 : Addr) (w1 : Addr) (w2 : Addr) (w3 : Addr) (w4 : Addr) (w5 : Addr) (w6 : Addr) (w7 : Addr) (w8 : Addr) (w9 : Addr) (w10 : Addr) (w11 : Addr) (w12 : Addr) (w13 : Addr) (w14 : Addr) (w15 : Addr) (w16 : Addr) (w17 : Addr) (a1 : Addr) (a2 : Addr) (a3 : Addr) (h0 : Heap) (n0 : Nat) (v : Option Value) (h : Heap) (L : List Loc) : Prop := v = none ∧ Fr n0 L ∧ Keep h0 h [a1] ∧ Fld Z h a1 z0 "kind" z4 (.ref w9) ∧ Fld Z h a1 z0 "limitation" z8 (.ref a2) ∧ Fld Z h a1 z0 "catcher" z5 (.ref w0) ∧ Fld Z h a1 z0 "errorCode" z8 (.ref a3)
set_option maxRecDepth 65536 in
set_option maxHeartbeats 40000000 in
theorem rm24 (l : Launch) (Z : State) (a0 : Array Value) (hw : ∀ d ∈ tables_1, d.before a0 Z = true) (hj : ∀ d ∈ jdkStatics_1, d.before a0 Z = true) (w0 : Addr) (w1 : Addr) (w2 : Addr) (w3 : Addr) (w4 : Addr) (w5 : Addr) (w6 : Addr) (w7 : Addr) (w8 : Addr) (w9 : Addr) (w10 : Addr) (w11 : Addr) (w12 : Addr) (w13 : Addr) (w14 : Addr) (w15 : Addr) (w16 : Addr) (w17 : Addr) (hS : SF Z w0 w1 w2 w3 w4 w5 w6 w7 w8 w9 w10 w11 w12 w13 w14 w15 w16 w17) (ws : List Jvm.Cond) (a1 : Addr) (a2 : Addr) (a3 : Addr) (h0 : Heap) (n0 : Nat) (O0 : Old Z n0 h0) (E1 : Exa Z h0 a1 z0) (F2 : Fld Z h0 a1 z0 "kind" z4 .null) (F3 : Fld Z h0 a1 z0 "limitation" z8 .null) (F4 : Fld Z h0 a1 z0 "catcher" z5 .null) (F5 : Fld Z h0 a1 z0 "errorCode" z8 .null) (g6 : n0 ≤ a1) :
    MetFree l (⟨z0, "<init>", z6⟩ : MethodName) (head1 (Jvm.Cond.code (⟨z0, "<init>", z6⟩ : MethodName) prog_27_method_1_code 5 none :: ws) ({ frames := 2, cells := 0, slots := 0, locals := 24 } : Room)) (fun a U => a = #[(.ref a1), (.ref w9), (.ref a2), (.ref w0), (.ref a3)] ∧ Z.Warmed39 U.vm ∧ U.heap = h0) (fun _ _ _ _ _ => True) (fun _ U o U' => ∃ v L, o = .returned v ∧ Qrm24 Z w0 w1 w2 w3 w4 w5 w6 w7 w8 w9 w10 w11 w12 w13 w14 w15 w16 w17 a1 a2 a3 h0 n0 v U'.heap L ∧ FrameEnd U o U' L ({ frames := 2, cells := 0, slots := 0, locals := 24 } : Room).cells ({ frames := 2, cells := 0, slots := 0, locals := 24 } : Room).slots) := by
  refine MetFree.of_bodySF (plainFor_of_name pn72) hisR ?_
  intro p e s m args below meth c s₁ Bd hml0 hP hK
  obtain ⟨rfl, hZ, hh⟩ := hP
  have hx := Bd.exec
  have hby := Bd.bytes
  have hml : c.maxLocals = 5 := hml0
  have hown : s.vm.findClass z0 = some m.cls := findClass_of_methodNamed Bd.named
  have hnm := (name_of_methodNamed Bd.named Bd.method).1
  have X0 : Stand p l e ({ frames := 2, cells := 0, slots := 0, locals := 24 } : Room) s m #[(.ref a1), (.ref w9), (.ref a2), (.ref w0), (.ref a3)] below meth c s₁ [] 0 0 := Stand.of_body Bd
  have e0 : s₁.heap = h0 := by rw [← hh, Bd.state]; rfl
  have N0 := Fr.nil n0
  have pre0 : ∀ t, Steps p.tables e below (s₁.setTop (mkF m 0 #[.val (.ref a1), .val (.ref w9), .val (.ref a2), .val (.ref w0), .val (.ref a3)] [])) t → Steps p.tables e below (s₁.setTop (entryFrame m #[(.ref a1), (.ref w9), (.ref a2), (.ref w0), (.ref a3)] 5)) t := fun t k => castTop (ef71 m a1 w9 a2 w0 a3) k
  obtain ⟨_, T1, L1, hQ1, X1, st1⟩ := own_special X0 hx hZ (W := 0) rfl hown (hw _ m59) (hw _ m60) (hw _ m62) (hw _ m63) (by decide) (rm1 l Z a0 hw hj w0 w1 w2 w3 w4 w5 w6 w7 w8 w9 w10 w11 w12 w13 w14 w15 w16 w17 hS [] a1 h0 n0 O0) e0 (a := a1) (g := (mkF m 1 #[.val (.ref a1), .val (.ref w9), .val (.ref a2), .val (.ref w0), .val (.ref a3)] [(.ref a1)])) rfl (by rw [hml]; rfl) (argsL := []) (rest := []) (lenOf pd52 rfl) rfl rfl (by show 2 * 0 + _ ≤ _; exact Nat.le_of_eq rfl) (hb hby d2_1) (by decide) (by decide) (by decide) (by decide)
  obtain ⟨rfl, N1q, e1⟩ := hQ1
  have N1 := Fr.app N0 N1q
  have e1' : T1.heap = h0 := e1
  obtain ⟨T2, h2, L'2, X2, e2, W2, Fw2, O2, K2, N2, st2⟩ := own_put X1 hx hZ hown (host := "") (Or.inl (hw _ m67)) Via.refl e1' O0 (Keep.refl h0 [a1]) N1 g6 (Or.inl (List.mem_of_getElem? (i := 0) rfl)) F2 E1 (Or.inr ⟨(hw _ m68), rfl, hnm⟩) (hw _ m44) (ty := (.object z1)) (by decide) rfl rfl (g := (mkF m 6 #[.val (.ref a1), .val (.ref w9), .val (.ref a2), .val (.ref w0), .val (.ref a3)] [(.ref w9), (.ref a1)])) rfl rfl (hb hby d2_6)
  have f3 : Fld Z h2 a1 z0 "limitation" z8 .null := (F3.other W2 (Or.inr (slot_ne (Or.inr (hw _ m70)) (Or.inr (hw _ m68)) (by decide) (t := (.object z3)) (t' := (.object z1)) (by decide) (by decide))))
  have f4 : Exa Z h2 a1 z0 := (E1.wr W2)
  obtain ⟨T5, h5, L'5, X5, e5, W5, Fw5, O5, K5, N5, st5⟩ := own_put X2 hx hZ hown (host := "") (Or.inl (hw _ m69)) Via.refl e2 O2 K2 N2 g6 (Or.inl (List.mem_of_getElem? (i := 0) rfl)) f3 f4 (Or.inr ⟨(hw _ m70), rfl, hnm⟩) (hw _ m44) (ty := (.object z3)) (by decide) rfl rfl (g := (mkF m 11 #[.val (.ref a1), .val (.ref w9), .val (.ref a2), .val (.ref w0), .val (.ref a3)] [(.ref a2), (.ref a1)])) rfl rfl (hb hby d2_11)
  have f6 : Fld Z h5 a1 z0 "catcher" z5 .null := ((F4.other W2 (Or.inr (slot_ne (Or.inr (hw _ m72)) (Or.inr (hw _ m68)) (by decide) (t := (.object z2)) (t' := (.object z1)) (by decide) (by decide)))).other W5 (Or.inr (slot_ne (Or.inr (hw _ m72)) (Or.inr (hw _ m70)) (by decide) (t := (.object z2)) (t' := (.object z3)) (by decide) (by decide))))
  have f7 : Exa Z h5 a1 z0 := (f4.wr W5)
  obtain ⟨T8, h8, L'8, X8, e8, W8, Fw8, O8, K8, N8, st8⟩ := own_put X5 hx hZ hown (host := "") (Or.inl (hw _ m71)) Via.refl e5 O5 K5 N5 g6 (Or.inl (List.mem_of_getElem? (i := 0) rfl)) f6 f7 (Or.inr ⟨(hw _ m72), rfl, hnm⟩) (hw _ m44) (ty := (.object z2)) (by decide) rfl rfl (g := (mkF m 16 #[.val (.ref a1), .val (.ref w9), .val (.ref a2), .val (.ref w0), .val (.ref a3)] [(.ref w0), (.ref a1)])) rfl rfl (hb hby d2_16)
  have f9 : Fld Z h8 a1 z0 "errorCode" z8 .null := (((F5.other W2 (Or.inr (slot_ne (Or.inr (hw _ m74)) (Or.inr (hw _ m68)) (by decide) (t := (.object z3)) (t' := (.object z1)) (by decide) (by decide)))).other W5 (Or.inr (slot_ne (Or.inr (hw _ m74)) (Or.inr (hw _ m70)) (by decide) (t := (.object z3)) (t' := (.object z3)) (by decide) (by decide)))).other W8 (Or.inr (slot_ne (Or.inr (hw _ m74)) (Or.inr (hw _ m72)) (by decide) (t := (.object z3)) (t' := (.object z2)) (by decide) (by decide))))
  have f10 : Exa Z h8 a1 z0 := (f7.wr W8)
  obtain ⟨T11, h11, L'11, X11, e11, W11, Fw11, O11, K11, N11, st11⟩ := own_put X8 hx hZ hown (host := "") (Or.inl (hw _ m73)) Via.refl e8 O8 K8 N8 g6 (Or.inl (List.mem_of_getElem? (i := 0) rfl)) f9 f10 (Or.inr ⟨(hw _ m74), rfl, hnm⟩) (hw _ m44) (ty := (.object z3)) (by decide) rfl rfl (g := (mkF m 22 #[.val (.ref a1), .val (.ref w9), .val (.ref a2), .val (.ref w0), .val (.ref a3)] [(.ref a3), (.ref a1)])) rfl rfl (hb hby d2_22)
  have f12 : Fld Z h11 a1 z0 "kind" z4 (.ref w9) := (((Fw2.other W5 (Or.inr (slot_ne (Or.inr (hw _ m68)) (Or.inr (hw _ m70)) (by decide) (t := (.object z1)) (t' := (.object z3)) (by decide) (by decide)))).other W8 (Or.inr (slot_ne (Or.inr (hw _ m68)) (Or.inr (hw _ m72)) (by decide) (t := (.object z1)) (t' := (.object z2)) (by decide) (by decide)))).other W11 (Or.inr (slot_ne (Or.inr (hw _ m68)) (Or.inr (hw _ m74)) (by decide) (t := (.object z1)) (t' := (.object z3)) (by decide) (by decide))))
  have f13 : Fld Z h11 a1 z0 "limitation" z8 (.ref a2) := ((Fw5.other W8 (Or.inr (slot_ne (Or.inr (hw _ m70)) (Or.inr (hw _ m72)) (by decide) (t := (.object z3)) (t' := (.object z2)) (by decide) (by decide)))).other W11 (Or.inr (slot_ne (Or.inr (hw _ m70)) (Or.inr (hw _ m74)) (by decide) (t := (.object z3)) (t' := (.object z3)) (by decide) (by decide))))
  have f14 : Fld Z h11 a1 z0 "catcher" z5 (.ref w0) := (Fw8.other W11 (Or.inr (slot_ne (Or.inr (hw _ m72)) (Or.inr (hw _ m74)) (by decide) (t := (.object z2)) (t' := (.object z3)) (by decide) (by decide))))
  obtain ⟨fs, hr, hrun, hended, hW, hsame⟩ := X11.leave (v := none) (fun _ => rfl)
  refine ⟨_, _, pre0 _ ?_, hrun, hended, _, _, rfl, ?_, ⟨_, rfl⟩, hW, hsame.mono (by decide) (by decide)⟩
  · show Steps p.tables e below (s₁.setTop (mkF m 0 #[.val (.ref a1), .val (.ref w9), .val (.ref a2), .val (.ref w0), .val (.ref a3)] [])) _
    refine XS.aloadN X0.here hx rfl (hb hby d2_0) rfl rfl ?_
    refine st1 _ ?_
    refine XS.aloadN X1.here hx rfl (hb hby d2_4) rfl rfl ?_
    refine XS.aloadN X1.here hx rfl (hb hby d2_5) rfl rfl ?_
    show Steps p.tables e below (T1.setTop (mkF m 6 #[.val (.ref a1), .val (.ref w9), .val (.ref a2), .val (.ref w0), .val (.ref a3)] [(.ref w9), (.ref a1)])) _
    refine st2 _ ?_
    refine XS.aloadN X2.here hx rfl (hb hby d2_9) rfl rfl ?_
    refine XS.aloadN X2.here hx rfl (hb hby d2_10) rfl rfl ?_
    refine st5 _ ?_
    show Steps p.tables e below (T5.setTop (mkF m 14 #[.val (.ref a1), .val (.ref w9), .val (.ref a2), .val (.ref w0), .val (.ref a3)] [])) _
    refine XS.aloadN X5.here hx rfl (hb hby d2_14) rfl rfl ?_
    refine XS.aloadN X5.here hx rfl (hb hby d2_15) rfl rfl ?_
    refine st8 _ ?_
    refine XS.aloadN X8.here hx rfl (hb hby d2_19) rfl rfl ?_
    show Steps p.tables e below (T8.setTop (mkF m 20 #[.val (.ref a1), .val (.ref w9), .val (.ref a2), .val (.ref w0), .val (.ref a3)] [(.ref a1)])) _
    refine XS.aload X8.here hx rfl (hb hby d2_20) rfl rfl ?_
    refine st11 _ ?_
    exact X11.returnOut hx Bd.returns (hb hby d2_25) hr
  · show Qrm24 Z w0 w1 w2 w3 w4 w5 w6 w7 w8 w9 w10 w11 w12 w13 w14 w15 w16 w17 a1 a2 a3 h0 n0 _ T11.heap _
    rw [e11]
    exact ⟨rfl, N11, K11, f12, f13, f14, Fw11⟩
def Qrm25 (Z : State) (w0 : Addr) (w1 : Addr) (w2 : Addr) (w3 : Addr) (w4 : Addr) (w5 : Addr) (w6 : Addr) (w7 : Addr) (w8 : Addr) (w9 : Addr) (w10 : Addr) (w11 : Addr) (w12 : Addr) (w13 : Addr) (w14 : Addr) (w15 : Addr) (w16 : Addr) (w17 : Addr) (h0 : Heap) (n0 : Nat) (v : Option Value) (h : Heap) (L : List Loc) : Prop := ∃ x0 : Addr, ∃ x1 : Addr, ∃ x2 : Addr, ∃ x3 : Addr, ∃ x4 : Addr, ∃ xk0 : ClassId, ∃ xk1 : ClassId, v = some (.ref x0) ∧ Fr n0 L ∧ Keep h0 h [] ∧ h0.size ≤ x0 ∧ Exa Z h x0 z0 ∧ Fld Z h x0 z0 "kind" z4 (.ref w9) ∧ Fld Z h x0 z0 "limitation" z8 (.ref x1) ∧ Fld Z h x0 z0 "catcher" z5 (.ref w0) ∧ Fld Z h x0 z0 "errorCode" z8 (.ref x2) ∧ Exa Z h x1 z3 ∧ Fld Z h x1 z3 "coder" "B" (.int (0 : Int32)) ∧ Fld Z h x1 z3 "value" "[B" (.ref x3) ∧ Exa Z h x2 z3 ∧ Fld Z h x2 z3 "coder" "B" (.int (0 : Int32)) ∧ Fld Z h x2 z3 "value" "[B" (.ref x4) ∧ Arv Z h x3 xk0 .byte (0 : Int32) [] (.int (0 : Int32)) ∧ Arv Z h x4 xk1 .byte (0 : Int32) [] (.int (0 : Int32))
set_option maxRecDepth 65536 in
set_option maxHeartbeats 40000000 in
theorem rm25 (l : Launch) (Z : State) (a0 : Array Value) (hw : ∀ d ∈ tables_1, d.before a0 Z = true) (hj : ∀ d ∈ jdkStatics_1, d.before a0 Z = true) (w0 : Addr) (w1 : Addr) (w2 : Addr) (w3 : Addr) (w4 : Addr) (w5 : Addr) (w6 : Addr) (w7 : Addr) (w8 : Addr) (w9 : Addr) (w10 : Addr) (w11 : Addr) (w12 : Addr) (w13 : Addr) (w14 : Addr) (w15 : Addr) (w16 : Addr) (w17 : Addr) (hS : SF Z w0 w1 w2 w3 w4 w5 w6 w7 w8 w9 w10 w11 w12 w13 w14 w15 w16 w17) (ws : List Jvm.Cond) (h0 : Heap) (n0 : Nat) (O0 : Old Z n0 h0) :
    MetFree l (⟨z0, "runs", z7⟩ : MethodName) (head1 (Jvm.Cond.code (⟨z0, "runs", z7⟩ : MethodName) prog_27_method_2_code 1 (some (.object z0)) :: ws) ({ frames := 3, cells := 5, slots := 12, locals := 41 } : Room)) (fun a U => a = #[(.ref w9)] ∧ Z.Warmed39 U.vm ∧ U.heap = h0 ∧ CHv Z EL U.vm h0 ∧ ∀ x ∈ ([] : List Addr), Safe Z EL U.vm h0 x) (fun _ _ _ _ _ => True) (fun _ U o U' => ∃ v L, o = .returned v ∧ Qrm25 Z w0 w1 w2 w3 w4 w5 w6 w7 w8 w9 w10 w11 w12 w13 w14 w15 w16 w17 h0 n0 v U'.heap L ∧ CHr Z EL U.vm U.heap U'.vm U'.heap ∧ ReturnedEndW U o U' L ({ frames := 3, cells := 5, slots := 12, locals := 41 } : Room).cells ({ frames := 3, cells := 5, slots := 12, locals := 41 } : Room).slots) := by
  refine MetFree.of_bodySF (plainFor_of_name pn72) hisR ?_
  intro p e s m args below meth c s₁ Bd hml0 hP hK
  obtain ⟨rfl, hZ, hh, H0, hsx⟩ := hP
  have hx := Bd.exec
  have hby := Bd.bytes
  have hml : c.maxLocals = 1 := hml0
  have hown : s.vm.findClass z0 = some m.cls := findClass_of_methodNamed Bd.named
  have hnm := (name_of_methodNamed Bd.named Bd.method).1
  have X0 : Stand p l e ({ frames := 3, cells := 5, slots := 12, locals := 41 } : Room) (s.setVm s.vm) m #[(.ref w9)] below meth c s₁ [] 0 0 := Stand.of_body Bd
  have e0 : s₁.heap = h0 := by rw [← hh, Bd.state]; rfl
  have N0 := Fr.nil n0
  have pre0 : ∀ t, Steps p.tables e below (s₁.setTop (mkF m 0 #[.val (.ref w9)] [])) t → Steps p.tables e below (s₁.setTop (entryFrame m #[(.ref w9)] 1)) t := fun t k => castTop (ef48 m w9) k
  have hS0 : s.Since s.vm h0.size := (State.WarmedH.refl s).since _
  have C0 : CHr Z EL s.vm h0 s.vm h0 := CHr.refl H0
  obtain ⟨T1, h1, b1, X1, e1, E1, A1, D1, g1, O1, K1, st1⟩ := own_newO X0 hx hZ hown (hw _ m43) (hw _ m44) (hw _ m41) e0 O0 (Keep.refl h0 []) (g := (mkF m 0 #[.val (.ref w9)] [])) rfl (hb hby d1_0) (by decide) (by decide)
  have C1 := C0.trans (CHr.ext E1 C0.1)
  have F1_1 : Fld Z h1 b1 z0 "kind" z4 .null := D1 (Or.inr (hw _ m68)) (ty := (.object z1)) (by decide)
  have F1_2 : Fld Z h1 b1 z0 "limitation" z8 .null := D1 (Or.inr (hw _ m70)) (ty := (.object z3)) (by decide)
  have F1_3 : Fld Z h1 b1 z0 "catcher" z5 .null := D1 (Or.inr (hw _ m72)) (ty := (.object z2)) (by decide)
  have F1_4 : Fld Z h1 b1 z0 "errorCode" z8 .null := D1 (Or.inr (hw _ m74)) (ty := (.object z3)) (by decide)
  obtain ⟨sa2, T2, h2, k12, sb2, k2, X2, e2, E2, hS2, hk2, hZ2, hown2, A2, Fc2, Fv2, V2, la2, lb2, Cq2, -, hn2, st2⟩ := ldcCH X1 hx hZ hown (hw _ m45) (own_str hw hj) e1 hS0 (Nat.le_trans (Nat.le_refl _) E1.1) (own_EW hw hj) (List.mem_of_getElem? (i := 0) rfl) C1.1 (vs := []) (z := (0 : Int32)) ⟨by decide, by decide⟩ (by decide) (by decide) (g := (mkF m 5 #[.val (.ref w9)] [(.ref w9), (.ref b1), (.ref b1)])) rfl (hb hby d1_5) (n := 0) (by decide) (by decide) (by decide) (by decide)
  have O2 : Old Z n0 h2 := O1.ext E2
  have K2 : Keep h0 h2 [] := K1.ext E2
  have C2 := C1.trans Cq2
  obtain ⟨T3, X3, e3, st3⟩ := getS2 X2 hx hZ2 hown2 (host := "") (Or.inl (hw _ m53)) Via.refl e2 (hS.1.ext O2.2) (g := (mkF m 7 #[.val (.ref w9)] [(.ref sa2), (.ref w9), (.ref b1), (.ref b1)])) rfl (hb hby d1_7)
  obtain ⟨sa4, T4, h4, k14, sb4, k4, X4, e4, E4, hS4, hk4, hZ4, hown4, A4, Fc4, Fv4, V4, la4, lb4, Cq4, -, hn4, st4⟩ := ldcCH X3 hx hZ2 hown2 (hw _ m45) (own_str hw hj) e3 hS2 hk2 (own_EW hw hj) (List.mem_of_getElem? (i := 0) rfl) C2.1 (vs := []) (z := (0 : Int32)) ⟨by decide, by decide⟩ (by decide) (by decide) (g := (mkF m 10 #[.val (.ref w9)] [(.ref w0), (.ref sa2), (.ref w9), (.ref b1), (.ref b1)])) rfl (hb hby d1_10) (n := 0) (by decide) (by decide) (by decide) (by decide)
  have O4 : Old Z n0 h4 := O2.ext E4
  have K4 : Keep h0 h4 [] := K2.ext E4
  have C4 := C2.trans Cq4
  have f6 : Exa Z h4 b1 z0 := ((A1.ext E2).ext E4)
  have f7 : Fld Z h4 b1 z0 "kind" z4 .null := ((F1_1.ext E2).ext E4)
  have f8 : Fld Z h4 b1 z0 "limitation" z8 .null := ((F1_2.ext E2).ext E4)
  have f9 : Fld Z h4 b1 z0 "catcher" z5 .null := ((F1_3.ext E2).ext E4)
  have f10 : Fld Z h4 b1 z0 "errorCode" z8 .null := ((F1_4.ext E2).ext E4)
  have sf5 := ((sfS (Safe.exa (EL := EL) hZ4.alike f6 (by decide) (by decide)) sf0) : ∀ x ∈ [b1], Safe Z EL T4.vm h4 x)
  obtain ⟨_, T5, L5, hQ5, X5, st5⟩ := own_special X4 hx hZ4 (W := 1) rfl hown4 (hw _ m56) (hw _ m57) (hw _ m41) (hw _ m58) (by decide) (rm24 l Z a0 hw hj w0 w1 w2 w3 w4 w5 w6 w7 w8 w9 w10 w11 w12 w13 w14 w15 w16 w17 hS [] b1 sa2 sa4 h4 n0 O4 f6 f7 f8 f9 f10 (Nat.le_trans (own_old_le O0) g1)) e4 (a := b1) (g := (mkF m 12 #[.val (.ref w9)] [(.ref sa4), (.ref w0), (.ref sa2), (.ref w9), (.ref b1), (.ref b1)])) rfl (by rw [hml]; rfl) (argsL := [(.ref w9), (.ref sa2), (.ref w0), (.ref sa4)]) (rest := [(.ref b1)]) (lenOf pd74 rfl) rfl rfl (by show 2 * 0 + _ ≤ _; exact Nat.le_of_eq rfl) (hb hby d1_12) (by decide) (by decide) (by decide) (by decide)
  obtain ⟨rfl, N5q, Kq5, q5_0, q5_1, q5_2, q5_3⟩ := hQ5
  have N5 := Fr.app N0 N5q
  have C5 := C4.trans (CHr.keep Kq5 sf5 C4.1)
  have O5 : Old Z n0 T5.heap := O4.keep Kq5 (allS (Nat.le_trans (own_old_le O0) g1) all0)
  have K5 : Keep h0 T5.heap [] := K4.trans Kq5 (allS (Or.inr (Nat.le_trans (Keep.refl h0 []).1 g1)) all0)
  have f11 : Exa Z T5.heap b1 z0 := (f6.keep Kq5)
  have f12 : Exa Z T5.heap sa2 z3 := ((A2.ext E4).keep Kq5)
  have f13 : Fld Z T5.heap sa2 z3 "coder" "B" (.int (0 : Int32)) := ((Fc2.ext E4).keep Kq5 (ninS (ne_exa A2 (A1.ext E2) (by decide)) nin0))
  have f14 : Fld Z T5.heap sa2 z3 "value" "[B" (.ref sb2) := ((Fv2.ext E4).keep Kq5 (ninS (ne_exa A2 (A1.ext E2) (by decide)) nin0))
  have f15 : Exa Z T5.heap sa4 z3 := (A4.keep Kq5)
  have f16 : Fld Z T5.heap sa4 z3 "coder" "B" (.int (0 : Int32)) := (Fc4.keep Kq5 (ninS (ne_exa A4 f6 (by decide)) nin0))
  have f17 : Fld Z T5.heap sa4 z3 "value" "[B" (.ref sb4) := (Fv4.keep Kq5 (ninS (ne_exa A4 f6 (by decide)) nin0))
  have f18 : Arv Z T5.heap sb2 k2 .byte (0 : Int32) [] (.int (0 : Int32)) := ((V2.ext E4).keep Kq5 (ninS (Ne.symm (Exa.neArv (A1.ext E2) V2 (hw _ m44))) nin0))
  have f19 : Arv Z T5.heap sb4 k4 .byte (0 : Int32) [] (.int (0 : Int32)) := (V4.keep Kq5 (ninS (Ne.symm (Exa.neArv f6 V4 (hw _ m44))) nin0))
  obtain ⟨fs, hr, hrun, hended, hRW⟩ := X5.leaveW hS4 (by rw [(rfl : T5.heap = T5.heap)]; exact (Nat.le_trans hk4 Kq5.1)) (v := some (.ref b1)) (fun h => by rw [Bd.returns] at h; cases h)
  refine ⟨_, _, pre0 _ ?_, hrun, hended, _, _, rfl, ?_, ?_, hRW⟩
  · show Steps p.tables e below (s₁.setTop (mkF m 0 #[.val (.ref w9)] [])) _
    refine st1 _ ?_
    refine XS.dup X1.here hx rfl (hb hby d1_3) rfl rfl ?_
    refine XS.aloadN X1.here hx rfl (hb hby d1_4) rfl rfl ?_
    refine st2 _ ?_
    show Steps p.tables e below (T2.setTop (mkF m 7 #[.val (.ref w9)] [(.ref sa2), (.ref w9), (.ref b1), (.ref b1)])) _
    refine st3 _ ?_
    refine st4 _ ?_
    refine st5 _ ?_
    exact retOut X5 hx Bd.returns rfl (Or.inr (Or.inr (Or.inr (Or.inr ⟨rfl, rfl, rfl⟩)))) (hb hby d1_15) hr
  · show Qrm25 Z w0 w1 w2 w3 w4 w5 w6 w7 w8 w9 w10 w11 w12 w13 w14 w15 w16 w17 h0 n0 _ T5.heap _
    exact ⟨b1, sa2, sa4, sb2, sb4, k2, k4, rfl, N5, K5, (Nat.le_trans (Keep.refl h0 []).1 g1), f11, q5_0, q5_1, q5_2, q5_3, f12, f13, f14, f15, f16, f17, f18, f19⟩
  · show CHr Z EL _ _ T5.vm T5.heap
    exact own_chr (by rw [← hh]) (rfl : T5.heap = T5.heap) (C5.trans (CHv.at X5 hZ4 (own_EW hw hj) C5.1))
def Qrm26 (Z : State) (w0 : Addr) (w1 : Addr) (w2 : Addr) (w3 : Addr) (w4 : Addr) (w5 : Addr) (w6 : Addr) (w7 : Addr) (w8 : Addr) (w9 : Addr) (w10 : Addr) (w11 : Addr) (w12 : Addr) (w13 : Addr) (w14 : Addr) (w15 : Addr) (w16 : Addr) (w17 : Addr) (a1 : Addr) (h0 : Heap) (n0 : Nat) (v : Option Value) (h : Heap) (L : List Loc) : Prop := v = some (.ref w9) ∧ Fr n0 L ∧ h = h0
set_option maxRecDepth 65536 in
set_option maxHeartbeats 40000000 in
theorem rm26 (l : Launch) (Z : State) (a0 : Array Value) (hw : ∀ d ∈ tables_1, d.before a0 Z = true) (hj : ∀ d ∈ jdkStatics_1, d.before a0 Z = true) (w0 : Addr) (w1 : Addr) (w2 : Addr) (w3 : Addr) (w4 : Addr) (w5 : Addr) (w6 : Addr) (w7 : Addr) (w8 : Addr) (w9 : Addr) (w10 : Addr) (w11 : Addr) (w12 : Addr) (w13 : Addr) (w14 : Addr) (w15 : Addr) (w16 : Addr) (w17 : Addr) (hS : SF Z w0 w1 w2 w3 w4 w5 w6 w7 w8 w9 w10 w11 w12 w13 w14 w15 w16 w17) (ws : List Jvm.Cond) (a1 : Addr) (h0 : Heap) (n0 : Nat) (O0 : Old Z n0 h0) (F1 : Fld Z h0 a1 z0 "kind" z4 (.ref w9)) :
    MetFree l (⟨z0, "kind", z9⟩ : MethodName) (head1 (Jvm.Cond.code (⟨z0, "kind", z9⟩ : MethodName) prog_27_method_7_code 1 (some (.object z1)) :: ws) ({ frames := 0, cells := 0, slots := 0, locals := 0 } : Room)) (fun a U => a = #[(.ref a1)] ∧ Z.Warmed39 U.vm ∧ U.heap = h0) (fun _ _ _ _ _ => True) (fun _ U o U' => ∃ v L, o = .returned v ∧ Qrm26 Z w0 w1 w2 w3 w4 w5 w6 w7 w8 w9 w10 w11 w12 w13 w14 w15 w16 w17 a1 h0 n0 v U'.heap L ∧ FrameEnd U o U' L ({ frames := 0, cells := 0, slots := 0, locals := 0 } : Room).cells ({ frames := 0, cells := 0, slots := 0, locals := 0 } : Room).slots) := by
  refine MetFree.of_bodySF (plainFor_of_name pn72) hisR ?_
  intro p e s m args below meth c s₁ Bd hml0 hP hK
  obtain ⟨rfl, hZ, hh⟩ := hP
  have hx := Bd.exec
  have hby := Bd.bytes
  have hml : c.maxLocals = 1 := hml0
  have hown : s.vm.findClass z0 = some m.cls := findClass_of_methodNamed Bd.named
  have hnm := (name_of_methodNamed Bd.named Bd.method).1
  have X0 : Stand p l e ({ frames := 0, cells := 0, slots := 0, locals := 0 } : Room) s m #[(.ref a1)] below meth c s₁ [] 0 0 := Stand.of_body Bd
  have e0 : s₁.heap = h0 := by rw [← hh, Bd.state]; rfl
  have N0 := Fr.nil n0
  have pre0 : ∀ t, Steps p.tables e below (s₁.setTop (mkF m 0 #[.val (.ref a1)] [])) t → Steps p.tables e below (s₁.setTop (entryFrame m #[(.ref a1)] 1)) t := fun t k => castTop (ef48 m a1) k
  obtain ⟨T1, X1, e1, st1⟩ := getF X0 hx hZ hown (host := "") (Or.inl (hw _ m67)) Via.refl e0 F1 (g := (mkF m 1 #[.val (.ref a1)] [(.ref a1)])) rfl rfl (hb hby d5_1)
  obtain ⟨fs, hr, hrun, hended, hW, hsame⟩ := X1.leave (v := some (.ref w9)) (fun h => by rw [Bd.returns] at h; cases h)
  refine ⟨_, _, pre0 _ ?_, hrun, hended, _, _, rfl, ?_, ⟨_, rfl⟩, hW, hsame.mono (by decide) (by decide)⟩
  · show Steps p.tables e below (s₁.setTop (mkF m 0 #[.val (.ref a1)] [])) _
    refine XS.aloadN X0.here hx rfl (hb hby d5_0) rfl rfl ?_
    refine st1 _ ?_
    exact retOut X1 hx Bd.returns rfl (Or.inr (Or.inr (Or.inr (Or.inr ⟨rfl, rfl, rfl⟩)))) (hb hby d5_4) hr
  · show Qrm26 Z w0 w1 w2 w3 w4 w5 w6 w7 w8 w9 w10 w11 w12 w13 w14 w15 w16 w17 a1 h0 n0 _ T1.heap _
    rw [e1]
    exact ⟨rfl, N0, rfl⟩
def Qrm27 (Z : State) (w0 : Addr) (w1 : Addr) (w2 : Addr) (w3 : Addr) (w4 : Addr) (w5 : Addr) (w6 : Addr) (w7 : Addr) (w8 : Addr) (w9 : Addr) (w10 : Addr) (w11 : Addr) (w12 : Addr) (w13 : Addr) (w14 : Addr) (w15 : Addr) (w16 : Addr) (w17 : Addr) (a1 : Addr) (a2 : Addr) (a3 : Addr) (h0 : Heap) (n0 : Nat) (v : Option Value) (h : Heap) (L : List Loc) : Prop := v = none ∧ Fr n0 L ∧ Keep h0 h [a1] ∧ Fld Z h a1 z0 "kind" z4 (.ref w7) ∧ Fld Z h a1 z0 "limitation" z8 (.ref a2) ∧ Fld Z h a1 z0 "catcher" z5 (.ref w0) ∧ Fld Z h a1 z0 "errorCode" z8 (.ref a3)
set_option maxRecDepth 65536 in
set_option maxHeartbeats 40000000 in
theorem rm27 (l : Launch) (Z : State) (a0 : Array Value) (hw : ∀ d ∈ tables_1, d.before a0 Z = true) (hj : ∀ d ∈ jdkStatics_1, d.before a0 Z = true) (w0 : Addr) (w1 : Addr) (w2 : Addr) (w3 : Addr) (w4 : Addr) (w5 : Addr) (w6 : Addr) (w7 : Addr) (w8 : Addr) (w9 : Addr) (w10 : Addr) (w11 : Addr) (w12 : Addr) (w13 : Addr) (w14 : Addr) (w15 : Addr) (w16 : Addr) (w17 : Addr) (hS : SF Z w0 w1 w2 w3 w4 w5 w6 w7 w8 w9 w10 w11 w12 w13 w14 w15 w16 w17) (ws : List Jvm.Cond) (a1 : Addr) (a2 : Addr) (a3 : Addr) (h0 : Heap) (n0 : Nat) (O0 : Old Z n0 h0) (E1 : Exa Z h0 a1 z0) (F2 : Fld Z h0 a1 z0 "kind" z4 .null) (F3 : Fld Z h0 a1 z0 "limitation" z8 .null) (F4 : Fld Z h0 a1 z0 "catcher" z5 .null) (F5 : Fld Z h0 a1 z0 "errorCode" z8 .null) (g6 : n0 ≤ a1) :
    MetFree l (⟨z0, "<init>", z6⟩ : MethodName) (head1 (Jvm.Cond.code (⟨z0, "<init>", z6⟩ : MethodName) prog_27_method_1_code 5 none :: ws) ({ frames := 2, cells := 0, slots := 0, locals := 24 } : Room)) (fun a U => a = #[(.ref a1), (.ref w7), (.ref a2), (.ref w0), (.ref a3)] ∧ Z.Warmed39 U.vm ∧ U.heap = h0) (fun _ _ _ _ _ => True) (fun _ U o U' => ∃ v L, o = .returned v ∧ Qrm27 Z w0 w1 w2 w3 w4 w5 w6 w7 w8 w9 w10 w11 w12 w13 w14 w15 w16 w17 a1 a2 a3 h0 n0 v U'.heap L ∧ FrameEnd U o U' L ({ frames := 2, cells := 0, slots := 0, locals := 24 } : Room).cells ({ frames := 2, cells := 0, slots := 0, locals := 24 } : Room).slots) := by
  refine MetFree.of_bodySF (plainFor_of_name pn72) hisR ?_
  intro p e s m args below meth c s₁ Bd hml0 hP hK
  obtain ⟨rfl, hZ, hh⟩ := hP
  have hx := Bd.exec
  have hby := Bd.bytes
  have hml : c.maxLocals = 5 := hml0
  have hown : s.vm.findClass z0 = some m.cls := findClass_of_methodNamed Bd.named
  have hnm := (name_of_methodNamed Bd.named Bd.method).1
  have X0 : Stand p l e ({ frames := 2, cells := 0, slots := 0, locals := 24 } : Room) s m #[(.ref a1), (.ref w7), (.ref a2), (.ref w0), (.ref a3)] below meth c s₁ [] 0 0 := Stand.of_body Bd
  have e0 : s₁.heap = h0 := by rw [← hh, Bd.state]; rfl
  have N0 := Fr.nil n0
  have pre0 : ∀ t, Steps p.tables e below (s₁.setTop (mkF m 0 #[.val (.ref a1), .val (.ref w7), .val (.ref a2), .val (.ref w0), .val (.ref a3)] [])) t → Steps p.tables e below (s₁.setTop (entryFrame m #[(.ref a1), (.ref w7), (.ref a2), (.ref w0), (.ref a3)] 5)) t := fun t k => castTop (ef71 m a1 w7 a2 w0 a3) k
  obtain ⟨_, T1, L1, hQ1, X1, st1⟩ := own_special X0 hx hZ (W := 0) rfl hown (hw _ m59) (hw _ m60) (hw _ m62) (hw _ m63) (by decide) (rm1 l Z a0 hw hj w0 w1 w2 w3 w4 w5 w6 w7 w8 w9 w10 w11 w12 w13 w14 w15 w16 w17 hS [] a1 h0 n0 O0) e0 (a := a1) (g := (mkF m 1 #[.val (.ref a1), .val (.ref w7), .val (.ref a2), .val (.ref w0), .val (.ref a3)] [(.ref a1)])) rfl (by rw [hml]; rfl) (argsL := []) (rest := []) (lenOf pd52 rfl) rfl rfl (by show 2 * 0 + _ ≤ _; exact Nat.le_of_eq rfl) (hb hby d2_1) (by decide) (by decide) (by decide) (by decide)
  obtain ⟨rfl, N1q, e1⟩ := hQ1
  have N1 := Fr.app N0 N1q
  have e1' : T1.heap = h0 := e1
  obtain ⟨T2, h2, L'2, X2, e2, W2, Fw2, O2, K2, N2, st2⟩ := own_put X1 hx hZ hown (host := "") (Or.inl (hw _ m67)) Via.refl e1' O0 (Keep.refl h0 [a1]) N1 g6 (Or.inl (List.mem_of_getElem? (i := 0) rfl)) F2 E1 (Or.inr ⟨(hw _ m68), rfl, hnm⟩) (hw _ m44) (ty := (.object z1)) (by decide) rfl rfl (g := (mkF m 6 #[.val (.ref a1), .val (.ref w7), .val (.ref a2), .val (.ref w0), .val (.ref a3)] [(.ref w7), (.ref a1)])) rfl rfl (hb hby d2_6)
  have f3 : Fld Z h2 a1 z0 "limitation" z8 .null := (F3.other W2 (Or.inr (slot_ne (Or.inr (hw _ m70)) (Or.inr (hw _ m68)) (by decide) (t := (.object z3)) (t' := (.object z1)) (by decide) (by decide))))
  have f4 : Exa Z h2 a1 z0 := (E1.wr W2)
  obtain ⟨T5, h5, L'5, X5, e5, W5, Fw5, O5, K5, N5, st5⟩ := own_put X2 hx hZ hown (host := "") (Or.inl (hw _ m69)) Via.refl e2 O2 K2 N2 g6 (Or.inl (List.mem_of_getElem? (i := 0) rfl)) f3 f4 (Or.inr ⟨(hw _ m70), rfl, hnm⟩) (hw _ m44) (ty := (.object z3)) (by decide) rfl rfl (g := (mkF m 11 #[.val (.ref a1), .val (.ref w7), .val (.ref a2), .val (.ref w0), .val (.ref a3)] [(.ref a2), (.ref a1)])) rfl rfl (hb hby d2_11)
  have f6 : Fld Z h5 a1 z0 "catcher" z5 .null := ((F4.other W2 (Or.inr (slot_ne (Or.inr (hw _ m72)) (Or.inr (hw _ m68)) (by decide) (t := (.object z2)) (t' := (.object z1)) (by decide) (by decide)))).other W5 (Or.inr (slot_ne (Or.inr (hw _ m72)) (Or.inr (hw _ m70)) (by decide) (t := (.object z2)) (t' := (.object z3)) (by decide) (by decide))))
  have f7 : Exa Z h5 a1 z0 := (f4.wr W5)
  obtain ⟨T8, h8, L'8, X8, e8, W8, Fw8, O8, K8, N8, st8⟩ := own_put X5 hx hZ hown (host := "") (Or.inl (hw _ m71)) Via.refl e5 O5 K5 N5 g6 (Or.inl (List.mem_of_getElem? (i := 0) rfl)) f6 f7 (Or.inr ⟨(hw _ m72), rfl, hnm⟩) (hw _ m44) (ty := (.object z2)) (by decide) rfl rfl (g := (mkF m 16 #[.val (.ref a1), .val (.ref w7), .val (.ref a2), .val (.ref w0), .val (.ref a3)] [(.ref w0), (.ref a1)])) rfl rfl (hb hby d2_16)
  have f9 : Fld Z h8 a1 z0 "errorCode" z8 .null := (((F5.other W2 (Or.inr (slot_ne (Or.inr (hw _ m74)) (Or.inr (hw _ m68)) (by decide) (t := (.object z3)) (t' := (.object z1)) (by decide) (by decide)))).other W5 (Or.inr (slot_ne (Or.inr (hw _ m74)) (Or.inr (hw _ m70)) (by decide) (t := (.object z3)) (t' := (.object z3)) (by decide) (by decide)))).other W8 (Or.inr (slot_ne (Or.inr (hw _ m74)) (Or.inr (hw _ m72)) (by decide) (t := (.object z3)) (t' := (.object z2)) (by decide) (by decide))))
  have f10 : Exa Z h8 a1 z0 := (f7.wr W8)
  obtain ⟨T11, h11, L'11, X11, e11, W11, Fw11, O11, K11, N11, st11⟩ := own_put X8 hx hZ hown (host := "") (Or.inl (hw _ m73)) Via.refl e8 O8 K8 N8 g6 (Or.inl (List.mem_of_getElem? (i := 0) rfl)) f9 f10 (Or.inr ⟨(hw _ m74), rfl, hnm⟩) (hw _ m44) (ty := (.object z3)) (by decide) rfl rfl (g := (mkF m 22 #[.val (.ref a1), .val (.ref w7), .val (.ref a2), .val (.ref w0), .val (.ref a3)] [(.ref a3), (.ref a1)])) rfl rfl (hb hby d2_22)
  have f12 : Fld Z h11 a1 z0 "kind" z4 (.ref w7) := (((Fw2.other W5 (Or.inr (slot_ne (Or.inr (hw _ m68)) (Or.inr (hw _ m70)) (by decide) (t := (.object z1)) (t' := (.object z3)) (by decide) (by decide)))).other W8 (Or.inr (slot_ne (Or.inr (hw _ m68)) (Or.inr (hw _ m72)) (by decide) (t := (.object z1)) (t' := (.object z2)) (by decide) (by decide)))).other W11 (Or.inr (slot_ne (Or.inr (hw _ m68)) (Or.inr (hw _ m74)) (by decide) (t := (.object z1)) (t' := (.object z3)) (by decide) (by decide))))
  have f13 : Fld Z h11 a1 z0 "limitation" z8 (.ref a2) := ((Fw5.other W8 (Or.inr (slot_ne (Or.inr (hw _ m70)) (Or.inr (hw _ m72)) (by decide) (t := (.object z3)) (t' := (.object z2)) (by decide) (by decide)))).other W11 (Or.inr (slot_ne (Or.inr (hw _ m70)) (Or.inr (hw _ m74)) (by decide) (t := (.object z3)) (t' := (.object z3)) (by decide) (by decide))))
  have f14 : Fld Z h11 a1 z0 "catcher" z5 (.ref w0) := (Fw8.other W11 (Or.inr (slot_ne (Or.inr (hw _ m72)) (Or.inr (hw _ m74)) (by decide) (t := (.object z2)) (t' := (.object z3)) (by decide) (by decide))))
  obtain ⟨fs, hr, hrun, hended, hW, hsame⟩ := X11.leave (v := none) (fun _ => rfl)
  refine ⟨_, _, pre0 _ ?_, hrun, hended, _, _, rfl, ?_, ⟨_, rfl⟩, hW, hsame.mono (by decide) (by decide)⟩
  · show Steps p.tables e below (s₁.setTop (mkF m 0 #[.val (.ref a1), .val (.ref w7), .val (.ref a2), .val (.ref w0), .val (.ref a3)] [])) _
    refine XS.aloadN X0.here hx rfl (hb hby d2_0) rfl rfl ?_
    refine st1 _ ?_
    refine XS.aloadN X1.here hx rfl (hb hby d2_4) rfl rfl ?_
    refine XS.aloadN X1.here hx rfl (hb hby d2_5) rfl rfl ?_
    show Steps p.tables e below (T1.setTop (mkF m 6 #[.val (.ref a1), .val (.ref w7), .val (.ref a2), .val (.ref w0), .val (.ref a3)] [(.ref w7), (.ref a1)])) _
    refine st2 _ ?_
    refine XS.aloadN X2.here hx rfl (hb hby d2_9) rfl rfl ?_
    refine XS.aloadN X2.here hx rfl (hb hby d2_10) rfl rfl ?_
    refine st5 _ ?_
    show Steps p.tables e below (T5.setTop (mkF m 14 #[.val (.ref a1), .val (.ref w7), .val (.ref a2), .val (.ref w0), .val (.ref a3)] [])) _
    refine XS.aloadN X5.here hx rfl (hb hby d2_14) rfl rfl ?_
    refine XS.aloadN X5.here hx rfl (hb hby d2_15) rfl rfl ?_
    refine st8 _ ?_
    refine XS.aloadN X8.here hx rfl (hb hby d2_19) rfl rfl ?_
    show Steps p.tables e below (T8.setTop (mkF m 20 #[.val (.ref a1), .val (.ref w7), .val (.ref a2), .val (.ref w0), .val (.ref a3)] [(.ref a1)])) _
    refine XS.aload X8.here hx rfl (hb hby d2_20) rfl rfl ?_
    refine st11 _ ?_
    exact X11.returnOut hx Bd.returns (hb hby d2_25) hr
  · show Qrm27 Z w0 w1 w2 w3 w4 w5 w6 w7 w8 w9 w10 w11 w12 w13 w14 w15 w16 w17 a1 a2 a3 h0 n0 _ T11.heap _
    rw [e11]
    exact ⟨rfl, N11, K11, f12, f13, f14, Fw11⟩
def Qrm28 (Z : State) (w0 : Addr) (w1 : Addr) (w2 : Addr) (w3 : Addr) (w4 : Addr) (w5 : Addr) (w6 : Addr) (w7 : Addr) (w8 : Addr) (w9 : Addr) (w10 : Addr) (w11 : Addr) (w12 : Addr) (w13 : Addr) (w14 : Addr) (w15 : Addr) (w16 : Addr) (w17 : Addr) (h0 : Heap) (n0 : Nat) (v : Option Value) (h : Heap) (L : List Loc) : Prop := ∃ x0 : Addr, ∃ x1 : Addr, ∃ x2 : Addr, ∃ x3 : Addr, ∃ x4 : Addr, ∃ xk0 : ClassId, ∃ xk1 : ClassId, v = some (.ref x0) ∧ Fr n0 L ∧ Keep h0 h [] ∧ h0.size ≤ x0 ∧ Exa Z h x0 z0 ∧ Fld Z h x0 z0 "kind" z4 (.ref w7) ∧ Fld Z h x0 z0 "limitation" z8 (.ref x1) ∧ Fld Z h x0 z0 "catcher" z5 (.ref w0) ∧ Fld Z h x0 z0 "errorCode" z8 (.ref x2) ∧ Exa Z h x1 z3 ∧ Fld Z h x1 z3 "coder" "B" (.int (0 : Int32)) ∧ Fld Z h x1 z3 "value" "[B" (.ref x3) ∧ Exa Z h x2 z3 ∧ Fld Z h x2 z3 "coder" "B" (.int (0 : Int32)) ∧ Fld Z h x2 z3 "value" "[B" (.ref x4) ∧ Arv Z h x3 xk0 .byte (0 : Int32) [] (.int (0 : Int32)) ∧ Arv Z h x4 xk1 .byte (0 : Int32) [] (.int (0 : Int32))
set_option maxRecDepth 65536 in
set_option maxHeartbeats 40000000 in
theorem rm28 (l : Launch) (Z : State) (a0 : Array Value) (hw : ∀ d ∈ tables_1, d.before a0 Z = true) (hj : ∀ d ∈ jdkStatics_1, d.before a0 Z = true) (w0 : Addr) (w1 : Addr) (w2 : Addr) (w3 : Addr) (w4 : Addr) (w5 : Addr) (w6 : Addr) (w7 : Addr) (w8 : Addr) (w9 : Addr) (w10 : Addr) (w11 : Addr) (w12 : Addr) (w13 : Addr) (w14 : Addr) (w15 : Addr) (w16 : Addr) (w17 : Addr) (hS : SF Z w0 w1 w2 w3 w4 w5 w6 w7 w8 w9 w10 w11 w12 w13 w14 w15 w16 w17) (ws : List Jvm.Cond) (h0 : Heap) (n0 : Nat) (O0 : Old Z n0 h0) :
    MetFree l (⟨z0, "runs", z7⟩ : MethodName) (head1 (Jvm.Cond.code (⟨z0, "runs", z7⟩ : MethodName) prog_27_method_2_code 1 (some (.object z0)) :: ws) ({ frames := 3, cells := 5, slots := 12, locals := 41 } : Room)) (fun a U => a = #[(.ref w7)] ∧ Z.Warmed39 U.vm ∧ U.heap = h0 ∧ CHv Z EL U.vm h0 ∧ ∀ x ∈ ([] : List Addr), Safe Z EL U.vm h0 x) (fun _ _ _ _ _ => True) (fun _ U o U' => ∃ v L, o = .returned v ∧ Qrm28 Z w0 w1 w2 w3 w4 w5 w6 w7 w8 w9 w10 w11 w12 w13 w14 w15 w16 w17 h0 n0 v U'.heap L ∧ CHr Z EL U.vm U.heap U'.vm U'.heap ∧ ReturnedEndW U o U' L ({ frames := 3, cells := 5, slots := 12, locals := 41 } : Room).cells ({ frames := 3, cells := 5, slots := 12, locals := 41 } : Room).slots) := by
  refine MetFree.of_bodySF (plainFor_of_name pn72) hisR ?_
  intro p e s m args below meth c s₁ Bd hml0 hP hK
  obtain ⟨rfl, hZ, hh, H0, hsx⟩ := hP
  have hx := Bd.exec
  have hby := Bd.bytes
  have hml : c.maxLocals = 1 := hml0
  have hown : s.vm.findClass z0 = some m.cls := findClass_of_methodNamed Bd.named
  have hnm := (name_of_methodNamed Bd.named Bd.method).1
  have X0 : Stand p l e ({ frames := 3, cells := 5, slots := 12, locals := 41 } : Room) (s.setVm s.vm) m #[(.ref w7)] below meth c s₁ [] 0 0 := Stand.of_body Bd
  have e0 : s₁.heap = h0 := by rw [← hh, Bd.state]; rfl
  have N0 := Fr.nil n0
  have pre0 : ∀ t, Steps p.tables e below (s₁.setTop (mkF m 0 #[.val (.ref w7)] [])) t → Steps p.tables e below (s₁.setTop (entryFrame m #[(.ref w7)] 1)) t := fun t k => castTop (ef48 m w7) k
  have hS0 : s.Since s.vm h0.size := (State.WarmedH.refl s).since _
  have C0 : CHr Z EL s.vm h0 s.vm h0 := CHr.refl H0
  obtain ⟨T1, h1, b1, X1, e1, E1, A1, D1, g1, O1, K1, st1⟩ := own_newO X0 hx hZ hown (hw _ m43) (hw _ m44) (hw _ m41) e0 O0 (Keep.refl h0 []) (g := (mkF m 0 #[.val (.ref w7)] [])) rfl (hb hby d1_0) (by decide) (by decide)
  have C1 := C0.trans (CHr.ext E1 C0.1)
  have F1_1 : Fld Z h1 b1 z0 "kind" z4 .null := D1 (Or.inr (hw _ m68)) (ty := (.object z1)) (by decide)
  have F1_2 : Fld Z h1 b1 z0 "limitation" z8 .null := D1 (Or.inr (hw _ m70)) (ty := (.object z3)) (by decide)
  have F1_3 : Fld Z h1 b1 z0 "catcher" z5 .null := D1 (Or.inr (hw _ m72)) (ty := (.object z2)) (by decide)
  have F1_4 : Fld Z h1 b1 z0 "errorCode" z8 .null := D1 (Or.inr (hw _ m74)) (ty := (.object z3)) (by decide)
  obtain ⟨sa2, T2, h2, k12, sb2, k2, X2, e2, E2, hS2, hk2, hZ2, hown2, A2, Fc2, Fv2, V2, la2, lb2, Cq2, -, hn2, st2⟩ := ldcCH X1 hx hZ hown (hw _ m45) (own_str hw hj) e1 hS0 (Nat.le_trans (Nat.le_refl _) E1.1) (own_EW hw hj) (List.mem_of_getElem? (i := 0) rfl) C1.1 (vs := []) (z := (0 : Int32)) ⟨by decide, by decide⟩ (by decide) (by decide) (g := (mkF m 5 #[.val (.ref w7)] [(.ref w7), (.ref b1), (.ref b1)])) rfl (hb hby d1_5) (n := 0) (by decide) (by decide) (by decide) (by decide)
  have O2 : Old Z n0 h2 := O1.ext E2
  have K2 : Keep h0 h2 [] := K1.ext E2
  have C2 := C1.trans Cq2
  obtain ⟨T3, X3, e3, st3⟩ := getS2 X2 hx hZ2 hown2 (host := "") (Or.inl (hw _ m53)) Via.refl e2 (hS.1.ext O2.2) (g := (mkF m 7 #[.val (.ref w7)] [(.ref sa2), (.ref w7), (.ref b1), (.ref b1)])) rfl (hb hby d1_7)
  obtain ⟨sa4, T4, h4, k14, sb4, k4, X4, e4, E4, hS4, hk4, hZ4, hown4, A4, Fc4, Fv4, V4, la4, lb4, Cq4, -, hn4, st4⟩ := ldcCH X3 hx hZ2 hown2 (hw _ m45) (own_str hw hj) e3 hS2 hk2 (own_EW hw hj) (List.mem_of_getElem? (i := 0) rfl) C2.1 (vs := []) (z := (0 : Int32)) ⟨by decide, by decide⟩ (by decide) (by decide) (g := (mkF m 10 #[.val (.ref w7)] [(.ref w0), (.ref sa2), (.ref w7), (.ref b1), (.ref b1)])) rfl (hb hby d1_10) (n := 0) (by decide) (by decide) (by decide) (by decide)
  have O4 : Old Z n0 h4 := O2.ext E4
  have K4 : Keep h0 h4 [] := K2.ext E4
  have C4 := C2.trans Cq4
  have f6 : Exa Z h4 b1 z0 := ((A1.ext E2).ext E4)
  have f7 : Fld Z h4 b1 z0 "kind" z4 .null := ((F1_1.ext E2).ext E4)
  have f8 : Fld Z h4 b1 z0 "limitation" z8 .null := ((F1_2.ext E2).ext E4)
  have f9 : Fld Z h4 b1 z0 "catcher" z5 .null := ((F1_3.ext E2).ext E4)
  have f10 : Fld Z h4 b1 z0 "errorCode" z8 .null := ((F1_4.ext E2).ext E4)
  have sf5 := ((sfS (Safe.exa (EL := EL) hZ4.alike f6 (by decide) (by decide)) sf0) : ∀ x ∈ [b1], Safe Z EL T4.vm h4 x)
  obtain ⟨_, T5, L5, hQ5, X5, st5⟩ := own_special X4 hx hZ4 (W := 1) rfl hown4 (hw _ m56) (hw _ m57) (hw _ m41) (hw _ m58) (by decide) (rm27 l Z a0 hw hj w0 w1 w2 w3 w4 w5 w6 w7 w8 w9 w10 w11 w12 w13 w14 w15 w16 w17 hS [] b1 sa2 sa4 h4 n0 O4 f6 f7 f8 f9 f10 (Nat.le_trans (own_old_le O0) g1)) e4 (a := b1) (g := (mkF m 12 #[.val (.ref w7)] [(.ref sa4), (.ref w0), (.ref sa2), (.ref w7), (.ref b1), (.ref b1)])) rfl (by rw [hml]; rfl) (argsL := [(.ref w7), (.ref sa2), (.ref w0), (.ref sa4)]) (rest := [(.ref b1)]) (lenOf pd74 rfl) rfl rfl (by show 2 * 0 + _ ≤ _; exact Nat.le_of_eq rfl) (hb hby d1_12) (by decide) (by decide) (by decide) (by decide)
  obtain ⟨rfl, N5q, Kq5, q5_0, q5_1, q5_2, q5_3⟩ := hQ5
  have N5 := Fr.app N0 N5q
  have C5 := C4.trans (CHr.keep Kq5 sf5 C4.1)
  have O5 : Old Z n0 T5.heap := O4.keep Kq5 (allS (Nat.le_trans (own_old_le O0) g1) all0)
  have K5 : Keep h0 T5.heap [] := K4.trans Kq5 (allS (Or.inr (Nat.le_trans (Keep.refl h0 []).1 g1)) all0)
  have f11 : Exa Z T5.heap b1 z0 := (f6.keep Kq5)
  have f12 : Exa Z T5.heap sa2 z3 := ((A2.ext E4).keep Kq5)
  have f13 : Fld Z T5.heap sa2 z3 "coder" "B" (.int (0 : Int32)) := ((Fc2.ext E4).keep Kq5 (ninS (ne_exa A2 (A1.ext E2) (by decide)) nin0))
  have f14 : Fld Z T5.heap sa2 z3 "value" "[B" (.ref sb2) := ((Fv2.ext E4).keep Kq5 (ninS (ne_exa A2 (A1.ext E2) (by decide)) nin0))
  have f15 : Exa Z T5.heap sa4 z3 := (A4.keep Kq5)
  have f16 : Fld Z T5.heap sa4 z3 "coder" "B" (.int (0 : Int32)) := (Fc4.keep Kq5 (ninS (ne_exa A4 f6 (by decide)) nin0))
  have f17 : Fld Z T5.heap sa4 z3 "value" "[B" (.ref sb4) := (Fv4.keep Kq5 (ninS (ne_exa A4 f6 (by decide)) nin0))
  have f18 : Arv Z T5.heap sb2 k2 .byte (0 : Int32) [] (.int (0 : Int32)) := ((V2.ext E4).keep Kq5 (ninS (Ne.symm (Exa.neArv (A1.ext E2) V2 (hw _ m44))) nin0))
  have f19 : Arv Z T5.heap sb4 k4 .byte (0 : Int32) [] (.int (0 : Int32)) := (V4.keep Kq5 (ninS (Ne.symm (Exa.neArv f6 V4 (hw _ m44))) nin0))
  obtain ⟨fs, hr, hrun, hended, hRW⟩ := X5.leaveW hS4 (by rw [(rfl : T5.heap = T5.heap)]; exact (Nat.le_trans hk4 Kq5.1)) (v := some (.ref b1)) (fun h => by rw [Bd.returns] at h; cases h)
  refine ⟨_, _, pre0 _ ?_, hrun, hended, _, _, rfl, ?_, ?_, hRW⟩
  · show Steps p.tables e below (s₁.setTop (mkF m 0 #[.val (.ref w7)] [])) _
    refine st1 _ ?_
    refine XS.dup X1.here hx rfl (hb hby d1_3) rfl rfl ?_
    refine XS.aloadN X1.here hx rfl (hb hby d1_4) rfl rfl ?_
    refine st2 _ ?_
    show Steps p.tables e below (T2.setTop (mkF m 7 #[.val (.ref w7)] [(.ref sa2), (.ref w7), (.ref b1), (.ref b1)])) _
    refine st3 _ ?_
    refine st4 _ ?_
    refine st5 _ ?_
    exact retOut X5 hx Bd.returns rfl (Or.inr (Or.inr (Or.inr (Or.inr ⟨rfl, rfl, rfl⟩)))) (hb hby d1_15) hr
  · show Qrm28 Z w0 w1 w2 w3 w4 w5 w6 w7 w8 w9 w10 w11 w12 w13 w14 w15 w16 w17 h0 n0 _ T5.heap _
    exact ⟨b1, sa2, sa4, sb2, sb4, k2, k4, rfl, N5, K5, (Nat.le_trans (Keep.refl h0 []).1 g1), f11, q5_0, q5_1, q5_2, q5_3, f12, f13, f14, f15, f16, f17, f18, f19⟩
  · show CHr Z EL _ _ T5.vm T5.heap
    exact own_chr (by rw [← hh]) (rfl : T5.heap = T5.heap) (C5.trans (CHv.at X5 hZ4 (own_EW hw hj) C5.1))
def Qrm29 (Z : State) (w0 : Addr) (w1 : Addr) (w2 : Addr) (w3 : Addr) (w4 : Addr) (w5 : Addr) (w6 : Addr) (w7 : Addr) (w8 : Addr) (w9 : Addr) (w10 : Addr) (w11 : Addr) (w12 : Addr) (w13 : Addr) (w14 : Addr) (w15 : Addr) (w16 : Addr) (w17 : Addr) (a1 : Addr) (h0 : Heap) (n0 : Nat) (v : Option Value) (h : Heap) (L : List Loc) : Prop := v = some (.ref w7) ∧ Fr n0 L ∧ h = h0
set_option maxRecDepth 65536 in
set_option maxHeartbeats 40000000 in
theorem rm29 (l : Launch) (Z : State) (a0 : Array Value) (hw : ∀ d ∈ tables_1, d.before a0 Z = true) (hj : ∀ d ∈ jdkStatics_1, d.before a0 Z = true) (w0 : Addr) (w1 : Addr) (w2 : Addr) (w3 : Addr) (w4 : Addr) (w5 : Addr) (w6 : Addr) (w7 : Addr) (w8 : Addr) (w9 : Addr) (w10 : Addr) (w11 : Addr) (w12 : Addr) (w13 : Addr) (w14 : Addr) (w15 : Addr) (w16 : Addr) (w17 : Addr) (hS : SF Z w0 w1 w2 w3 w4 w5 w6 w7 w8 w9 w10 w11 w12 w13 w14 w15 w16 w17) (ws : List Jvm.Cond) (a1 : Addr) (h0 : Heap) (n0 : Nat) (O0 : Old Z n0 h0) (F1 : Fld Z h0 a1 z0 "kind" z4 (.ref w7)) :
    MetFree l (⟨z0, "kind", z9⟩ : MethodName) (head1 (Jvm.Cond.code (⟨z0, "kind", z9⟩ : MethodName) prog_27_method_7_code 1 (some (.object z1)) :: ws) ({ frames := 0, cells := 0, slots := 0, locals := 0 } : Room)) (fun a U => a = #[(.ref a1)] ∧ Z.Warmed39 U.vm ∧ U.heap = h0) (fun _ _ _ _ _ => True) (fun _ U o U' => ∃ v L, o = .returned v ∧ Qrm29 Z w0 w1 w2 w3 w4 w5 w6 w7 w8 w9 w10 w11 w12 w13 w14 w15 w16 w17 a1 h0 n0 v U'.heap L ∧ FrameEnd U o U' L ({ frames := 0, cells := 0, slots := 0, locals := 0 } : Room).cells ({ frames := 0, cells := 0, slots := 0, locals := 0 } : Room).slots) := by
  refine MetFree.of_bodySF (plainFor_of_name pn72) hisR ?_
  intro p e s m args below meth c s₁ Bd hml0 hP hK
  obtain ⟨rfl, hZ, hh⟩ := hP
  have hx := Bd.exec
  have hby := Bd.bytes
  have hml : c.maxLocals = 1 := hml0
  have hown : s.vm.findClass z0 = some m.cls := findClass_of_methodNamed Bd.named
  have hnm := (name_of_methodNamed Bd.named Bd.method).1
  have X0 : Stand p l e ({ frames := 0, cells := 0, slots := 0, locals := 0 } : Room) s m #[(.ref a1)] below meth c s₁ [] 0 0 := Stand.of_body Bd
  have e0 : s₁.heap = h0 := by rw [← hh, Bd.state]; rfl
  have N0 := Fr.nil n0
  have pre0 : ∀ t, Steps p.tables e below (s₁.setTop (mkF m 0 #[.val (.ref a1)] [])) t → Steps p.tables e below (s₁.setTop (entryFrame m #[(.ref a1)] 1)) t := fun t k => castTop (ef48 m a1) k
  obtain ⟨T1, X1, e1, st1⟩ := getF X0 hx hZ hown (host := "") (Or.inl (hw _ m67)) Via.refl e0 F1 (g := (mkF m 1 #[.val (.ref a1)] [(.ref a1)])) rfl rfl (hb hby d5_1)
  obtain ⟨fs, hr, hrun, hended, hW, hsame⟩ := X1.leave (v := some (.ref w7)) (fun h => by rw [Bd.returns] at h; cases h)
  refine ⟨_, _, pre0 _ ?_, hrun, hended, _, _, rfl, ?_, ⟨_, rfl⟩, hW, hsame.mono (by decide) (by decide)⟩
  · show Steps p.tables e below (s₁.setTop (mkF m 0 #[.val (.ref a1)] [])) _
    refine XS.aloadN X0.here hx rfl (hb hby d5_0) rfl rfl ?_
    refine st1 _ ?_
    exact retOut X1 hx Bd.returns rfl (Or.inr (Or.inr (Or.inr (Or.inr ⟨rfl, rfl, rfl⟩)))) (hb hby d5_4) hr
  · show Qrm29 Z w0 w1 w2 w3 w4 w5 w6 w7 w8 w9 w10 w11 w12 w13 w14 w15 w16 w17 a1 h0 n0 _ T1.heap _
    rw [e1]
    exact ⟨rfl, N0, rfl⟩
def Qrm30 (Z : State) (w0 : Addr) (w1 : Addr) (w2 : Addr) (w3 : Addr) (w4 : Addr) (w5 : Addr) (w6 : Addr) (w7 : Addr) (w8 : Addr) (w9 : Addr) (w10 : Addr) (w11 : Addr) (w12 : Addr) (w13 : Addr) (w14 : Addr) (w15 : Addr) (w16 : Addr) (w17 : Addr) (a1 : Addr) (a2 : Addr) (a3 : Addr) (h0 : Heap) (n0 : Nat) (v : Option Value) (h : Heap) (L : List Loc) : Prop := v = none ∧ Fr n0 L ∧ Keep h0 h [a1] ∧ Fld Z h a1 z0 "kind" z4 (.ref w12) ∧ Fld Z h a1 z0 "limitation" z8 (.ref a2) ∧ Fld Z h a1 z0 "catcher" z5 (.ref w0) ∧ Fld Z h a1 z0 "errorCode" z8 (.ref a3)
set_option maxRecDepth 65536 in
set_option maxHeartbeats 40000000 in
theorem rm30 (l : Launch) (Z : State) (a0 : Array Value) (hw : ∀ d ∈ tables_1, d.before a0 Z = true) (hj : ∀ d ∈ jdkStatics_1, d.before a0 Z = true) (w0 : Addr) (w1 : Addr) (w2 : Addr) (w3 : Addr) (w4 : Addr) (w5 : Addr) (w6 : Addr) (w7 : Addr) (w8 : Addr) (w9 : Addr) (w10 : Addr) (w11 : Addr) (w12 : Addr) (w13 : Addr) (w14 : Addr) (w15 : Addr) (w16 : Addr) (w17 : Addr) (hS : SF Z w0 w1 w2 w3 w4 w5 w6 w7 w8 w9 w10 w11 w12 w13 w14 w15 w16 w17) (ws : List Jvm.Cond) (a1 : Addr) (a2 : Addr) (a3 : Addr) (h0 : Heap) (n0 : Nat) (O0 : Old Z n0 h0) (E1 : Exa Z h0 a1 z0) (F2 : Fld Z h0 a1 z0 "kind" z4 .null) (F3 : Fld Z h0 a1 z0 "limitation" z8 .null) (F4 : Fld Z h0 a1 z0 "catcher" z5 .null) (F5 : Fld Z h0 a1 z0 "errorCode" z8 .null) (g6 : n0 ≤ a1) :
    MetFree l (⟨z0, "<init>", z6⟩ : MethodName) (head1 (Jvm.Cond.code (⟨z0, "<init>", z6⟩ : MethodName) prog_27_method_1_code 5 none :: ws) ({ frames := 2, cells := 0, slots := 0, locals := 24 } : Room)) (fun a U => a = #[(.ref a1), (.ref w12), (.ref a2), (.ref w0), (.ref a3)] ∧ Z.Warmed39 U.vm ∧ U.heap = h0) (fun _ _ _ _ _ => True) (fun _ U o U' => ∃ v L, o = .returned v ∧ Qrm30 Z w0 w1 w2 w3 w4 w5 w6 w7 w8 w9 w10 w11 w12 w13 w14 w15 w16 w17 a1 a2 a3 h0 n0 v U'.heap L ∧ FrameEnd U o U' L ({ frames := 2, cells := 0, slots := 0, locals := 24 } : Room).cells ({ frames := 2, cells := 0, slots := 0, locals := 24 } : Room).slots) := by
  refine MetFree.of_bodySF (plainFor_of_name pn72) hisR ?_
  intro p e s m args below meth c s₁ Bd hml0 hP hK
  obtain ⟨rfl, hZ, hh⟩ := hP
  have hx := Bd.exec
  have hby := Bd.bytes
  have hml : c.maxLocals = 5 := hml0
  have hown : s.vm.findClass z0 = some m.cls := findClass_of_methodNamed Bd.named
  have hnm := (name_of_methodNamed Bd.named Bd.method).1
  have X0 : Stand p l e ({ frames := 2, cells := 0, slots := 0, locals := 24 } : Room) s m #[(.ref a1), (.ref w12), (.ref a2), (.ref w0), (.ref a3)] below meth c s₁ [] 0 0 := Stand.of_body Bd
  have e0 : s₁.heap = h0 := by rw [← hh, Bd.state]; rfl
  have N0 := Fr.nil n0
  have pre0 : ∀ t, Steps p.tables e below (s₁.setTop (mkF m 0 #[.val (.ref a1), .val (.ref w12), .val (.ref a2), .val (.ref w0), .val (.ref a3)] [])) t → Steps p.tables e below (s₁.setTop (entryFrame m #[(.ref a1), (.ref w12), (.ref a2), (.ref w0), (.ref a3)] 5)) t := fun t k => castTop (ef71 m a1 w12 a2 w0 a3) k
  obtain ⟨_, T1, L1, hQ1, X1, st1⟩ := own_special X0 hx hZ (W := 0) rfl hown (hw _ m59) (hw _ m60) (hw _ m62) (hw _ m63) (by decide) (rm1 l Z a0 hw hj w0 w1 w2 w3 w4 w5 w6 w7 w8 w9 w10 w11 w12 w13 w14 w15 w16 w17 hS [] a1 h0 n0 O0) e0 (a := a1) (g := (mkF m 1 #[.val (.ref a1), .val (.ref w12), .val (.ref a2), .val (.ref w0), .val (.ref a3)] [(.ref a1)])) rfl (by rw [hml]; rfl) (argsL := []) (rest := []) (lenOf pd52 rfl) rfl rfl (by show 2 * 0 + _ ≤ _; exact Nat.le_of_eq rfl) (hb hby d2_1) (by decide) (by decide) (by decide) (by decide)
  obtain ⟨rfl, N1q, e1⟩ := hQ1
  have N1 := Fr.app N0 N1q
  have e1' : T1.heap = h0 := e1
  obtain ⟨T2, h2, L'2, X2, e2, W2, Fw2, O2, K2, N2, st2⟩ := own_put X1 hx hZ hown (host := "") (Or.inl (hw _ m67)) Via.refl e1' O0 (Keep.refl h0 [a1]) N1 g6 (Or.inl (List.mem_of_getElem? (i := 0) rfl)) F2 E1 (Or.inr ⟨(hw _ m68), rfl, hnm⟩) (hw _ m44) (ty := (.object z1)) (by decide) rfl rfl (g := (mkF m 6 #[.val (.ref a1), .val (.ref w12), .val (.ref a2), .val (.ref w0), .val (.ref a3)] [(.ref w12), (.ref a1)])) rfl rfl (hb hby d2_6)
  have f3 : Fld Z h2 a1 z0 "limitation" z8 .null := (F3.other W2 (Or.inr (slot_ne (Or.inr (hw _ m70)) (Or.inr (hw _ m68)) (by decide) (t := (.object z3)) (t' := (.object z1)) (by decide) (by decide))))
  have f4 : Exa Z h2 a1 z0 := (E1.wr W2)
  obtain ⟨T5, h5, L'5, X5, e5, W5, Fw5, O5, K5, N5, st5⟩ := own_put X2 hx hZ hown (host := "") (Or.inl (hw _ m69)) Via.refl e2 O2 K2 N2 g6 (Or.inl (List.mem_of_getElem? (i := 0) rfl)) f3 f4 (Or.inr ⟨(hw _ m70), rfl, hnm⟩) (hw _ m44) (ty := (.object z3)) (by decide) rfl rfl (g := (mkF m 11 #[.val (.ref a1), .val (.ref w12), .val (.ref a2), .val (.ref w0), .val (.ref a3)] [(.ref a2), (.ref a1)])) rfl rfl (hb hby d2_11)
  have f6 : Fld Z h5 a1 z0 "catcher" z5 .null := ((F4.other W2 (Or.inr (slot_ne (Or.inr (hw _ m72)) (Or.inr (hw _ m68)) (by decide) (t := (.object z2)) (t' := (.object z1)) (by decide) (by decide)))).other W5 (Or.inr (slot_ne (Or.inr (hw _ m72)) (Or.inr (hw _ m70)) (by decide) (t := (.object z2)) (t' := (.object z3)) (by decide) (by decide))))
  have f7 : Exa Z h5 a1 z0 := (f4.wr W5)
  obtain ⟨T8, h8, L'8, X8, e8, W8, Fw8, O8, K8, N8, st8⟩ := own_put X5 hx hZ hown (host := "") (Or.inl (hw _ m71)) Via.refl e5 O5 K5 N5 g6 (Or.inl (List.mem_of_getElem? (i := 0) rfl)) f6 f7 (Or.inr ⟨(hw _ m72), rfl, hnm⟩) (hw _ m44) (ty := (.object z2)) (by decide) rfl rfl (g := (mkF m 16 #[.val (.ref a1), .val (.ref w12), .val (.ref a2), .val (.ref w0), .val (.ref a3)] [(.ref w0), (.ref a1)])) rfl rfl (hb hby d2_16)
  have f9 : Fld Z h8 a1 z0 "errorCode" z8 .null := (((F5.other W2 (Or.inr (slot_ne (Or.inr (hw _ m74)) (Or.inr (hw _ m68)) (by decide) (t := (.object z3)) (t' := (.object z1)) (by decide) (by decide)))).other W5 (Or.inr (slot_ne (Or.inr (hw _ m74)) (Or.inr (hw _ m70)) (by decide) (t := (.object z3)) (t' := (.object z3)) (by decide) (by decide)))).other W8 (Or.inr (slot_ne (Or.inr (hw _ m74)) (Or.inr (hw _ m72)) (by decide) (t := (.object z3)) (t' := (.object z2)) (by decide) (by decide))))
  have f10 : Exa Z h8 a1 z0 := (f7.wr W8)
  obtain ⟨T11, h11, L'11, X11, e11, W11, Fw11, O11, K11, N11, st11⟩ := own_put X8 hx hZ hown (host := "") (Or.inl (hw _ m73)) Via.refl e8 O8 K8 N8 g6 (Or.inl (List.mem_of_getElem? (i := 0) rfl)) f9 f10 (Or.inr ⟨(hw _ m74), rfl, hnm⟩) (hw _ m44) (ty := (.object z3)) (by decide) rfl rfl (g := (mkF m 22 #[.val (.ref a1), .val (.ref w12), .val (.ref a2), .val (.ref w0), .val (.ref a3)] [(.ref a3), (.ref a1)])) rfl rfl (hb hby d2_22)
  have f12 : Fld Z h11 a1 z0 "kind" z4 (.ref w12) := (((Fw2.other W5 (Or.inr (slot_ne (Or.inr (hw _ m68)) (Or.inr (hw _ m70)) (by decide) (t := (.object z1)) (t' := (.object z3)) (by decide) (by decide)))).other W8 (Or.inr (slot_ne (Or.inr (hw _ m68)) (Or.inr (hw _ m72)) (by decide) (t := (.object z1)) (t' := (.object z2)) (by decide) (by decide)))).other W11 (Or.inr (slot_ne (Or.inr (hw _ m68)) (Or.inr (hw _ m74)) (by decide) (t := (.object z1)) (t' := (.object z3)) (by decide) (by decide))))
  have f13 : Fld Z h11 a1 z0 "limitation" z8 (.ref a2) := ((Fw5.other W8 (Or.inr (slot_ne (Or.inr (hw _ m70)) (Or.inr (hw _ m72)) (by decide) (t := (.object z3)) (t' := (.object z2)) (by decide) (by decide)))).other W11 (Or.inr (slot_ne (Or.inr (hw _ m70)) (Or.inr (hw _ m74)) (by decide) (t := (.object z3)) (t' := (.object z3)) (by decide) (by decide))))
  have f14 : Fld Z h11 a1 z0 "catcher" z5 (.ref w0) := (Fw8.other W11 (Or.inr (slot_ne (Or.inr (hw _ m72)) (Or.inr (hw _ m74)) (by decide) (t := (.object z2)) (t' := (.object z3)) (by decide) (by decide))))
  obtain ⟨fs, hr, hrun, hended, hW, hsame⟩ := X11.leave (v := none) (fun _ => rfl)
  refine ⟨_, _, pre0 _ ?_, hrun, hended, _, _, rfl, ?_, ⟨_, rfl⟩, hW, hsame.mono (by decide) (by decide)⟩
  · show Steps p.tables e below (s₁.setTop (mkF m 0 #[.val (.ref a1), .val (.ref w12), .val (.ref a2), .val (.ref w0), .val (.ref a3)] [])) _
    refine XS.aloadN X0.here hx rfl (hb hby d2_0) rfl rfl ?_
    refine st1 _ ?_
    refine XS.aloadN X1.here hx rfl (hb hby d2_4) rfl rfl ?_
    refine XS.aloadN X1.here hx rfl (hb hby d2_5) rfl rfl ?_
    show Steps p.tables e below (T1.setTop (mkF m 6 #[.val (.ref a1), .val (.ref w12), .val (.ref a2), .val (.ref w0), .val (.ref a3)] [(.ref w12), (.ref a1)])) _
    refine st2 _ ?_
    refine XS.aloadN X2.here hx rfl (hb hby d2_9) rfl rfl ?_
    refine XS.aloadN X2.here hx rfl (hb hby d2_10) rfl rfl ?_
    refine st5 _ ?_
    show Steps p.tables e below (T5.setTop (mkF m 14 #[.val (.ref a1), .val (.ref w12), .val (.ref a2), .val (.ref w0), .val (.ref a3)] [])) _
    refine XS.aloadN X5.here hx rfl (hb hby d2_14) rfl rfl ?_
    refine XS.aloadN X5.here hx rfl (hb hby d2_15) rfl rfl ?_
    refine st8 _ ?_
    refine XS.aloadN X8.here hx rfl (hb hby d2_19) rfl rfl ?_
    show Steps p.tables e below (T8.setTop (mkF m 20 #[.val (.ref a1), .val (.ref w12), .val (.ref a2), .val (.ref w0), .val (.ref a3)] [(.ref a1)])) _
    refine XS.aload X8.here hx rfl (hb hby d2_20) rfl rfl ?_
    refine st11 _ ?_
    exact X11.returnOut hx Bd.returns (hb hby d2_25) hr
  · show Qrm30 Z w0 w1 w2 w3 w4 w5 w6 w7 w8 w9 w10 w11 w12 w13 w14 w15 w16 w17 a1 a2 a3 h0 n0 _ T11.heap _
    rw [e11]
    exact ⟨rfl, N11, K11, f12, f13, f14, Fw11⟩
def Qrm31 (Z : State) (w0 : Addr) (w1 : Addr) (w2 : Addr) (w3 : Addr) (w4 : Addr) (w5 : Addr) (w6 : Addr) (w7 : Addr) (w8 : Addr) (w9 : Addr) (w10 : Addr) (w11 : Addr) (w12 : Addr) (w13 : Addr) (w14 : Addr) (w15 : Addr) (w16 : Addr) (w17 : Addr) (h0 : Heap) (n0 : Nat) (v : Option Value) (h : Heap) (L : List Loc) : Prop := ∃ x0 : Addr, ∃ x1 : Addr, ∃ x2 : Addr, ∃ x3 : Addr, ∃ x4 : Addr, ∃ xk0 : ClassId, ∃ xk1 : ClassId, v = some (.ref x0) ∧ Fr n0 L ∧ Keep h0 h [] ∧ h0.size ≤ x0 ∧ Exa Z h x0 z0 ∧ Fld Z h x0 z0 "kind" z4 (.ref w12) ∧ Fld Z h x0 z0 "limitation" z8 (.ref x1) ∧ Fld Z h x0 z0 "catcher" z5 (.ref w0) ∧ Fld Z h x0 z0 "errorCode" z8 (.ref x2) ∧ Exa Z h x1 z3 ∧ Fld Z h x1 z3 "coder" "B" (.int (0 : Int32)) ∧ Fld Z h x1 z3 "value" "[B" (.ref x3) ∧ Exa Z h x2 z3 ∧ Fld Z h x2 z3 "coder" "B" (.int (0 : Int32)) ∧ Fld Z h x2 z3 "value" "[B" (.ref x4) ∧ Arv Z h x3 xk0 .byte (0 : Int32) [] (.int (0 : Int32)) ∧ Arv Z h x4 xk1 .byte (0 : Int32) [] (.int (0 : Int32))
set_option maxRecDepth 65536 in
set_option maxHeartbeats 40000000 in
theorem rm31 (l : Launch) (Z : State) (a0 : Array Value) (hw : ∀ d ∈ tables_1, d.before a0 Z = true) (hj : ∀ d ∈ jdkStatics_1, d.before a0 Z = true) (w0 : Addr) (w1 : Addr) (w2 : Addr) (w3 : Addr) (w4 : Addr) (w5 : Addr) (w6 : Addr) (w7 : Addr) (w8 : Addr) (w9 : Addr) (w10 : Addr) (w11 : Addr) (w12 : Addr) (w13 : Addr) (w14 : Addr) (w15 : Addr) (w16 : Addr) (w17 : Addr) (hS : SF Z w0 w1 w2 w3 w4 w5 w6 w7 w8 w9 w10 w11 w12 w13 w14 w15 w16 w17) (ws : List Jvm.Cond) (h0 : Heap) (n0 : Nat) (O0 : Old Z n0 h0) :
    MetFree l (⟨z0, "runs", z7⟩ : MethodName) (head1 (Jvm.Cond.code (⟨z0, "runs", z7⟩ : MethodName) prog_27_method_2_code 1 (some (.object z0)) :: ws) ({ frames := 3, cells := 5, slots := 12, locals := 41 } : Room)) (fun a U => a = #[(.ref w12)] ∧ Z.Warmed39 U.vm ∧ U.heap = h0 ∧ CHv Z EL U.vm h0 ∧ ∀ x ∈ ([] : List Addr), Safe Z EL U.vm h0 x) (fun _ _ _ _ _ => True) (fun _ U o U' => ∃ v L, o = .returned v ∧ Qrm31 Z w0 w1 w2 w3 w4 w5 w6 w7 w8 w9 w10 w11 w12 w13 w14 w15 w16 w17 h0 n0 v U'.heap L ∧ CHr Z EL U.vm U.heap U'.vm U'.heap ∧ ReturnedEndW U o U' L ({ frames := 3, cells := 5, slots := 12, locals := 41 } : Room).cells ({ frames := 3, cells := 5, slots := 12, locals := 41 } : Room).slots) := by
  refine MetFree.of_bodySF (plainFor_of_name pn72) hisR ?_
  intro p e s m args below meth c s₁ Bd hml0 hP hK
  obtain ⟨rfl, hZ, hh, H0, hsx⟩ := hP
  have hx := Bd.exec
  have hby := Bd.bytes
  have hml : c.maxLocals = 1 := hml0
  have hown : s.vm.findClass z0 = some m.cls := findClass_of_methodNamed Bd.named
  have hnm := (name_of_methodNamed Bd.named Bd.method).1
  have X0 : Stand p l e ({ frames := 3, cells := 5, slots := 12, locals := 41 } : Room) (s.setVm s.vm) m #[(.ref w12)] below meth c s₁ [] 0 0 := Stand.of_body Bd
  have e0 : s₁.heap = h0 := by rw [← hh, Bd.state]; rfl
  have N0 := Fr.nil n0
  have pre0 : ∀ t, Steps p.tables e below (s₁.setTop (mkF m 0 #[.val (.ref w12)] [])) t → Steps p.tables e below (s₁.setTop (entryFrame m #[(.ref w12)] 1)) t := fun t k => castTop (ef48 m w12) k
  have hS0 : s.Since s.vm h0.size := (State.WarmedH.refl s).since _
  have C0 : CHr Z EL s.vm h0 s.vm h0 := CHr.refl H0
  obtain ⟨T1, h1, b1, X1, e1, E1, A1, D1, g1, O1, K1, st1⟩ := own_newO X0 hx hZ hown (hw _ m43) (hw _ m44) (hw _ m41) e0 O0 (Keep.refl h0 []) (g := (mkF m 0 #[.val (.ref w12)] [])) rfl (hb hby d1_0) (by decide) (by decide)
  have C1 := C0.trans (CHr.ext E1 C0.1)
  have F1_1 : Fld Z h1 b1 z0 "kind" z4 .null := D1 (Or.inr (hw _ m68)) (ty := (.object z1)) (by decide)
  have F1_2 : Fld Z h1 b1 z0 "limitation" z8 .null := D1 (Or.inr (hw _ m70)) (ty := (.object z3)) (by decide)
  have F1_3 : Fld Z h1 b1 z0 "catcher" z5 .null := D1 (Or.inr (hw _ m72)) (ty := (.object z2)) (by decide)
  have F1_4 : Fld Z h1 b1 z0 "errorCode" z8 .null := D1 (Or.inr (hw _ m74)) (ty := (.object z3)) (by decide)
  obtain ⟨sa2, T2, h2, k12, sb2, k2, X2, e2, E2, hS2, hk2, hZ2, hown2, A2, Fc2, Fv2, V2, la2, lb2, Cq2, -, hn2, st2⟩ := ldcCH X1 hx hZ hown (hw _ m45) (own_str hw hj) e1 hS0 (Nat.le_trans (Nat.le_refl _) E1.1) (own_EW hw hj) (List.mem_of_getElem? (i := 0) rfl) C1.1 (vs := []) (z := (0 : Int32)) ⟨by decide, by decide⟩ (by decide) (by decide) (g := (mkF m 5 #[.val (.ref w12)] [(.ref w12), (.ref b1), (.ref b1)])) rfl (hb hby d1_5) (n := 0) (by decide) (by decide) (by decide) (by decide)
  have O2 : Old Z n0 h2 := O1.ext E2
  have K2 : Keep h0 h2 [] := K1.ext E2
  have C2 := C1.trans Cq2
  obtain ⟨T3, X3, e3, st3⟩ := getS2 X2 hx hZ2 hown2 (host := "") (Or.inl (hw _ m53)) Via.refl e2 (hS.1.ext O2.2) (g := (mkF m 7 #[.val (.ref w12)] [(.ref sa2), (.ref w12), (.ref b1), (.ref b1)])) rfl (hb hby d1_7)
  obtain ⟨sa4, T4, h4, k14, sb4, k4, X4, e4, E4, hS4, hk4, hZ4, hown4, A4, Fc4, Fv4, V4, la4, lb4, Cq4, -, hn4, st4⟩ := ldcCH X3 hx hZ2 hown2 (hw _ m45) (own_str hw hj) e3 hS2 hk2 (own_EW hw hj) (List.mem_of_getElem? (i := 0) rfl) C2.1 (vs := []) (z := (0 : Int32)) ⟨by decide, by decide⟩ (by decide) (by decide) (g := (mkF m 10 #[.val (.ref w12)] [(.ref w0), (.ref sa2), (.ref w12), (.ref b1), (.ref b1)])) rfl (hb hby d1_10) (n := 0) (by decide) (by decide) (by decide) (by decide)
  have O4 : Old Z n0 h4 := O2.ext E4
  have K4 : Keep h0 h4 [] := K2.ext E4
  have C4 := C2.trans Cq4
  have f6 : Exa Z h4 b1 z0 := ((A1.ext E2).ext E4)
  have f7 : Fld Z h4 b1 z0 "kind" z4 .null := ((F1_1.ext E2).ext E4)
  have f8 : Fld Z h4 b1 z0 "limitation" z8 .null := ((F1_2.ext E2).ext E4)
  have f9 : Fld Z h4 b1 z0 "catcher" z5 .null := ((F1_3.ext E2).ext E4)
  have f10 : Fld Z h4 b1 z0 "errorCode" z8 .null := ((F1_4.ext E2).ext E4)
  have sf5 := ((sfS (Safe.exa (EL := EL) hZ4.alike f6 (by decide) (by decide)) sf0) : ∀ x ∈ [b1], Safe Z EL T4.vm h4 x)
  obtain ⟨_, T5, L5, hQ5, X5, st5⟩ := own_special X4 hx hZ4 (W := 1) rfl hown4 (hw _ m56) (hw _ m57) (hw _ m41) (hw _ m58) (by decide) (rm30 l Z a0 hw hj w0 w1 w2 w3 w4 w5 w6 w7 w8 w9 w10 w11 w12 w13 w14 w15 w16 w17 hS [] b1 sa2 sa4 h4 n0 O4 f6 f7 f8 f9 f10 (Nat.le_trans (own_old_le O0) g1)) e4 (a := b1) (g := (mkF m 12 #[.val (.ref w12)] [(.ref sa4), (.ref w0), (.ref sa2), (.ref w12), (.ref b1), (.ref b1)])) rfl (by rw [hml]; rfl) (argsL := [(.ref w12), (.ref sa2), (.ref w0), (.ref sa4)]) (rest := [(.ref b1)]) (lenOf pd74 rfl) rfl rfl (by show 2 * 0 + _ ≤ _; exact Nat.le_of_eq rfl) (hb hby d1_12) (by decide) (by decide) (by decide) (by decide)
  obtain ⟨rfl, N5q, Kq5, q5_0, q5_1, q5_2, q5_3⟩ := hQ5
  have N5 := Fr.app N0 N5q
  have C5 := C4.trans (CHr.keep Kq5 sf5 C4.1)
  have O5 : Old Z n0 T5.heap := O4.keep Kq5 (allS (Nat.le_trans (own_old_le O0) g1) all0)
  have K5 : Keep h0 T5.heap [] := K4.trans Kq5 (allS (Or.inr (Nat.le_trans (Keep.refl h0 []).1 g1)) all0)
  have f11 : Exa Z T5.heap b1 z0 := (f6.keep Kq5)
  have f12 : Exa Z T5.heap sa2 z3 := ((A2.ext E4).keep Kq5)
  have f13 : Fld Z T5.heap sa2 z3 "coder" "B" (.int (0 : Int32)) := ((Fc2.ext E4).keep Kq5 (ninS (ne_exa A2 (A1.ext E2) (by decide)) nin0))
  have f14 : Fld Z T5.heap sa2 z3 "value" "[B" (.ref sb2) := ((Fv2.ext E4).keep Kq5 (ninS (ne_exa A2 (A1.ext E2) (by decide)) nin0))
  have f15 : Exa Z T5.heap sa4 z3 := (A4.keep Kq5)
  have f16 : Fld Z T5.heap sa4 z3 "coder" "B" (.int (0 : Int32)) := (Fc4.keep Kq5 (ninS (ne_exa A4 f6 (by decide)) nin0))
  have f17 : Fld Z T5.heap sa4 z3 "value" "[B" (.ref sb4) := (Fv4.keep Kq5 (ninS (ne_exa A4 f6 (by decide)) nin0))
  have f18 : Arv Z T5.heap sb2 k2 .byte (0 : Int32) [] (.int (0 : Int32)) := ((V2.ext E4).keep Kq5 (ninS (Ne.symm (Exa.neArv (A1.ext E2) V2 (hw _ m44))) nin0))
  have f19 : Arv Z T5.heap sb4 k4 .byte (0 : Int32) [] (.int (0 : Int32)) := (V4.keep Kq5 (ninS (Ne.symm (Exa.neArv f6 V4 (hw _ m44))) nin0))
  obtain ⟨fs, hr, hrun, hended, hRW⟩ := X5.leaveW hS4 (by rw [(rfl : T5.heap = T5.heap)]; exact (Nat.le_trans hk4 Kq5.1)) (v := some (.ref b1)) (fun h => by rw [Bd.returns] at h; cases h)
  refine ⟨_, _, pre0 _ ?_, hrun, hended, _, _, rfl, ?_, ?_, hRW⟩
  · show Steps p.tables e below (s₁.setTop (mkF m 0 #[.val (.ref w12)] [])) _
    refine st1 _ ?_
    refine XS.dup X1.here hx rfl (hb hby d1_3) rfl rfl ?_
    refine XS.aloadN X1.here hx rfl (hb hby d1_4) rfl rfl ?_
    refine st2 _ ?_
    show Steps p.tables e below (T2.setTop (mkF m 7 #[.val (.ref w12)] [(.ref sa2), (.ref w12), (.ref b1), (.ref b1)])) _
    refine st3 _ ?_
    refine st4 _ ?_
    refine st5 _ ?_
    exact retOut X5 hx Bd.returns rfl (Or.inr (Or.inr (Or.inr (Or.inr ⟨rfl, rfl, rfl⟩)))) (hb hby d1_15) hr
  · show Qrm31 Z w0 w1 w2 w3 w4 w5 w6 w7 w8 w9 w10 w11 w12 w13 w14 w15 w16 w17 h0 n0 _ T5.heap _
    exact ⟨b1, sa2, sa4, sb2, sb4, k2, k4, rfl, N5, K5, (Nat.le_trans (Keep.refl h0 []).1 g1), f11, q5_0, q5_1, q5_2, q5_3, f12, f13, f14, f15, f16, f17, f18, f19⟩
  · show CHr Z EL _ _ T5.vm T5.heap
    exact own_chr (by rw [← hh]) (rfl : T5.heap = T5.heap) (C5.trans (CHv.at X5 hZ4 (own_EW hw hj) C5.1))
def Qrm32 (Z : State) (w0 : Addr) (w1 : Addr) (w2 : Addr) (w3 : Addr) (w4 : Addr) (w5 : Addr) (w6 : Addr) (w7 : Addr) (w8 : Addr) (w9 : Addr) (w10 : Addr) (w11 : Addr) (w12 : Addr) (w13 : Addr) (w14 : Addr) (w15 : Addr) (w16 : Addr) (w17 : Addr) (a1 : Addr) (h0 : Heap) (n0 : Nat) (v : Option Value) (h : Heap) (L : List Loc) : Prop := v = some (.ref w12) ∧ Fr n0 L ∧ h = h0
set_option maxRecDepth 65536 in
set_option maxHeartbeats 40000000 in
theorem rm32 (l : Launch) (Z : State) (a0 : Array Value) (hw : ∀ d ∈ tables_1, d.before a0 Z = true) (hj : ∀ d ∈ jdkStatics_1, d.before a0 Z = true) (w0 : Addr) (w1 : Addr) (w2 : Addr) (w3 : Addr) (w4 : Addr) (w5 : Addr) (w6 : Addr) (w7 : Addr) (w8 : Addr) (w9 : Addr) (w10 : Addr) (w11 : Addr) (w12 : Addr) (w13 : Addr) (w14 : Addr) (w15 : Addr) (w16 : Addr) (w17 : Addr) (hS : SF Z w0 w1 w2 w3 w4 w5 w6 w7 w8 w9 w10 w11 w12 w13 w14 w15 w16 w17) (ws : List Jvm.Cond) (a1 : Addr) (h0 : Heap) (n0 : Nat) (O0 : Old Z n0 h0) (F1 : Fld Z h0 a1 z0 "kind" z4 (.ref w12)) :
    MetFree l (⟨z0, "kind", z9⟩ : MethodName) (head1 (Jvm.Cond.code (⟨z0, "kind", z9⟩ : MethodName) prog_27_method_7_code 1 (some (.object z1)) :: ws) ({ frames := 0, cells := 0, slots := 0, locals := 0 } : Room)) (fun a U => a = #[(.ref a1)] ∧ Z.Warmed39 U.vm ∧ U.heap = h0) (fun _ _ _ _ _ => True) (fun _ U o U' => ∃ v L, o = .returned v ∧ Qrm32 Z w0 w1 w2 w3 w4 w5 w6 w7 w8 w9 w10 w11 w12 w13 w14 w15 w16 w17 a1 h0 n0 v U'.heap L ∧ FrameEnd U o U' L ({ frames := 0, cells := 0, slots := 0, locals := 0 } : Room).cells ({ frames := 0, cells := 0, slots := 0, locals := 0 } : Room).slots) := by
  refine MetFree.of_bodySF (plainFor_of_name pn72) hisR ?_
  intro p e s m args below meth c s₁ Bd hml0 hP hK
  obtain ⟨rfl, hZ, hh⟩ := hP
  have hx := Bd.exec
  have hby := Bd.bytes
  have hml : c.maxLocals = 1 := hml0
  have hown : s.vm.findClass z0 = some m.cls := findClass_of_methodNamed Bd.named
  have hnm := (name_of_methodNamed Bd.named Bd.method).1
  have X0 : Stand p l e ({ frames := 0, cells := 0, slots := 0, locals := 0 } : Room) s m #[(.ref a1)] below meth c s₁ [] 0 0 := Stand.of_body Bd
  have e0 : s₁.heap = h0 := by rw [← hh, Bd.state]; rfl
  have N0 := Fr.nil n0
  have pre0 : ∀ t, Steps p.tables e below (s₁.setTop (mkF m 0 #[.val (.ref a1)] [])) t → Steps p.tables e below (s₁.setTop (entryFrame m #[(.ref a1)] 1)) t := fun t k => castTop (ef48 m a1) k
  obtain ⟨T1, X1, e1, st1⟩ := getF X0 hx hZ hown (host := "") (Or.inl (hw _ m67)) Via.refl e0 F1 (g := (mkF m 1 #[.val (.ref a1)] [(.ref a1)])) rfl rfl (hb hby d5_1)
  obtain ⟨fs, hr, hrun, hended, hW, hsame⟩ := X1.leave (v := some (.ref w12)) (fun h => by rw [Bd.returns] at h; cases h)
  refine ⟨_, _, pre0 _ ?_, hrun, hended, _, _, rfl, ?_, ⟨_, rfl⟩, hW, hsame.mono (by decide) (by decide)⟩
  · show Steps p.tables e below (s₁.setTop (mkF m 0 #[.val (.ref a1)] [])) _
    refine XS.aloadN X0.here hx rfl (hb hby d5_0) rfl rfl ?_
    refine st1 _ ?_
    exact retOut X1 hx Bd.returns rfl (Or.inr (Or.inr (Or.inr (Or.inr ⟨rfl, rfl, rfl⟩)))) (hb hby d5_4) hr
  · show Qrm32 Z w0 w1 w2 w3 w4 w5 w6 w7 w8 w9 w10 w11 w12 w13 w14 w15 w16 w17 a1 h0 n0 _ T1.heap _
    rw [e1]
    exact ⟨rfl, N0, rfl⟩
def Qrm33 (Z : State) (w0 : Addr) (w1 : Addr) (w2 : Addr) (w3 : Addr) (w4 : Addr) (w5 : Addr) (w6 : Addr) (w7 : Addr) (w8 : Addr) (w9 : Addr) (w10 : Addr) (w11 : Addr) (w12 : Addr) (w13 : Addr) (w14 : Addr) (w15 : Addr) (w16 : Addr) (w17 : Addr) (a1 : Addr) (a2 : Addr) (a3 : Addr) (h0 : Heap) (n0 : Nat) (v : Option Value) (h : Heap) (L : List Loc) : Prop := v = none ∧ Fr n0 L ∧ Keep h0 h [a1] ∧ Fld Z h a1 z0 "kind" z4 (.ref w6) ∧ Fld Z h a1 z0 "limitation" z8 (.ref a2) ∧ Fld Z h a1 z0 "catcher" z5 (.ref w0) ∧ Fld Z h a1 z0 "errorCode" z8 (.ref a3)
set_option maxRecDepth 65536 in
set_option maxHeartbeats 40000000 in
theorem rm33 (l : Launch) (Z : State) (a0 : Array Value) (hw : ∀ d ∈ tables_1, d.before a0 Z = true) (hj : ∀ d ∈ jdkStatics_1, d.before a0 Z = true) (w0 : Addr) (w1 : Addr) (w2 : Addr) (w3 : Addr) (w4 : Addr) (w5 : Addr) (w6 : Addr) (w7 : Addr) (w8 : Addr) (w9 : Addr) (w10 : Addr) (w11 : Addr) (w12 : Addr) (w13 : Addr) (w14 : Addr) (w15 : Addr) (w16 : Addr) (w17 : Addr) (hS : SF Z w0 w1 w2 w3 w4 w5 w6 w7 w8 w9 w10 w11 w12 w13 w14 w15 w16 w17) (ws : List Jvm.Cond) (a1 : Addr) (a2 : Addr) (a3 : Addr) (h0 : Heap) (n0 : Nat) (O0 : Old Z n0 h0) (E1 : Exa Z h0 a1 z0) (F2 : Fld Z h0 a1 z0 "kind" z4 .null) (F3 : Fld Z h0 a1 z0 "limitation" z8 .null) (F4 : Fld Z h0 a1 z0 "catcher" z5 .null) (F5 : Fld Z h0 a1 z0 "errorCode" z8 .null) (g6 : n0 ≤ a1) :
    MetFree l (⟨z0, "<init>", z6⟩ : MethodName) (head1 (Jvm.Cond.code (⟨z0, "<init>", z6⟩ : MethodName) prog_27_method_1_code 5 none :: ws) ({ frames := 2, cells := 0, slots := 0, locals := 24 } : Room)) (fun a U => a = #[(.ref a1), (.ref w6), (.ref a2), (.ref w0), (.ref a3)] ∧ Z.Warmed39 U.vm ∧ U.heap = h0) (fun _ _ _ _ _ => True) (fun _ U o U' => ∃ v L, o = .returned v ∧ Qrm33 Z w0 w1 w2 w3 w4 w5 w6 w7 w8 w9 w10 w11 w12 w13 w14 w15 w16 w17 a1 a2 a3 h0 n0 v U'.heap L ∧ FrameEnd U o U' L ({ frames := 2, cells := 0, slots := 0, locals := 24 } : Room).cells ({ frames := 2, cells := 0, slots := 0, locals := 24 } : Room).slots) := by
  refine MetFree.of_bodySF (plainFor_of_name pn72) hisR ?_
  intro p e s m args below meth c s₁ Bd hml0 hP hK
  obtain ⟨rfl, hZ, hh⟩ := hP
  have hx := Bd.exec
  have hby := Bd.bytes
  have hml : c.maxLocals = 5 := hml0
  have hown : s.vm.findClass z0 = some m.cls := findClass_of_methodNamed Bd.named
  have hnm := (name_of_methodNamed Bd.named Bd.method).1
  have X0 : Stand p l e ({ frames := 2, cells := 0, slots := 0, locals := 24 } : Room) s m #[(.ref a1), (.ref w6), (.ref a2), (.ref w0), (.ref a3)] below meth c s₁ [] 0 0 := Stand.of_body Bd
  have e0 : s₁.heap = h0 := by rw [← hh, Bd.state]; rfl
  have N0 := Fr.nil n0
  have pre0 : ∀ t, Steps p.tables e below (s₁.setTop (mkF m 0 #[.val (.ref a1), .val (.ref w6), .val (.ref a2), .val (.ref w0), .val (.ref a3)] [])) t → Steps p.tables e below (s₁.setTop (entryFrame m #[(.ref a1), (.ref w6), (.ref a2), (.ref w0), (.ref a3)] 5)) t := fun t k => castTop (ef71 m a1 w6 a2 w0 a3) k
  obtain ⟨_, T1, L1, hQ1, X1, st1⟩ := own_special X0 hx hZ (W := 0) rfl hown (hw _ m59) (hw _ m60) (hw _ m62) (hw _ m63) (by decide) (rm1 l Z a0 hw hj w0 w1 w2 w3 w4 w5 w6 w7 w8 w9 w10 w11 w12 w13 w14 w15 w16 w17 hS [] a1 h0 n0 O0) e0 (a := a1) (g := (mkF m 1 #[.val (.ref a1), .val (.ref w6), .val (.ref a2), .val (.ref w0), .val (.ref a3)] [(.ref a1)])) rfl (by rw [hml]; rfl) (argsL := []) (rest := []) (lenOf pd52 rfl) rfl rfl (by show 2 * 0 + _ ≤ _; exact Nat.le_of_eq rfl) (hb hby d2_1) (by decide) (by decide) (by decide) (by decide)
  obtain ⟨rfl, N1q, e1⟩ := hQ1
  have N1 := Fr.app N0 N1q
  have e1' : T1.heap = h0 := e1
  obtain ⟨T2, h2, L'2, X2, e2, W2, Fw2, O2, K2, N2, st2⟩ := own_put X1 hx hZ hown (host := "") (Or.inl (hw _ m67)) Via.refl e1' O0 (Keep.refl h0 [a1]) N1 g6 (Or.inl (List.mem_of_getElem? (i := 0) rfl)) F2 E1 (Or.inr ⟨(hw _ m68), rfl, hnm⟩) (hw _ m44) (ty := (.object z1)) (by decide) rfl rfl (g := (mkF m 6 #[.val (.ref a1), .val (.ref w6), .val (.ref a2), .val (.ref w0), .val (.ref a3)] [(.ref w6), (.ref a1)])) rfl rfl (hb hby d2_6)
  have f3 : Fld Z h2 a1 z0 "limitation" z8 .null := (F3.other W2 (Or.inr (slot_ne (Or.inr (hw _ m70)) (Or.inr (hw _ m68)) (by decide) (t := (.object z3)) (t' := (.object z1)) (by decide) (by decide))))
  have f4 : Exa Z h2 a1 z0 := (E1.wr W2)
  obtain ⟨T5, h5, L'5, X5, e5, W5, Fw5, O5, K5, N5, st5⟩ := own_put X2 hx hZ hown (host := "") (Or.inl (hw _ m69)) Via.refl e2 O2 K2 N2 g6 (Or.inl (List.mem_of_getElem? (i := 0) rfl)) f3 f4 (Or.inr ⟨(hw _ m70), rfl, hnm⟩) (hw _ m44) (ty := (.object z3)) (by decide) rfl rfl (g := (mkF m 11 #[.val (.ref a1), .val (.ref w6), .val (.ref a2), .val (.ref w0), .val (.ref a3)] [(.ref a2), (.ref a1)])) rfl rfl (hb hby d2_11)
  have f6 : Fld Z h5 a1 z0 "catcher" z5 .null := ((F4.other W2 (Or.inr (slot_ne (Or.inr (hw _ m72)) (Or.inr (hw _ m68)) (by decide) (t := (.object z2)) (t' := (.object z1)) (by decide) (by decide)))).other W5 (Or.inr (slot_ne (Or.inr (hw _ m72)) (Or.inr (hw _ m70)) (by decide) (t := (.object z2)) (t' := (.object z3)) (by decide) (by decide))))
  have f7 : Exa Z h5 a1 z0 := (f4.wr W5)
  obtain ⟨T8, h8, L'8, X8, e8, W8, Fw8, O8, K8, N8, st8⟩ := own_put X5 hx hZ hown (host := "") (Or.inl (hw _ m71)) Via.refl e5 O5 K5 N5 g6 (Or.inl (List.mem_of_getElem? (i := 0) rfl)) f6 f7 (Or.inr ⟨(hw _ m72), rfl, hnm⟩) (hw _ m44) (ty := (.object z2)) (by decide) rfl rfl (g := (mkF m 16 #[.val (.ref a1), .val (.ref w6), .val (.ref a2), .val (.ref w0), .val (.ref a3)] [(.ref w0), (.ref a1)])) rfl rfl (hb hby d2_16)
  have f9 : Fld Z h8 a1 z0 "errorCode" z8 .null := (((F5.other W2 (Or.inr (slot_ne (Or.inr (hw _ m74)) (Or.inr (hw _ m68)) (by decide) (t := (.object z3)) (t' := (.object z1)) (by decide) (by decide)))).other W5 (Or.inr (slot_ne (Or.inr (hw _ m74)) (Or.inr (hw _ m70)) (by decide) (t := (.object z3)) (t' := (.object z3)) (by decide) (by decide)))).other W8 (Or.inr (slot_ne (Or.inr (hw _ m74)) (Or.inr (hw _ m72)) (by decide) (t := (.object z3)) (t' := (.object z2)) (by decide) (by decide))))
  have f10 : Exa Z h8 a1 z0 := (f7.wr W8)
  obtain ⟨T11, h11, L'11, X11, e11, W11, Fw11, O11, K11, N11, st11⟩ := own_put X8 hx hZ hown (host := "") (Or.inl (hw _ m73)) Via.refl e8 O8 K8 N8 g6 (Or.inl (List.mem_of_getElem? (i := 0) rfl)) f9 f10 (Or.inr ⟨(hw _ m74), rfl, hnm⟩) (hw _ m44) (ty := (.object z3)) (by decide) rfl rfl (g := (mkF m 22 #[.val (.ref a1), .val (.ref w6), .val (.ref a2), .val (.ref w0), .val (.ref a3)] [(.ref a3), (.ref a1)])) rfl rfl (hb hby d2_22)
  have f12 : Fld Z h11 a1 z0 "kind" z4 (.ref w6) := (((Fw2.other W5 (Or.inr (slot_ne (Or.inr (hw _ m68)) (Or.inr (hw _ m70)) (by decide) (t := (.object z1)) (t' := (.object z3)) (by decide) (by decide)))).other W8 (Or.inr (slot_ne (Or.inr (hw _ m68)) (Or.inr (hw _ m72)) (by decide) (t := (.object z1)) (t' := (.object z2)) (by decide) (by decide)))).other W11 (Or.inr (slot_ne (Or.inr (hw _ m68)) (Or.inr (hw _ m74)) (by decide) (t := (.object z1)) (t' := (.object z3)) (by decide) (by decide))))
  have f13 : Fld Z h11 a1 z0 "limitation" z8 (.ref a2) := ((Fw5.other W8 (Or.inr (slot_ne (Or.inr (hw _ m70)) (Or.inr (hw _ m72)) (by decide) (t := (.object z3)) (t' := (.object z2)) (by decide) (by decide)))).other W11 (Or.inr (slot_ne (Or.inr (hw _ m70)) (Or.inr (hw _ m74)) (by decide) (t := (.object z3)) (t' := (.object z3)) (by decide) (by decide))))
  have f14 : Fld Z h11 a1 z0 "catcher" z5 (.ref w0) := (Fw8.other W11 (Or.inr (slot_ne (Or.inr (hw _ m72)) (Or.inr (hw _ m74)) (by decide) (t := (.object z2)) (t' := (.object z3)) (by decide) (by decide))))
  obtain ⟨fs, hr, hrun, hended, hW, hsame⟩ := X11.leave (v := none) (fun _ => rfl)
  refine ⟨_, _, pre0 _ ?_, hrun, hended, _, _, rfl, ?_, ⟨_, rfl⟩, hW, hsame.mono (by decide) (by decide)⟩
  · show Steps p.tables e below (s₁.setTop (mkF m 0 #[.val (.ref a1), .val (.ref w6), .val (.ref a2), .val (.ref w0), .val (.ref a3)] [])) _
    refine XS.aloadN X0.here hx rfl (hb hby d2_0) rfl rfl ?_
    refine st1 _ ?_
    refine XS.aloadN X1.here hx rfl (hb hby d2_4) rfl rfl ?_
    refine XS.aloadN X1.here hx rfl (hb hby d2_5) rfl rfl ?_
    show Steps p.tables e below (T1.setTop (mkF m 6 #[.val (.ref a1), .val (.ref w6), .val (.ref a2), .val (.ref w0), .val (.ref a3)] [(.ref w6), (.ref a1)])) _
    refine st2 _ ?_
    refine XS.aloadN X2.here hx rfl (hb hby d2_9) rfl rfl ?_
    refine XS.aloadN X2.here hx rfl (hb hby d2_10) rfl rfl ?_
    refine st5 _ ?_
    show Steps p.tables e below (T5.setTop (mkF m 14 #[.val (.ref a1), .val (.ref w6), .val (.ref a2), .val (.ref w0), .val (.ref a3)] [])) _
    refine XS.aloadN X5.here hx rfl (hb hby d2_14) rfl rfl ?_
    refine XS.aloadN X5.here hx rfl (hb hby d2_15) rfl rfl ?_
    refine st8 _ ?_
    refine XS.aloadN X8.here hx rfl (hb hby d2_19) rfl rfl ?_
    show Steps p.tables e below (T8.setTop (mkF m 20 #[.val (.ref a1), .val (.ref w6), .val (.ref a2), .val (.ref w0), .val (.ref a3)] [(.ref a1)])) _
    refine XS.aload X8.here hx rfl (hb hby d2_20) rfl rfl ?_
    refine st11 _ ?_
    exact X11.returnOut hx Bd.returns (hb hby d2_25) hr
  · show Qrm33 Z w0 w1 w2 w3 w4 w5 w6 w7 w8 w9 w10 w11 w12 w13 w14 w15 w16 w17 a1 a2 a3 h0 n0 _ T11.heap _
    rw [e11]
    exact ⟨rfl, N11, K11, f12, f13, f14, Fw11⟩
def Qrm34 (Z : State) (w0 : Addr) (w1 : Addr) (w2 : Addr) (w3 : Addr) (w4 : Addr) (w5 : Addr) (w6 : Addr) (w7 : Addr) (w8 : Addr) (w9 : Addr) (w10 : Addr) (w11 : Addr) (w12 : Addr) (w13 : Addr) (w14 : Addr) (w15 : Addr) (w16 : Addr) (w17 : Addr) (h0 : Heap) (n0 : Nat) (v : Option Value) (h : Heap) (L : List Loc) : Prop := ∃ x0 : Addr, ∃ x1 : Addr, ∃ x2 : Addr, ∃ x3 : Addr, ∃ x4 : Addr, ∃ xk0 : ClassId, ∃ xk1 : ClassId, v = some (.ref x0) ∧ Fr n0 L ∧ Keep h0 h [] ∧ h0.size ≤ x0 ∧ Exa Z h x0 z0 ∧ Fld Z h x0 z0 "kind" z4 (.ref w6) ∧ Fld Z h x0 z0 "limitation" z8 (.ref x1) ∧ Fld Z h x0 z0 "catcher" z5 (.ref w0) ∧ Fld Z h x0 z0 "errorCode" z8 (.ref x2) ∧ Exa Z h x1 z3 ∧ Fld Z h x1 z3 "coder" "B" (.int (0 : Int32)) ∧ Fld Z h x1 z3 "value" "[B" (.ref x3) ∧ Exa Z h x2 z3 ∧ Fld Z h x2 z3 "coder" "B" (.int (0 : Int32)) ∧ Fld Z h x2 z3 "value" "[B" (.ref x4) ∧ Arv Z h x3 xk0 .byte (0 : Int32) [] (.int (0 : Int32)) ∧ Arv Z h x4 xk1 .byte (0 : Int32) [] (.int (0 : Int32))
set_option maxRecDepth 65536 in
set_option maxHeartbeats 40000000 in
theorem rm34 (l : Launch) (Z : State) (a0 : Array Value) (hw : ∀ d ∈ tables_1, d.before a0 Z = true) (hj : ∀ d ∈ jdkStatics_1, d.before a0 Z = true) (w0 : Addr) (w1 : Addr) (w2 : Addr) (w3 : Addr) (w4 : Addr) (w5 : Addr) (w6 : Addr) (w7 : Addr) (w8 : Addr) (w9 : Addr) (w10 : Addr) (w11 : Addr) (w12 : Addr) (w13 : Addr) (w14 : Addr) (w15 : Addr) (w16 : Addr) (w17 : Addr) (hS : SF Z w0 w1 w2 w3 w4 w5 w6 w7 w8 w9 w10 w11 w12 w13 w14 w15 w16 w17) (ws : List Jvm.Cond) (h0 : Heap) (n0 : Nat) (O0 : Old Z n0 h0) :
    MetFree l (⟨z0, "runs", z7⟩ : MethodName) (head1 (Jvm.Cond.code (⟨z0, "runs", z7⟩ : MethodName) prog_27_method_2_code 1 (some (.object z0)) :: ws) ({ frames := 3, cells := 5, slots := 12, locals := 41 } : Room)) (fun a U => a = #[(.ref w6)] ∧ Z.Warmed39 U.vm ∧ U.heap = h0 ∧ CHv Z EL U.vm h0 ∧ ∀ x ∈ ([] : List Addr), Safe Z EL U.vm h0 x) (fun _ _ _ _ _ => True) (fun _ U o U' => ∃ v L, o = .returned v ∧ Qrm34 Z w0 w1 w2 w3 w4 w5 w6 w7 w8 w9 w10 w11 w12 w13 w14 w15 w16 w17 h0 n0 v U'.heap L ∧ CHr Z EL U.vm U.heap U'.vm U'.heap ∧ ReturnedEndW U o U' L ({ frames := 3, cells := 5, slots := 12, locals := 41 } : Room).cells ({ frames := 3, cells := 5, slots := 12, locals := 41 } : Room).slots) := by
  refine MetFree.of_bodySF (plainFor_of_name pn72) hisR ?_
  intro p e s m args below meth c s₁ Bd hml0 hP hK
  obtain ⟨rfl, hZ, hh, H0, hsx⟩ := hP
  have hx := Bd.exec
  have hby := Bd.bytes
  have hml : c.maxLocals = 1 := hml0
  have hown : s.vm.findClass z0 = some m.cls := findClass_of_methodNamed Bd.named
  have hnm := (name_of_methodNamed Bd.named Bd.method).1
  have X0 : Stand p l e ({ frames := 3, cells := 5, slots := 12, locals := 41 } : Room) (s.setVm s.vm) m #[(.ref w6)] below meth c s₁ [] 0 0 := Stand.of_body Bd
  have e0 : s₁.heap = h0 := by rw [← hh, Bd.state]; rfl
  have N0 := Fr.nil n0
  have pre0 : ∀ t, Steps p.tables e below (s₁.setTop (mkF m 0 #[.val (.ref w6)] [])) t → Steps p.tables e below (s₁.setTop (entryFrame m #[(.ref w6)] 1)) t := fun t k => castTop (ef48 m w6) k
  have hS0 : s.Since s.vm h0.size := (State.WarmedH.refl s).since _
  have C0 : CHr Z EL s.vm h0 s.vm h0 := CHr.refl H0
  obtain ⟨T1, h1, b1, X1, e1, E1, A1, D1, g1, O1, K1, st1⟩ := own_newO X0 hx hZ hown (hw _ m43) (hw _ m44) (hw _ m41) e0 O0 (Keep.refl h0 []) (g := (mkF m 0 #[.val (.ref w6)] [])) rfl (hb hby d1_0) (by decide) (by decide)
  have C1 := C0.trans (CHr.ext E1 C0.1)
  have F1_1 : Fld Z h1 b1 z0 "kind" z4 .null := D1 (Or.inr (hw _ m68)) (ty := (.object z1)) (by decide)
  have F1_2 : Fld Z h1 b1 z0 "limitation" z8 .null := D1 (Or.inr (hw _ m70)) (ty := (.object z3)) (by decide)
  have F1_3 : Fld Z h1 b1 z0 "catcher" z5 .null := D1 (Or.inr (hw _ m72)) (ty := (.object z2)) (by decide)
  have F1_4 : Fld Z h1 b1 z0 "errorCode" z8 .null := D1 (Or.inr (hw _ m74)) (ty := (.object z3)) (by decide)
  obtain ⟨sa2, T2, h2, k12, sb2, k2, X2, e2, E2, hS2, hk2, hZ2, hown2, A2, Fc2, Fv2, V2, la2, lb2, Cq2, -, hn2, st2⟩ := ldcCH X1 hx hZ hown (hw _ m45) (own_str hw hj) e1 hS0 (Nat.le_trans (Nat.le_refl _) E1.1) (own_EW hw hj) (List.mem_of_getElem? (i := 0) rfl) C1.1 (vs := []) (z := (0 : Int32)) ⟨by decide, by decide⟩ (by decide) (by decide) (g := (mkF m 5 #[.val (.ref w6)] [(.ref w6), (.ref b1), (.ref b1)])) rfl (hb hby d1_5) (n := 0) (by decide) (by decide) (by decide) (by decide)
  have O2 : Old Z n0 h2 := O1.ext E2
  have K2 : Keep h0 h2 [] := K1.ext E2
  have C2 := C1.trans Cq2
  obtain ⟨T3, X3, e3, st3⟩ := getS2 X2 hx hZ2 hown2 (host := "") (Or.inl (hw _ m53)) Via.refl e2 (hS.1.ext O2.2) (g := (mkF m 7 #[.val (.ref w6)] [(.ref sa2), (.ref w6), (.ref b1), (.ref b1)])) rfl (hb hby d1_7)
  obtain ⟨sa4, T4, h4, k14, sb4, k4, X4, e4, E4, hS4, hk4, hZ4, hown4, A4, Fc4, Fv4, V4, la4, lb4, Cq4, -, hn4, st4⟩ := ldcCH X3 hx hZ2 hown2 (hw _ m45) (own_str hw hj) e3 hS2 hk2 (own_EW hw hj) (List.mem_of_getElem? (i := 0) rfl) C2.1 (vs := []) (z := (0 : Int32)) ⟨by decide, by decide⟩ (by decide) (by decide) (g := (mkF m 10 #[.val (.ref w6)] [(.ref w0), (.ref sa2), (.ref w6), (.ref b1), (.ref b1)])) rfl (hb hby d1_10) (n := 0) (by decide) (by decide) (by decide) (by decide)
  have O4 : Old Z n0 h4 := O2.ext E4
  have K4 : Keep h0 h4 [] := K2.ext E4
  have C4 := C2.trans Cq4
  have f6 : Exa Z h4 b1 z0 := ((A1.ext E2).ext E4)
  have f7 : Fld Z h4 b1 z0 "kind" z4 .null := ((F1_1.ext E2).ext E4)
  have f8 : Fld Z h4 b1 z0 "limitation" z8 .null := ((F1_2.ext E2).ext E4)
  have f9 : Fld Z h4 b1 z0 "catcher" z5 .null := ((F1_3.ext E2).ext E4)
  have f10 : Fld Z h4 b1 z0 "errorCode" z8 .null := ((F1_4.ext E2).ext E4)
  have sf5 := ((sfS (Safe.exa (EL := EL) hZ4.alike f6 (by decide) (by decide)) sf0) : ∀ x ∈ [b1], Safe Z EL T4.vm h4 x)
  obtain ⟨_, T5, L5, hQ5, X5, st5⟩ := own_special X4 hx hZ4 (W := 1) rfl hown4 (hw _ m56) (hw _ m57) (hw _ m41) (hw _ m58) (by decide) (rm33 l Z a0 hw hj w0 w1 w2 w3 w4 w5 w6 w7 w8 w9 w10 w11 w12 w13 w14 w15 w16 w17 hS [] b1 sa2 sa4 h4 n0 O4 f6 f7 f8 f9 f10 (Nat.le_trans (own_old_le O0) g1)) e4 (a := b1) (g := (mkF m 12 #[.val (.ref w6)] [(.ref sa4), (.ref w0), (.ref sa2), (.ref w6), (.ref b1), (.ref b1)])) rfl (by rw [hml]; rfl) (argsL := [(.ref w6), (.ref sa2), (.ref w0), (.ref sa4)]) (rest := [(.ref b1)]) (lenOf pd74 rfl) rfl rfl (by show 2 * 0 + _ ≤ _; exact Nat.le_of_eq rfl) (hb hby d1_12) (by decide) (by decide) (by decide) (by decide)
  obtain ⟨rfl, N5q, Kq5, q5_0, q5_1, q5_2, q5_3⟩ := hQ5
  have N5 := Fr.app N0 N5q
  have C5 := C4.trans (CHr.keep Kq5 sf5 C4.1)
  have O5 : Old Z n0 T5.heap := O4.keep Kq5 (allS (Nat.le_trans (own_old_le O0) g1) all0)
  have K5 : Keep h0 T5.heap [] := K4.trans Kq5 (allS (Or.inr (Nat.le_trans (Keep.refl h0 []).1 g1)) all0)
  have f11 : Exa Z T5.heap b1 z0 := (f6.keep Kq5)
  have f12 : Exa Z T5.heap sa2 z3 := ((A2.ext E4).keep Kq5)
  have f13 : Fld Z T5.heap sa2 z3 "coder" "B" (.int (0 : Int32)) := ((Fc2.ext E4).keep Kq5 (ninS (ne_exa A2 (A1.ext E2) (by decide)) nin0))
  have f14 : Fld Z T5.heap sa2 z3 "value" "[B" (.ref sb2) := ((Fv2.ext E4).keep Kq5 (ninS (ne_exa A2 (A1.ext E2) (by decide)) nin0))
  have f15 : Exa Z T5.heap sa4 z3 := (A4.keep Kq5)
  have f16 : Fld Z T5.heap sa4 z3 "coder" "B" (.int (0 : Int32)) := (Fc4.keep Kq5 (ninS (ne_exa A4 f6 (by decide)) nin0))
  have f17 : Fld Z T5.heap sa4 z3 "value" "[B" (.ref sb4) := (Fv4.keep Kq5 (ninS (ne_exa A4 f6 (by decide)) nin0))
  have f18 : Arv Z T5.heap sb2 k2 .byte (0 : Int32) [] (.int (0 : Int32)) := ((V2.ext E4).keep Kq5 (ninS (Ne.symm (Exa.neArv (A1.ext E2) V2 (hw _ m44))) nin0))
  have f19 : Arv Z T5.heap sb4 k4 .byte (0 : Int32) [] (.int (0 : Int32)) := (V4.keep Kq5 (ninS (Ne.symm (Exa.neArv f6 V4 (hw _ m44))) nin0))
  obtain ⟨fs, hr, hrun, hended, hRW⟩ := X5.leaveW hS4 (by rw [(rfl : T5.heap = T5.heap)]; exact (Nat.le_trans hk4 Kq5.1)) (v := some (.ref b1)) (fun h => by rw [Bd.returns] at h; cases h)
  refine ⟨_, _, pre0 _ ?_, hrun, hended, _, _, rfl, ?_, ?_, hRW⟩
  · show Steps p.tables e below (s₁.setTop (mkF m 0 #[.val (.ref w6)] [])) _
    refine st1 _ ?_
    refine XS.dup X1.here hx rfl (hb hby d1_3) rfl rfl ?_
    refine XS.aloadN X1.here hx rfl (hb hby d1_4) rfl rfl ?_
    refine st2 _ ?_
    show Steps p.tables e below (T2.setTop (mkF m 7 #[.val (.ref w6)] [(.ref sa2), (.ref w6), (.ref b1), (.ref b1)])) _
    refine st3 _ ?_
    refine st4 _ ?_
    refine st5 _ ?_
    exact retOut X5 hx Bd.returns rfl (Or.inr (Or.inr (Or.inr (Or.inr ⟨rfl, rfl, rfl⟩)))) (hb hby d1_15) hr
  · show Qrm34 Z w0 w1 w2 w3 w4 w5 w6 w7 w8 w9 w10 w11 w12 w13 w14 w15 w16 w17 h0 n0 _ T5.heap _
    exact ⟨b1, sa2, sa4, sb2, sb4, k2, k4, rfl, N5, K5, (Nat.le_trans (Keep.refl h0 []).1 g1), f11, q5_0, q5_1, q5_2, q5_3, f12, f13, f14, f15, f16, f17, f18, f19⟩
  · show CHr Z EL _ _ T5.vm T5.heap
    exact own_chr (by rw [← hh]) (rfl : T5.heap = T5.heap) (C5.trans (CHv.at X5 hZ4 (own_EW hw hj) C5.1))
def Qrm35 (Z : State) (w0 : Addr) (w1 : Addr) (w2 : Addr) (w3 : Addr) (w4 : Addr) (w5 : Addr) (w6 : Addr) (w7 : Addr) (w8 : Addr) (w9 : Addr) (w10 : Addr) (w11 : Addr) (w12 : Addr) (w13 : Addr) (w14 : Addr) (w15 : Addr) (w16 : Addr) (w17 : Addr) (a1 : Addr) (h0 : Heap) (n0 : Nat) (v : Option Value) (h : Heap) (L : List Loc) : Prop := v = some (.ref w6) ∧ Fr n0 L ∧ h = h0
set_option maxRecDepth 65536 in
set_option maxHeartbeats 40000000 in
theorem rm35 (l : Launch) (Z : State) (a0 : Array Value) (hw : ∀ d ∈ tables_1, d.before a0 Z = true) (hj : ∀ d ∈ jdkStatics_1, d.before a0 Z = true) (w0 : Addr) (w1 : Addr) (w2 : Addr) (w3 : Addr) (w4 : Addr) (w5 : Addr) (w6 : Addr) (w7 : Addr) (w8 : Addr) (w9 : Addr) (w10 : Addr) (w11 : Addr) (w12 : Addr) (w13 : Addr) (w14 : Addr) (w15 : Addr) (w16 : Addr) (w17 : Addr) (hS : SF Z w0 w1 w2 w3 w4 w5 w6 w7 w8 w9 w10 w11 w12 w13 w14 w15 w16 w17) (ws : List Jvm.Cond) (a1 : Addr) (h0 : Heap) (n0 : Nat) (O0 : Old Z n0 h0) (F1 : Fld Z h0 a1 z0 "kind" z4 (.ref w6)) :
    MetFree l (⟨z0, "kind", z9⟩ : MethodName) (head1 (Jvm.Cond.code (⟨z0, "kind", z9⟩ : MethodName) prog_27_method_7_code 1 (some (.object z1)) :: ws) ({ frames := 0, cells := 0, slots := 0, locals := 0 } : Room)) (fun a U => a = #[(.ref a1)] ∧ Z.Warmed39 U.vm ∧ U.heap = h0) (fun _ _ _ _ _ => True) (fun _ U o U' => ∃ v L, o = .returned v ∧ Qrm35 Z w0 w1 w2 w3 w4 w5 w6 w7 w8 w9 w10 w11 w12 w13 w14 w15 w16 w17 a1 h0 n0 v U'.heap L ∧ FrameEnd U o U' L ({ frames := 0, cells := 0, slots := 0, locals := 0 } : Room).cells ({ frames := 0, cells := 0, slots := 0, locals := 0 } : Room).slots) := by
  refine MetFree.of_bodySF (plainFor_of_name pn72) hisR ?_
  intro p e s m args below meth c s₁ Bd hml0 hP hK
  obtain ⟨rfl, hZ, hh⟩ := hP
  have hx := Bd.exec
  have hby := Bd.bytes
  have hml : c.maxLocals = 1 := hml0
  have hown : s.vm.findClass z0 = some m.cls := findClass_of_methodNamed Bd.named
  have hnm := (name_of_methodNamed Bd.named Bd.method).1
  have X0 : Stand p l e ({ frames := 0, cells := 0, slots := 0, locals := 0 } : Room) s m #[(.ref a1)] below meth c s₁ [] 0 0 := Stand.of_body Bd
  have e0 : s₁.heap = h0 := by rw [← hh, Bd.state]; rfl
  have N0 := Fr.nil n0
  have pre0 : ∀ t, Steps p.tables e below (s₁.setTop (mkF m 0 #[.val (.ref a1)] [])) t → Steps p.tables e below (s₁.setTop (entryFrame m #[(.ref a1)] 1)) t := fun t k => castTop (ef48 m a1) k
  obtain ⟨T1, X1, e1, st1⟩ := getF X0 hx hZ hown (host := "") (Or.inl (hw _ m67)) Via.refl e0 F1 (g := (mkF m 1 #[.val (.ref a1)] [(.ref a1)])) rfl rfl (hb hby d5_1)
  obtain ⟨fs, hr, hrun, hended, hW, hsame⟩ := X1.leave (v := some (.ref w6)) (fun h => by rw [Bd.returns] at h; cases h)
  refine ⟨_, _, pre0 _ ?_, hrun, hended, _, _, rfl, ?_, ⟨_, rfl⟩, hW, hsame.mono (by decide) (by decide)⟩
  · show Steps p.tables e below (s₁.setTop (mkF m 0 #[.val (.ref a1)] [])) _
    refine XS.aloadN X0.here hx rfl (hb hby d5_0) rfl rfl ?_
    refine st1 _ ?_
    exact retOut X1 hx Bd.returns rfl (Or.inr (Or.inr (Or.inr (Or.inr ⟨rfl, rfl, rfl⟩)))) (hb hby d5_4) hr
  · show Qrm35 Z w0 w1 w2 w3 w4 w5 w6 w7 w8 w9 w10 w11 w12 w13 w14 w15 w16 w17 a1 h0 n0 _ T1.heap _
    rw [e1]
    exact ⟨rfl, N0, rfl⟩
def Qrm36 (Z : State) (w0 : Addr) (w1 : Addr) (w2 : Addr) (w3 : Addr) (w4 : Addr) (w5 : Addr) (w6 : Addr) (w7 : Addr) (w8 : Addr) (w9 : Addr) (w10 : Addr) (w11 : Addr) (w12 : Addr) (w13 : Addr) (w14 : Addr) (w15 : Addr) (w16 : Addr) (w17 : Addr) (a1 : Addr) (a2 : Addr) (a3 : Addr) (h0 : Heap) (n0 : Nat) (v : Option Value) (h : Heap) (L : List Loc) : Prop := v = none ∧ Fr n0 L ∧ Keep h0 h [a1] ∧ Fld Z h a1 z0 "kind" z4 (.ref w15) ∧ Fld Z h a1 z0 "limitation" z8 (.ref a2) ∧ Fld Z h a1 z0 "catcher" z5 (.ref w0) ∧ Fld Z h a1 z0 "errorCode" z8 (.ref a3)
set_option maxRecDepth 65536 in
set_option maxHeartbeats 40000000 in
theorem rm36 (l : Launch) (Z : State) (a0 : Array Value) (hw : ∀ d ∈ tables_1, d.before a0 Z = true) (hj : ∀ d ∈ jdkStatics_1, d.before a0 Z = true) (w0 : Addr) (w1 : Addr) (w2 : Addr) (w3 : Addr) (w4 : Addr) (w5 : Addr) (w6 : Addr) (w7 : Addr) (w8 : Addr) (w9 : Addr) (w10 : Addr) (w11 : Addr) (w12 : Addr) (w13 : Addr) (w14 : Addr) (w15 : Addr) (w16 : Addr) (w17 : Addr) (hS : SF Z w0 w1 w2 w3 w4 w5 w6 w7 w8 w9 w10 w11 w12 w13 w14 w15 w16 w17) (ws : List Jvm.Cond) (a1 : Addr) (a2 : Addr) (a3 : Addr) (h0 : Heap) (n0 : Nat) (O0 : Old Z n0 h0) (E1 : Exa Z h0 a1 z0) (F2 : Fld Z h0 a1 z0 "kind" z4 .null) (F3 : Fld Z h0 a1 z0 "limitation" z8 .null) (F4 : Fld Z h0 a1 z0 "catcher" z5 .null) (F5 : Fld Z h0 a1 z0 "errorCode" z8 .null) (g6 : n0 ≤ a1) :
    MetFree l (⟨z0, "<init>", z6⟩ : MethodName) (head1 (Jvm.Cond.code (⟨z0, "<init>", z6⟩ : MethodName) prog_27_method_1_code 5 none :: ws) ({ frames := 2, cells := 0, slots := 0, locals := 24 } : Room)) (fun a U => a = #[(.ref a1), (.ref w15), (.ref a2), (.ref w0), (.ref a3)] ∧ Z.Warmed39 U.vm ∧ U.heap = h0) (fun _ _ _ _ _ => True) (fun _ U o U' => ∃ v L, o = .returned v ∧ Qrm36 Z w0 w1 w2 w3 w4 w5 w6 w7 w8 w9 w10 w11 w12 w13 w14 w15 w16 w17 a1 a2 a3 h0 n0 v U'.heap L ∧ FrameEnd U o U' L ({ frames := 2, cells := 0, slots := 0, locals := 24 } : Room).cells ({ frames := 2, cells := 0, slots := 0, locals := 24 } : Room).slots) := by
  refine MetFree.of_bodySF (plainFor_of_name pn72) hisR ?_
  intro p e s m args below meth c s₁ Bd hml0 hP hK
  obtain ⟨rfl, hZ, hh⟩ := hP
  have hx := Bd.exec
  have hby := Bd.bytes
  have hml : c.maxLocals = 5 := hml0
  have hown : s.vm.findClass z0 = some m.cls := findClass_of_methodNamed Bd.named
  have hnm := (name_of_methodNamed Bd.named Bd.method).1
  have X0 : Stand p l e ({ frames := 2, cells := 0, slots := 0, locals := 24 } : Room) s m #[(.ref a1), (.ref w15), (.ref a2), (.ref w0), (.ref a3)] below meth c s₁ [] 0 0 := Stand.of_body Bd
  have e0 : s₁.heap = h0 := by rw [← hh, Bd.state]; rfl
  have N0 := Fr.nil n0
  have pre0 : ∀ t, Steps p.tables e below (s₁.setTop (mkF m 0 #[.val (.ref a1), .val (.ref w15), .val (.ref a2), .val (.ref w0), .val (.ref a3)] [])) t → Steps p.tables e below (s₁.setTop (entryFrame m #[(.ref a1), (.ref w15), (.ref a2), (.ref w0), (.ref a3)] 5)) t := fun t k => castTop (ef71 m a1 w15 a2 w0 a3) k
  obtain ⟨_, T1, L1, hQ1, X1, st1⟩ := own_special X0 hx hZ (W := 0) rfl hown (hw _ m59) (hw _ m60) (hw _ m62) (hw _ m63) (by decide) (rm1 l Z a0 hw hj w0 w1 w2 w3 w4 w5 w6 w7 w8 w9 w10 w11 w12 w13 w14 w15 w16 w17 hS [] a1 h0 n0 O0) e0 (a := a1) (g := (mkF m 1 #[.val (.ref a1), .val (.ref w15), .val (.ref a2), .val (.ref w0), .val (.ref a3)] [(.ref a1)])) rfl (by rw [hml]; rfl) (argsL := []) (rest := []) (lenOf pd52 rfl) rfl rfl (by show 2 * 0 + _ ≤ _; exact Nat.le_of_eq rfl) (hb hby d2_1) (by decide) (by decide) (by decide) (by decide)
  obtain ⟨rfl, N1q, e1⟩ := hQ1
  have N1 := Fr.app N0 N1q
  have e1' : T1.heap = h0 := e1
  obtain ⟨T2, h2, L'2, X2, e2, W2, Fw2, O2, K2, N2, st2⟩ := own_put X1 hx hZ hown (host := "") (Or.inl (hw _ m67)) Via.refl e1' O0 (Keep.refl h0 [a1]) N1 g6 (Or.inl (List.mem_of_getElem? (i := 0) rfl)) F2 E1 (Or.inr ⟨(hw _ m68), rfl, hnm⟩) (hw _ m44) (ty := (.object z1)) (by decide) rfl rfl (g := (mkF m 6 #[.val (.ref a1), .val (.ref w15), .val (.ref a2), .val (.ref w0), .val (.ref a3)] [(.ref w15), (.ref a1)])) rfl rfl (hb hby d2_6)
  have f3 : Fld Z h2 a1 z0 "limitation" z8 .null := (F3.other W2 (Or.inr (slot_ne (Or.inr (hw _ m70)) (Or.inr (hw _ m68)) (by decide) (t := (.object z3)) (t' := (.object z1)) (by decide) (by decide))))
  have f4 : Exa Z h2 a1 z0 := (E1.wr W2)
  obtain ⟨T5, h5, L'5, X5, e5, W5, Fw5, O5, K5, N5, st5⟩ := own_put X2 hx hZ hown (host := "") (Or.inl (hw _ m69)) Via.refl e2 O2 K2 N2 g6 (Or.inl (List.mem_of_getElem? (i := 0) rfl)) f3 f4 (Or.inr ⟨(hw _ m70), rfl, hnm⟩) (hw _ m44) (ty := (.object z3)) (by decide) rfl rfl (g := (mkF m 11 #[.val (.ref a1), .val (.ref w15), .val (.ref a2), .val (.ref w0), .val (.ref a3)] [(.ref a2), (.ref a1)])) rfl rfl (hb hby d2_11)
  have f6 : Fld Z h5 a1 z0 "catcher" z5 .null := ((F4.other W2 (Or.inr (slot_ne (Or.inr (hw _ m72)) (Or.inr (hw _ m68)) (by decide) (t := (.object z2)) (t' := (.object z1)) (by decide) (by decide)))).other W5 (Or.inr (slot_ne (Or.inr (hw _ m72)) (Or.inr (hw _ m70)) (by decide) (t := (.object z2)) (t' := (.object z3)) (by decide) (by decide))))
  have f7 : Exa Z h5 a1 z0 := (f4.wr W5)
  obtain ⟨T8, h8, L'8, X8, e8, W8, Fw8, O8, K8, N8, st8⟩ := own_put X5 hx hZ hown (host := "") (Or.inl (hw _ m71)) Via.refl e5 O5 K5 N5 g6 (Or.inl (List.mem_of_getElem? (i := 0) rfl)) f6 f7 (Or.inr ⟨(hw _ m72), rfl, hnm⟩) (hw _ m44) (ty := (.object z2)) (by decide) rfl rfl (g := (mkF m 16 #[.val (.ref a1), .val (.ref w15), .val (.ref a2), .val (.ref w0), .val (.ref a3)] [(.ref w0), (.ref a1)])) rfl rfl (hb hby d2_16)
  have f9 : Fld Z h8 a1 z0 "errorCode" z8 .null := (((F5.other W2 (Or.inr (slot_ne (Or.inr (hw _ m74)) (Or.inr (hw _ m68)) (by decide) (t := (.object z3)) (t' := (.object z1)) (by decide) (by decide)))).other W5 (Or.inr (slot_ne (Or.inr (hw _ m74)) (Or.inr (hw _ m70)) (by decide) (t := (.object z3)) (t' := (.object z3)) (by decide) (by decide)))).other W8 (Or.inr (slot_ne (Or.inr (hw _ m74)) (Or.inr (hw _ m72)) (by decide) (t := (.object z3)) (t' := (.object z2)) (by decide) (by decide))))
  have f10 : Exa Z h8 a1 z0 := (f7.wr W8)
  obtain ⟨T11, h11, L'11, X11, e11, W11, Fw11, O11, K11, N11, st11⟩ := own_put X8 hx hZ hown (host := "") (Or.inl (hw _ m73)) Via.refl e8 O8 K8 N8 g6 (Or.inl (List.mem_of_getElem? (i := 0) rfl)) f9 f10 (Or.inr ⟨(hw _ m74), rfl, hnm⟩) (hw _ m44) (ty := (.object z3)) (by decide) rfl rfl (g := (mkF m 22 #[.val (.ref a1), .val (.ref w15), .val (.ref a2), .val (.ref w0), .val (.ref a3)] [(.ref a3), (.ref a1)])) rfl rfl (hb hby d2_22)
  have f12 : Fld Z h11 a1 z0 "kind" z4 (.ref w15) := (((Fw2.other W5 (Or.inr (slot_ne (Or.inr (hw _ m68)) (Or.inr (hw _ m70)) (by decide) (t := (.object z1)) (t' := (.object z3)) (by decide) (by decide)))).other W8 (Or.inr (slot_ne (Or.inr (hw _ m68)) (Or.inr (hw _ m72)) (by decide) (t := (.object z1)) (t' := (.object z2)) (by decide) (by decide)))).other W11 (Or.inr (slot_ne (Or.inr (hw _ m68)) (Or.inr (hw _ m74)) (by decide) (t := (.object z1)) (t' := (.object z3)) (by decide) (by decide))))
  have f13 : Fld Z h11 a1 z0 "limitation" z8 (.ref a2) := ((Fw5.other W8 (Or.inr (slot_ne (Or.inr (hw _ m70)) (Or.inr (hw _ m72)) (by decide) (t := (.object z3)) (t' := (.object z2)) (by decide) (by decide)))).other W11 (Or.inr (slot_ne (Or.inr (hw _ m70)) (Or.inr (hw _ m74)) (by decide) (t := (.object z3)) (t' := (.object z3)) (by decide) (by decide))))
  have f14 : Fld Z h11 a1 z0 "catcher" z5 (.ref w0) := (Fw8.other W11 (Or.inr (slot_ne (Or.inr (hw _ m72)) (Or.inr (hw _ m74)) (by decide) (t := (.object z2)) (t' := (.object z3)) (by decide) (by decide))))
  obtain ⟨fs, hr, hrun, hended, hW, hsame⟩ := X11.leave (v := none) (fun _ => rfl)
  refine ⟨_, _, pre0 _ ?_, hrun, hended, _, _, rfl, ?_, ⟨_, rfl⟩, hW, hsame.mono (by decide) (by decide)⟩
  · show Steps p.tables e below (s₁.setTop (mkF m 0 #[.val (.ref a1), .val (.ref w15), .val (.ref a2), .val (.ref w0), .val (.ref a3)] [])) _
    refine XS.aloadN X0.here hx rfl (hb hby d2_0) rfl rfl ?_
    refine st1 _ ?_
    refine XS.aloadN X1.here hx rfl (hb hby d2_4) rfl rfl ?_
    refine XS.aloadN X1.here hx rfl (hb hby d2_5) rfl rfl ?_
    show Steps p.tables e below (T1.setTop (mkF m 6 #[.val (.ref a1), .val (.ref w15), .val (.ref a2), .val (.ref w0), .val (.ref a3)] [(.ref w15), (.ref a1)])) _
    refine st2 _ ?_
    refine XS.aloadN X2.here hx rfl (hb hby d2_9) rfl rfl ?_
    refine XS.aloadN X2.here hx rfl (hb hby d2_10) rfl rfl ?_
    refine st5 _ ?_
    show Steps p.tables e below (T5.setTop (mkF m 14 #[.val (.ref a1), .val (.ref w15), .val (.ref a2), .val (.ref w0), .val (.ref a3)] [])) _
    refine XS.aloadN X5.here hx rfl (hb hby d2_14) rfl rfl ?_
    refine XS.aloadN X5.here hx rfl (hb hby d2_15) rfl rfl ?_
    refine st8 _ ?_
    refine XS.aloadN X8.here hx rfl (hb hby d2_19) rfl rfl ?_
    show Steps p.tables e below (T8.setTop (mkF m 20 #[.val (.ref a1), .val (.ref w15), .val (.ref a2), .val (.ref w0), .val (.ref a3)] [(.ref a1)])) _
    refine XS.aload X8.here hx rfl (hb hby d2_20) rfl rfl ?_
    refine st11 _ ?_
    exact X11.returnOut hx Bd.returns (hb hby d2_25) hr
  · show Qrm36 Z w0 w1 w2 w3 w4 w5 w6 w7 w8 w9 w10 w11 w12 w13 w14 w15 w16 w17 a1 a2 a3 h0 n0 _ T11.heap _
    rw [e11]
    exact ⟨rfl, N11, K11, f12, f13, f14, Fw11⟩
def Qrm37 (Z : State) (w0 : Addr) (w1 : Addr) (w2 : Addr) (w3 : Addr) (w4 : Addr) (w5 : Addr) (w6 : Addr) (w7 : Addr) (w8 : Addr) (w9 : Addr) (w10 : Addr) (w11 : Addr) (w12 : Addr) (w13 : Addr) (w14 : Addr) (w15 : Addr) (w16 : Addr) (w17 : Addr) (h0 : Heap) (n0 : Nat) (v : Option Value) (h : Heap) (L : List Loc) : Prop := ∃ x0 : Addr, ∃ x1 : Addr, ∃ x2 : Addr, ∃ x3 : Addr, ∃ x4 : Addr, ∃ xk0 : ClassId, ∃ xk1 : ClassId, v = some (.ref x0) ∧ Fr n0 L ∧ Keep h0 h [] ∧ h0.size ≤ x0 ∧ Exa Z h x0 z0 ∧ Fld Z h x0 z0 "kind" z4 (.ref w15) ∧ Fld Z h x0 z0 "limitation" z8 (.ref x1) ∧ Fld Z h x0 z0 "catcher" z5 (.ref w0) ∧ Fld Z h x0 z0 "errorCode" z8 (.ref x2) ∧ Exa Z h x1 z3 ∧ Fld Z h x1 z3 "coder" "B" (.int (0 : Int32)) ∧ Fld Z h x1 z3 "value" "[B" (.ref x3) ∧ Exa Z h x2 z3 ∧ Fld Z h x2 z3 "coder" "B" (.int (0 : Int32)) ∧ Fld Z h x2 z3 "value" "[B" (.ref x4) ∧ Arv Z h x3 xk0 .byte (0 : Int32) [] (.int (0 : Int32)) ∧ Arv Z h x4 xk1 .byte (0 : Int32) [] (.int (0 : Int32))
set_option maxRecDepth 65536 in
set_option maxHeartbeats 40000000 in
theorem rm37 (l : Launch) (Z : State) (a0 : Array Value) (hw : ∀ d ∈ tables_1, d.before a0 Z = true) (hj : ∀ d ∈ jdkStatics_1, d.before a0 Z = true) (w0 : Addr) (w1 : Addr) (w2 : Addr) (w3 : Addr) (w4 : Addr) (w5 : Addr) (w6 : Addr) (w7 : Addr) (w8 : Addr) (w9 : Addr) (w10 : Addr) (w11 : Addr) (w12 : Addr) (w13 : Addr) (w14 : Addr) (w15 : Addr) (w16 : Addr) (w17 : Addr) (hS : SF Z w0 w1 w2 w3 w4 w5 w6 w7 w8 w9 w10 w11 w12 w13 w14 w15 w16 w17) (ws : List Jvm.Cond) (h0 : Heap) (n0 : Nat) (O0 : Old Z n0 h0) :
    MetFree l (⟨z0, "runs", z7⟩ : MethodName) (head1 (Jvm.Cond.code (⟨z0, "runs", z7⟩ : MethodName) prog_27_method_2_code 1 (some (.object z0)) :: ws) ({ frames := 3, cells := 5, slots := 12, locals := 41 } : Room)) (fun a U => a = #[(.ref w15)] ∧ Z.Warmed39 U.vm ∧ U.heap = h0 ∧ CHv Z EL U.vm h0 ∧ ∀ x ∈ ([] : List Addr), Safe Z EL U.vm h0 x) (fun _ _ _ _ _ => True) (fun _ U o U' => ∃ v L, o = .returned v ∧ Qrm37 Z w0 w1 w2 w3 w4 w5 w6 w7 w8 w9 w10 w11 w12 w13 w14 w15 w16 w17 h0 n0 v U'.heap L ∧ CHr Z EL U.vm U.heap U'.vm U'.heap ∧ ReturnedEndW U o U' L ({ frames := 3, cells := 5, slots := 12, locals := 41 } : Room).cells ({ frames := 3, cells := 5, slots := 12, locals := 41 } : Room).slots) := by
  refine MetFree.of_bodySF (plainFor_of_name pn72) hisR ?_
  intro p e s m args below meth c s₁ Bd hml0 hP hK
  obtain ⟨rfl, hZ, hh, H0, hsx⟩ := hP
  have hx := Bd.exec
  have hby := Bd.bytes
  have hml : c.maxLocals = 1 := hml0
  have hown : s.vm.findClass z0 = some m.cls := findClass_of_methodNamed Bd.named
  have hnm := (name_of_methodNamed Bd.named Bd.method).1
  have X0 : Stand p l e ({ frames := 3, cells := 5, slots := 12, locals := 41 } : Room) (s.setVm s.vm) m #[(.ref w15)] below meth c s₁ [] 0 0 := Stand.of_body Bd
  have e0 : s₁.heap = h0 := by rw [← hh, Bd.state]; rfl
  have N0 := Fr.nil n0
  have pre0 : ∀ t, Steps p.tables e below (s₁.setTop (mkF m 0 #[.val (.ref w15)] [])) t → Steps p.tables e below (s₁.setTop (entryFrame m #[(.ref w15)] 1)) t := fun t k => castTop (ef48 m w15) k
  have hS0 : s.Since s.vm h0.size := (State.WarmedH.refl s).since _
  have C0 : CHr Z EL s.vm h0 s.vm h0 := CHr.refl H0
  obtain ⟨T1, h1, b1, X1, e1, E1, A1, D1, g1, O1, K1, st1⟩ := own_newO X0 hx hZ hown (hw _ m43) (hw _ m44) (hw _ m41) e0 O0 (Keep.refl h0 []) (g := (mkF m 0 #[.val (.ref w15)] [])) rfl (hb hby d1_0) (by decide) (by decide)
  have C1 := C0.trans (CHr.ext E1 C0.1)
  have F1_1 : Fld Z h1 b1 z0 "kind" z4 .null := D1 (Or.inr (hw _ m68)) (ty := (.object z1)) (by decide)
  have F1_2 : Fld Z h1 b1 z0 "limitation" z8 .null := D1 (Or.inr (hw _ m70)) (ty := (.object z3)) (by decide)
  have F1_3 : Fld Z h1 b1 z0 "catcher" z5 .null := D1 (Or.inr (hw _ m72)) (ty := (.object z2)) (by decide)
  have F1_4 : Fld Z h1 b1 z0 "errorCode" z8 .null := D1 (Or.inr (hw _ m74)) (ty := (.object z3)) (by decide)
  obtain ⟨sa2, T2, h2, k12, sb2, k2, X2, e2, E2, hS2, hk2, hZ2, hown2, A2, Fc2, Fv2, V2, la2, lb2, Cq2, -, hn2, st2⟩ := ldcCH X1 hx hZ hown (hw _ m45) (own_str hw hj) e1 hS0 (Nat.le_trans (Nat.le_refl _) E1.1) (own_EW hw hj) (List.mem_of_getElem? (i := 0) rfl) C1.1 (vs := []) (z := (0 : Int32)) ⟨by decide, by decide⟩ (by decide) (by decide) (g := (mkF m 5 #[.val (.ref w15)] [(.ref w15), (.ref b1), (.ref b1)])) rfl (hb hby d1_5) (n := 0) (by decide) (by decide) (by decide) (by decide)
  have O2 : Old Z n0 h2 := O1.ext E2
  have K2 : Keep h0 h2 [] := K1.ext E2
  have C2 := C1.trans Cq2
  obtain ⟨T3, X3, e3, st3⟩ := getS2 X2 hx hZ2 hown2 (host := "") (Or.inl (hw _ m53)) Via.refl e2 (hS.1.ext O2.2) (g := (mkF m 7 #[.val (.ref w15)] [(.ref sa2), (.ref w15), (.ref b1), (.ref b1)])) rfl (hb hby d1_7)
  obtain ⟨sa4, T4, h4, k14, sb4, k4, X4, e4, E4, hS4, hk4, hZ4, hown4, A4, Fc4, Fv4, V4, la4, lb4, Cq4, -, hn4, st4⟩ := ldcCH X3 hx hZ2 hown2 (hw _ m45) (own_str hw hj) e3 hS2 hk2 (own_EW hw hj) (List.mem_of_getElem? (i := 0) rfl) C2.1 (vs := []) (z := (0 : Int32)) ⟨by decide, by decide⟩ (by decide) (by decide) (g := (mkF m 10 #[.val (.ref w15)] [(.ref w0), (.ref sa2), (.ref w15), (.ref b1), (.ref b1)])) rfl (hb hby d1_10) (n := 0) (by decide) (by decide) (by decide) (by decide)
  have O4 : Old Z n0 h4 := O2.ext E4
  have K4 : Keep h0 h4 [] := K2.ext E4
  have C4 := C2.trans Cq4
  have f6 : Exa Z h4 b1 z0 := ((A1.ext E2).ext E4)
  have f7 : Fld Z h4 b1 z0 "kind" z4 .null := ((F1_1.ext E2).ext E4)
  have f8 : Fld Z h4 b1 z0 "limitation" z8 .null := ((F1_2.ext E2).ext E4)
  have f9 : Fld Z h4 b1 z0 "catcher" z5 .null := ((F1_3.ext E2).ext E4)
  have f10 : Fld Z h4 b1 z0 "errorCode" z8 .null := ((F1_4.ext E2).ext E4)
  have sf5 := ((sfS (Safe.exa (EL := EL) hZ4.alike f6 (by decide) (by decide)) sf0) : ∀ x ∈ [b1], Safe Z EL T4.vm h4 x)
  obtain ⟨_, T5, L5, hQ5, X5, st5⟩ := own_special X4 hx hZ4 (W := 1) rfl hown4 (hw _ m56) (hw _ m57) (hw _ m41) (hw _ m58) (by decide) (rm36 l Z a0 hw hj w0 w1 w2 w3 w4 w5 w6 w7 w8 w9 w10 w11 w12 w13 w14 w15 w16 w17 hS [] b1 sa2 sa4 h4 n0 O4 f6 f7 f8 f9 f10 (Nat.le_trans (own_old_le O0) g1)) e4 (a := b1) (g := (mkF m 12 #[.val (.ref w15)] [(.ref sa4), (.ref w0), (.ref sa2), (.ref w15), (.ref b1), (.ref b1)])) rfl (by rw [hml]; rfl) (argsL := [(.ref w15), (.ref sa2), (.ref w0), (.ref sa4)]) (rest := [(.ref b1)]) (lenOf pd74 rfl) rfl rfl (by show 2 * 0 + _ ≤ _; exact Nat.le_of_eq rfl) (hb hby d1_12) (by decide) (by decide) (by decide) (by decide)
  obtain ⟨rfl, N5q, Kq5, q5_0, q5_1, q5_2, q5_3⟩ := hQ5
  have N5 := Fr.app N0 N5q
  have C5 := C4.trans (CHr.keep Kq5 sf5 C4.1)
  have O5 : Old Z n0 T5.heap := O4.keep Kq5 (allS (Nat.le_trans (own_old_le O0) g1) all0)
  have K5 : Keep h0 T5.heap [] := K4.trans Kq5 (allS (Or.inr (Nat.le_trans (Keep.refl h0 []).1 g1)) all0)
  have f11 : Exa Z T5.heap b1 z0 := (f6.keep Kq5)
  have f12 : Exa Z T5.heap sa2 z3 := ((A2.ext E4).keep Kq5)
  have f13 : Fld Z T5.heap sa2 z3 "coder" "B" (.int (0 : Int32)) := ((Fc2.ext E4).keep Kq5 (ninS (ne_exa A2 (A1.ext E2) (by decide)) nin0))
  have f14 : Fld Z T5.heap sa2 z3 "value" "[B" (.ref sb2) := ((Fv2.ext E4).keep Kq5 (ninS (ne_exa A2 (A1.ext E2) (by decide)) nin0))
  have f15 : Exa Z T5.heap sa4 z3 := (A4.keep Kq5)
  have f16 : Fld Z T5.heap sa4 z3 "coder" "B" (.int (0 : Int32)) := (Fc4.keep Kq5 (ninS (ne_exa A4 f6 (by decide)) nin0))
  have f17 : Fld Z T5.heap sa4 z3 "value" "[B" (.ref sb4) := (Fv4.keep Kq5 (ninS (ne_exa A4 f6 (by decide)) nin0))
  have f18 : Arv Z T5.heap sb2 k2 .byte (0 : Int32) [] (.int (0 : Int32)) := ((V2.ext E4).keep Kq5 (ninS (Ne.symm (Exa.neArv (A1.ext E2) V2 (hw _ m44))) nin0))
  have f19 : Arv Z T5.heap sb4 k4 .byte (0 : Int32) [] (.int (0 : Int32)) := (V4.keep Kq5 (ninS (Ne.symm (Exa.neArv f6 V4 (hw _ m44))) nin0))
  obtain ⟨fs, hr, hrun, hended, hRW⟩ := X5.leaveW hS4 (by rw [(rfl : T5.heap = T5.heap)]; exact (Nat.le_trans hk4 Kq5.1)) (v := some (.ref b1)) (fun h => by rw [Bd.returns] at h; cases h)
  refine ⟨_, _, pre0 _ ?_, hrun, hended, _, _, rfl, ?_, ?_, hRW⟩
  · show Steps p.tables e below (s₁.setTop (mkF m 0 #[.val (.ref w15)] [])) _
    refine st1 _ ?_
    refine XS.dup X1.here hx rfl (hb hby d1_3) rfl rfl ?_
    refine XS.aloadN X1.here hx rfl (hb hby d1_4) rfl rfl ?_
    refine st2 _ ?_
    show Steps p.tables e below (T2.setTop (mkF m 7 #[.val (.ref w15)] [(.ref sa2), (.ref w15), (.ref b1), (.ref b1)])) _
    refine st3 _ ?_
    refine st4 _ ?_
    refine st5 _ ?_
    exact retOut X5 hx Bd.returns rfl (Or.inr (Or.inr (Or.inr (Or.inr ⟨rfl, rfl, rfl⟩)))) (hb hby d1_15) hr
  · show Qrm37 Z w0 w1 w2 w3 w4 w5 w6 w7 w8 w9 w10 w11 w12 w13 w14 w15 w16 w17 h0 n0 _ T5.heap _
    exact ⟨b1, sa2, sa4, sb2, sb4, k2, k4, rfl, N5, K5, (Nat.le_trans (Keep.refl h0 []).1 g1), f11, q5_0, q5_1, q5_2, q5_3, f12, f13, f14, f15, f16, f17, f18, f19⟩
  · show CHr Z EL _ _ T5.vm T5.heap
    exact own_chr (by rw [← hh]) (rfl : T5.heap = T5.heap) (C5.trans (CHv.at X5 hZ4 (own_EW hw hj) C5.1))
def Qrm38 (Z : State) (w0 : Addr) (w1 : Addr) (w2 : Addr) (w3 : Addr) (w4 : Addr) (w5 : Addr) (w6 : Addr) (w7 : Addr) (w8 : Addr) (w9 : Addr) (w10 : Addr) (w11 : Addr) (w12 : Addr) (w13 : Addr) (w14 : Addr) (w15 : Addr) (w16 : Addr) (w17 : Addr) (a1 : Addr) (h0 : Heap) (n0 : Nat) (v : Option Value) (h : Heap) (L : List Loc) : Prop := v = some (.ref w15) ∧ Fr n0 L ∧ h = h0
set_option maxRecDepth 65536 in
set_option maxHeartbeats 40000000 in
theorem rm38 (l : Launch) (Z : State) (a0 : Array Value) (hw : ∀ d ∈ tables_1, d.before a0 Z = true) (hj : ∀ d ∈ jdkStatics_1, d.before a0 Z = true) (w0 : Addr) (w1 : Addr) (w2 : Addr) (w3 : Addr) (w4 : Addr) (w5 : Addr) (w6 : Addr) (w7 : Addr) (w8 : Addr) (w9 : Addr) (w10 : Addr) (w11 : Addr) (w12 : Addr) (w13 : Addr) (w14 : Addr) (w15 : Addr) (w16 : Addr) (w17 : Addr) (hS : SF Z w0 w1 w2 w3 w4 w5 w6 w7 w8 w9 w10 w11 w12 w13 w14 w15 w16 w17) (ws : List Jvm.Cond) (a1 : Addr) (h0 : Heap) (n0 : Nat) (O0 : Old Z n0 h0) (F1 : Fld Z h0 a1 z0 "kind" z4 (.ref w15)) :
    MetFree l (⟨z0, "kind", z9⟩ : MethodName) (head1 (Jvm.Cond.code (⟨z0, "kind", z9⟩ : MethodName) prog_27_method_7_code 1 (some (.object z1)) :: ws) ({ frames := 0, cells := 0, slots := 0, locals := 0 } : Room)) (fun a U => a = #[(.ref a1)] ∧ Z.Warmed39 U.vm ∧ U.heap = h0) (fun _ _ _ _ _ => True) (fun _ U o U' => ∃ v L, o = .returned v ∧ Qrm38 Z w0 w1 w2 w3 w4 w5 w6 w7 w8 w9 w10 w11 w12 w13 w14 w15 w16 w17 a1 h0 n0 v U'.heap L ∧ FrameEnd U o U' L ({ frames := 0, cells := 0, slots := 0, locals := 0 } : Room).cells ({ frames := 0, cells := 0, slots := 0, locals := 0 } : Room).slots) := by
  refine MetFree.of_bodySF (plainFor_of_name pn72) hisR ?_
  intro p e s m args below meth c s₁ Bd hml0 hP hK
  obtain ⟨rfl, hZ, hh⟩ := hP
  have hx := Bd.exec
  have hby := Bd.bytes
  have hml : c.maxLocals = 1 := hml0
  have hown : s.vm.findClass z0 = some m.cls := findClass_of_methodNamed Bd.named
  have hnm := (name_of_methodNamed Bd.named Bd.method).1
  have X0 : Stand p l e ({ frames := 0, cells := 0, slots := 0, locals := 0 } : Room) s m #[(.ref a1)] below meth c s₁ [] 0 0 := Stand.of_body Bd
  have e0 : s₁.heap = h0 := by rw [← hh, Bd.state]; rfl
  have N0 := Fr.nil n0
  have pre0 : ∀ t, Steps p.tables e below (s₁.setTop (mkF m 0 #[.val (.ref a1)] [])) t → Steps p.tables e below (s₁.setTop (entryFrame m #[(.ref a1)] 1)) t := fun t k => castTop (ef48 m a1) k
  obtain ⟨T1, X1, e1, st1⟩ := getF X0 hx hZ hown (host := "") (Or.inl (hw _ m67)) Via.refl e0 F1 (g := (mkF m 1 #[.val (.ref a1)] [(.ref a1)])) rfl rfl (hb hby d5_1)
  obtain ⟨fs, hr, hrun, hended, hW, hsame⟩ := X1.leave (v := some (.ref w15)) (fun h => by rw [Bd.returns] at h; cases h)
  refine ⟨_, _, pre0 _ ?_, hrun, hended, _, _, rfl, ?_, ⟨_, rfl⟩, hW, hsame.mono (by decide) (by decide)⟩
  · show Steps p.tables e below (s₁.setTop (mkF m 0 #[.val (.ref a1)] [])) _
    refine XS.aloadN X0.here hx rfl (hb hby d5_0) rfl rfl ?_
    refine st1 _ ?_
    exact retOut X1 hx Bd.returns rfl (Or.inr (Or.inr (Or.inr (Or.inr ⟨rfl, rfl, rfl⟩)))) (hb hby d5_4) hr
  · show Qrm38 Z w0 w1 w2 w3 w4 w5 w6 w7 w8 w9 w10 w11 w12 w13 w14 w15 w16 w17 a1 h0 n0 _ T1.heap _
    rw [e1]
    exact ⟨rfl, N0, rfl⟩
def Qrm39 (Z : State) (w0 : Addr) (w1 : Addr) (w2 : Addr) (w3 : Addr) (w4 : Addr) (w5 : Addr) (w6 : Addr) (w7 : Addr) (w8 : Addr) (w9 : Addr) (w10 : Addr) (w11 : Addr) (w12 : Addr) (w13 : Addr) (w14 : Addr) (w15 : Addr) (w16 : Addr) (w17 : Addr) (a1 : Addr) (a2 : Addr) (a3 : Addr) (h0 : Heap) (n0 : Nat) (v : Option Value) (h : Heap) (L : List Loc) : Prop := v = none ∧ Fr n0 L ∧ Keep h0 h [a1] ∧ Fld Z h a1 z0 "kind" z4 (.ref w14) ∧ Fld Z h a1 z0 "limitation" z8 (.ref a2) ∧ Fld Z h a1 z0 "catcher" z5 (.ref w0) ∧ Fld Z h a1 z0 "errorCode" z8 (.ref a3)
set_option maxRecDepth 65536 in
set_option maxHeartbeats 40000000 in
theorem rm39 (l : Launch) (Z : State) (a0 : Array Value) (hw : ∀ d ∈ tables_1, d.before a0 Z = true) (hj : ∀ d ∈ jdkStatics_1, d.before a0 Z = true) (w0 : Addr) (w1 : Addr) (w2 : Addr) (w3 : Addr) (w4 : Addr) (w5 : Addr) (w6 : Addr) (w7 : Addr) (w8 : Addr) (w9 : Addr) (w10 : Addr) (w11 : Addr) (w12 : Addr) (w13 : Addr) (w14 : Addr) (w15 : Addr) (w16 : Addr) (w17 : Addr) (hS : SF Z w0 w1 w2 w3 w4 w5 w6 w7 w8 w9 w10 w11 w12 w13 w14 w15 w16 w17) (ws : List Jvm.Cond) (a1 : Addr) (a2 : Addr) (a3 : Addr) (h0 : Heap) (n0 : Nat) (O0 : Old Z n0 h0) (E1 : Exa Z h0 a1 z0) (F2 : Fld Z h0 a1 z0 "kind" z4 .null) (F3 : Fld Z h0 a1 z0 "limitation" z8 .null) (F4 : Fld Z h0 a1 z0 "catcher" z5 .null) (F5 : Fld Z h0 a1 z0 "errorCode" z8 .null) (g6 : n0 ≤ a1) :
    MetFree l (⟨z0, "<init>", z6⟩ : MethodName) (head1 (Jvm.Cond.code (⟨z0, "<init>", z6⟩ : MethodName) prog_27_method_1_code 5 none :: ws) ({ frames := 2, cells := 0, slots := 0, locals := 24 } : Room)) (fun a U => a = #[(.ref a1), (.ref w14), (.ref a2), (.ref w0), (.ref a3)] ∧ Z.Warmed39 U.vm ∧ U.heap = h0) (fun _ _ _ _ _ => True) (fun _ U o U' => ∃ v L, o = .returned v ∧ Qrm39 Z w0 w1 w2 w3 w4 w5 w6 w7 w8 w9 w10 w11 w12 w13 w14 w15 w16 w17 a1 a2 a3 h0 n0 v U'.heap L ∧ FrameEnd U o U' L ({ frames := 2, cells := 0, slots := 0, locals := 24 } : Room).cells ({ frames := 2, cells := 0, slots := 0, locals := 24 } : Room).slots) := by
  refine MetFree.of_bodySF (plainFor_of_name pn72) hisR ?_
  intro p e s m args below meth c s₁ Bd hml0 hP hK
  obtain ⟨rfl, hZ, hh⟩ := hP
  have hx := Bd.exec
  have hby := Bd.bytes
  have hml : c.maxLocals = 5 := hml0
  have hown : s.vm.findClass z0 = some m.cls := findClass_of_methodNamed Bd.named
  have hnm := (name_of_methodNamed Bd.named Bd.method).1
  have X0 : Stand p l e ({ frames := 2, cells := 0, slots := 0, locals := 24 } : Room) s m #[(.ref a1), (.ref w14), (.ref a2), (.ref w0), (.ref a3)] below meth c s₁ [] 0 0 := Stand.of_body Bd
  have e0 : s₁.heap = h0 := by rw [← hh, Bd.state]; rfl
  have N0 := Fr.nil n0
  have pre0 : ∀ t, Steps p.tables e below (s₁.setTop (mkF m 0 #[.val (.ref a1), .val (.ref w14), .val (.ref a2), .val (.ref w0), .val (.ref a3)] [])) t → Steps p.tables e below (s₁.setTop (entryFrame m #[(.ref a1), (.ref w14), (.ref a2), (.ref w0), (.ref a3)] 5)) t := fun t k => castTop (ef71 m a1 w14 a2 w0 a3) k
  obtain ⟨_, T1, L1, hQ1, X1, st1⟩ := own_special X0 hx hZ (W := 0) rfl hown (hw _ m59) (hw _ m60) (hw _ m62) (hw _ m63) (by decide) (rm1 l Z a0 hw hj w0 w1 w2 w3 w4 w5 w6 w7 w8 w9 w10 w11 w12 w13 w14 w15 w16 w17 hS [] a1 h0 n0 O0) e0 (a := a1) (g := (mkF m 1 #[.val (.ref a1), .val (.ref w14), .val (.ref a2), .val (.ref w0), .val (.ref a3)] [(.ref a1)])) rfl (by rw [hml]; rfl) (argsL := []) (rest := []) (lenOf pd52 rfl) rfl rfl (by show 2 * 0 + _ ≤ _; exact Nat.le_of_eq rfl) (hb hby d2_1) (by decide) (by decide) (by decide) (by decide)
  obtain ⟨rfl, N1q, e1⟩ := hQ1
  have N1 := Fr.app N0 N1q
  have e1' : T1.heap = h0 := e1
  obtain ⟨T2, h2, L'2, X2, e2, W2, Fw2, O2, K2, N2, st2⟩ := own_put X1 hx hZ hown (host := "") (Or.inl (hw _ m67)) Via.refl e1' O0 (Keep.refl h0 [a1]) N1 g6 (Or.inl (List.mem_of_getElem? (i := 0) rfl)) F2 E1 (Or.inr ⟨(hw _ m68), rfl, hnm⟩) (hw _ m44) (ty := (.object z1)) (by decide) rfl rfl (g := (mkF m 6 #[.val (.ref a1), .val (.ref w14), .val (.ref a2), .val (.ref w0), .val (.ref a3)] [(.ref w14), (.ref a1)])) rfl rfl (hb hby d2_6)
  have f3 : Fld Z h2 a1 z0 "limitation" z8 .null := (F3.other W2 (Or.inr (slot_ne (Or.inr (hw _ m70)) (Or.inr (hw _ m68)) (by decide) (t := (.object z3)) (t' := (.object z1)) (by decide) (by decide))))
  have f4 : Exa Z h2 a1 z0 := (E1.wr W2)
  obtain ⟨T5, h5, L'5, X5, e5, W5, Fw5, O5, K5, N5, st5⟩ := own_put X2 hx hZ hown (host := "") (Or.inl (hw _ m69)) Via.refl e2 O2 K2 N2 g6 (Or.inl (List.mem_of_getElem? (i := 0) rfl)) f3 f4 (Or.inr ⟨(hw _ m70), rfl, hnm⟩) (hw _ m44) (ty := (.object z3)) (by decide) rfl rfl (g := (mkF m 11 #[.val (.ref a1), .val (.ref w14), .val (.ref a2), .val (.ref w0), .val (.ref a3)] [(.ref a2), (.ref a1)])) rfl rfl (hb hby d2_11)
  have f6 : Fld Z h5 a1 z0 "catcher" z5 .null := ((F4.other W2 (Or.inr (slot_ne (Or.inr (hw _ m72)) (Or.inr (hw _ m68)) (by decide) (t := (.object z2)) (t' := (.object z1)) (by decide) (by decide)))).other W5 (Or.inr (slot_ne (Or.inr (hw _ m72)) (Or.inr (hw _ m70)) (by decide) (t := (.object z2)) (t' := (.object z3)) (by decide) (by decide))))
  have f7 : Exa Z h5 a1 z0 := (f4.wr W5)
  obtain ⟨T8, h8, L'8, X8, e8, W8, Fw8, O8, K8, N8, st8⟩ := own_put X5 hx hZ hown (host := "") (Or.inl (hw _ m71)) Via.refl e5 O5 K5 N5 g6 (Or.inl (List.mem_of_getElem? (i := 0) rfl)) f6 f7 (Or.inr ⟨(hw _ m72), rfl, hnm⟩) (hw _ m44) (ty := (.object z2)) (by decide) rfl rfl (g := (mkF m 16 #[.val (.ref a1), .val (.ref w14), .val (.ref a2), .val (.ref w0), .val (.ref a3)] [(.ref w0), (.ref a1)])) rfl rfl (hb hby d2_16)
  have f9 : Fld Z h8 a1 z0 "errorCode" z8 .null := (((F5.other W2 (Or.inr (slot_ne (Or.inr (hw _ m74)) (Or.inr (hw _ m68)) (by decide) (t := (.object z3)) (t' := (.object z1)) (by decide) (by decide)))).other W5 (Or.inr (slot_ne (Or.inr (hw _ m74)) (Or.inr (hw _ m70)) (by decide) (t := (.object z3)) (t' := (.object z3)) (by decide) (by decide)))).other W8 (Or.inr (slot_ne (Or.inr (hw _ m74)) (Or.inr (hw _ m72)) (by decide) (t := (.object z3)) (t' := (.object z2)) (by decide) (by decide))))
  have f10 : Exa Z h8 a1 z0 := (f7.wr W8)
  obtain ⟨T11, h11, L'11, X11, e11, W11, Fw11, O11, K11, N11, st11⟩ := own_put X8 hx hZ hown (host := "") (Or.inl (hw _ m73)) Via.refl e8 O8 K8 N8 g6 (Or.inl (List.mem_of_getElem? (i := 0) rfl)) f9 f10 (Or.inr ⟨(hw _ m74), rfl, hnm⟩) (hw _ m44) (ty := (.object z3)) (by decide) rfl rfl (g := (mkF m 22 #[.val (.ref a1), .val (.ref w14), .val (.ref a2), .val (.ref w0), .val (.ref a3)] [(.ref a3), (.ref a1)])) rfl rfl (hb hby d2_22)
  have f12 : Fld Z h11 a1 z0 "kind" z4 (.ref w14) := (((Fw2.other W5 (Or.inr (slot_ne (Or.inr (hw _ m68)) (Or.inr (hw _ m70)) (by decide) (t := (.object z1)) (t' := (.object z3)) (by decide) (by decide)))).other W8 (Or.inr (slot_ne (Or.inr (hw _ m68)) (Or.inr (hw _ m72)) (by decide) (t := (.object z1)) (t' := (.object z2)) (by decide) (by decide)))).other W11 (Or.inr (slot_ne (Or.inr (hw _ m68)) (Or.inr (hw _ m74)) (by decide) (t := (.object z1)) (t' := (.object z3)) (by decide) (by decide))))
  have f13 : Fld Z h11 a1 z0 "limitation" z8 (.ref a2) := ((Fw5.other W8 (Or.inr (slot_ne (Or.inr (hw _ m70)) (Or.inr (hw _ m72)) (by decide) (t := (.object z3)) (t' := (.object z2)) (by decide) (by decide)))).other W11 (Or.inr (slot_ne (Or.inr (hw _ m70)) (Or.inr (hw _ m74)) (by decide) (t := (.object z3)) (t' := (.object z3)) (by decide) (by decide))))
  have f14 : Fld Z h11 a1 z0 "catcher" z5 (.ref w0) := (Fw8.other W11 (Or.inr (slot_ne (Or.inr (hw _ m72)) (Or.inr (hw _ m74)) (by decide) (t := (.object z2)) (t' := (.object z3)) (by decide) (by decide))))
  obtain ⟨fs, hr, hrun, hended, hW, hsame⟩ := X11.leave (v := none) (fun _ => rfl)
  refine ⟨_, _, pre0 _ ?_, hrun, hended, _, _, rfl, ?_, ⟨_, rfl⟩, hW, hsame.mono (by decide) (by decide)⟩
  · show Steps p.tables e below (s₁.setTop (mkF m 0 #[.val (.ref a1), .val (.ref w14), .val (.ref a2), .val (.ref w0), .val (.ref a3)] [])) _
    refine XS.aloadN X0.here hx rfl (hb hby d2_0) rfl rfl ?_
    refine st1 _ ?_
    refine XS.aloadN X1.here hx rfl (hb hby d2_4) rfl rfl ?_
    refine XS.aloadN X1.here hx rfl (hb hby d2_5) rfl rfl ?_
    show Steps p.tables e below (T1.setTop (mkF m 6 #[.val (.ref a1), .val (.ref w14), .val (.ref a2), .val (.ref w0), .val (.ref a3)] [(.ref w14), (.ref a1)])) _
    refine st2 _ ?_
    refine XS.aloadN X2.here hx rfl (hb hby d2_9) rfl rfl ?_
    refine XS.aloadN X2.here hx rfl (hb hby d2_10) rfl rfl ?_
    refine st5 _ ?_
    show Steps p.tables e below (T5.setTop (mkF m 14 #[.val (.ref a1), .val (.ref w14), .val (.ref a2), .val (.ref w0), .val (.ref a3)] [])) _
    refine XS.aloadN X5.here hx rfl (hb hby d2_14) rfl rfl ?_
    refine XS.aloadN X5.here hx rfl (hb hby d2_15) rfl rfl ?_
    refine st8 _ ?_
    refine XS.aloadN X8.here hx rfl (hb hby d2_19) rfl rfl ?_
    show Steps p.tables e below (T8.setTop (mkF m 20 #[.val (.ref a1), .val (.ref w14), .val (.ref a2), .val (.ref w0), .val (.ref a3)] [(.ref a1)])) _
    refine XS.aload X8.here hx rfl (hb hby d2_20) rfl rfl ?_
    refine st11 _ ?_
    exact X11.returnOut hx Bd.returns (hb hby d2_25) hr
  · show Qrm39 Z w0 w1 w2 w3 w4 w5 w6 w7 w8 w9 w10 w11 w12 w13 w14 w15 w16 w17 a1 a2 a3 h0 n0 _ T11.heap _
    rw [e11]
    exact ⟨rfl, N11, K11, f12, f13, f14, Fw11⟩
def Qrm40 (Z : State) (w0 : Addr) (w1 : Addr) (w2 : Addr) (w3 : Addr) (w4 : Addr) (w5 : Addr) (w6 : Addr) (w7 : Addr) (w8 : Addr) (w9 : Addr) (w10 : Addr) (w11 : Addr) (w12 : Addr) (w13 : Addr) (w14 : Addr) (w15 : Addr) (w16 : Addr) (w17 : Addr) (h0 : Heap) (n0 : Nat) (v : Option Value) (h : Heap) (L : List Loc) : Prop := ∃ x0 : Addr, ∃ x1 : Addr, ∃ x2 : Addr, ∃ x3 : Addr, ∃ x4 : Addr, ∃ xk0 : ClassId, ∃ xk1 : ClassId, v = some (.ref x0) ∧ Fr n0 L ∧ Keep h0 h [] ∧ h0.size ≤ x0 ∧ Exa Z h x0 z0 ∧ Fld Z h x0 z0 "kind" z4 (.ref w14) ∧ Fld Z h x0 z0 "limitation" z8 (.ref x1) ∧ Fld Z h x0 z0 "catcher" z5 (.ref w0) ∧ Fld Z h x0 z0 "errorCode" z8 (.ref x2) ∧ Exa Z h x1 z3 ∧ Fld Z h x1 z3 "coder" "B" (.int (0 : Int32)) ∧ Fld Z h x1 z3 "value" "[B" (.ref x3) ∧ Exa Z h x2 z3 ∧ Fld Z h x2 z3 "coder" "B" (.int (0 : Int32)) ∧ Fld Z h x2 z3 "value" "[B" (.ref x4) ∧ Arv Z h x3 xk0 .byte (0 : Int32) [] (.int (0 : Int32)) ∧ Arv Z h x4 xk1 .byte (0 : Int32) [] (.int (0 : Int32))
set_option maxRecDepth 65536 in
set_option maxHeartbeats 40000000 in
theorem rm40 (l : Launch) (Z : State) (a0 : Array Value) (hw : ∀ d ∈ tables_1, d.before a0 Z = true) (hj : ∀ d ∈ jdkStatics_1, d.before a0 Z = true) (w0 : Addr) (w1 : Addr) (w2 : Addr) (w3 : Addr) (w4 : Addr) (w5 : Addr) (w6 : Addr) (w7 : Addr) (w8 : Addr) (w9 : Addr) (w10 : Addr) (w11 : Addr) (w12 : Addr) (w13 : Addr) (w14 : Addr) (w15 : Addr) (w16 : Addr) (w17 : Addr) (hS : SF Z w0 w1 w2 w3 w4 w5 w6 w7 w8 w9 w10 w11 w12 w13 w14 w15 w16 w17) (ws : List Jvm.Cond) (h0 : Heap) (n0 : Nat) (O0 : Old Z n0 h0) :
    MetFree l (⟨z0, "runs", z7⟩ : MethodName) (head1 (Jvm.Cond.code (⟨z0, "runs", z7⟩ : MethodName) prog_27_method_2_code 1 (some (.object z0)) :: ws) ({ frames := 3, cells := 5, slots := 12, locals := 41 } : Room)) (fun a U => a = #[(.ref w14)] ∧ Z.Warmed39 U.vm ∧ U.heap = h0 ∧ CHv Z EL U.vm h0 ∧ ∀ x ∈ ([] : List Addr), Safe Z EL U.vm h0 x) (fun _ _ _ _ _ => True) (fun _ U o U' => ∃ v L, o = .returned v ∧ Qrm40 Z w0 w1 w2 w3 w4 w5 w6 w7 w8 w9 w10 w11 w12 w13 w14 w15 w16 w17 h0 n0 v U'.heap L ∧ CHr Z EL U.vm U.heap U'.vm U'.heap ∧ ReturnedEndW U o U' L ({ frames := 3, cells := 5, slots := 12, locals := 41 } : Room).cells ({ frames := 3, cells := 5, slots := 12, locals := 41 } : Room).slots) := by
  refine MetFree.of_bodySF (plainFor_of_name pn72) hisR ?_
  intro p e s m args below meth c s₁ Bd hml0 hP hK
  obtain ⟨rfl, hZ, hh, H0, hsx⟩ := hP
  have hx := Bd.exec
  have hby := Bd.bytes
  have hml : c.maxLocals = 1 := hml0
  have hown : s.vm.findClass z0 = some m.cls := findClass_of_methodNamed Bd.named
  have hnm := (name_of_methodNamed Bd.named Bd.method).1
  have X0 : Stand p l e ({ frames := 3, cells := 5, slots := 12, locals := 41 } : Room) (s.setVm s.vm) m #[(.ref w14)] below meth c s₁ [] 0 0 := Stand.of_body Bd
  have e0 : s₁.heap = h0 := by rw [← hh, Bd.state]; rfl
  have N0 := Fr.nil n0
  have pre0 : ∀ t, Steps p.tables e below (s₁.setTop (mkF m 0 #[.val (.ref w14)] [])) t → Steps p.tables e below (s₁.setTop (entryFrame m #[(.ref w14)] 1)) t := fun t k => castTop (ef48 m w14) k
  have hS0 : s.Since s.vm h0.size := (State.WarmedH.refl s).since _
  have C0 : CHr Z EL s.vm h0 s.vm h0 := CHr.refl H0
  obtain ⟨T1, h1, b1, X1, e1, E1, A1, D1, g1, O1, K1, st1⟩ := own_newO X0 hx hZ hown (hw _ m43) (hw _ m44) (hw _ m41) e0 O0 (Keep.refl h0 []) (g := (mkF m 0 #[.val (.ref w14)] [])) rfl (hb hby d1_0) (by decide) (by decide)
  have C1 := C0.trans (CHr.ext E1 C0.1)
  have F1_1 : Fld Z h1 b1 z0 "kind" z4 .null := D1 (Or.inr (hw _ m68)) (ty := (.object z1)) (by decide)
  have F1_2 : Fld Z h1 b1 z0 "limitation" z8 .null := D1 (Or.inr (hw _ m70)) (ty := (.object z3)) (by decide)
  have F1_3 : Fld Z h1 b1 z0 "catcher" z5 .null := D1 (Or.inr (hw _ m72)) (ty := (.object z2)) (by decide)
  have F1_4 : Fld Z h1 b1 z0 "errorCode" z8 .null := D1 (Or.inr (hw _ m74)) (ty := (.object z3)) (by decide)
  obtain ⟨sa2, T2, h2, k12, sb2, k2, X2, e2, E2, hS2, hk2, hZ2, hown2, A2, Fc2, Fv2, V2, la2, lb2, Cq2, -, hn2, st2⟩ := ldcCH X1 hx hZ hown (hw _ m45) (own_str hw hj) e1 hS0 (Nat.le_trans (Nat.le_refl _) E1.1) (own_EW hw hj) (List.mem_of_getElem? (i := 0) rfl) C1.1 (vs := []) (z := (0 : Int32)) ⟨by decide, by decide⟩ (by decide) (by decide) (g := (mkF m 5 #[.val (.ref w14)] [(.ref w14), (.ref b1), (.ref b1)])) rfl (hb hby d1_5) (n := 0) (by decide) (by decide) (by decide) (by decide)
  have O2 : Old Z n0 h2 := O1.ext E2
  have K2 : Keep h0 h2 [] := K1.ext E2
  have C2 := C1.trans Cq2
  obtain ⟨T3, X3, e3, st3⟩ := getS2 X2 hx hZ2 hown2 (host := "") (Or.inl (hw _ m53)) Via.refl e2 (hS.1.ext O2.2) (g := (mkF m 7 #[.val (.ref w14)] [(.ref sa2), (.ref w14), (.ref b1), (.ref b1)])) rfl (hb hby d1_7)
  obtain ⟨sa4, T4, h4, k14, sb4, k4, X4, e4, E4, hS4, hk4, hZ4, hown4, A4, Fc4, Fv4, V4, la4, lb4, Cq4, -, hn4, st4⟩ := ldcCH X3 hx hZ2 hown2 (hw _ m45) (own_str hw hj) e3 hS2 hk2 (own_EW hw hj) (List.mem_of_getElem? (i := 0) rfl) C2.1 (vs := []) (z := (0 : Int32)) ⟨by decide, by decide⟩ (by decide) (by decide) (g := (mkF m 10 #[.val (.ref w14)] [(.ref w0), (.ref sa2), (.ref w14), (.ref b1), (.ref b1)])) rfl (hb hby d1_10) (n := 0) (by decide) (by decide) (by decide) (by decide)
  have O4 : Old Z n0 h4 := O2.ext E4
  have K4 : Keep h0 h4 [] := K2.ext E4
  have C4 := C2.trans Cq4
  have f6 : Exa Z h4 b1 z0 := ((A1.ext E2).ext E4)
  have f7 : Fld Z h4 b1 z0 "kind" z4 .null := ((F1_1.ext E2).ext E4)
  have f8 : Fld Z h4 b1 z0 "limitation" z8 .null := ((F1_2.ext E2).ext E4)
  have f9 : Fld Z h4 b1 z0 "catcher" z5 .null := ((F1_3.ext E2).ext E4)
  have f10 : Fld Z h4 b1 z0 "errorCode" z8 .null := ((F1_4.ext E2).ext E4)
  have sf5 := ((sfS (Safe.exa (EL := EL) hZ4.alike f6 (by decide) (by decide)) sf0) : ∀ x ∈ [b1], Safe Z EL T4.vm h4 x)
  obtain ⟨_, T5, L5, hQ5, X5, st5⟩ := own_special X4 hx hZ4 (W := 1) rfl hown4 (hw _ m56) (hw _ m57) (hw _ m41) (hw _ m58) (by decide) (rm39 l Z a0 hw hj w0 w1 w2 w3 w4 w5 w6 w7 w8 w9 w10 w11 w12 w13 w14 w15 w16 w17 hS [] b1 sa2 sa4 h4 n0 O4 f6 f7 f8 f9 f10 (Nat.le_trans (own_old_le O0) g1)) e4 (a := b1) (g := (mkF m 12 #[.val (.ref w14)] [(.ref sa4), (.ref w0), (.ref sa2), (.ref w14), (.ref b1), (.ref b1)])) rfl (by rw [hml]; rfl) (argsL := [(.ref w14), (.ref sa2), (.ref w0), (.ref sa4)]) (rest := [(.ref b1)]) (lenOf pd74 rfl) rfl rfl (by show 2 * 0 + _ ≤ _; exact Nat.le_of_eq rfl) (hb hby d1_12) (by decide) (by decide) (by decide) (by decide)
  obtain ⟨rfl, N5q, Kq5, q5_0, q5_1, q5_2, q5_3⟩ := hQ5
  have N5 := Fr.app N0 N5q
  have C5 := C4.trans (CHr.keep Kq5 sf5 C4.1)
  have O5 : Old Z n0 T5.heap := O4.keep Kq5 (allS (Nat.le_trans (own_old_le O0) g1) all0)
  have K5 : Keep h0 T5.heap [] := K4.trans Kq5 (allS (Or.inr (Nat.le_trans (Keep.refl h0 []).1 g1)) all0)
  have f11 : Exa Z T5.heap b1 z0 := (f6.keep Kq5)
  have f12 : Exa Z T5.heap sa2 z3 := ((A2.ext E4).keep Kq5)
  have f13 : Fld Z T5.heap sa2 z3 "coder" "B" (.int (0 : Int32)) := ((Fc2.ext E4).keep Kq5 (ninS (ne_exa A2 (A1.ext E2) (by decide)) nin0))
  have f14 : Fld Z T5.heap sa2 z3 "value" "[B" (.ref sb2) := ((Fv2.ext E4).keep Kq5 (ninS (ne_exa A2 (A1.ext E2) (by decide)) nin0))
  have f15 : Exa Z T5.heap sa4 z3 := (A4.keep Kq5)
  have f16 : Fld Z T5.heap sa4 z3 "coder" "B" (.int (0 : Int32)) := (Fc4.keep Kq5 (ninS (ne_exa A4 f6 (by decide)) nin0))
  have f17 : Fld Z T5.heap sa4 z3 "value" "[B" (.ref sb4) := (Fv4.keep Kq5 (ninS (ne_exa A4 f6 (by decide)) nin0))
  have f18 : Arv Z T5.heap sb2 k2 .byte (0 : Int32) [] (.int (0 : Int32)) := ((V2.ext E4).keep Kq5 (ninS (Ne.symm (Exa.neArv (A1.ext E2) V2 (hw _ m44))) nin0))
  have f19 : Arv Z T5.heap sb4 k4 .byte (0 : Int32) [] (.int (0 : Int32)) := (V4.keep Kq5 (ninS (Ne.symm (Exa.neArv f6 V4 (hw _ m44))) nin0))
  obtain ⟨fs, hr, hrun, hended, hRW⟩ := X5.leaveW hS4 (by rw [(rfl : T5.heap = T5.heap)]; exact (Nat.le_trans hk4 Kq5.1)) (v := some (.ref b1)) (fun h => by rw [Bd.returns] at h; cases h)
  refine ⟨_, _, pre0 _ ?_, hrun, hended, _, _, rfl, ?_, ?_, hRW⟩
  · show Steps p.tables e below (s₁.setTop (mkF m 0 #[.val (.ref w14)] [])) _
    refine st1 _ ?_
    refine XS.dup X1.here hx rfl (hb hby d1_3) rfl rfl ?_
    refine XS.aloadN X1.here hx rfl (hb hby d1_4) rfl rfl ?_
    refine st2 _ ?_
    show Steps p.tables e below (T2.setTop (mkF m 7 #[.val (.ref w14)] [(.ref sa2), (.ref w14), (.ref b1), (.ref b1)])) _
    refine st3 _ ?_
    refine st4 _ ?_
    refine st5 _ ?_
    exact retOut X5 hx Bd.returns rfl (Or.inr (Or.inr (Or.inr (Or.inr ⟨rfl, rfl, rfl⟩)))) (hb hby d1_15) hr
  · show Qrm40 Z w0 w1 w2 w3 w4 w5 w6 w7 w8 w9 w10 w11 w12 w13 w14 w15 w16 w17 h0 n0 _ T5.heap _
    exact ⟨b1, sa2, sa4, sb2, sb4, k2, k4, rfl, N5, K5, (Nat.le_trans (Keep.refl h0 []).1 g1), f11, q5_0, q5_1, q5_2, q5_3, f12, f13, f14, f15, f16, f17, f18, f19⟩
  · show CHr Z EL _ _ T5.vm T5.heap
    exact own_chr (by rw [← hh]) (rfl : T5.heap = T5.heap) (C5.trans (CHv.at X5 hZ4 (own_EW hw hj) C5.1))
def Qrm41 (Z : State) (w0 : Addr) (w1 : Addr) (w2 : Addr) (w3 : Addr) (w4 : Addr) (w5 : Addr) (w6 : Addr) (w7 : Addr) (w8 : Addr) (w9 : Addr) (w10 : Addr) (w11 : Addr) (w12 : Addr) (w13 : Addr) (w14 : Addr) (w15 : Addr) (w16 : Addr) (w17 : Addr) (a1 : Addr) (h0 : Heap) (n0 : Nat) (v : Option Value) (h : Heap) (L : List Loc) : Prop := v = some (.ref w14) ∧ Fr n0 L ∧ h = h0
set_option maxRecDepth 65536 in
set_option maxHeartbeats 40000000 in
theorem rm41 (l : Launch) (Z : State) (a0 : Array Value) (hw : ∀ d ∈ tables_1, d.before a0 Z = true) (hj : ∀ d ∈ jdkStatics_1, d.before a0 Z = true) (w0 : Addr) (w1 : Addr) (w2 : Addr) (w3 : Addr) (w4 : Addr) (w5 : Addr) (w6 : Addr) (w7 : Addr) (w8 : Addr) (w9 : Addr) (w10 : Addr) (w11 : Addr) (w12 : Addr) (w13 : Addr) (w14 : Addr) (w15 : Addr) (w16 : Addr) (w17 : Addr) (hS : SF Z w0 w1 w2 w3 w4 w5 w6 w7 w8 w9 w10 w11 w12 w13 w14 w15 w16 w17) (ws : List Jvm.Cond) (a1 : Addr) (h0 : Heap) (n0 : Nat) (O0 : Old Z n0 h0) (F1 : Fld Z h0 a1 z0 "kind" z4 (.ref w14)) :
    MetFree l (⟨z0, "kind", z9⟩ : MethodName) (head1 (Jvm.Cond.code (⟨z0, "kind", z9⟩ : MethodName) prog_27_method_7_code 1 (some (.object z1)) :: ws) ({ frames := 0, cells := 0, slots := 0, locals := 0 } : Room)) (fun a U => a = #[(.ref a1)] ∧ Z.Warmed39 U.vm ∧ U.heap = h0) (fun _ _ _ _ _ => True) (fun _ U o U' => ∃ v L, o = .returned v ∧ Qrm41 Z w0 w1 w2 w3 w4 w5 w6 w7 w8 w9 w10 w11 w12 w13 w14 w15 w16 w17 a1 h0 n0 v U'.heap L ∧ FrameEnd U o U' L ({ frames := 0, cells := 0, slots := 0, locals := 0 } : Room).cells ({ frames := 0, cells := 0, slots := 0, locals := 0 } : Room).slots) := by
  refine MetFree.of_bodySF (plainFor_of_name pn72) hisR ?_
  intro p e s m args below meth c s₁ Bd hml0 hP hK
  obtain ⟨rfl, hZ, hh⟩ := hP
  have hx := Bd.exec
  have hby := Bd.bytes
  have hml : c.maxLocals = 1 := hml0
  have hown : s.vm.findClass z0 = some m.cls := findClass_of_methodNamed Bd.named
  have hnm := (name_of_methodNamed Bd.named Bd.method).1
  have X0 : Stand p l e ({ frames := 0, cells := 0, slots := 0, locals := 0 } : Room) s m #[(.ref a1)] below meth c s₁ [] 0 0 := Stand.of_body Bd
  have e0 : s₁.heap = h0 := by rw [← hh, Bd.state]; rfl
  have N0 := Fr.nil n0
  have pre0 : ∀ t, Steps p.tables e below (s₁.setTop (mkF m 0 #[.val (.ref a1)] [])) t → Steps p.tables e below (s₁.setTop (entryFrame m #[(.ref a1)] 1)) t := fun t k => castTop (ef48 m a1) k
  obtain ⟨T1, X1, e1, st1⟩ := getF X0 hx hZ hown (host := "") (Or.inl (hw _ m67)) Via.refl e0 F1 (g := (mkF m 1 #[.val (.ref a1)] [(.ref a1)])) rfl rfl (hb hby d5_1)
  obtain ⟨fs, hr, hrun, hended, hW, hsame⟩ := X1.leave (v := some (.ref w14)) (fun h => by rw [Bd.returns] at h; cases h)
  refine ⟨_, _, pre0 _ ?_, hrun, hended, _, _, rfl, ?_, ⟨_, rfl⟩, hW, hsame.mono (by decide) (by decide)⟩
  · show Steps p.tables e below (s₁.setTop (mkF m 0 #[.val (.ref a1)] [])) _
    refine XS.aloadN X0.here hx rfl (hb hby d5_0) rfl rfl ?_
    refine st1 _ ?_
    exact retOut X1 hx Bd.returns rfl (Or.inr (Or.inr (Or.inr (Or.inr ⟨rfl, rfl, rfl⟩)))) (hb hby d5_4) hr
  · show Qrm41 Z w0 w1 w2 w3 w4 w5 w6 w7 w8 w9 w10 w11 w12 w13 w14 w15 w16 w17 a1 h0 n0 _ T1.heap _
    rw [e1]
    exact ⟨rfl, N0, rfl⟩
def Qrm42 (Z : State) (w0 : Addr) (w1 : Addr) (w2 : Addr) (w3 : Addr) (w4 : Addr) (w5 : Addr) (w6 : Addr) (w7 : Addr) (w8 : Addr) (w9 : Addr) (w10 : Addr) (w11 : Addr) (w12 : Addr) (w13 : Addr) (w14 : Addr) (w15 : Addr) (w16 : Addr) (w17 : Addr) (a1 : Addr) (a2 : Addr) (a3 : Addr) (h0 : Heap) (n0 : Nat) (v : Option Value) (h : Heap) (L : List Loc) : Prop := v = none ∧ Fr n0 L ∧ Keep h0 h [a1] ∧ Fld Z h a1 z0 "kind" z4 (.ref w1) ∧ Fld Z h a1 z0 "limitation" z8 (.ref a2) ∧ Fld Z h a1 z0 "catcher" z5 (.ref w0) ∧ Fld Z h a1 z0 "errorCode" z8 (.ref a3)
set_option maxRecDepth 65536 in
set_option maxHeartbeats 40000000 in
theorem rm42 (l : Launch) (Z : State) (a0 : Array Value) (hw : ∀ d ∈ tables_1, d.before a0 Z = true) (hj : ∀ d ∈ jdkStatics_1, d.before a0 Z = true) (w0 : Addr) (w1 : Addr) (w2 : Addr) (w3 : Addr) (w4 : Addr) (w5 : Addr) (w6 : Addr) (w7 : Addr) (w8 : Addr) (w9 : Addr) (w10 : Addr) (w11 : Addr) (w12 : Addr) (w13 : Addr) (w14 : Addr) (w15 : Addr) (w16 : Addr) (w17 : Addr) (hS : SF Z w0 w1 w2 w3 w4 w5 w6 w7 w8 w9 w10 w11 w12 w13 w14 w15 w16 w17) (ws : List Jvm.Cond) (a1 : Addr) (a2 : Addr) (a3 : Addr) (h0 : Heap) (n0 : Nat) (O0 : Old Z n0 h0) (E1 : Exa Z h0 a1 z0) (F2 : Fld Z h0 a1 z0 "kind" z4 .null) (F3 : Fld Z h0 a1 z0 "limitation" z8 .null) (F4 : Fld Z h0 a1 z0 "catcher" z5 .null) (F5 : Fld Z h0 a1 z0 "errorCode" z8 .null) (g6 : n0 ≤ a1) :
    MetFree l (⟨z0, "<init>", z6⟩ : MethodName) (head1 (Jvm.Cond.code (⟨z0, "<init>", z6⟩ : MethodName) prog_27_method_1_code 5 none :: ws) ({ frames := 2, cells := 0, slots := 0, locals := 24 } : Room)) (fun a U => a = #[(.ref a1), (.ref w1), (.ref a2), (.ref w0), (.ref a3)] ∧ Z.Warmed39 U.vm ∧ U.heap = h0) (fun _ _ _ _ _ => True) (fun _ U o U' => ∃ v L, o = .returned v ∧ Qrm42 Z w0 w1 w2 w3 w4 w5 w6 w7 w8 w9 w10 w11 w12 w13 w14 w15 w16 w17 a1 a2 a3 h0 n0 v U'.heap L ∧ FrameEnd U o U' L ({ frames := 2, cells := 0, slots := 0, locals := 24 } : Room).cells ({ frames := 2, cells := 0, slots := 0, locals := 24 } : Room).slots) := by
  refine MetFree.of_bodySF (plainFor_of_name pn72) hisR ?_
  intro p e s m args below meth c s₁ Bd hml0 hP hK
  obtain ⟨rfl, hZ, hh⟩ := hP
  have hx := Bd.exec
  have hby := Bd.bytes
  have hml : c.maxLocals = 5 := hml0
  have hown : s.vm.findClass z0 = some m.cls := findClass_of_methodNamed Bd.named
  have hnm := (name_of_methodNamed Bd.named Bd.method).1
  have X0 : Stand p l e ({ frames := 2, cells := 0, slots := 0, locals := 24 } : Room) s m #[(.ref a1), (.ref w1), (.ref a2), (.ref w0), (.ref a3)] below meth c s₁ [] 0 0 := Stand.of_body Bd
  have e0 : s₁.heap = h0 := by rw [← hh, Bd.state]; rfl
  have N0 := Fr.nil n0
  have pre0 : ∀ t, Steps p.tables e below (s₁.setTop (mkF m 0 #[.val (.ref a1), .val (.ref w1), .val (.ref a2), .val (.ref w0), .val (.ref a3)] [])) t → Steps p.tables e below (s₁.setTop (entryFrame m #[(.ref a1), (.ref w1), (.ref a2), (.ref w0), (.ref a3)] 5)) t := fun t k => castTop (ef71 m a1 w1 a2 w0 a3) k
  obtain ⟨_, T1, L1, hQ1, X1, st1⟩ := own_special X0 hx hZ (W := 0) rfl hown (hw _ m59) (hw _ m60) (hw _ m62) (hw _ m63) (by decide) (rm1 l Z a0 hw hj w0 w1 w2 w3 w4 w5 w6 w7 w8 w9 w10 w11 w12 w13 w14 w15 w16 w17 hS [] a1 h0 n0 O0) e0 (a := a1) (g := (mkF m 1 #[.val (.ref a1), .val (.ref w1), .val (.ref a2), .val (.ref w0), .val (.ref a3)] [(.ref a1)])) rfl (by rw [hml]; rfl) (argsL := []) (rest := []) (lenOf pd52 rfl) rfl rfl (by show 2 * 0 + _ ≤ _; exact Nat.le_of_eq rfl) (hb hby d2_1) (by decide) (by decide) (by decide) (by decide)
  obtain ⟨rfl, N1q, e1⟩ := hQ1
  have N1 := Fr.app N0 N1q
  have e1' : T1.heap = h0 := e1
  obtain ⟨T2, h2, L'2, X2, e2, W2, Fw2, O2, K2, N2, st2⟩ := own_put X1 hx hZ hown (host := "") (Or.inl (hw _ m67)) Via.refl e1' O0 (Keep.refl h0 [a1]) N1 g6 (Or.inl (List.mem_of_getElem? (i := 0) rfl)) F2 E1 (Or.inr ⟨(hw _ m68), rfl, hnm⟩) (hw _ m44) (ty := (.object z1)) (by decide) rfl rfl (g := (mkF m 6 #[.val (.ref a1), .val (.ref w1), .val (.ref a2), .val (.ref w0), .val (.ref a3)] [(.ref w1), (.ref a1)])) rfl rfl (hb hby d2_6)
  have f3 : Fld Z h2 a1 z0 "limitation" z8 .null := (F3.other W2 (Or.inr (slot_ne (Or.inr (hw _ m70)) (Or.inr (hw _ m68)) (by decide) (t := (.object z3)) (t' := (.object z1)) (by decide) (by decide))))
  have f4 : Exa Z h2 a1 z0 := (E1.wr W2)
  obtain ⟨T5, h5, L'5, X5, e5, W5, Fw5, O5, K5, N5, st5⟩ := own_put X2 hx hZ hown (host := "") (Or.inl (hw _ m69)) Via.refl e2 O2 K2 N2 g6 (Or.inl (List.mem_of_getElem? (i := 0) rfl)) f3 f4 (Or.inr ⟨(hw _ m70), rfl, hnm⟩) (hw _ m44) (ty := (.object z3)) (by decide) rfl rfl (g := (mkF m 11 #[.val (.ref a1), .val (.ref w1), .val (.ref a2), .val (.ref w0), .val (.ref a3)] [(.ref a2), (.ref a1)])) rfl rfl (hb hby d2_11)
  have f6 : Fld Z h5 a1 z0 "catcher" z5 .null := ((F4.other W2 (Or.inr (slot_ne (Or.inr (hw _ m72)) (Or.inr (hw _ m68)) (by decide) (t := (.object z2)) (t' := (.object z1)) (by decide) (by decide)))).other W5 (Or.inr (slot_ne (Or.inr (hw _ m72)) (Or.inr (hw _ m70)) (by decide) (t := (.object z2)) (t' := (.object z3)) (by decide) (by decide))))
  have f7 : Exa Z h5 a1 z0 := (f4.wr W5)
  obtain ⟨T8, h8, L'8, X8, e8, W8, Fw8, O8, K8, N8, st8⟩ := own_put X5 hx hZ hown (host := "") (Or.inl (hw _ m71)) Via.refl e5 O5 K5 N5 g6 (Or.inl (List.mem_of_getElem? (i := 0) rfl)) f6 f7 (Or.inr ⟨(hw _ m72), rfl, hnm⟩) (hw _ m44) (ty := (.object z2)) (by decide) rfl rfl (g := (mkF m 16 #[.val (.ref a1), .val (.ref w1), .val (.ref a2), .val (.ref w0), .val (.ref a3)] [(.ref w0), (.ref a1)])) rfl rfl (hb hby d2_16)
  have f9 : Fld Z h8 a1 z0 "errorCode" z8 .null := (((F5.other W2 (Or.inr (slot_ne (Or.inr (hw _ m74)) (Or.inr (hw _ m68)) (by decide) (t := (.object z3)) (t' := (.object z1)) (by decide) (by decide)))).other W5 (Or.inr (slot_ne (Or.inr (hw _ m74)) (Or.inr (hw _ m70)) (by decide) (t := (.object z3)) (t' := (.object z3)) (by decide) (by decide)))).other W8 (Or.inr (slot_ne (Or.inr (hw _ m74)) (Or.inr (hw _ m72)) (by decide) (t := (.object z3)) (t' := (.object z2)) (by decide) (by decide))))
  have f10 : Exa Z h8 a1 z0 := (f7.wr W8)
  obtain ⟨T11, h11, L'11, X11, e11, W11, Fw11, O11, K11, N11, st11⟩ := own_put X8 hx hZ hown (host := "") (Or.inl (hw _ m73)) Via.refl e8 O8 K8 N8 g6 (Or.inl (List.mem_of_getElem? (i := 0) rfl)) f9 f10 (Or.inr ⟨(hw _ m74), rfl, hnm⟩) (hw _ m44) (ty := (.object z3)) (by decide) rfl rfl (g := (mkF m 22 #[.val (.ref a1), .val (.ref w1), .val (.ref a2), .val (.ref w0), .val (.ref a3)] [(.ref a3), (.ref a1)])) rfl rfl (hb hby d2_22)
  have f12 : Fld Z h11 a1 z0 "kind" z4 (.ref w1) := (((Fw2.other W5 (Or.inr (slot_ne (Or.inr (hw _ m68)) (Or.inr (hw _ m70)) (by decide) (t := (.object z1)) (t' := (.object z3)) (by decide) (by decide)))).other W8 (Or.inr (slot_ne (Or.inr (hw _ m68)) (Or.inr (hw _ m72)) (by decide) (t := (.object z1)) (t' := (.object z2)) (by decide) (by decide)))).other W11 (Or.inr (slot_ne (Or.inr (hw _ m68)) (Or.inr (hw _ m74)) (by decide) (t := (.object z1)) (t' := (.object z3)) (by decide) (by decide))))
  have f13 : Fld Z h11 a1 z0 "limitation" z8 (.ref a2) := ((Fw5.other W8 (Or.inr (slot_ne (Or.inr (hw _ m70)) (Or.inr (hw _ m72)) (by decide) (t := (.object z3)) (t' := (.object z2)) (by decide) (by decide)))).other W11 (Or.inr (slot_ne (Or.inr (hw _ m70)) (Or.inr (hw _ m74)) (by decide) (t := (.object z3)) (t' := (.object z3)) (by decide) (by decide))))
  have f14 : Fld Z h11 a1 z0 "catcher" z5 (.ref w0) := (Fw8.other W11 (Or.inr (slot_ne (Or.inr (hw _ m72)) (Or.inr (hw _ m74)) (by decide) (t := (.object z2)) (t' := (.object z3)) (by decide) (by decide))))
  obtain ⟨fs, hr, hrun, hended, hW, hsame⟩ := X11.leave (v := none) (fun _ => rfl)
  refine ⟨_, _, pre0 _ ?_, hrun, hended, _, _, rfl, ?_, ⟨_, rfl⟩, hW, hsame.mono (by decide) (by decide)⟩
  · show Steps p.tables e below (s₁.setTop (mkF m 0 #[.val (.ref a1), .val (.ref w1), .val (.ref a2), .val (.ref w0), .val (.ref a3)] [])) _
    refine XS.aloadN X0.here hx rfl (hb hby d2_0) rfl rfl ?_
    refine st1 _ ?_
    refine XS.aloadN X1.here hx rfl (hb hby d2_4) rfl rfl ?_
    refine XS.aloadN X1.here hx rfl (hb hby d2_5) rfl rfl ?_
    show Steps p.tables e below (T1.setTop (mkF m 6 #[.val (.ref a1), .val (.ref w1), .val (.ref a2), .val (.ref w0), .val (.ref a3)] [(.ref w1), (.ref a1)])) _
    refine st2 _ ?_
    refine XS.aloadN X2.here hx rfl (hb hby d2_9) rfl rfl ?_
    refine XS.aloadN X2.here hx rfl (hb hby d2_10) rfl rfl ?_
    refine st5 _ ?_
    show Steps p.tables e below (T5.setTop (mkF m 14 #[.val (.ref a1), .val (.ref w1), .val (.ref a2), .val (.ref w0), .val (.ref a3)] [])) _
    refine XS.aloadN X5.here hx rfl (hb hby d2_14) rfl rfl ?_
    refine XS.aloadN X5.here hx rfl (hb hby d2_15) rfl rfl ?_
    refine st8 _ ?_
    refine XS.aloadN X8.here hx rfl (hb hby d2_19) rfl rfl ?_
    show Steps p.tables e below (T8.setTop (mkF m 20 #[.val (.ref a1), .val (.ref w1), .val (.ref a2), .val (.ref w0), .val (.ref a3)] [(.ref a1)])) _
    refine XS.aload X8.here hx rfl (hb hby d2_20) rfl rfl ?_
    refine st11 _ ?_
    exact X11.returnOut hx Bd.returns (hb hby d2_25) hr
  · show Qrm42 Z w0 w1 w2 w3 w4 w5 w6 w7 w8 w9 w10 w11 w12 w13 w14 w15 w16 w17 a1 a2 a3 h0 n0 _ T11.heap _
    rw [e11]
    exact ⟨rfl, N11, K11, f12, f13, f14, Fw11⟩
def Qrm43 (Z : State) (w0 : Addr) (w1 : Addr) (w2 : Addr) (w3 : Addr) (w4 : Addr) (w5 : Addr) (w6 : Addr) (w7 : Addr) (w8 : Addr) (w9 : Addr) (w10 : Addr) (w11 : Addr) (w12 : Addr) (w13 : Addr) (w14 : Addr) (w15 : Addr) (w16 : Addr) (w17 : Addr) (h0 : Heap) (n0 : Nat) (v : Option Value) (h : Heap) (L : List Loc) : Prop := ∃ x0 : Addr, ∃ x1 : Addr, ∃ x2 : Addr, ∃ x3 : Addr, ∃ x4 : Addr, ∃ xk0 : ClassId, ∃ xk1 : ClassId, v = some (.ref x0) ∧ Fr n0 L ∧ Keep h0 h [] ∧ h0.size ≤ x0 ∧ Exa Z h x0 z0 ∧ Fld Z h x0 z0 "kind" z4 (.ref w1) ∧ Fld Z h x0 z0 "limitation" z8 (.ref x1) ∧ Fld Z h x0 z0 "catcher" z5 (.ref w0) ∧ Fld Z h x0 z0 "errorCode" z8 (.ref x2) ∧ Exa Z h x1 z3 ∧ Fld Z h x1 z3 "coder" "B" (.int (0 : Int32)) ∧ Fld Z h x1 z3 "value" "[B" (.ref x3) ∧ Exa Z h x2 z3 ∧ Fld Z h x2 z3 "coder" "B" (.int (0 : Int32)) ∧ Fld Z h x2 z3 "value" "[B" (.ref x4) ∧ Arv Z h x3 xk0 .byte (0 : Int32) [] (.int (0 : Int32)) ∧ Arv Z h x4 xk1 .byte (0 : Int32) [] (.int (0 : Int32))
set_option maxRecDepth 65536 in
set_option maxHeartbeats 40000000 in
theorem rm43 (l : Launch) (Z : State) (a0 : Array Value) (hw : ∀ d ∈ tables_1, d.before a0 Z = true) (hj : ∀ d ∈ jdkStatics_1, d.before a0 Z = true) (w0 : Addr) (w1 : Addr) (w2 : Addr) (w3 : Addr) (w4 : Addr) (w5 : Addr) (w6 : Addr) (w7 : Addr) (w8 : Addr) (w9 : Addr) (w10 : Addr) (w11 : Addr) (w12 : Addr) (w13 : Addr) (w14 : Addr) (w15 : Addr) (w16 : Addr) (w17 : Addr) (hS : SF Z w0 w1 w2 w3 w4 w5 w6 w7 w8 w9 w10 w11 w12 w13 w14 w15 w16 w17) (ws : List Jvm.Cond) (h0 : Heap) (n0 : Nat) (O0 : Old Z n0 h0) :
    MetFree l (⟨z0, "runs", z7⟩ : MethodName) (head1 (Jvm.Cond.code (⟨z0, "runs", z7⟩ : MethodName) prog_27_method_2_code 1 (some (.object z0)) :: ws) ({ frames := 3, cells := 5, slots := 12, locals := 41 } : Room)) (fun a U => a = #[(.ref w1)] ∧ Z.Warmed39 U.vm ∧ U.heap = h0 ∧ CHv Z EL U.vm h0 ∧ ∀ x ∈ ([] : List Addr), Safe Z EL U.vm h0 x) (fun _ _ _ _ _ => True) (fun _ U o U' => ∃ v L, o = .returned v ∧ Qrm43 Z w0 w1 w2 w3 w4 w5 w6 w7 w8 w9 w10 w11 w12 w13 w14 w15 w16 w17 h0 n0 v U'.heap L ∧ CHr Z EL U.vm U.heap U'.vm U'.heap ∧ ReturnedEndW U o U' L ({ frames := 3, cells := 5, slots := 12, locals := 41 } : Room).cells ({ frames := 3, cells := 5, slots := 12, locals := 41 } : Room).slots) := by
  refine MetFree.of_bodySF (plainFor_of_name pn72) hisR ?_
  intro p e s m args below meth c s₁ Bd hml0 hP hK
  obtain ⟨rfl, hZ, hh, H0, hsx⟩ := hP
  have hx := Bd.exec
  have hby := Bd.bytes
  have hml : c.maxLocals = 1 := hml0
  have hown : s.vm.findClass z0 = some m.cls := findClass_of_methodNamed Bd.named
  have hnm := (name_of_methodNamed Bd.named Bd.method).1
  have X0 : Stand p l e ({ frames := 3, cells := 5, slots := 12, locals := 41 } : Room) (s.setVm s.vm) m #[(.ref w1)] below meth c s₁ [] 0 0 := Stand.of_body Bd
  have e0 : s₁.heap = h0 := by rw [← hh, Bd.state]; rfl
  have N0 := Fr.nil n0
  have pre0 : ∀ t, Steps p.tables e below (s₁.setTop (mkF m 0 #[.val (.ref w1)] [])) t → Steps p.tables e below (s₁.setTop (entryFrame m #[(.ref w1)] 1)) t := fun t k => castTop (ef48 m w1) k
  have hS0 : s.Since s.vm h0.size := (State.WarmedH.refl s).since _
  have C0 : CHr Z EL s.vm h0 s.vm h0 := CHr.refl H0
  obtain ⟨T1, h1, b1, X1, e1, E1, A1, D1, g1, O1, K1, st1⟩ := own_newO X0 hx hZ hown (hw _ m43) (hw _ m44) (hw _ m41) e0 O0 (Keep.refl h0 []) (g := (mkF m 0 #[.val (.ref w1)] [])) rfl (hb hby d1_0) (by decide) (by decide)
  have C1 := C0.trans (CHr.ext E1 C0.1)
  have F1_1 : Fld Z h1 b1 z0 "kind" z4 .null := D1 (Or.inr (hw _ m68)) (ty := (.object z1)) (by decide)
  have F1_2 : Fld Z h1 b1 z0 "limitation" z8 .null := D1 (Or.inr (hw _ m70)) (ty := (.object z3)) (by decide)
  have F1_3 : Fld Z h1 b1 z0 "catcher" z5 .null := D1 (Or.inr (hw _ m72)) (ty := (.object z2)) (by decide)
  have F1_4 : Fld Z h1 b1 z0 "errorCode" z8 .null := D1 (Or.inr (hw _ m74)) (ty := (.object z3)) (by decide)
  obtain ⟨sa2, T2, h2, k12, sb2, k2, X2, e2, E2, hS2, hk2, hZ2, hown2, A2, Fc2, Fv2, V2, la2, lb2, Cq2, -, hn2, st2⟩ := ldcCH X1 hx hZ hown (hw _ m45) (own_str hw hj) e1 hS0 (Nat.le_trans (Nat.le_refl _) E1.1) (own_EW hw hj) (List.mem_of_getElem? (i := 0) rfl) C1.1 (vs := []) (z := (0 : Int32)) ⟨by decide, by decide⟩ (by decide) (by decide) (g := (mkF m 5 #[.val (.ref w1)] [(.ref w1), (.ref b1), (.ref b1)])) rfl (hb hby d1_5) (n := 0) (by decide) (by decide) (by decide) (by decide)
  have O2 : Old Z n0 h2 := O1.ext E2
  have K2 : Keep h0 h2 [] := K1.ext E2
  have C2 := C1.trans Cq2
  obtain ⟨T3, X3, e3, st3⟩ := getS2 X2 hx hZ2 hown2 (host := "") (Or.inl (hw _ m53)) Via.refl e2 (hS.1.ext O2.2) (g := (mkF m 7 #[.val (.ref w1)] [(.ref sa2), (.ref w1), (.ref b1), (.ref b1)])) rfl (hb hby d1_7)
  obtain ⟨sa4, T4, h4, k14, sb4, k4, X4, e4, E4, hS4, hk4, hZ4, hown4, A4, Fc4, Fv4, V4, la4, lb4, Cq4, -, hn4, st4⟩ := ldcCH X3 hx hZ2 hown2 (hw _ m45) (own_str hw hj) e3 hS2 hk2 (own_EW hw hj) (List.mem_of_getElem? (i := 0) rfl) C2.1 (vs := []) (z := (0 : Int32)) ⟨by decide, by decide⟩ (by decide) (by decide) (g := (mkF m 10 #[.val (.ref w1)] [(.ref w0), (.ref sa2), (.ref w1), (.ref b1), (.ref b1)])) rfl (hb hby d1_10) (n := 0) (by decide) (by decide) (by decide) (by decide)
  have O4 : Old Z n0 h4 := O2.ext E4
  have K4 : Keep h0 h4 [] := K2.ext E4
  have C4 := C2.trans Cq4
  have f6 : Exa Z h4 b1 z0 := ((A1.ext E2).ext E4)
  have f7 : Fld Z h4 b1 z0 "kind" z4 .null := ((F1_1.ext E2).ext E4)
  have f8 : Fld Z h4 b1 z0 "limitation" z8 .null := ((F1_2.ext E2).ext E4)
  have f9 : Fld Z h4 b1 z0 "catcher" z5 .null := ((F1_3.ext E2).ext E4)
  have f10 : Fld Z h4 b1 z0 "errorCode" z8 .null := ((F1_4.ext E2).ext E4)
  have sf5 := ((sfS (Safe.exa (EL := EL) hZ4.alike f6 (by decide) (by decide)) sf0) : ∀ x ∈ [b1], Safe Z EL T4.vm h4 x)
  obtain ⟨_, T5, L5, hQ5, X5, st5⟩ := own_special X4 hx hZ4 (W := 1) rfl hown4 (hw _ m56) (hw _ m57) (hw _ m41) (hw _ m58) (by decide) (rm42 l Z a0 hw hj w0 w1 w2 w3 w4 w5 w6 w7 w8 w9 w10 w11 w12 w13 w14 w15 w16 w17 hS [] b1 sa2 sa4 h4 n0 O4 f6 f7 f8 f9 f10 (Nat.le_trans (own_old_le O0) g1)) e4 (a := b1) (g := (mkF m 12 #[.val (.ref w1)] [(.ref sa4), (.ref w0), (.ref sa2), (.ref w1), (.ref b1), (.ref b1)])) rfl (by rw [hml]; rfl) (argsL := [(.ref w1), (.ref sa2), (.ref w0), (.ref sa4)]) (rest := [(.ref b1)]) (lenOf pd74 rfl) rfl rfl (by show 2 * 0 + _ ≤ _; exact Nat.le_of_eq rfl) (hb hby d1_12) (by decide) (by decide) (by decide) (by decide)
  obtain ⟨rfl, N5q, Kq5, q5_0, q5_1, q5_2, q5_3⟩ := hQ5
  have N5 := Fr.app N0 N5q
  have C5 := C4.trans (CHr.keep Kq5 sf5 C4.1)
  have O5 : Old Z n0 T5.heap := O4.keep Kq5 (allS (Nat.le_trans (own_old_le O0) g1) all0)
  have K5 : Keep h0 T5.heap [] := K4.trans Kq5 (allS (Or.inr (Nat.le_trans (Keep.refl h0 []).1 g1)) all0)
  have f11 : Exa Z T5.heap b1 z0 := (f6.keep Kq5)
  have f12 : Exa Z T5.heap sa2 z3 := ((A2.ext E4).keep Kq5)
  have f13 : Fld Z T5.heap sa2 z3 "coder" "B" (.int (0 : Int32)) := ((Fc2.ext E4).keep Kq5 (ninS (ne_exa A2 (A1.ext E2) (by decide)) nin0))
  have f14 : Fld Z T5.heap sa2 z3 "value" "[B" (.ref sb2) := ((Fv2.ext E4).keep Kq5 (ninS (ne_exa A2 (A1.ext E2) (by decide)) nin0))
  have f15 : Exa Z T5.heap sa4 z3 := (A4.keep Kq5)
  have f16 : Fld Z T5.heap sa4 z3 "coder" "B" (.int (0 : Int32)) := (Fc4.keep Kq5 (ninS (ne_exa A4 f6 (by decide)) nin0))
  have f17 : Fld Z T5.heap sa4 z3 "value" "[B" (.ref sb4) := (Fv4.keep Kq5 (ninS (ne_exa A4 f6 (by decide)) nin0))
  have f18 : Arv Z T5.heap sb2 k2 .byte (0 : Int32) [] (.int (0 : Int32)) := ((V2.ext E4).keep Kq5 (ninS (Ne.symm (Exa.neArv (A1.ext E2) V2 (hw _ m44))) nin0))
  have f19 : Arv Z T5.heap sb4 k4 .byte (0 : Int32) [] (.int (0 : Int32)) := (V4.keep Kq5 (ninS (Ne.symm (Exa.neArv f6 V4 (hw _ m44))) nin0))
  obtain ⟨fs, hr, hrun, hended, hRW⟩ := X5.leaveW hS4 (by rw [(rfl : T5.heap = T5.heap)]; exact (Nat.le_trans hk4 Kq5.1)) (v := some (.ref b1)) (fun h => by rw [Bd.returns] at h; cases h)
  refine ⟨_, _, pre0 _ ?_, hrun, hended, _, _, rfl, ?_, ?_, hRW⟩
  · show Steps p.tables e below (s₁.setTop (mkF m 0 #[.val (.ref w1)] [])) _
    refine st1 _ ?_
    refine XS.dup X1.here hx rfl (hb hby d1_3) rfl rfl ?_
    refine XS.aloadN X1.here hx rfl (hb hby d1_4) rfl rfl ?_
    refine st2 _ ?_
    show Steps p.tables e below (T2.setTop (mkF m 7 #[.val (.ref w1)] [(.ref sa2), (.ref w1), (.ref b1), (.ref b1)])) _
    refine st3 _ ?_
    refine st4 _ ?_
    refine st5 _ ?_
    exact retOut X5 hx Bd.returns rfl (Or.inr (Or.inr (Or.inr (Or.inr ⟨rfl, rfl, rfl⟩)))) (hb hby d1_15) hr
  · show Qrm43 Z w0 w1 w2 w3 w4 w5 w6 w7 w8 w9 w10 w11 w12 w13 w14 w15 w16 w17 h0 n0 _ T5.heap _
    exact ⟨b1, sa2, sa4, sb2, sb4, k2, k4, rfl, N5, K5, (Nat.le_trans (Keep.refl h0 []).1 g1), f11, q5_0, q5_1, q5_2, q5_3, f12, f13, f14, f15, f16, f17, f18, f19⟩
  · show CHr Z EL _ _ T5.vm T5.heap
    exact own_chr (by rw [← hh]) (rfl : T5.heap = T5.heap) (C5.trans (CHv.at X5 hZ4 (own_EW hw hj) C5.1))
def Qrm44 (Z : State) (w0 : Addr) (w1 : Addr) (w2 : Addr) (w3 : Addr) (w4 : Addr) (w5 : Addr) (w6 : Addr) (w7 : Addr) (w8 : Addr) (w9 : Addr) (w10 : Addr) (w11 : Addr) (w12 : Addr) (w13 : Addr) (w14 : Addr) (w15 : Addr) (w16 : Addr) (w17 : Addr) (a1 : Addr) (h0 : Heap) (n0 : Nat) (v : Option Value) (h : Heap) (L : List Loc) : Prop := v = some (.ref w1) ∧ Fr n0 L ∧ h = h0
set_option maxRecDepth 65536 in
set_option maxHeartbeats 40000000 in
theorem rm44 (l : Launch) (Z : State) (a0 : Array Value) (hw : ∀ d ∈ tables_1, d.before a0 Z = true) (hj : ∀ d ∈ jdkStatics_1, d.before a0 Z = true) (w0 : Addr) (w1 : Addr) (w2 : Addr) (w3 : Addr) (w4 : Addr) (w5 : Addr) (w6 : Addr) (w7 : Addr) (w8 : Addr) (w9 : Addr) (w10 : Addr) (w11 : Addr) (w12 : Addr) (w13 : Addr) (w14 : Addr) (w15 : Addr) (w16 : Addr) (w17 : Addr) (hS : SF Z w0 w1 w2 w3 w4 w5 w6 w7 w8 w9 w10 w11 w12 w13 w14 w15 w16 w17) (ws : List Jvm.Cond) (a1 : Addr) (h0 : Heap) (n0 : Nat) (O0 : Old Z n0 h0) (F1 : Fld Z h0 a1 z0 "kind" z4 (.ref w1)) :
    MetFree l (⟨z0, "kind", z9⟩ : MethodName) (head1 (Jvm.Cond.code (⟨z0, "kind", z9⟩ : MethodName) prog_27_method_7_code 1 (some (.object z1)) :: ws) ({ frames := 0, cells := 0, slots := 0, locals := 0 } : Room)) (fun a U => a = #[(.ref a1)] ∧ Z.Warmed39 U.vm ∧ U.heap = h0) (fun _ _ _ _ _ => True) (fun _ U o U' => ∃ v L, o = .returned v ∧ Qrm44 Z w0 w1 w2 w3 w4 w5 w6 w7 w8 w9 w10 w11 w12 w13 w14 w15 w16 w17 a1 h0 n0 v U'.heap L ∧ FrameEnd U o U' L ({ frames := 0, cells := 0, slots := 0, locals := 0 } : Room).cells ({ frames := 0, cells := 0, slots := 0, locals := 0 } : Room).slots) := by
  refine MetFree.of_bodySF (plainFor_of_name pn72) hisR ?_
  intro p e s m args below meth c s₁ Bd hml0 hP hK
  obtain ⟨rfl, hZ, hh⟩ := hP
  have hx := Bd.exec
  have hby := Bd.bytes
  have hml : c.maxLocals = 1 := hml0
  have hown : s.vm.findClass z0 = some m.cls := findClass_of_methodNamed Bd.named
  have hnm := (name_of_methodNamed Bd.named Bd.method).1
  have X0 : Stand p l e ({ frames := 0, cells := 0, slots := 0, locals := 0 } : Room) s m #[(.ref a1)] below meth c s₁ [] 0 0 := Stand.of_body Bd
  have e0 : s₁.heap = h0 := by rw [← hh, Bd.state]; rfl
  have N0 := Fr.nil n0
  have pre0 : ∀ t, Steps p.tables e below (s₁.setTop (mkF m 0 #[.val (.ref a1)] [])) t → Steps p.tables e below (s₁.setTop (entryFrame m #[(.ref a1)] 1)) t := fun t k => castTop (ef48 m a1) k
  obtain ⟨T1, X1, e1, st1⟩ := getF X0 hx hZ hown (host := "") (Or.inl (hw _ m67)) Via.refl e0 F1 (g := (mkF m 1 #[.val (.ref a1)] [(.ref a1)])) rfl rfl (hb hby d5_1)
  obtain ⟨fs, hr, hrun, hended, hW, hsame⟩ := X1.leave (v := some (.ref w1)) (fun h => by rw [Bd.returns] at h; cases h)
  refine ⟨_, _, pre0 _ ?_, hrun, hended, _, _, rfl, ?_, ⟨_, rfl⟩, hW, hsame.mono (by decide) (by decide)⟩
  · show Steps p.tables e below (s₁.setTop (mkF m 0 #[.val (.ref a1)] [])) _
    refine XS.aloadN X0.here hx rfl (hb hby d5_0) rfl rfl ?_
    refine st1 _ ?_
    exact retOut X1 hx Bd.returns rfl (Or.inr (Or.inr (Or.inr (Or.inr ⟨rfl, rfl, rfl⟩)))) (hb hby d5_4) hr
  · show Qrm44 Z w0 w1 w2 w3 w4 w5 w6 w7 w8 w9 w10 w11 w12 w13 w14 w15 w16 w17 a1 h0 n0 _ T1.heap _
    rw [e1]
    exact ⟨rfl, N0, rfl⟩
def Qrm45 (Z : State) (w0 : Addr) (w1 : Addr) (w2 : Addr) (w3 : Addr) (w4 : Addr) (w5 : Addr) (w6 : Addr) (w7 : Addr) (w8 : Addr) (w9 : Addr) (w10 : Addr) (w11 : Addr) (w12 : Addr) (w13 : Addr) (w14 : Addr) (w15 : Addr) (w16 : Addr) (w17 : Addr) (a1 : Addr) (a2 : Addr) (a3 : Addr) (h0 : Heap) (n0 : Nat) (v : Option Value) (h : Heap) (L : List Loc) : Prop := v = none ∧ Fr n0 L ∧ Keep h0 h [a1] ∧ Fld Z h a1 z0 "kind" z4 (.ref w5) ∧ Fld Z h a1 z0 "limitation" z8 (.ref a2) ∧ Fld Z h a1 z0 "catcher" z5 (.ref w0) ∧ Fld Z h a1 z0 "errorCode" z8 (.ref a3)
set_option maxRecDepth 65536 in
set_option maxHeartbeats 40000000 in
theorem rm45 (l : Launch) (Z : State) (a0 : Array Value) (hw : ∀ d ∈ tables_1, d.before a0 Z = true) (hj : ∀ d ∈ jdkStatics_1, d.before a0 Z = true) (w0 : Addr) (w1 : Addr) (w2 : Addr) (w3 : Addr) (w4 : Addr) (w5 : Addr) (w6 : Addr) (w7 : Addr) (w8 : Addr) (w9 : Addr) (w10 : Addr) (w11 : Addr) (w12 : Addr) (w13 : Addr) (w14 : Addr) (w15 : Addr) (w16 : Addr) (w17 : Addr) (hS : SF Z w0 w1 w2 w3 w4 w5 w6 w7 w8 w9 w10 w11 w12 w13 w14 w15 w16 w17) (ws : List Jvm.Cond) (a1 : Addr) (a2 : Addr) (a3 : Addr) (h0 : Heap) (n0 : Nat) (O0 : Old Z n0 h0) (E1 : Exa Z h0 a1 z0) (F2 : Fld Z h0 a1 z0 "kind" z4 .null) (F3 : Fld Z h0 a1 z0 "limitation" z8 .null) (F4 : Fld Z h0 a1 z0 "catcher" z5 .null) (F5 : Fld Z h0 a1 z0 "errorCode" z8 .null) (g6 : n0 ≤ a1) :
    MetFree l (⟨z0, "<init>", z6⟩ : MethodName) (head1 (Jvm.Cond.code (⟨z0, "<init>", z6⟩ : MethodName) prog_27_method_1_code 5 none :: ws) ({ frames := 2, cells := 0, slots := 0, locals := 24 } : Room)) (fun a U => a = #[(.ref a1), (.ref w5), (.ref a2), (.ref w0), (.ref a3)] ∧ Z.Warmed39 U.vm ∧ U.heap = h0) (fun _ _ _ _ _ => True) (fun _ U o U' => ∃ v L, o = .returned v ∧ Qrm45 Z w0 w1 w2 w3 w4 w5 w6 w7 w8 w9 w10 w11 w12 w13 w14 w15 w16 w17 a1 a2 a3 h0 n0 v U'.heap L ∧ FrameEnd U o U' L ({ frames := 2, cells := 0, slots := 0, locals := 24 } : Room).cells ({ frames := 2, cells := 0, slots := 0, locals := 24 } : Room).slots) := by
  refine MetFree.of_bodySF (plainFor_of_name pn72) hisR ?_
  intro p e s m args below meth c s₁ Bd hml0 hP hK
  obtain ⟨rfl, hZ, hh⟩ := hP
  have hx := Bd.exec
  have hby := Bd.bytes
  have hml : c.maxLocals = 5 := hml0
  have hown : s.vm.findClass z0 = some m.cls := findClass_of_methodNamed Bd.named
  have hnm := (name_of_methodNamed Bd.named Bd.method).1
  have X0 : Stand p l e ({ frames := 2, cells := 0, slots := 0, locals := 24 } : Room) s m #[(.ref a1), (.ref w5), (.ref a2), (.ref w0), (.ref a3)] below meth c s₁ [] 0 0 := Stand.of_body Bd
  have e0 : s₁.heap = h0 := by rw [← hh, Bd.state]; rfl
  have N0 := Fr.nil n0
  have pre0 : ∀ t, Steps p.tables e below (s₁.setTop (mkF m 0 #[.val (.ref a1), .val (.ref w5), .val (.ref a2), .val (.ref w0), .val (.ref a3)] [])) t → Steps p.tables e below (s₁.setTop (entryFrame m #[(.ref a1), (.ref w5), (.ref a2), (.ref w0), (.ref a3)] 5)) t := fun t k => castTop (ef71 m a1 w5 a2 w0 a3) k
  obtain ⟨_, T1, L1, hQ1, X1, st1⟩ := own_special X0 hx hZ (W := 0) rfl hown (hw _ m59) (hw _ m60) (hw _ m62) (hw _ m63) (by decide) (rm1 l Z a0 hw hj w0 w1 w2 w3 w4 w5 w6 w7 w8 w9 w10 w11 w12 w13 w14 w15 w16 w17 hS [] a1 h0 n0 O0) e0 (a := a1) (g := (mkF m 1 #[.val (.ref a1), .val (.ref w5), .val (.ref a2), .val (.ref w0), .val (.ref a3)] [(.ref a1)])) rfl (by rw [hml]; rfl) (argsL := []) (rest := []) (lenOf pd52 rfl) rfl rfl (by show 2 * 0 + _ ≤ _; exact Nat.le_of_eq rfl) (hb hby d2_1) (by decide) (by decide) (by decide) (by decide)
  obtain ⟨rfl, N1q, e1⟩ := hQ1
  have N1 := Fr.app N0 N1q
  have e1' : T1.heap = h0 := e1
  obtain ⟨T2, h2, L'2, X2, e2, W2, Fw2, O2, K2, N2, st2⟩ := own_put X1 hx hZ hown (host := "") (Or.inl (hw _ m67)) Via.refl e1' O0 (Keep.refl h0 [a1]) N1 g6 (Or.inl (List.mem_of_getElem? (i := 0) rfl)) F2 E1 (Or.inr ⟨(hw _ m68), rfl, hnm⟩) (hw _ m44) (ty := (.object z1)) (by decide) rfl rfl (g := (mkF m 6 #[.val (.ref a1), .val (.ref w5), .val (.ref a2), .val (.ref w0), .val (.ref a3)] [(.ref w5), (.ref a1)])) rfl rfl (hb hby d2_6)
  have f3 : Fld Z h2 a1 z0 "limitation" z8 .null := (F3.other W2 (Or.inr (slot_ne (Or.inr (hw _ m70)) (Or.inr (hw _ m68)) (by decide) (t := (.object z3)) (t' := (.object z1)) (by decide) (by decide))))
  have f4 : Exa Z h2 a1 z0 := (E1.wr W2)
  obtain ⟨T5, h5, L'5, X5, e5, W5, Fw5, O5, K5, N5, st5⟩ := own_put X2 hx hZ hown (host := "") (Or.inl (hw _ m69)) Via.refl e2 O2 K2 N2 g6 (Or.inl (List.mem_of_getElem? (i := 0) rfl)) f3 f4 (Or.inr ⟨(hw _ m70), rfl, hnm⟩) (hw _ m44) (ty := (.object z3)) (by decide) rfl rfl (g := (mkF m 11 #[.val (.ref a1), .val (.ref w5), .val (.ref a2), .val (.ref w0), .val (.ref a3)] [(.ref a2), (.ref a1)])) rfl rfl (hb hby d2_11)
  have f6 : Fld Z h5 a1 z0 "catcher" z5 .null := ((F4.other W2 (Or.inr (slot_ne (Or.inr (hw _ m72)) (Or.inr (hw _ m68)) (by decide) (t := (.object z2)) (t' := (.object z1)) (by decide) (by decide)))).other W5 (Or.inr (slot_ne (Or.inr (hw _ m72)) (Or.inr (hw _ m70)) (by decide) (t := (.object z2)) (t' := (.object z3)) (by decide) (by decide))))
  have f7 : Exa Z h5 a1 z0 := (f4.wr W5)
  obtain ⟨T8, h8, L'8, X8, e8, W8, Fw8, O8, K8, N8, st8⟩ := own_put X5 hx hZ hown (host := "") (Or.inl (hw _ m71)) Via.refl e5 O5 K5 N5 g6 (Or.inl (List.mem_of_getElem? (i := 0) rfl)) f6 f7 (Or.inr ⟨(hw _ m72), rfl, hnm⟩) (hw _ m44) (ty := (.object z2)) (by decide) rfl rfl (g := (mkF m 16 #[.val (.ref a1), .val (.ref w5), .val (.ref a2), .val (.ref w0), .val (.ref a3)] [(.ref w0), (.ref a1)])) rfl rfl (hb hby d2_16)
  have f9 : Fld Z h8 a1 z0 "errorCode" z8 .null := (((F5.other W2 (Or.inr (slot_ne (Or.inr (hw _ m74)) (Or.inr (hw _ m68)) (by decide) (t := (.object z3)) (t' := (.object z1)) (by decide) (by decide)))).other W5 (Or.inr (slot_ne (Or.inr (hw _ m74)) (Or.inr (hw _ m70)) (by decide) (t := (.object z3)) (t' := (.object z3)) (by decide) (by decide)))).other W8 (Or.inr (slot_ne (Or.inr (hw _ m74)) (Or.inr (hw _ m72)) (by decide) (t := (.object z3)) (t' := (.object z2)) (by decide) (by decide))))
  have f10 : Exa Z h8 a1 z0 := (f7.wr W8)
  obtain ⟨T11, h11, L'11, X11, e11, W11, Fw11, O11, K11, N11, st11⟩ := own_put X8 hx hZ hown (host := "") (Or.inl (hw _ m73)) Via.refl e8 O8 K8 N8 g6 (Or.inl (List.mem_of_getElem? (i := 0) rfl)) f9 f10 (Or.inr ⟨(hw _ m74), rfl, hnm⟩) (hw _ m44) (ty := (.object z3)) (by decide) rfl rfl (g := (mkF m 22 #[.val (.ref a1), .val (.ref w5), .val (.ref a2), .val (.ref w0), .val (.ref a3)] [(.ref a3), (.ref a1)])) rfl rfl (hb hby d2_22)
  have f12 : Fld Z h11 a1 z0 "kind" z4 (.ref w5) := (((Fw2.other W5 (Or.inr (slot_ne (Or.inr (hw _ m68)) (Or.inr (hw _ m70)) (by decide) (t := (.object z1)) (t' := (.object z3)) (by decide) (by decide)))).other W8 (Or.inr (slot_ne (Or.inr (hw _ m68)) (Or.inr (hw _ m72)) (by decide) (t := (.object z1)) (t' := (.object z2)) (by decide) (by decide)))).other W11 (Or.inr (slot_ne (Or.inr (hw _ m68)) (Or.inr (hw _ m74)) (by decide) (t := (.object z1)) (t' := (.object z3)) (by decide) (by decide))))
  have f13 : Fld Z h11 a1 z0 "limitation" z8 (.ref a2) := ((Fw5.other W8 (Or.inr (slot_ne (Or.inr (hw _ m70)) (Or.inr (hw _ m72)) (by decide) (t := (.object z3)) (t' := (.object z2)) (by decide) (by decide)))).other W11 (Or.inr (slot_ne (Or.inr (hw _ m70)) (Or.inr (hw _ m74)) (by decide) (t := (.object z3)) (t' := (.object z3)) (by decide) (by decide))))
  have f14 : Fld Z h11 a1 z0 "catcher" z5 (.ref w0) := (Fw8.other W11 (Or.inr (slot_ne (Or.inr (hw _ m72)) (Or.inr (hw _ m74)) (by decide) (t := (.object z2)) (t' := (.object z3)) (by decide) (by decide))))
  obtain ⟨fs, hr, hrun, hended, hW, hsame⟩ := X11.leave (v := none) (fun _ => rfl)
  refine ⟨_, _, pre0 _ ?_, hrun, hended, _, _, rfl, ?_, ⟨_, rfl⟩, hW, hsame.mono (by decide) (by decide)⟩
  · show Steps p.tables e below (s₁.setTop (mkF m 0 #[.val (.ref a1), .val (.ref w5), .val (.ref a2), .val (.ref w0), .val (.ref a3)] [])) _
    refine XS.aloadN X0.here hx rfl (hb hby d2_0) rfl rfl ?_
    refine st1 _ ?_
    refine XS.aloadN X1.here hx rfl (hb hby d2_4) rfl rfl ?_
    refine XS.aloadN X1.here hx rfl (hb hby d2_5) rfl rfl ?_
    show Steps p.tables e below (T1.setTop (mkF m 6 #[.val (.ref a1), .val (.ref w5), .val (.ref a2), .val (.ref w0), .val (.ref a3)] [(.ref w5), (.ref a1)])) _
    refine st2 _ ?_
    refine XS.aloadN X2.here hx rfl (hb hby d2_9) rfl rfl ?_
    refine XS.aloadN X2.here hx rfl (hb hby d2_10) rfl rfl ?_
    refine st5 _ ?_
    show Steps p.tables e below (T5.setTop (mkF m 14 #[.val (.ref a1), .val (.ref w5), .val (.ref a2), .val (.ref w0), .val (.ref a3)] [])) _
    refine XS.aloadN X5.here hx rfl (hb hby d2_14) rfl rfl ?_
    refine XS.aloadN X5.here hx rfl (hb hby d2_15) rfl rfl ?_
    refine st8 _ ?_
    refine XS.aloadN X8.here hx rfl (hb hby d2_19) rfl rfl ?_
    show Steps p.tables e below (T8.setTop (mkF m 20 #[.val (.ref a1), .val (.ref w5), .val (.ref a2), .val (.ref w0), .val (.ref a3)] [(.ref a1)])) _
    refine XS.aload X8.here hx rfl (hb hby d2_20) rfl rfl ?_
    refine st11 _ ?_
    exact X11.returnOut hx Bd.returns (hb hby d2_25) hr
  · show Qrm45 Z w0 w1 w2 w3 w4 w5 w6 w7 w8 w9 w10 w11 w12 w13 w14 w15 w16 w17 a1 a2 a3 h0 n0 _ T11.heap _
    rw [e11]
    exact ⟨rfl, N11, K11, f12, f13, f14, Fw11⟩
def Qrm46 (Z : State) (w0 : Addr) (w1 : Addr) (w2 : Addr) (w3 : Addr) (w4 : Addr) (w5 : Addr) (w6 : Addr) (w7 : Addr) (w8 : Addr) (w9 : Addr) (w10 : Addr) (w11 : Addr) (w12 : Addr) (w13 : Addr) (w14 : Addr) (w15 : Addr) (w16 : Addr) (w17 : Addr) (h0 : Heap) (n0 : Nat) (v : Option Value) (h : Heap) (L : List Loc) : Prop := ∃ x0 : Addr, ∃ x1 : Addr, ∃ x2 : Addr, ∃ x3 : Addr, ∃ x4 : Addr, ∃ xk0 : ClassId, ∃ xk1 : ClassId, v = some (.ref x0) ∧ Fr n0 L ∧ Keep h0 h [] ∧ h0.size ≤ x0 ∧ Exa Z h x0 z0 ∧ Fld Z h x0 z0 "kind" z4 (.ref w5) ∧ Fld Z h x0 z0 "limitation" z8 (.ref x1) ∧ Fld Z h x0 z0 "catcher" z5 (.ref w0) ∧ Fld Z h x0 z0 "errorCode" z8 (.ref x2) ∧ Exa Z h x1 z3 ∧ Fld Z h x1 z3 "coder" "B" (.int (0 : Int32)) ∧ Fld Z h x1 z3 "value" "[B" (.ref x3) ∧ Exa Z h x2 z3 ∧ Fld Z h x2 z3 "coder" "B" (.int (0 : Int32)) ∧ Fld Z h x2 z3 "value" "[B" (.ref x4) ∧ Arv Z h x3 xk0 .byte (0 : Int32) [] (.int (0 : Int32)) ∧ Arv Z h x4 xk1 .byte (0 : Int32) [] (.int (0 : Int32))
set_option maxRecDepth 65536 in
set_option maxHeartbeats 40000000 in
theorem rm46 (l : Launch) (Z : State) (a0 : Array Value) (hw : ∀ d ∈ tables_1, d.before a0 Z = true) (hj : ∀ d ∈ jdkStatics_1, d.before a0 Z = true) (w0 : Addr) (w1 : Addr) (w2 : Addr) (w3 : Addr) (w4 : Addr) (w5 : Addr) (w6 : Addr) (w7 : Addr) (w8 : Addr) (w9 : Addr) (w10 : Addr) (w11 : Addr) (w12 : Addr) (w13 : Addr) (w14 : Addr) (w15 : Addr) (w16 : Addr) (w17 : Addr) (hS : SF Z w0 w1 w2 w3 w4 w5 w6 w7 w8 w9 w10 w11 w12 w13 w14 w15 w16 w17) (ws : List Jvm.Cond) (h0 : Heap) (n0 : Nat) (O0 : Old Z n0 h0) :
    MetFree l (⟨z0, "runs", z7⟩ : MethodName) (head1 (Jvm.Cond.code (⟨z0, "runs", z7⟩ : MethodName) prog_27_method_2_code 1 (some (.object z0)) :: ws) ({ frames := 3, cells := 5, slots := 12, locals := 41 } : Room)) (fun a U => a = #[(.ref w5)] ∧ Z.Warmed39 U.vm ∧ U.heap = h0 ∧ CHv Z EL U.vm h0 ∧ ∀ x ∈ ([] : List Addr), Safe Z EL U.vm h0 x) (fun _ _ _ _ _ => True) (fun _ U o U' => ∃ v L, o = .returned v ∧ Qrm46 Z w0 w1 w2 w3 w4 w5 w6 w7 w8 w9 w10 w11 w12 w13 w14 w15 w16 w17 h0 n0 v U'.heap L ∧ CHr Z EL U.vm U.heap U'.vm U'.heap ∧ ReturnedEndW U o U' L ({ frames := 3, cells := 5, slots := 12, locals := 41 } : Room).cells ({ frames := 3, cells := 5, slots := 12, locals := 41 } : Room).slots) := by
  refine MetFree.of_bodySF (plainFor_of_name pn72) hisR ?_
  intro p e s m args below meth c s₁ Bd hml0 hP hK
  obtain ⟨rfl, hZ, hh, H0, hsx⟩ := hP
  have hx := Bd.exec
  have hby := Bd.bytes
  have hml : c.maxLocals = 1 := hml0
  have hown : s.vm.findClass z0 = some m.cls := findClass_of_methodNamed Bd.named
  have hnm := (name_of_methodNamed Bd.named Bd.method).1
  have X0 : Stand p l e ({ frames := 3, cells := 5, slots := 12, locals := 41 } : Room) (s.setVm s.vm) m #[(.ref w5)] below meth c s₁ [] 0 0 := Stand.of_body Bd
  have e0 : s₁.heap = h0 := by rw [← hh, Bd.state]; rfl
  have N0 := Fr.nil n0
  have pre0 : ∀ t, Steps p.tables e below (s₁.setTop (mkF m 0 #[.val (.ref w5)] [])) t → Steps p.tables e below (s₁.setTop (entryFrame m #[(.ref w5)] 1)) t := fun t k => castTop (ef48 m w5) k
  have hS0 : s.Since s.vm h0.size := (State.WarmedH.refl s).since _
  have C0 : CHr Z EL s.vm h0 s.vm h0 := CHr.refl H0
  obtain ⟨T1, h1, b1, X1, e1, E1, A1, D1, g1, O1, K1, st1⟩ := own_newO X0 hx hZ hown (hw _ m43) (hw _ m44) (hw _ m41) e0 O0 (Keep.refl h0 []) (g := (mkF m 0 #[.val (.ref w5)] [])) rfl (hb hby d1_0) (by decide) (by decide)
  have C1 := C0.trans (CHr.ext E1 C0.1)
  have F1_1 : Fld Z h1 b1 z0 "kind" z4 .null := D1 (Or.inr (hw _ m68)) (ty := (.object z1)) (by decide)
  have F1_2 : Fld Z h1 b1 z0 "limitation" z8 .null := D1 (Or.inr (hw _ m70)) (ty := (.object z3)) (by decide)
  have F1_3 : Fld Z h1 b1 z0 "catcher" z5 .null := D1 (Or.inr (hw _ m72)) (ty := (.object z2)) (by decide)
  have F1_4 : Fld Z h1 b1 z0 "errorCode" z8 .null := D1 (Or.inr (hw _ m74)) (ty := (.object z3)) (by decide)
  obtain ⟨sa2, T2, h2, k12, sb2, k2, X2, e2, E2, hS2, hk2, hZ2, hown2, A2, Fc2, Fv2, V2, la2, lb2, Cq2, -, hn2, st2⟩ := ldcCH X1 hx hZ hown (hw _ m45) (own_str hw hj) e1 hS0 (Nat.le_trans (Nat.le_refl _) E1.1) (own_EW hw hj) (List.mem_of_getElem? (i := 0) rfl) C1.1 (vs := []) (z := (0 : Int32)) ⟨by decide, by decide⟩ (by decide) (by decide) (g := (mkF m 5 #[.val (.ref w5)] [(.ref w5), (.ref b1), (.ref b1)])) rfl (hb hby d1_5) (n := 0) (by decide) (by decide) (by decide) (by decide)
  have O2 : Old Z n0 h2 := O1.ext E2
  have K2 : Keep h0 h2 [] := K1.ext E2
  have C2 := C1.trans Cq2
  obtain ⟨T3, X3, e3, st3⟩ := getS2 X2 hx hZ2 hown2 (host := "") (Or.inl (hw _ m53)) Via.refl e2 (hS.1.ext O2.2) (g := (mkF m 7 #[.val (.ref w5)] [(.ref sa2), (.ref w5), (.ref b1), (.ref b1)])) rfl (hb hby d1_7)
  obtain ⟨sa4, T4, h4, k14, sb4, k4, X4, e4, E4, hS4, hk4, hZ4, hown4, A4, Fc4, Fv4, V4, la4, lb4, Cq4, -, hn4, st4⟩ := ldcCH X3 hx hZ2 hown2 (hw _ m45) (own_str hw hj) e3 hS2 hk2 (own_EW hw hj) (List.mem_of_getElem? (i := 0) rfl) C2.1 (vs := []) (z := (0 : Int32)) ⟨by decide, by decide⟩ (by decide) (by decide) (g := (mkF m 10 #[.val (.ref w5)] [(.ref w0), (.ref sa2), (.ref w5), (.ref b1), (.ref b1)])) rfl (hb hby d1_10) (n := 0) (by decide) (by decide) (by decide) (by decide)
  have O4 : Old Z n0 h4 := O2.ext E4
  have K4 : Keep h0 h4 [] := K2.ext E4
  have C4 := C2.trans Cq4
  have f6 : Exa Z h4 b1 z0 := ((A1.ext E2).ext E4)
  have f7 : Fld Z h4 b1 z0 "kind" z4 .null := ((F1_1.ext E2).ext E4)
  have f8 : Fld Z h4 b1 z0 "limitation" z8 .null := ((F1_2.ext E2).ext E4)
  have f9 : Fld Z h4 b1 z0 "catcher" z5 .null := ((F1_3.ext E2).ext E4)
  have f10 : Fld Z h4 b1 z0 "errorCode" z8 .null := ((F1_4.ext E2).ext E4)
  have sf5 := ((sfS (Safe.exa (EL := EL) hZ4.alike f6 (by decide) (by decide)) sf0) : ∀ x ∈ [b1], Safe Z EL T4.vm h4 x)
  obtain ⟨_, T5, L5, hQ5, X5, st5⟩ := own_special X4 hx hZ4 (W := 1) rfl hown4 (hw _ m56) (hw _ m57) (hw _ m41) (hw _ m58) (by decide) (rm45 l Z a0 hw hj w0 w1 w2 w3 w4 w5 w6 w7 w8 w9 w10 w11 w12 w13 w14 w15 w16 w17 hS [] b1 sa2 sa4 h4 n0 O4 f6 f7 f8 f9 f10 (Nat.le_trans (own_old_le O0) g1)) e4 (a := b1) (g := (mkF m 12 #[.val (.ref w5)] [(.ref sa4), (.ref w0), (.ref sa2), (.ref w5), (.ref b1), (.ref b1)])) rfl (by rw [hml]; rfl) (argsL := [(.ref w5), (.ref sa2), (.ref w0), (.ref sa4)]) (rest := [(.ref b1)]) (lenOf pd74 rfl) rfl rfl (by show 2 * 0 + _ ≤ _; exact Nat.le_of_eq rfl) (hb hby d1_12) (by decide) (by decide) (by decide) (by decide)
  obtain ⟨rfl, N5q, Kq5, q5_0, q5_1, q5_2, q5_3⟩ := hQ5
  have N5 := Fr.app N0 N5q
  have C5 := C4.trans (CHr.keep Kq5 sf5 C4.1)
  have O5 : Old Z n0 T5.heap := O4.keep Kq5 (allS (Nat.le_trans (own_old_le O0) g1) all0)
  have K5 : Keep h0 T5.heap [] := K4.trans Kq5 (allS (Or.inr (Nat.le_trans (Keep.refl h0 []).1 g1)) all0)
  have f11 : Exa Z T5.heap b1 z0 := (f6.keep Kq5)
  have f12 : Exa Z T5.heap sa2 z3 := ((A2.ext E4).keep Kq5)
  have f13 : Fld Z T5.heap sa2 z3 "coder" "B" (.int (0 : Int32)) := ((Fc2.ext E4).keep Kq5 (ninS (ne_exa A2 (A1.ext E2) (by decide)) nin0))
  have f14 : Fld Z T5.heap sa2 z3 "value" "[B" (.ref sb2) := ((Fv2.ext E4).keep Kq5 (ninS (ne_exa A2 (A1.ext E2) (by decide)) nin0))
  have f15 : Exa Z T5.heap sa4 z3 := (A4.keep Kq5)
  have f16 : Fld Z T5.heap sa4 z3 "coder" "B" (.int (0 : Int32)) := (Fc4.keep Kq5 (ninS (ne_exa A4 f6 (by decide)) nin0))
  have f17 : Fld Z T5.heap sa4 z3 "value" "[B" (.ref sb4) := (Fv4.keep Kq5 (ninS (ne_exa A4 f6 (by decide)) nin0))
  have f18 : Arv Z T5.heap sb2 k2 .byte (0 : Int32) [] (.int (0 : Int32)) := ((V2.ext E4).keep Kq5 (ninS (Ne.symm (Exa.neArv (A1.ext E2) V2 (hw _ m44))) nin0))
  have f19 : Arv Z T5.heap sb4 k4 .byte (0 : Int32) [] (.int (0 : Int32)) := (V4.keep Kq5 (ninS (Ne.symm (Exa.neArv f6 V4 (hw _ m44))) nin0))
  obtain ⟨fs, hr, hrun, hended, hRW⟩ := X5.leaveW hS4 (by rw [(rfl : T5.heap = T5.heap)]; exact (Nat.le_trans hk4 Kq5.1)) (v := some (.ref b1)) (fun h => by rw [Bd.returns] at h; cases h)
  refine ⟨_, _, pre0 _ ?_, hrun, hended, _, _, rfl, ?_, ?_, hRW⟩
  · show Steps p.tables e below (s₁.setTop (mkF m 0 #[.val (.ref w5)] [])) _
    refine st1 _ ?_
    refine XS.dup X1.here hx rfl (hb hby d1_3) rfl rfl ?_
    refine XS.aloadN X1.here hx rfl (hb hby d1_4) rfl rfl ?_
    refine st2 _ ?_
    show Steps p.tables e below (T2.setTop (mkF m 7 #[.val (.ref w5)] [(.ref sa2), (.ref w5), (.ref b1), (.ref b1)])) _
    refine st3 _ ?_
    refine st4 _ ?_
    refine st5 _ ?_
    exact retOut X5 hx Bd.returns rfl (Or.inr (Or.inr (Or.inr (Or.inr ⟨rfl, rfl, rfl⟩)))) (hb hby d1_15) hr
  · show Qrm46 Z w0 w1 w2 w3 w4 w5 w6 w7 w8 w9 w10 w11 w12 w13 w14 w15 w16 w17 h0 n0 _ T5.heap _
    exact ⟨b1, sa2, sa4, sb2, sb4, k2, k4, rfl, N5, K5, (Nat.le_trans (Keep.refl h0 []).1 g1), f11, q5_0, q5_1, q5_2, q5_3, f12, f13, f14, f15, f16, f17, f18, f19⟩
  · show CHr Z EL _ _ T5.vm T5.heap
    exact own_chr (by rw [← hh]) (rfl : T5.heap = T5.heap) (C5.trans (CHv.at X5 hZ4 (own_EW hw hj) C5.1))
def Qrm47 (Z : State) (w0 : Addr) (w1 : Addr) (w2 : Addr) (w3 : Addr) (w4 : Addr) (w5 : Addr) (w6 : Addr) (w7 : Addr) (w8 : Addr) (w9 : Addr) (w10 : Addr) (w11 : Addr) (w12 : Addr) (w13 : Addr) (w14 : Addr) (w15 : Addr) (w16 : Addr) (w17 : Addr) (a1 : Addr) (h0 : Heap) (n0 : Nat) (v : Option Value) (h : Heap) (L : List Loc) : Prop := v = some (.ref w5) ∧ Fr n0 L ∧ h = h0
set_option maxRecDepth 65536 in
set_option maxHeartbeats 40000000 in
theorem rm47 (l : Launch) (Z : State) (a0 : Array Value) (hw : ∀ d ∈ tables_1, d.before a0 Z = true) (hj : ∀ d ∈ jdkStatics_1, d.before a0 Z = true) (w0 : Addr) (w1 : Addr) (w2 : Addr) (w3 : Addr) (w4 : Addr) (w5 : Addr) (w6 : Addr) (w7 : Addr) (w8 : Addr) (w9 : Addr) (w10 : Addr) (w11 : Addr) (w12 : Addr) (w13 : Addr) (w14 : Addr) (w15 : Addr) (w16 : Addr) (w17 : Addr) (hS : SF Z w0 w1 w2 w3 w4 w5 w6 w7 w8 w9 w10 w11 w12 w13 w14 w15 w16 w17) (ws : List Jvm.Cond) (a1 : Addr) (h0 : Heap) (n0 : Nat) (O0 : Old Z n0 h0) (F1 : Fld Z h0 a1 z0 "kind" z4 (.ref w5)) :
    MetFree l (⟨z0, "kind", z9⟩ : MethodName) (head1 (Jvm.Cond.code (⟨z0, "kind", z9⟩ : MethodName) prog_27_method_7_code 1 (some (.object z1)) :: ws) ({ frames := 0, cells := 0, slots := 0, locals := 0 } : Room)) (fun a U => a = #[(.ref a1)] ∧ Z.Warmed39 U.vm ∧ U.heap = h0) (fun _ _ _ _ _ => True) (fun _ U o U' => ∃ v L, o = .returned v ∧ Qrm47 Z w0 w1 w2 w3 w4 w5 w6 w7 w8 w9 w10 w11 w12 w13 w14 w15 w16 w17 a1 h0 n0 v U'.heap L ∧ FrameEnd U o U' L ({ frames := 0, cells := 0, slots := 0, locals := 0 } : Room).cells ({ frames := 0, cells := 0, slots := 0, locals := 0 } : Room).slots) := by
  refine MetFree.of_bodySF (plainFor_of_name pn72) hisR ?_
  intro p e s m args below meth c s₁ Bd hml0 hP hK
  obtain ⟨rfl, hZ, hh⟩ := hP
  have hx := Bd.exec
  have hby := Bd.bytes
  have hml : c.maxLocals = 1 := hml0
  have hown : s.vm.findClass z0 = some m.cls := findClass_of_methodNamed Bd.named
  have hnm := (name_of_methodNamed Bd.named Bd.method).1
  have X0 : Stand p l e ({ frames := 0, cells := 0, slots := 0, locals := 0 } : Room) s m #[(.ref a1)] below meth c s₁ [] 0 0 := Stand.of_body Bd
  have e0 : s₁.heap = h0 := by rw [← hh, Bd.state]; rfl
  have N0 := Fr.nil n0
  have pre0 : ∀ t, Steps p.tables e below (s₁.setTop (mkF m 0 #[.val (.ref a1)] [])) t → Steps p.tables e below (s₁.setTop (entryFrame m #[(.ref a1)] 1)) t := fun t k => castTop (ef48 m a1) k
  obtain ⟨T1, X1, e1, st1⟩ := getF X0 hx hZ hown (host := "") (Or.inl (hw _ m67)) Via.refl e0 F1 (g := (mkF m 1 #[.val (.ref a1)] [(.ref a1)])) rfl rfl (hb hby d5_1)
  obtain ⟨fs, hr, hrun, hended, hW, hsame⟩ := X1.leave (v := some (.ref w5)) (fun h => by rw [Bd.returns] at h; cases h)
  refine ⟨_, _, pre0 _ ?_, hrun, hended, _, _, rfl, ?_, ⟨_, rfl⟩, hW, hsame.mono (by decide) (by decide)⟩
  · show Steps p.tables e below (s₁.setTop (mkF m 0 #[.val (.ref a1)] [])) _
    refine XS.aloadN X0.here hx rfl (hb hby d5_0) rfl rfl ?_
    refine st1 _ ?_
    exact retOut X1 hx Bd.returns rfl (Or.inr (Or.inr (Or.inr (Or.inr ⟨rfl, rfl, rfl⟩)))) (hb hby d5_4) hr
  · show Qrm47 Z w0 w1 w2 w3 w4 w5 w6 w7 w8 w9 w10 w11 w12 w13 w14 w15 w16 w17 a1 h0 n0 _ T1.heap _
    rw [e1]
    exact ⟨rfl, N0, rfl⟩
def Qrm48 (Z : State) (w0 : Addr) (w1 : Addr) (w2 : Addr) (w3 : Addr) (w4 : Addr) (w5 : Addr) (w6 : Addr) (w7 : Addr) (w8 : Addr) (w9 : Addr) (w10 : Addr) (w11 : Addr) (w12 : Addr) (w13 : Addr) (w14 : Addr) (w15 : Addr) (w16 : Addr) (w17 : Addr) (a1 : Addr) (a2 : Addr) (a3 : Addr) (h0 : Heap) (n0 : Nat) (v : Option Value) (h : Heap) (L : List Loc) : Prop := v = none ∧ Fr n0 L ∧ Keep h0 h [a1] ∧ Fld Z h a1 z0 "kind" z4 (.ref w8) ∧ Fld Z h a1 z0 "limitation" z8 (.ref a2) ∧ Fld Z h a1 z0 "catcher" z5 (.ref w0) ∧ Fld Z h a1 z0 "errorCode" z8 (.ref a3)
set_option maxRecDepth 65536 in
set_option maxHeartbeats 40000000 in
theorem rm48 (l : Launch) (Z : State) (a0 : Array Value) (hw : ∀ d ∈ tables_1, d.before a0 Z = true) (hj : ∀ d ∈ jdkStatics_1, d.before a0 Z = true) (w0 : Addr) (w1 : Addr) (w2 : Addr) (w3 : Addr) (w4 : Addr) (w5 : Addr) (w6 : Addr) (w7 : Addr) (w8 : Addr) (w9 : Addr) (w10 : Addr) (w11 : Addr) (w12 : Addr) (w13 : Addr) (w14 : Addr) (w15 : Addr) (w16 : Addr) (w17 : Addr) (hS : SF Z w0 w1 w2 w3 w4 w5 w6 w7 w8 w9 w10 w11 w12 w13 w14 w15 w16 w17) (ws : List Jvm.Cond) (a1 : Addr) (a2 : Addr) (a3 : Addr) (h0 : Heap) (n0 : Nat) (O0 : Old Z n0 h0) (E1 : Exa Z h0 a1 z0) (F2 : Fld Z h0 a1 z0 "kind" z4 .null) (F3 : Fld Z h0 a1 z0 "limitation" z8 .null) (F4 : Fld Z h0 a1 z0 "catcher" z5 .null) (F5 : Fld Z h0 a1 z0 "errorCode" z8 .null) (g6 : n0 ≤ a1) :
    MetFree l (⟨z0, "<init>", z6⟩ : MethodName) (head1 (Jvm.Cond.code (⟨z0, "<init>", z6⟩ : MethodName) prog_27_method_1_code 5 none :: ws) ({ frames := 2, cells := 0, slots := 0, locals := 24 } : Room)) (fun a U => a = #[(.ref a1), (.ref w8), (.ref a2), (.ref w0), (.ref a3)] ∧ Z.Warmed39 U.vm ∧ U.heap = h0) (fun _ _ _ _ _ => True) (fun _ U o U' => ∃ v L, o = .returned v ∧ Qrm48 Z w0 w1 w2 w3 w4 w5 w6 w7 w8 w9 w10 w11 w12 w13 w14 w15 w16 w17 a1 a2 a3 h0 n0 v U'.heap L ∧ FrameEnd U o U' L ({ frames := 2, cells := 0, slots := 0, locals := 24 } : Room).cells ({ frames := 2, cells := 0, slots := 0, locals := 24 } : Room).slots) := by
  refine MetFree.of_bodySF (plainFor_of_name pn72) hisR ?_
  intro p e s m args below meth c s₁ Bd hml0 hP hK
  obtain ⟨rfl, hZ, hh⟩ := hP
  have hx := Bd.exec
  have hby := Bd.bytes
  have hml : c.maxLocals = 5 := hml0
  have hown : s.vm.findClass z0 = some m.cls := findClass_of_methodNamed Bd.named
  have hnm := (name_of_methodNamed Bd.named Bd.method).1
  have X0 : Stand p l e ({ frames := 2, cells := 0, slots := 0, locals := 24 } : Room) s m #[(.ref a1), (.ref w8), (.ref a2), (.ref w0), (.ref a3)] below meth c s₁ [] 0 0 := Stand.of_body Bd
  have e0 : s₁.heap = h0 := by rw [← hh, Bd.state]; rfl
  have N0 := Fr.nil n0
  have pre0 : ∀ t, Steps p.tables e below (s₁.setTop (mkF m 0 #[.val (.ref a1), .val (.ref w8), .val (.ref a2), .val (.ref w0), .val (.ref a3)] [])) t → Steps p.tables e below (s₁.setTop (entryFrame m #[(.ref a1), (.ref w8), (.ref a2), (.ref w0), (.ref a3)] 5)) t := fun t k => castTop (ef71 m a1 w8 a2 w0 a3) k
  obtain ⟨_, T1, L1, hQ1, X1, st1⟩ := own_special X0 hx hZ (W := 0) rfl hown (hw _ m59) (hw _ m60) (hw _ m62) (hw _ m63) (by decide) (rm1 l Z a0 hw hj w0 w1 w2 w3 w4 w5 w6 w7 w8 w9 w10 w11 w12 w13 w14 w15 w16 w17 hS [] a1 h0 n0 O0) e0 (a := a1) (g := (mkF m 1 #[.val (.ref a1), .val (.ref w8), .val (.ref a2), .val (.ref w0), .val (.ref a3)] [(.ref a1)])) rfl (by rw [hml]; rfl) (argsL := []) (rest := []) (lenOf pd52 rfl) rfl rfl (by show 2 * 0 + _ ≤ _; exact Nat.le_of_eq rfl) (hb hby d2_1) (by decide) (by decide) (by decide) (by decide)
  obtain ⟨rfl, N1q, e1⟩ := hQ1
  have N1 := Fr.app N0 N1q
  have e1' : T1.heap = h0 := e1
  obtain ⟨T2, h2, L'2, X2, e2, W2, Fw2, O2, K2, N2, st2⟩ := own_put X1 hx hZ hown (host := "") (Or.inl (hw _ m67)) Via.refl e1' O0 (Keep.refl h0 [a1]) N1 g6 (Or.inl (List.mem_of_getElem? (i := 0) rfl)) F2 E1 (Or.inr ⟨(hw _ m68), rfl, hnm⟩) (hw _ m44) (ty := (.object z1)) (by decide) rfl rfl (g := (mkF m 6 #[.val (.ref a1), .val (.ref w8), .val (.ref a2), .val (.ref w0), .val (.ref a3)] [(.ref w8), (.ref a1)])) rfl rfl (hb hby d2_6)
  have f3 : Fld Z h2 a1 z0 "limitation" z8 .null := (F3.other W2 (Or.inr (slot_ne (Or.inr (hw _ m70)) (Or.inr (hw _ m68)) (by decide) (t := (.object z3)) (t' := (.object z1)) (by decide) (by decide))))
  have f4 : Exa Z h2 a1 z0 := (E1.wr W2)
  obtain ⟨T5, h5, L'5, X5, e5, W5, Fw5, O5, K5, N5, st5⟩ := own_put X2 hx hZ hown (host := "") (Or.inl (hw _ m69)) Via.refl e2 O2 K2 N2 g6 (Or.inl (List.mem_of_getElem? (i := 0) rfl)) f3 f4 (Or.inr ⟨(hw _ m70), rfl, hnm⟩) (hw _ m44) (ty := (.object z3)) (by decide) rfl rfl (g := (mkF m 11 #[.val (.ref a1), .val (.ref w8), .val (.ref a2), .val (.ref w0), .val (.ref a3)] [(.ref a2), (.ref a1)])) rfl rfl (hb hby d2_11)
  have f6 : Fld Z h5 a1 z0 "catcher" z5 .null := ((F4.other W2 (Or.inr (slot_ne (Or.inr (hw _ m72)) (Or.inr (hw _ m68)) (by decide) (t := (.object z2)) (t' := (.object z1)) (by decide) (by decide)))).other W5 (Or.inr (slot_ne (Or.inr (hw _ m72)) (Or.inr (hw _ m70)) (by decide) (t := (.object z2)) (t' := (.object z3)) (by decide) (by decide))))
  have f7 : Exa Z h5 a1 z0 := (f4.wr W5)
  obtain ⟨T8, h8, L'8, X8, e8, W8, Fw8, O8, K8, N8, st8⟩ := own_put X5 hx hZ hown (host := "") (Or.inl (hw _ m71)) Via.refl e5 O5 K5 N5 g6 (Or.inl (List.mem_of_getElem? (i := 0) rfl)) f6 f7 (Or.inr ⟨(hw _ m72), rfl, hnm⟩) (hw _ m44) (ty := (.object z2)) (by decide) rfl rfl (g := (mkF m 16 #[.val (.ref a1), .val (.ref w8), .val (.ref a2), .val (.ref w0), .val (.ref a3)] [(.ref w0), (.ref a1)])) rfl rfl (hb hby d2_16)
  have f9 : Fld Z h8 a1 z0 "errorCode" z8 .null := (((F5.other W2 (Or.inr (slot_ne (Or.inr (hw _ m74)) (Or.inr (hw _ m68)) (by decide) (t := (.object z3)) (t' := (.object z1)) (by decide) (by decide)))).other W5 (Or.inr (slot_ne (Or.inr (hw _ m74)) (Or.inr (hw _ m70)) (by decide) (t := (.object z3)) (t' := (.object z3)) (by decide) (by decide)))).other W8 (Or.inr (slot_ne (Or.inr (hw _ m74)) (Or.inr (hw _ m72)) (by decide) (t := (.object z3)) (t' := (.object z2)) (by decide) (by decide))))
  have f10 : Exa Z h8 a1 z0 := (f7.wr W8)
  obtain ⟨T11, h11, L'11, X11, e11, W11, Fw11, O11, K11, N11, st11⟩ := own_put X8 hx hZ hown (host := "") (Or.inl (hw _ m73)) Via.refl e8 O8 K8 N8 g6 (Or.inl (List.mem_of_getElem? (i := 0) rfl)) f9 f10 (Or.inr ⟨(hw _ m74), rfl, hnm⟩) (hw _ m44) (ty := (.object z3)) (by decide) rfl rfl (g := (mkF m 22 #[.val (.ref a1), .val (.ref w8), .val (.ref a2), .val (.ref w0), .val (.ref a3)] [(.ref a3), (.ref a1)])) rfl rfl (hb hby d2_22)
  have f12 : Fld Z h11 a1 z0 "kind" z4 (.ref w8) := (((Fw2.other W5 (Or.inr (slot_ne (Or.inr (hw _ m68)) (Or.inr (hw _ m70)) (by decide) (t := (.object z1)) (t' := (.object z3)) (by decide) (by decide)))).other W8 (Or.inr (slot_ne (Or.inr (hw _ m68)) (Or.inr (hw _ m72)) (by decide) (t := (.object z1)) (t' := (.object z2)) (by decide) (by decide)))).other W11 (Or.inr (slot_ne (Or.inr (hw _ m68)) (Or.inr (hw _ m74)) (by decide) (t := (.object z1)) (t' := (.object z3)) (by decide) (by decide))))
  have f13 : Fld Z h11 a1 z0 "limitation" z8 (.ref a2) := ((Fw5.other W8 (Or.inr (slot_ne (Or.inr (hw _ m70)) (Or.inr (hw _ m72)) (by decide) (t := (.object z3)) (t' := (.object z2)) (by decide) (by decide)))).other W11 (Or.inr (slot_ne (Or.inr (hw _ m70)) (Or.inr (hw _ m74)) (by decide) (t := (.object z3)) (t' := (.object z3)) (by decide) (by decide))))
  have f14 : Fld Z h11 a1 z0 "catcher" z5 (.ref w0) := (Fw8.other W11 (Or.inr (slot_ne (Or.inr (hw _ m72)) (Or.inr (hw _ m74)) (by decide) (t := (.object z2)) (t' := (.object z3)) (by decide) (by decide))))
  obtain ⟨fs, hr, hrun, hended, hW, hsame⟩ := X11.leave (v := none) (fun _ => rfl)
  refine ⟨_, _, pre0 _ ?_, hrun, hended, _, _, rfl, ?_, ⟨_, rfl⟩, hW, hsame.mono (by decide) (by decide)⟩
  · show Steps p.tables e below (s₁.setTop (mkF m 0 #[.val (.ref a1), .val (.ref w8), .val (.ref a2), .val (.ref w0), .val (.ref a3)] [])) _
    refine XS.aloadN X0.here hx rfl (hb hby d2_0) rfl rfl ?_
    refine st1 _ ?_
    refine XS.aloadN X1.here hx rfl (hb hby d2_4) rfl rfl ?_
    refine XS.aloadN X1.here hx rfl (hb hby d2_5) rfl rfl ?_
    show Steps p.tables e below (T1.setTop (mkF m 6 #[.val (.ref a1), .val (.ref w8), .val (.ref a2), .val (.ref w0), .val (.ref a3)] [(.ref w8), (.ref a1)])) _
    refine st2 _ ?_
    refine XS.aloadN X2.here hx rfl (hb hby d2_9) rfl rfl ?_
    refine XS.aloadN X2.here hx rfl (hb hby d2_10) rfl rfl ?_
    refine st5 _ ?_
    show Steps p.tables e below (T5.setTop (mkF m 14 #[.val (.ref a1), .val (.ref w8), .val (.ref a2), .val (.ref w0), .val (.ref a3)] [])) _
    refine XS.aloadN X5.here hx rfl (hb hby d2_14) rfl rfl ?_
    refine XS.aloadN X5.here hx rfl (hb hby d2_15) rfl rfl ?_
    refine st8 _ ?_
    refine XS.aloadN X8.here hx rfl (hb hby d2_19) rfl rfl ?_
    show Steps p.tables e below (T8.setTop (mkF m 20 #[.val (.ref a1), .val (.ref w8), .val (.ref a2), .val (.ref w0), .val (.ref a3)] [(.ref a1)])) _
    refine XS.aload X8.here hx rfl (hb hby d2_20) rfl rfl ?_
    refine st11 _ ?_
    exact X11.returnOut hx Bd.returns (hb hby d2_25) hr
  · show Qrm48 Z w0 w1 w2 w3 w4 w5 w6 w7 w8 w9 w10 w11 w12 w13 w14 w15 w16 w17 a1 a2 a3 h0 n0 _ T11.heap _
    rw [e11]
    exact ⟨rfl, N11, K11, f12, f13, f14, Fw11⟩
def Qrm49 (Z : State) (w0 : Addr) (w1 : Addr) (w2 : Addr) (w3 : Addr) (w4 : Addr) (w5 : Addr) (w6 : Addr) (w7 : Addr) (w8 : Addr) (w9 : Addr) (w10 : Addr) (w11 : Addr) (w12 : Addr) (w13 : Addr) (w14 : Addr) (w15 : Addr) (w16 : Addr) (w17 : Addr) (h0 : Heap) (n0 : Nat) (v : Option Value) (h : Heap) (L : List Loc) : Prop := ∃ x0 : Addr, ∃ x1 : Addr, ∃ x2 : Addr, ∃ x3 : Addr, ∃ x4 : Addr, ∃ xk0 : ClassId, ∃ xk1 : ClassId, v = some (.ref x0) ∧ Fr n0 L ∧ Keep h0 h [] ∧ h0.size ≤ x0 ∧ Exa Z h x0 z0 ∧ Fld Z h x0 z0 "kind" z4 (.ref w8) ∧ Fld Z h x0 z0 "limitation" z8 (.ref x1) ∧ Fld Z h x0 z0 "catcher" z5 (.ref w0) ∧ Fld Z h x0 z0 "errorCode" z8 (.ref x2) ∧ Exa Z h x1 z3 ∧ Fld Z h x1 z3 "coder" "B" (.int (0 : Int32)) ∧ Fld Z h x1 z3 "value" "[B" (.ref x3) ∧ Exa Z h x2 z3 ∧ Fld Z h x2 z3 "coder" "B" (.int (0 : Int32)) ∧ Fld Z h x2 z3 "value" "[B" (.ref x4) ∧ Arv Z h x3 xk0 .byte (0 : Int32) [] (.int (0 : Int32)) ∧ Arv Z h x4 xk1 .byte (0 : Int32) [] (.int (0 : Int32))
set_option maxRecDepth 65536 in
set_option maxHeartbeats 40000000 in
theorem rm49 (l : Launch) (Z : State) (a0 : Array Value) (hw : ∀ d ∈ tables_1, d.before a0 Z = true) (hj : ∀ d ∈ jdkStatics_1, d.before a0 Z = true) (w0 : Addr) (w1 : Addr) (w2 : Addr) (w3 : Addr) (w4 : Addr) (w5 : Addr) (w6 : Addr) (w7 : Addr) (w8 : Addr) (w9 : Addr) (w10 : Addr) (w11 : Addr) (w12 : Addr) (w13 : Addr) (w14 : Addr) (w15 : Addr) (w16 : Addr) (w17 : Addr) (hS : SF Z w0 w1 w2 w3 w4 w5 w6 w7 w8 w9 w10 w11 w12 w13 w14 w15 w16 w17) (ws : List Jvm.Cond) (h0 : Heap) (n0 : Nat) (O0 : Old Z n0 h0) :
    MetFree l (⟨z0, "runs", z7⟩ : MethodName) (head1 (Jvm.Cond.code (⟨z0, "runs", z7⟩ : MethodName) prog_27_method_2_code 1 (some (.object z0)) :: ws) ({ frames := 3, cells := 5, slots := 12, locals := 41 } : Room)) (fun a U => a = #[(.ref w8)] ∧ Z.Warmed39 U.vm ∧ U.heap = h0 ∧ CHv Z EL U.vm h0 ∧ ∀ x ∈ ([] : List Addr), Safe Z EL U.vm h0 x) (fun _ _ _ _ _ => True) (fun _ U o U' => ∃ v L, o = .returned v ∧ Qrm49 Z w0 w1 w2 w3 w4 w5 w6 w7 w8 w9 w10 w11 w12 w13 w14 w15 w16 w17 h0 n0 v U'.heap L ∧ CHr Z EL U.vm U.heap U'.vm U'.heap ∧ ReturnedEndW U o U' L ({ frames := 3, cells := 5, slots := 12, locals := 41 } : Room).cells ({ frames := 3, cells := 5, slots := 12, locals := 41 } : Room).slots) := by
  refine MetFree.of_bodySF (plainFor_of_name pn72) hisR ?_
  intro p e s m args below meth c s₁ Bd hml0 hP hK
  obtain ⟨rfl, hZ, hh, H0, hsx⟩ := hP
  have hx := Bd.exec
  have hby := Bd.bytes
  have hml : c.maxLocals = 1 := hml0
  have hown : s.vm.findClass z0 = some m.cls := findClass_of_methodNamed Bd.named
  have hnm := (name_of_methodNamed Bd.named Bd.method).1
  have X0 : Stand p l e ({ frames := 3, cells := 5, slots := 12, locals := 41 } : Room) (s.setVm s.vm) m #[(.ref w8)] below meth c s₁ [] 0 0 := Stand.of_body Bd
  have e0 : s₁.heap = h0 := by rw [← hh, Bd.state]; rfl
  have N0 := Fr.nil n0
  have pre0 : ∀ t, Steps p.tables e below (s₁.setTop (mkF m 0 #[.val (.ref w8)] [])) t → Steps p.tables e below (s₁.setTop (entryFrame m #[(.ref w8)] 1)) t := fun t k => castTop (ef48 m w8) k
  have hS0 : s.Since s.vm h0.size := (State.WarmedH.refl s).since _
  have C0 : CHr Z EL s.vm h0 s.vm h0 := CHr.refl H0
  obtain ⟨T1, h1, b1, X1, e1, E1, A1, D1, g1, O1, K1, st1⟩ := own_newO X0 hx hZ hown (hw _ m43) (hw _ m44) (hw _ m41) e0 O0 (Keep.refl h0 []) (g := (mkF m 0 #[.val (.ref w8)] [])) rfl (hb hby d1_0) (by decide) (by decide)
  have C1 := C0.trans (CHr.ext E1 C0.1)
  have F1_1 : Fld Z h1 b1 z0 "kind" z4 .null := D1 (Or.inr (hw _ m68)) (ty := (.object z1)) (by decide)
  have F1_2 : Fld Z h1 b1 z0 "limitation" z8 .null := D1 (Or.inr (hw _ m70)) (ty := (.object z3)) (by decide)
  have F1_3 : Fld Z h1 b1 z0 "catcher" z5 .null := D1 (Or.inr (hw _ m72)) (ty := (.object z2)) (by decide)
  have F1_4 : Fld Z h1 b1 z0 "errorCode" z8 .null := D1 (Or.inr (hw _ m74)) (ty := (.object z3)) (by decide)
  obtain ⟨sa2, T2, h2, k12, sb2, k2, X2, e2, E2, hS2, hk2, hZ2, hown2, A2, Fc2, Fv2, V2, la2, lb2, Cq2, -, hn2, st2⟩ := ldcCH X1 hx hZ hown (hw _ m45) (own_str hw hj) e1 hS0 (Nat.le_trans (Nat.le_refl _) E1.1) (own_EW hw hj) (List.mem_of_getElem? (i := 0) rfl) C1.1 (vs := []) (z := (0 : Int32)) ⟨by decide, by decide⟩ (by decide) (by decide) (g := (mkF m 5 #[.val (.ref w8)] [(.ref w8), (.ref b1), (.ref b1)])) rfl (hb hby d1_5) (n := 0) (by decide) (by decide) (by decide) (by decide)
  have O2 : Old Z n0 h2 := O1.ext E2
  have K2 : Keep h0 h2 [] := K1.ext E2
  have C2 := C1.trans Cq2
  obtain ⟨T3, X3, e3, st3⟩ := getS2 X2 hx hZ2 hown2 (host := "") (Or.inl (hw _ m53)) Via.refl e2 (hS.1.ext O2.2) (g := (mkF m 7 #[.val (.ref w8)] [(.ref sa2), (.ref w8), (.ref b1), (.ref b1)])) rfl (hb hby d1_7)
  obtain ⟨sa4, T4, h4, k14, sb4, k4, X4, e4, E4, hS4, hk4, hZ4, hown4, A4, Fc4, Fv4, V4, la4, lb4, Cq4, -, hn4, st4⟩ := ldcCH X3 hx hZ2 hown2 (hw _ m45) (own_str hw hj) e3 hS2 hk2 (own_EW hw hj) (List.mem_of_getElem? (i := 0) rfl) C2.1 (vs := []) (z := (0 : Int32)) ⟨by decide, by decide⟩ (by decide) (by decide) (g := (mkF m 10 #[.val (.ref w8)] [(.ref w0), (.ref sa2), (.ref w8), (.ref b1), (.ref b1)])) rfl (hb hby d1_10) (n := 0) (by decide) (by decide) (by decide) (by decide)
  have O4 : Old Z n0 h4 := O2.ext E4
  have K4 : Keep h0 h4 [] := K2.ext E4
  have C4 := C2.trans Cq4
  have f6 : Exa Z h4 b1 z0 := ((A1.ext E2).ext E4)
  have f7 : Fld Z h4 b1 z0 "kind" z4 .null := ((F1_1.ext E2).ext E4)
  have f8 : Fld Z h4 b1 z0 "limitation" z8 .null := ((F1_2.ext E2).ext E4)
  have f9 : Fld Z h4 b1 z0 "catcher" z5 .null := ((F1_3.ext E2).ext E4)
  have f10 : Fld Z h4 b1 z0 "errorCode" z8 .null := ((F1_4.ext E2).ext E4)
  have sf5 := ((sfS (Safe.exa (EL := EL) hZ4.alike f6 (by decide) (by decide)) sf0) : ∀ x ∈ [b1], Safe Z EL T4.vm h4 x)
  obtain ⟨_, T5, L5, hQ5, X5, st5⟩ := own_special X4 hx hZ4 (W := 1) rfl hown4 (hw _ m56) (hw _ m57) (hw _ m41) (hw _ m58) (by decide) (rm48 l Z a0 hw hj w0 w1 w2 w3 w4 w5 w6 w7 w8 w9 w10 w11 w12 w13 w14 w15 w16 w17 hS [] b1 sa2 sa4 h4 n0 O4 f6 f7 f8 f9 f10 (Nat.le_trans (own_old_le O0) g1)) e4 (a := b1) (g := (mkF m 12 #[.val (.ref w8)] [(.ref sa4), (.ref w0), (.ref sa2), (.ref w8), (.ref b1), (.ref b1)])) rfl (by rw [hml]; rfl) (argsL := [(.ref w8), (.ref sa2), (.ref w0), (.ref sa4)]) (rest := [(.ref b1)]) (lenOf pd74 rfl) rfl rfl (by show 2 * 0 + _ ≤ _; exact Nat.le_of_eq rfl) (hb hby d1_12) (by decide) (by decide) (by decide) (by decide)
  obtain ⟨rfl, N5q, Kq5, q5_0, q5_1, q5_2, q5_3⟩ := hQ5
  have N5 := Fr.app N0 N5q
  have C5 := C4.trans (CHr.keep Kq5 sf5 C4.1)
  have O5 : Old Z n0 T5.heap := O4.keep Kq5 (allS (Nat.le_trans (own_old_le O0) g1) all0)
  have K5 : Keep h0 T5.heap [] := K4.trans Kq5 (allS (Or.inr (Nat.le_trans (Keep.refl h0 []).1 g1)) all0)
  have f11 : Exa Z T5.heap b1 z0 := (f6.keep Kq5)
  have f12 : Exa Z T5.heap sa2 z3 := ((A2.ext E4).keep Kq5)
  have f13 : Fld Z T5.heap sa2 z3 "coder" "B" (.int (0 : Int32)) := ((Fc2.ext E4).keep Kq5 (ninS (ne_exa A2 (A1.ext E2) (by decide)) nin0))
  have f14 : Fld Z T5.heap sa2 z3 "value" "[B" (.ref sb2) := ((Fv2.ext E4).keep Kq5 (ninS (ne_exa A2 (A1.ext E2) (by decide)) nin0))
  have f15 : Exa Z T5.heap sa4 z3 := (A4.keep Kq5)
  have f16 : Fld Z T5.heap sa4 z3 "coder" "B" (.int (0 : Int32)) := (Fc4.keep Kq5 (ninS (ne_exa A4 f6 (by decide)) nin0))
  have f17 : Fld Z T5.heap sa4 z3 "value" "[B" (.ref sb4) := (Fv4.keep Kq5 (ninS (ne_exa A4 f6 (by decide)) nin0))
  have f18 : Arv Z T5.heap sb2 k2 .byte (0 : Int32) [] (.int (0 : Int32)) := ((V2.ext E4).keep Kq5 (ninS (Ne.symm (Exa.neArv (A1.ext E2) V2 (hw _ m44))) nin0))
  have f19 : Arv Z T5.heap sb4 k4 .byte (0 : Int32) [] (.int (0 : Int32)) := (V4.keep Kq5 (ninS (Ne.symm (Exa.neArv f6 V4 (hw _ m44))) nin0))
  obtain ⟨fs, hr, hrun, hended, hRW⟩ := X5.leaveW hS4 (by rw [(rfl : T5.heap = T5.heap)]; exact (Nat.le_trans hk4 Kq5.1)) (v := some (.ref b1)) (fun h => by rw [Bd.returns] at h; cases h)
  refine ⟨_, _, pre0 _ ?_, hrun, hended, _, _, rfl, ?_, ?_, hRW⟩
  · show Steps p.tables e below (s₁.setTop (mkF m 0 #[.val (.ref w8)] [])) _
    refine st1 _ ?_
    refine XS.dup X1.here hx rfl (hb hby d1_3) rfl rfl ?_
    refine XS.aloadN X1.here hx rfl (hb hby d1_4) rfl rfl ?_
    refine st2 _ ?_
    show Steps p.tables e below (T2.setTop (mkF m 7 #[.val (.ref w8)] [(.ref sa2), (.ref w8), (.ref b1), (.ref b1)])) _
    refine st3 _ ?_
    refine st4 _ ?_
    refine st5 _ ?_
    exact retOut X5 hx Bd.returns rfl (Or.inr (Or.inr (Or.inr (Or.inr ⟨rfl, rfl, rfl⟩)))) (hb hby d1_15) hr
  · show Qrm49 Z w0 w1 w2 w3 w4 w5 w6 w7 w8 w9 w10 w11 w12 w13 w14 w15 w16 w17 h0 n0 _ T5.heap _
    exact ⟨b1, sa2, sa4, sb2, sb4, k2, k4, rfl, N5, K5, (Nat.le_trans (Keep.refl h0 []).1 g1), f11, q5_0, q5_1, q5_2, q5_3, f12, f13, f14, f15, f16, f17, f18, f19⟩
  · show CHr Z EL _ _ T5.vm T5.heap
    exact own_chr (by rw [← hh]) (rfl : T5.heap = T5.heap) (C5.trans (CHv.at X5 hZ4 (own_EW hw hj) C5.1))
def Qrm50 (Z : State) (w0 : Addr) (w1 : Addr) (w2 : Addr) (w3 : Addr) (w4 : Addr) (w5 : Addr) (w6 : Addr) (w7 : Addr) (w8 : Addr) (w9 : Addr) (w10 : Addr) (w11 : Addr) (w12 : Addr) (w13 : Addr) (w14 : Addr) (w15 : Addr) (w16 : Addr) (w17 : Addr) (a1 : Addr) (h0 : Heap) (n0 : Nat) (v : Option Value) (h : Heap) (L : List Loc) : Prop := v = some (.ref w8) ∧ Fr n0 L ∧ h = h0
set_option maxRecDepth 65536 in
set_option maxHeartbeats 40000000 in
theorem rm50 (l : Launch) (Z : State) (a0 : Array Value) (hw : ∀ d ∈ tables_1, d.before a0 Z = true) (hj : ∀ d ∈ jdkStatics_1, d.before a0 Z = true) (w0 : Addr) (w1 : Addr) (w2 : Addr) (w3 : Addr) (w4 : Addr) (w5 : Addr) (w6 : Addr) (w7 : Addr) (w8 : Addr) (w9 : Addr) (w10 : Addr) (w11 : Addr) (w12 : Addr) (w13 : Addr) (w14 : Addr) (w15 : Addr) (w16 : Addr) (w17 : Addr) (hS : SF Z w0 w1 w2 w3 w4 w5 w6 w7 w8 w9 w10 w11 w12 w13 w14 w15 w16 w17) (ws : List Jvm.Cond) (a1 : Addr) (h0 : Heap) (n0 : Nat) (O0 : Old Z n0 h0) (F1 : Fld Z h0 a1 z0 "kind" z4 (.ref w8)) :
    MetFree l (⟨z0, "kind", z9⟩ : MethodName) (head1 (Jvm.Cond.code (⟨z0, "kind", z9⟩ : MethodName) prog_27_method_7_code 1 (some (.object z1)) :: ws) ({ frames := 0, cells := 0, slots := 0, locals := 0 } : Room)) (fun a U => a = #[(.ref a1)] ∧ Z.Warmed39 U.vm ∧ U.heap = h0) (fun _ _ _ _ _ => True) (fun _ U o U' => ∃ v L, o = .returned v ∧ Qrm50 Z w0 w1 w2 w3 w4 w5 w6 w7 w8 w9 w10 w11 w12 w13 w14 w15 w16 w17 a1 h0 n0 v U'.heap L ∧ FrameEnd U o U' L ({ frames := 0, cells := 0, slots := 0, locals := 0 } : Room).cells ({ frames := 0, cells := 0, slots := 0, locals := 0 } : Room).slots) := by
  refine MetFree.of_bodySF (plainFor_of_name pn72) hisR ?_
  intro p e s m args below meth c s₁ Bd hml0 hP hK
  obtain ⟨rfl, hZ, hh⟩ := hP
  have hx := Bd.exec
  have hby := Bd.bytes
  have hml : c.maxLocals = 1 := hml0
  have hown : s.vm.findClass z0 = some m.cls := findClass_of_methodNamed Bd.named
  have hnm := (name_of_methodNamed Bd.named Bd.method).1
  have X0 : Stand p l e ({ frames := 0, cells := 0, slots := 0, locals := 0 } : Room) s m #[(.ref a1)] below meth c s₁ [] 0 0 := Stand.of_body Bd
  have e0 : s₁.heap = h0 := by rw [← hh, Bd.state]; rfl
  have N0 := Fr.nil n0
  have pre0 : ∀ t, Steps p.tables e below (s₁.setTop (mkF m 0 #[.val (.ref a1)] [])) t → Steps p.tables e below (s₁.setTop (entryFrame m #[(.ref a1)] 1)) t := fun t k => castTop (ef48 m a1) k
  obtain ⟨T1, X1, e1, st1⟩ := getF X0 hx hZ hown (host := "") (Or.inl (hw _ m67)) Via.refl e0 F1 (g := (mkF m 1 #[.val (.ref a1)] [(.ref a1)])) rfl rfl (hb hby d5_1)
  obtain ⟨fs, hr, hrun, hended, hW, hsame⟩ := X1.leave (v := some (.ref w8)) (fun h => by rw [Bd.returns] at h; cases h)
  refine ⟨_, _, pre0 _ ?_, hrun, hended, _, _, rfl, ?_, ⟨_, rfl⟩, hW, hsame.mono (by decide) (by decide)⟩
  · show Steps p.tables e below (s₁.setTop (mkF m 0 #[.val (.ref a1)] [])) _
    refine XS.aloadN X0.here hx rfl (hb hby d5_0) rfl rfl ?_
    refine st1 _ ?_
    exact retOut X1 hx Bd.returns rfl (Or.inr (Or.inr (Or.inr (Or.inr ⟨rfl, rfl, rfl⟩)))) (hb hby d5_4) hr
  · show Qrm50 Z w0 w1 w2 w3 w4 w5 w6 w7 w8 w9 w10 w11 w12 w13 w14 w15 w16 w17 a1 h0 n0 _ T1.heap _
    rw [e1]
    exact ⟨rfl, N0, rfl⟩
def Qrm51 (Z : State) (w0 : Addr) (w1 : Addr) (w2 : Addr) (w3 : Addr) (w4 : Addr) (w5 : Addr) (w6 : Addr) (w7 : Addr) (w8 : Addr) (w9 : Addr) (w10 : Addr) (w11 : Addr) (w12 : Addr) (w13 : Addr) (w14 : Addr) (w15 : Addr) (w16 : Addr) (w17 : Addr) (a1 : Addr) (a2 : Addr) (a3 : Addr) (h0 : Heap) (n0 : Nat) (v : Option Value) (h : Heap) (L : List Loc) : Prop := v = none ∧ Fr n0 L ∧ Keep h0 h [a1] ∧ Fld Z h a1 z0 "kind" z4 (.ref w3) ∧ Fld Z h a1 z0 "limitation" z8 (.ref a2) ∧ Fld Z h a1 z0 "catcher" z5 (.ref w0) ∧ Fld Z h a1 z0 "errorCode" z8 (.ref a3)
set_option maxRecDepth 65536 in
set_option maxHeartbeats 40000000 in
theorem rm51 (l : Launch) (Z : State) (a0 : Array Value) (hw : ∀ d ∈ tables_1, d.before a0 Z = true) (hj : ∀ d ∈ jdkStatics_1, d.before a0 Z = true) (w0 : Addr) (w1 : Addr) (w2 : Addr) (w3 : Addr) (w4 : Addr) (w5 : Addr) (w6 : Addr) (w7 : Addr) (w8 : Addr) (w9 : Addr) (w10 : Addr) (w11 : Addr) (w12 : Addr) (w13 : Addr) (w14 : Addr) (w15 : Addr) (w16 : Addr) (w17 : Addr) (hS : SF Z w0 w1 w2 w3 w4 w5 w6 w7 w8 w9 w10 w11 w12 w13 w14 w15 w16 w17) (ws : List Jvm.Cond) (a1 : Addr) (a2 : Addr) (a3 : Addr) (h0 : Heap) (n0 : Nat) (O0 : Old Z n0 h0) (E1 : Exa Z h0 a1 z0) (F2 : Fld Z h0 a1 z0 "kind" z4 .null) (F3 : Fld Z h0 a1 z0 "limitation" z8 .null) (F4 : Fld Z h0 a1 z0 "catcher" z5 .null) (F5 : Fld Z h0 a1 z0 "errorCode" z8 .null) (g6 : n0 ≤ a1) :
    MetFree l (⟨z0, "<init>", z6⟩ : MethodName) (head1 (Jvm.Cond.code (⟨z0, "<init>", z6⟩ : MethodName) prog_27_method_1_code 5 none :: ws) ({ frames := 2, cells := 0, slots := 0, locals := 24 } : Room)) (fun a U => a = #[(.ref a1), (.ref w3), (.ref a2), (.ref w0), (.ref a3)] ∧ Z.Warmed39 U.vm ∧ U.heap = h0) (fun _ _ _ _ _ => True) (fun _ U o U' => ∃ v L, o = .returned v ∧ Qrm51 Z w0 w1 w2 w3 w4 w5 w6 w7 w8 w9 w10 w11 w12 w13 w14 w15 w16 w17 a1 a2 a3 h0 n0 v U'.heap L ∧ FrameEnd U o U' L ({ frames := 2, cells := 0, slots := 0, locals := 24 } : Room).cells ({ frames := 2, cells := 0, slots := 0, locals := 24 } : Room).slots) := by
  refine MetFree.of_bodySF (plainFor_of_name pn72) hisR ?_
  intro p e s m args below meth c s₁ Bd hml0 hP hK
  obtain ⟨rfl, hZ, hh⟩ := hP
  have hx := Bd.exec
  have hby := Bd.bytes
  have hml : c.maxLocals = 5 := hml0
  have hown : s.vm.findClass z0 = some m.cls := findClass_of_methodNamed Bd.named
  have hnm := (name_of_methodNamed Bd.named Bd.method).1
  have X0 : Stand p l e ({ frames := 2, cells := 0, slots := 0, locals := 24 } : Room) s m #[(.ref a1), (.ref w3), (.ref a2), (.ref w0), (.ref a3)] below meth c s₁ [] 0 0 := Stand.of_body Bd
  have e0 : s₁.heap = h0 := by rw [← hh, Bd.state]; rfl
  have N0 := Fr.nil n0
  have pre0 : ∀ t, Steps p.tables e below (s₁.setTop (mkF m 0 #[.val (.ref a1), .val (.ref w3), .val (.ref a2), .val (.ref w0), .val (.ref a3)] [])) t → Steps p.tables e below (s₁.setTop (entryFrame m #[(.ref a1), (.ref w3), (.ref a2), (.ref w0), (.ref a3)] 5)) t := fun t k => castTop (ef71 m a1 w3 a2 w0 a3) k
  obtain ⟨_, T1, L1, hQ1, X1, st1⟩ := own_special X0 hx hZ (W := 0) rfl hown (hw _ m59) (hw _ m60) (hw _ m62) (hw _ m63) (by decide) (rm1 l Z a0 hw hj w0 w1 w2 w3 w4 w5 w6 w7 w8 w9 w10 w11 w12 w13 w14 w15 w16 w17 hS [] a1 h0 n0 O0) e0 (a := a1) (g := (mkF m 1 #[.val (.ref a1), .val (.ref w3), .val (.ref a2), .val (.ref w0), .val (.ref a3)] [(.ref a1)])) rfl (by rw [hml]; rfl) (argsL := []) (rest := []) (lenOf pd52 rfl) rfl rfl (by show 2 * 0 + _ ≤ _; exact Nat.le_of_eq rfl) (hb hby d2_1) (by decide) (by decide) (by decide) (by decide)
  obtain ⟨rfl, N1q, e1⟩ := hQ1
  have N1 := Fr.app N0 N1q
  have e1' : T1.heap = h0 := e1
  obtain ⟨T2, h2, L'2, X2, e2, W2, Fw2, O2, K2, N2, st2⟩ := own_put X1 hx hZ hown (host := "") (Or.inl (hw _ m67)) Via.refl e1' O0 (Keep.refl h0 [a1]) N1 g6 (Or.inl (List.mem_of_getElem? (i := 0) rfl)) F2 E1 (Or.inr ⟨(hw _ m68), rfl, hnm⟩) (hw _ m44) (ty := (.object z1)) (by decide) rfl rfl (g := (mkF m 6 #[.val (.ref a1), .val (.ref w3), .val (.ref a2), .val (.ref w0), .val (.ref a3)] [(.ref w3), (.ref a1)])) rfl rfl (hb hby d2_6)
  have f3 : Fld Z h2 a1 z0 "limitation" z8 .null := (F3.other W2 (Or.inr (slot_ne (Or.inr (hw _ m70)) (Or.inr (hw _ m68)) (by decide) (t := (.object z3)) (t' := (.object z1)) (by decide) (by decide))))
  have f4 : Exa Z h2 a1 z0 := (E1.wr W2)
  obtain ⟨T5, h5, L'5, X5, e5, W5, Fw5, O5, K5, N5, st5⟩ := own_put X2 hx hZ hown (host := "") (Or.inl (hw _ m69)) Via.refl e2 O2 K2 N2 g6 (Or.inl (List.mem_of_getElem? (i := 0) rfl)) f3 f4 (Or.inr ⟨(hw _ m70), rfl, hnm⟩) (hw _ m44) (ty := (.object z3)) (by decide) rfl rfl (g := (mkF m 11 #[.val (.ref a1), .val (.ref w3), .val (.ref a2), .val (.ref w0), .val (.ref a3)] [(.ref a2), (.ref a1)])) rfl rfl (hb hby d2_11)
  have f6 : Fld Z h5 a1 z0 "catcher" z5 .null := ((F4.other W2 (Or.inr (slot_ne (Or.inr (hw _ m72)) (Or.inr (hw _ m68)) (by decide) (t := (.object z2)) (t' := (.object z1)) (by decide) (by decide)))).other W5 (Or.inr (slot_ne (Or.inr (hw _ m72)) (Or.inr (hw _ m70)) (by decide) (t := (.object z2)) (t' := (.object z3)) (by decide) (by decide))))
  have f7 : Exa Z h5 a1 z0 := (f4.wr W5)
  obtain ⟨T8, h8, L'8, X8, e8, W8, Fw8, O8, K8, N8, st8⟩ := own_put X5 hx hZ hown (host := "") (Or.inl (hw _ m71)) Via.refl e5 O5 K5 N5 g6 (Or.inl (List.mem_of_getElem? (i := 0) rfl)) f6 f7 (Or.inr ⟨(hw _ m72), rfl, hnm⟩) (hw _ m44) (ty := (.object z2)) (by decide) rfl rfl (g := (mkF m 16 #[.val (.ref a1), .val (.ref w3), .val (.ref a2), .val (.ref w0), .val (.ref a3)] [(.ref w0), (.ref a1)])) rfl rfl (hb hby d2_16)
  have f9 : Fld Z h8 a1 z0 "errorCode" z8 .null := (((F5.other W2 (Or.inr (slot_ne (Or.inr (hw _ m74)) (Or.inr (hw _ m68)) (by decide) (t := (.object z3)) (t' := (.object z1)) (by decide) (by decide)))).other W5 (Or.inr (slot_ne (Or.inr (hw _ m74)) (Or.inr (hw _ m70)) (by decide) (t := (.object z3)) (t' := (.object z3)) (by decide) (by decide)))).other W8 (Or.inr (slot_ne (Or.inr (hw _ m74)) (Or.inr (hw _ m72)) (by decide) (t := (.object z3)) (t' := (.object z2)) (by decide) (by decide))))
  have f10 : Exa Z h8 a1 z0 := (f7.wr W8)
  obtain ⟨T11, h11, L'11, X11, e11, W11, Fw11, O11, K11, N11, st11⟩ := own_put X8 hx hZ hown (host := "") (Or.inl (hw _ m73)) Via.refl e8 O8 K8 N8 g6 (Or.inl (List.mem_of_getElem? (i := 0) rfl)) f9 f10 (Or.inr ⟨(hw _ m74), rfl, hnm⟩) (hw _ m44) (ty := (.object z3)) (by decide) rfl rfl (g := (mkF m 22 #[.val (.ref a1), .val (.ref w3), .val (.ref a2), .val (.ref w0), .val (.ref a3)] [(.ref a3), (.ref a1)])) rfl rfl (hb hby d2_22)
  have f12 : Fld Z h11 a1 z0 "kind" z4 (.ref w3) := (((Fw2.other W5 (Or.inr (slot_ne (Or.inr (hw _ m68)) (Or.inr (hw _ m70)) (by decide) (t := (.object z1)) (t' := (.object z3)) (by decide) (by decide)))).other W8 (Or.inr (slot_ne (Or.inr (hw _ m68)) (Or.inr (hw _ m72)) (by decide) (t := (.object z1)) (t' := (.object z2)) (by decide) (by decide)))).other W11 (Or.inr (slot_ne (Or.inr (hw _ m68)) (Or.inr (hw _ m74)) (by decide) (t := (.object z1)) (t' := (.object z3)) (by decide) (by decide))))
  have f13 : Fld Z h11 a1 z0 "limitation" z8 (.ref a2) := ((Fw5.other W8 (Or.inr (slot_ne (Or.inr (hw _ m70)) (Or.inr (hw _ m72)) (by decide) (t := (.object z3)) (t' := (.object z2)) (by decide) (by decide)))).other W11 (Or.inr (slot_ne (Or.inr (hw _ m70)) (Or.inr (hw _ m74)) (by decide) (t := (.object z3)) (t' := (.object z3)) (by decide) (by decide))))
  have f14 : Fld Z h11 a1 z0 "catcher" z5 (.ref w0) := (Fw8.other W11 (Or.inr (slot_ne (Or.inr (hw _ m72)) (Or.inr (hw _ m74)) (by decide) (t := (.object z2)) (t' := (.object z3)) (by decide) (by decide))))
  obtain ⟨fs, hr, hrun, hended, hW, hsame⟩ := X11.leave (v := none) (fun _ => rfl)
  refine ⟨_, _, pre0 _ ?_, hrun, hended, _, _, rfl, ?_, ⟨_, rfl⟩, hW, hsame.mono (by decide) (by decide)⟩
  · show Steps p.tables e below (s₁.setTop (mkF m 0 #[.val (.ref a1), .val (.ref w3), .val (.ref a2), .val (.ref w0), .val (.ref a3)] [])) _
    refine XS.aloadN X0.here hx rfl (hb hby d2_0) rfl rfl ?_
    refine st1 _ ?_
    refine XS.aloadN X1.here hx rfl (hb hby d2_4) rfl rfl ?_
    refine XS.aloadN X1.here hx rfl (hb hby d2_5) rfl rfl ?_
    show Steps p.tables e below (T1.setTop (mkF m 6 #[.val (.ref a1), .val (.ref w3), .val (.ref a2), .val (.ref w0), .val (.ref a3)] [(.ref w3), (.ref a1)])) _
    refine st2 _ ?_
    refine XS.aloadN X2.here hx rfl (hb hby d2_9) rfl rfl ?_
    refine XS.aloadN X2.here hx rfl (hb hby d2_10) rfl rfl ?_
    refine st5 _ ?_
    show Steps p.tables e below (T5.setTop (mkF m 14 #[.val (.ref a1), .val (.ref w3), .val (.ref a2), .val (.ref w0), .val (.ref a3)] [])) _
    refine XS.aloadN X5.here hx rfl (hb hby d2_14) rfl rfl ?_
    refine XS.aloadN X5.here hx rfl (hb hby d2_15) rfl rfl ?_
    refine st8 _ ?_
    refine XS.aloadN X8.here hx rfl (hb hby d2_19) rfl rfl ?_
    show Steps p.tables e below (T8.setTop (mkF m 20 #[.val (.ref a1), .val (.ref w3), .val (.ref a2), .val (.ref w0), .val (.ref a3)] [(.ref a1)])) _
    refine XS.aload X8.here hx rfl (hb hby d2_20) rfl rfl ?_
    refine st11 _ ?_
    exact X11.returnOut hx Bd.returns (hb hby d2_25) hr
  · show Qrm51 Z w0 w1 w2 w3 w4 w5 w6 w7 w8 w9 w10 w11 w12 w13 w14 w15 w16 w17 a1 a2 a3 h0 n0 _ T11.heap _
    rw [e11]
    exact ⟨rfl, N11, K11, f12, f13, f14, Fw11⟩
def Qrm52 (Z : State) (w0 : Addr) (w1 : Addr) (w2 : Addr) (w3 : Addr) (w4 : Addr) (w5 : Addr) (w6 : Addr) (w7 : Addr) (w8 : Addr) (w9 : Addr) (w10 : Addr) (w11 : Addr) (w12 : Addr) (w13 : Addr) (w14 : Addr) (w15 : Addr) (w16 : Addr) (w17 : Addr) (h0 : Heap) (n0 : Nat) (v : Option Value) (h : Heap) (L : List Loc) : Prop := ∃ x0 : Addr, ∃ x1 : Addr, ∃ x2 : Addr, ∃ x3 : Addr, ∃ x4 : Addr, ∃ xk0 : ClassId, ∃ xk1 : ClassId, v = some (.ref x0) ∧ Fr n0 L ∧ Keep h0 h [] ∧ h0.size ≤ x0 ∧ Exa Z h x0 z0 ∧ Fld Z h x0 z0 "kind" z4 (.ref w3) ∧ Fld Z h x0 z0 "limitation" z8 (.ref x1) ∧ Fld Z h x0 z0 "catcher" z5 (.ref w0) ∧ Fld Z h x0 z0 "errorCode" z8 (.ref x2) ∧ Exa Z h x1 z3 ∧ Fld Z h x1 z3 "coder" "B" (.int (0 : Int32)) ∧ Fld Z h x1 z3 "value" "[B" (.ref x3) ∧ Exa Z h x2 z3 ∧ Fld Z h x2 z3 "coder" "B" (.int (0 : Int32)) ∧ Fld Z h x2 z3 "value" "[B" (.ref x4) ∧ Arv Z h x3 xk0 .byte (0 : Int32) [] (.int (0 : Int32)) ∧ Arv Z h x4 xk1 .byte (0 : Int32) [] (.int (0 : Int32))
set_option maxRecDepth 65536 in
set_option maxHeartbeats 40000000 in
theorem rm52 (l : Launch) (Z : State) (a0 : Array Value) (hw : ∀ d ∈ tables_1, d.before a0 Z = true) (hj : ∀ d ∈ jdkStatics_1, d.before a0 Z = true) (w0 : Addr) (w1 : Addr) (w2 : Addr) (w3 : Addr) (w4 : Addr) (w5 : Addr) (w6 : Addr) (w7 : Addr) (w8 : Addr) (w9 : Addr) (w10 : Addr) (w11 : Addr) (w12 : Addr) (w13 : Addr) (w14 : Addr) (w15 : Addr) (w16 : Addr) (w17 : Addr) (hS : SF Z w0 w1 w2 w3 w4 w5 w6 w7 w8 w9 w10 w11 w12 w13 w14 w15 w16 w17) (ws : List Jvm.Cond) (h0 : Heap) (n0 : Nat) (O0 : Old Z n0 h0) :
    MetFree l (⟨z0, "runs", z7⟩ : MethodName) (head1 (Jvm.Cond.code (⟨z0, "runs", z7⟩ : MethodName) prog_27_method_2_code 1 (some (.object z0)) :: ws) ({ frames := 3, cells := 5, slots := 12, locals := 41 } : Room)) (fun a U => a = #[(.ref w3)] ∧ Z.Warmed39 U.vm ∧ U.heap = h0 ∧ CHv Z EL U.vm h0 ∧ ∀ x ∈ ([] : List Addr), Safe Z EL U.vm h0 x) (fun _ _ _ _ _ => True) (fun _ U o U' => ∃ v L, o = .returned v ∧ Qrm52 Z w0 w1 w2 w3 w4 w5 w6 w7 w8 w9 w10 w11 w12 w13 w14 w15 w16 w17 h0 n0 v U'.heap L ∧ CHr Z EL U.vm U.heap U'.vm U'.heap ∧ ReturnedEndW U o U' L ({ frames := 3, cells := 5, slots := 12, locals := 41 } : Room).cells ({ frames := 3, cells := 5, slots := 12, locals := 41 } : Room).slots) := by
  refine MetFree.of_bodySF (plainFor_of_name pn72) hisR ?_
  intro p e s m args below meth c s₁ Bd hml0 hP hK
  obtain ⟨rfl, hZ, hh, H0, hsx⟩ := hP
  have hx := Bd.exec
  have hby := Bd.bytes
  have hml : c.maxLocals = 1 := hml0
  have hown : s.vm.findClass z0 = some m.cls := findClass_of_methodNamed Bd.named
  have hnm := (name_of_methodNamed Bd.named Bd.method).1
  have X0 : Stand p l e ({ frames := 3, cells := 5, slots := 12, locals := 41 } : Room) (s.setVm s.vm) m #[(.ref w3)] below meth c s₁ [] 0 0 := Stand.of_body Bd
  have e0 : s₁.heap = h0 := by rw [← hh, Bd.state]; rfl
  have N0 := Fr.nil n0
  have pre0 : ∀ t, Steps p.tables e below (s₁.setTop (mkF m 0 #[.val (.ref w3)] [])) t → Steps p.tables e below (s₁.setTop (entryFrame m #[(.ref w3)] 1)) t := fun t k => castTop (ef48 m w3) k
  have hS0 : s.Since s.vm h0.size := (State.WarmedH.refl s).since _
  have C0 : CHr Z EL s.vm h0 s.vm h0 := CHr.refl H0
  obtain ⟨T1, h1, b1, X1, e1, E1, A1, D1, g1, O1, K1, st1⟩ := own_newO X0 hx hZ hown (hw _ m43) (hw _ m44) (hw _ m41) e0 O0 (Keep.refl h0 []) (g := (mkF m 0 #[.val (.ref w3)] [])) rfl (hb hby d1_0) (by decide) (by decide)
  have C1 := C0.trans (CHr.ext E1 C0.1)
  have F1_1 : Fld Z h1 b1 z0 "kind" z4 .null := D1 (Or.inr (hw _ m68)) (ty := (.object z1)) (by decide)
  have F1_2 : Fld Z h1 b1 z0 "limitation" z8 .null := D1 (Or.inr (hw _ m70)) (ty := (.object z3)) (by decide)
  have F1_3 : Fld Z h1 b1 z0 "catcher" z5 .null := D1 (Or.inr (hw _ m72)) (ty := (.object z2)) (by decide)
  have F1_4 : Fld Z h1 b1 z0 "errorCode" z8 .null := D1 (Or.inr (hw _ m74)) (ty := (.object z3)) (by decide)
  obtain ⟨sa2, T2, h2, k12, sb2, k2, X2, e2, E2, hS2, hk2, hZ2, hown2, A2, Fc2, Fv2, V2, la2, lb2, Cq2, -, hn2, st2⟩ := ldcCH X1 hx hZ hown (hw _ m45) (own_str hw hj) e1 hS0 (Nat.le_trans (Nat.le_refl _) E1.1) (own_EW hw hj) (List.mem_of_getElem? (i := 0) rfl) C1.1 (vs := []) (z := (0 : Int32)) ⟨by decide, by decide⟩ (by decide) (by decide) (g := (mkF m 5 #[.val (.ref w3)] [(.ref w3), (.ref b1), (.ref b1)])) rfl (hb hby d1_5) (n := 0) (by decide) (by decide) (by decide) (by decide)
  have O2 : Old Z n0 h2 := O1.ext E2
  have K2 : Keep h0 h2 [] := K1.ext E2
  have C2 := C1.trans Cq2
  obtain ⟨T3, X3, e3, st3⟩ := getS2 X2 hx hZ2 hown2 (host := "") (Or.inl (hw _ m53)) Via.refl e2 (hS.1.ext O2.2) (g := (mkF m 7 #[.val (.ref w3)] [(.ref sa2), (.ref w3), (.ref b1), (.ref b1)])) rfl (hb hby d1_7)
  obtain ⟨sa4, T4, h4, k14, sb4, k4, X4, e4, E4, hS4, hk4, hZ4, hown4, A4, Fc4, Fv4, V4, la4, lb4, Cq4, -, hn4, st4⟩ := ldcCH X3 hx hZ2 hown2 (hw _ m45) (own_str hw hj) e3 hS2 hk2 (own_EW hw hj) (List.mem_of_getElem? (i := 0) rfl) C2.1 (vs := []) (z := (0 : Int32)) ⟨by decide, by decide⟩ (by decide) (by decide) (g := (mkF m 10 #[.val (.ref w3)] [(.ref w0), (.ref sa2), (.ref w3), (.ref b1), (.ref b1)])) rfl (hb hby d1_10) (n := 0) (by decide) (by decide) (by decide) (by decide)
  have O4 : Old Z n0 h4 := O2.ext E4
  have K4 : Keep h0 h4 [] := K2.ext E4
  have C4 := C2.trans Cq4
  have f6 : Exa Z h4 b1 z0 := ((A1.ext E2).ext E4)
  have f7 : Fld Z h4 b1 z0 "kind" z4 .null := ((F1_1.ext E2).ext E4)
  have f8 : Fld Z h4 b1 z0 "limitation" z8 .null := ((F1_2.ext E2).ext E4)
  have f9 : Fld Z h4 b1 z0 "catcher" z5 .null := ((F1_3.ext E2).ext E4)
  have f10 : Fld Z h4 b1 z0 "errorCode" z8 .null := ((F1_4.ext E2).ext E4)
  have sf5 := ((sfS (Safe.exa (EL := EL) hZ4.alike f6 (by decide) (by decide)) sf0) : ∀ x ∈ [b1], Safe Z EL T4.vm h4 x)
  obtain ⟨_, T5, L5, hQ5, X5, st5⟩ := own_special X4 hx hZ4 (W := 1) rfl hown4 (hw _ m56) (hw _ m57) (hw _ m41) (hw _ m58) (by decide) (rm51 l Z a0 hw hj w0 w1 w2 w3 w4 w5 w6 w7 w8 w9 w10 w11 w12 w13 w14 w15 w16 w17 hS [] b1 sa2 sa4 h4 n0 O4 f6 f7 f8 f9 f10 (Nat.le_trans (own_old_le O0) g1)) e4 (a := b1) (g := (mkF m 12 #[.val (.ref w3)] [(.ref sa4), (.ref w0), (.ref sa2), (.ref w3), (.ref b1), (.ref b1)])) rfl (by rw [hml]; rfl) (argsL := [(.ref w3), (.ref sa2), (.ref w0), (.ref sa4)]) (rest := [(.ref b1)]) (lenOf pd74 rfl) rfl rfl (by show 2 * 0 + _ ≤ _; exact Nat.le_of_eq rfl) (hb hby d1_12) (by decide) (by decide) (by decide) (by decide)
  obtain ⟨rfl, N5q, Kq5, q5_0, q5_1, q5_2, q5_3⟩ := hQ5
  have N5 := Fr.app N0 N5q
  have C5 := C4.trans (CHr.keep Kq5 sf5 C4.1)
  have O5 : Old Z n0 T5.heap := O4.keep Kq5 (allS (Nat.le_trans (own_old_le O0) g1) all0)
  have K5 : Keep h0 T5.heap [] := K4.trans Kq5 (allS (Or.inr (Nat.le_trans (Keep.refl h0 []).1 g1)) all0)
  have f11 : Exa Z T5.heap b1 z0 := (f6.keep Kq5)
  have f12 : Exa Z T5.heap sa2 z3 := ((A2.ext E4).keep Kq5)
  have f13 : Fld Z T5.heap sa2 z3 "coder" "B" (.int (0 : Int32)) := ((Fc2.ext E4).keep Kq5 (ninS (ne_exa A2 (A1.ext E2) (by decide)) nin0))
  have f14 : Fld Z T5.heap sa2 z3 "value" "[B" (.ref sb2) := ((Fv2.ext E4).keep Kq5 (ninS (ne_exa A2 (A1.ext E2) (by decide)) nin0))
  have f15 : Exa Z T5.heap sa4 z3 := (A4.keep Kq5)
  have f16 : Fld Z T5.heap sa4 z3 "coder" "B" (.int (0 : Int32)) := (Fc4.keep Kq5 (ninS (ne_exa A4 f6 (by decide)) nin0))
  have f17 : Fld Z T5.heap sa4 z3 "value" "[B" (.ref sb4) := (Fv4.keep Kq5 (ninS (ne_exa A4 f6 (by decide)) nin0))
  have f18 : Arv Z T5.heap sb2 k2 .byte (0 : Int32) [] (.int (0 : Int32)) := ((V2.ext E4).keep Kq5 (ninS (Ne.symm (Exa.neArv (A1.ext E2) V2 (hw _ m44))) nin0))
  have f19 : Arv Z T5.heap sb4 k4 .byte (0 : Int32) [] (.int (0 : Int32)) := (V4.keep Kq5 (ninS (Ne.symm (Exa.neArv f6 V4 (hw _ m44))) nin0))
  obtain ⟨fs, hr, hrun, hended, hRW⟩ := X5.leaveW hS4 (by rw [(rfl : T5.heap = T5.heap)]; exact (Nat.le_trans hk4 Kq5.1)) (v := some (.ref b1)) (fun h => by rw [Bd.returns] at h; cases h)
  refine ⟨_, _, pre0 _ ?_, hrun, hended, _, _, rfl, ?_, ?_, hRW⟩
  · show Steps p.tables e below (s₁.setTop (mkF m 0 #[.val (.ref w3)] [])) _
    refine st1 _ ?_
    refine XS.dup X1.here hx rfl (hb hby d1_3) rfl rfl ?_
    refine XS.aloadN X1.here hx rfl (hb hby d1_4) rfl rfl ?_
    refine st2 _ ?_
    show Steps p.tables e below (T2.setTop (mkF m 7 #[.val (.ref w3)] [(.ref sa2), (.ref w3), (.ref b1), (.ref b1)])) _
    refine st3 _ ?_
    refine st4 _ ?_
    refine st5 _ ?_
    exact retOut X5 hx Bd.returns rfl (Or.inr (Or.inr (Or.inr (Or.inr ⟨rfl, rfl, rfl⟩)))) (hb hby d1_15) hr
  · show Qrm52 Z w0 w1 w2 w3 w4 w5 w6 w7 w8 w9 w10 w11 w12 w13 w14 w15 w16 w17 h0 n0 _ T5.heap _
    exact ⟨b1, sa2, sa4, sb2, sb4, k2, k4, rfl, N5, K5, (Nat.le_trans (Keep.refl h0 []).1 g1), f11, q5_0, q5_1, q5_2, q5_3, f12, f13, f14, f15, f16, f17, f18, f19⟩
  · show CHr Z EL _ _ T5.vm T5.heap
    exact own_chr (by rw [← hh]) (rfl : T5.heap = T5.heap) (C5.trans (CHv.at X5 hZ4 (own_EW hw hj) C5.1))
def Qrm53 (Z : State) (w0 : Addr) (w1 : Addr) (w2 : Addr) (w3 : Addr) (w4 : Addr) (w5 : Addr) (w6 : Addr) (w7 : Addr) (w8 : Addr) (w9 : Addr) (w10 : Addr) (w11 : Addr) (w12 : Addr) (w13 : Addr) (w14 : Addr) (w15 : Addr) (w16 : Addr) (w17 : Addr) (a1 : Addr) (h0 : Heap) (n0 : Nat) (v : Option Value) (h : Heap) (L : List Loc) : Prop := v = some (.ref w3) ∧ Fr n0 L ∧ h = h0
set_option maxRecDepth 65536 in
set_option maxHeartbeats 40000000 in
theorem rm53 (l : Launch) (Z : State) (a0 : Array Value) (hw : ∀ d ∈ tables_1, d.before a0 Z = true) (hj : ∀ d ∈ jdkStatics_1, d.before a0 Z = true) (w0 : Addr) (w1 : Addr) (w2 : Addr) (w3 : Addr) (w4 : Addr) (w5 : Addr) (w6 : Addr) (w7 : Addr) (w8 : Addr) (w9 : Addr) (w10 : Addr) (w11 : Addr) (w12 : Addr) (w13 : Addr) (w14 : Addr) (w15 : Addr) (w16 : Addr) (w17 : Addr) (hS : SF Z w0 w1 w2 w3 w4 w5 w6 w7 w8 w9 w10 w11 w12 w13 w14 w15 w16 w17) (ws : List Jvm.Cond) (a1 : Addr) (h0 : Heap) (n0 : Nat) (O0 : Old Z n0 h0) (F1 : Fld Z h0 a1 z0 "kind" z4 (.ref w3)) :
    MetFree l (⟨z0, "kind", z9⟩ : MethodName) (head1 (Jvm.Cond.code (⟨z0, "kind", z9⟩ : MethodName) prog_27_method_7_code 1 (some (.object z1)) :: ws) ({ frames := 0, cells := 0, slots := 0, locals := 0 } : Room)) (fun a U => a = #[(.ref a1)] ∧ Z.Warmed39 U.vm ∧ U.heap = h0) (fun _ _ _ _ _ => True) (fun _ U o U' => ∃ v L, o = .returned v ∧ Qrm53 Z w0 w1 w2 w3 w4 w5 w6 w7 w8 w9 w10 w11 w12 w13 w14 w15 w16 w17 a1 h0 n0 v U'.heap L ∧ FrameEnd U o U' L ({ frames := 0, cells := 0, slots := 0, locals := 0 } : Room).cells ({ frames := 0, cells := 0, slots := 0, locals := 0 } : Room).slots) := by
  refine MetFree.of_bodySF (plainFor_of_name pn72) hisR ?_
  intro p e s m args below meth c s₁ Bd hml0 hP hK
  obtain ⟨rfl, hZ, hh⟩ := hP
  have hx := Bd.exec
  have hby := Bd.bytes
  have hml : c.maxLocals = 1 := hml0
  have hown : s.vm.findClass z0 = some m.cls := findClass_of_methodNamed Bd.named
  have hnm := (name_of_methodNamed Bd.named Bd.method).1
  have X0 : Stand p l e ({ frames := 0, cells := 0, slots := 0, locals := 0 } : Room) s m #[(.ref a1)] below meth c s₁ [] 0 0 := Stand.of_body Bd
  have e0 : s₁.heap = h0 := by rw [← hh, Bd.state]; rfl
  have N0 := Fr.nil n0
  have pre0 : ∀ t, Steps p.tables e below (s₁.setTop (mkF m 0 #[.val (.ref a1)] [])) t → Steps p.tables e below (s₁.setTop (entryFrame m #[(.ref a1)] 1)) t := fun t k => castTop (ef48 m a1) k
  obtain ⟨T1, X1, e1, st1⟩ := getF X0 hx hZ hown (host := "") (Or.inl (hw _ m67)) Via.refl e0 F1 (g := (mkF m 1 #[.val (.ref a1)] [(.ref a1)])) rfl rfl (hb hby d5_1)
  obtain ⟨fs, hr, hrun, hended, hW, hsame⟩ := X1.leave (v := some (.ref w3)) (fun h => by rw [Bd.returns] at h; cases h)
  refine ⟨_, _, pre0 _ ?_, hrun, hended, _, _, rfl, ?_, ⟨_, rfl⟩, hW, hsame.mono (by decide) (by decide)⟩
  · show Steps p.tables e below (s₁.setTop (mkF m 0 #[.val (.ref a1)] [])) _
    refine XS.aloadN X0.here hx rfl (hb hby d5_0) rfl rfl ?_
    refine st1 _ ?_
    exact retOut X1 hx Bd.returns rfl (Or.inr (Or.inr (Or.inr (Or.inr ⟨rfl, rfl, rfl⟩)))) (hb hby d5_4) hr
  · show Qrm53 Z w0 w1 w2 w3 w4 w5 w6 w7 w8 w9 w10 w11 w12 w13 w14 w15 w16 w17 a1 h0 n0 _ T1.heap _
    rw [e1]
    exact ⟨rfl, N0, rfl⟩
def Qrm54 (Z : State) (w0 : Addr) (w1 : Addr) (w2 : Addr) (w3 : Addr) (w4 : Addr) (w5 : Addr) (w6 : Addr) (w7 : Addr) (w8 : Addr) (w9 : Addr) (w10 : Addr) (w11 : Addr) (w12 : Addr) (w13 : Addr) (w14 : Addr) (w15 : Addr) (w16 : Addr) (w17 : Addr) (a1 : Addr) (a2 : Addr) (a3 : Addr) (h0 : Heap) (n0 : Nat) (v : Option Value) (h : Heap) (L : List Loc) : Prop := v = none ∧ Fr n0 L ∧ Keep h0 h [a1] ∧ Fld Z h a1 z0 "kind" z4 (.ref w17) ∧ Fld Z h a1 z0 "limitation" z8 (.ref a2) ∧ Fld Z h a1 z0 "catcher" z5 (.ref w0) ∧ Fld Z h a1 z0 "errorCode" z8 (.ref a3)
set_option maxRecDepth 65536 in
set_option maxHeartbeats 40000000 in
theorem rm54 (l : Launch) (Z : State) (a0 : Array Value) (hw : ∀ d ∈ tables_1, d.before a0 Z = true) (hj : ∀ d ∈ jdkStatics_1, d.before a0 Z = true) (w0 : Addr) (w1 : Addr) (w2 : Addr) (w3 : Addr) (w4 : Addr) (w5 : Addr) (w6 : Addr) (w7 : Addr) (w8 : Addr) (w9 : Addr) (w10 : Addr) (w11 : Addr) (w12 : Addr) (w13 : Addr) (w14 : Addr) (w15 : Addr) (w16 : Addr) (w17 : Addr) (hS : SF Z w0 w1 w2 w3 w4 w5 w6 w7 w8 w9 w10 w11 w12 w13 w14 w15 w16 w17) (ws : List Jvm.Cond) (a1 : Addr) (a2 : Addr) (a3 : Addr) (h0 : Heap) (n0 : Nat) (O0 : Old Z n0 h0) (E1 : Exa Z h0 a1 z0) (F2 : Fld Z h0 a1 z0 "kind" z4 .null) (F3 : Fld Z h0 a1 z0 "limitation" z8 .null) (F4 : Fld Z h0 a1 z0 "catcher" z5 .null) (F5 : Fld Z h0 a1 z0 "errorCode" z8 .null) (g6 : n0 ≤ a1) :
    MetFree l (⟨z0, "<init>", z6⟩ : MethodName) (head1 (Jvm.Cond.code (⟨z0, "<init>", z6⟩ : MethodName) prog_27_method_1_code 5 none :: ws) ({ frames := 2, cells := 0, slots := 0, locals := 24 } : Room)) (fun a U => a = #[(.ref a1), (.ref w17), (.ref a2), (.ref w0), (.ref a3)] ∧ Z.Warmed39 U.vm ∧ U.heap = h0) (fun _ _ _ _ _ => True) (fun _ U o U' => ∃ v L, o = .returned v ∧ Qrm54 Z w0 w1 w2 w3 w4 w5 w6 w7 w8 w9 w10 w11 w12 w13 w14 w15 w16 w17 a1 a2 a3 h0 n0 v U'.heap L ∧ FrameEnd U o U' L ({ frames := 2, cells := 0, slots := 0, locals := 24 } : Room).cells ({ frames := 2, cells := 0, slots := 0, locals := 24 } : Room).slots) := by
  refine MetFree.of_bodySF (plainFor_of_name pn72) hisR ?_
  intro p e s m args below meth c s₁ Bd hml0 hP hK
  obtain ⟨rfl, hZ, hh⟩ := hP
  have hx := Bd.exec
  have hby := Bd.bytes
  have hml : c.maxLocals = 5 := hml0
  have hown : s.vm.findClass z0 = some m.cls := findClass_of_methodNamed Bd.named
  have hnm := (name_of_methodNamed Bd.named Bd.method).1
  have X0 : Stand p l e ({ frames := 2, cells := 0, slots := 0, locals := 24 } : Room) s m #[(.ref a1), (.ref w17), (.ref a2), (.ref w0), (.ref a3)] below meth c s₁ [] 0 0 := Stand.of_body Bd
  have e0 : s₁.heap = h0 := by rw [← hh, Bd.state]; rfl
  have N0 := Fr.nil n0
  have pre0 : ∀ t, Steps p.tables e below (s₁.setTop (mkF m 0 #[.val (.ref a1), .val (.ref w17), .val (.ref a2), .val (.ref w0), .val (.ref a3)] [])) t → Steps p.tables e below (s₁.setTop (entryFrame m #[(.ref a1), (.ref w17), (.ref a2), (.ref w0), (.ref a3)] 5)) t := fun t k => castTop (ef71 m a1 w17 a2 w0 a3) k
  obtain ⟨_, T1, L1, hQ1, X1, st1⟩ := own_special X0 hx hZ (W := 0) rfl hown (hw _ m59) (hw _ m60) (hw _ m62) (hw _ m63) (by decide) (rm1 l Z a0 hw hj w0 w1 w2 w3 w4 w5 w6 w7 w8 w9 w10 w11 w12 w13 w14 w15 w16 w17 hS [] a1 h0 n0 O0) e0 (a := a1) (g := (mkF m 1 #[.val (.ref a1), .val (.ref w17), .val (.ref a2), .val (.ref w0), .val (.ref a3)] [(.ref a1)])) rfl (by rw [hml]; rfl) (argsL := []) (rest := []) (lenOf pd52 rfl) rfl rfl (by show 2 * 0 + _ ≤ _; exact Nat.le_of_eq rfl) (hb hby d2_1) (by decide) (by decide) (by decide) (by decide)
  obtain ⟨rfl, N1q, e1⟩ := hQ1
  have N1 := Fr.app N0 N1q
  have e1' : T1.heap = h0 := e1
  obtain ⟨T2, h2, L'2, X2, e2, W2, Fw2, O2, K2, N2, st2⟩ := own_put X1 hx hZ hown (host := "") (Or.inl (hw _ m67)) Via.refl e1' O0 (Keep.refl h0 [a1]) N1 g6 (Or.inl (List.mem_of_getElem? (i := 0) rfl)) F2 E1 (Or.inr ⟨(hw _ m68), rfl, hnm⟩) (hw _ m44) (ty := (.object z1)) (by decide) rfl rfl (g := (mkF m 6 #[.val (.ref a1), .val (.ref w17), .val (.ref a2), .val (.ref w0), .val (.ref a3)] [(.ref w17), (.ref a1)])) rfl rfl (hb hby d2_6)
  have f3 : Fld Z h2 a1 z0 "limitation" z8 .null := (F3.other W2 (Or.inr (slot_ne (Or.inr (hw _ m70)) (Or.inr (hw _ m68)) (by decide) (t := (.object z3)) (t' := (.object z1)) (by decide) (by decide))))
  have f4 : Exa Z h2 a1 z0 := (E1.wr W2)
  obtain ⟨T5, h5, L'5, X5, e5, W5, Fw5, O5, K5, N5, st5⟩ := own_put X2 hx hZ hown (host := "") (Or.inl (hw _ m69)) Via.refl e2 O2 K2 N2 g6 (Or.inl (List.mem_of_getElem? (i := 0) rfl)) f3 f4 (Or.inr ⟨(hw _ m70), rfl, hnm⟩) (hw _ m44) (ty := (.object z3)) (by decide) rfl rfl (g := (mkF m 11 #[.val (.ref a1), .val (.ref w17), .val (.ref a2), .val (.ref w0), .val (.ref a3)] [(.ref a2), (.ref a1)])) rfl rfl (hb hby d2_11)
  have f6 : Fld Z h5 a1 z0 "catcher" z5 .null := ((F4.other W2 (Or.inr (slot_ne (Or.inr (hw _ m72)) (Or.inr (hw _ m68)) (by decide) (t := (.object z2)) (t' := (.object z1)) (by decide) (by decide)))).other W5 (Or.inr (slot_ne (Or.inr (hw _ m72)) (Or.inr (hw _ m70)) (by decide) (t := (.object z2)) (t' := (.object z3)) (by decide) (by decide))))
  have f7 : Exa Z h5 a1 z0 := (f4.wr W5)
  obtain ⟨T8, h8, L'8, X8, e8, W8, Fw8, O8, K8, N8, st8⟩ := own_put X5 hx hZ hown (host := "") (Or.inl (hw _ m71)) Via.refl e5 O5 K5 N5 g6 (Or.inl (List.mem_of_getElem? (i := 0) rfl)) f6 f7 (Or.inr ⟨(hw _ m72), rfl, hnm⟩) (hw _ m44) (ty := (.object z2)) (by decide) rfl rfl (g := (mkF m 16 #[.val (.ref a1), .val (.ref w17), .val (.ref a2), .val (.ref w0), .val (.ref a3)] [(.ref w0), (.ref a1)])) rfl rfl (hb hby d2_16)
  have f9 : Fld Z h8 a1 z0 "errorCode" z8 .null := (((F5.other W2 (Or.inr (slot_ne (Or.inr (hw _ m74)) (Or.inr (hw _ m68)) (by decide) (t := (.object z3)) (t' := (.object z1)) (by decide) (by decide)))).other W5 (Or.inr (slot_ne (Or.inr (hw _ m74)) (Or.inr (hw _ m70)) (by decide) (t := (.object z3)) (t' := (.object z3)) (by decide) (by decide)))).other W8 (Or.inr (slot_ne (Or.inr (hw _ m74)) (Or.inr (hw _ m72)) (by decide) (t := (.object z3)) (t' := (.object z2)) (by decide) (by decide))))
  have f10 : Exa Z h8 a1 z0 := (f7.wr W8)
  obtain ⟨T11, h11, L'11, X11, e11, W11, Fw11, O11, K11, N11, st11⟩ := own_put X8 hx hZ hown (host := "") (Or.inl (hw _ m73)) Via.refl e8 O8 K8 N8 g6 (Or.inl (List.mem_of_getElem? (i := 0) rfl)) f9 f10 (Or.inr ⟨(hw _ m74), rfl, hnm⟩) (hw _ m44) (ty := (.object z3)) (by decide) rfl rfl (g := (mkF m 22 #[.val (.ref a1), .val (.ref w17), .val (.ref a2), .val (.ref w0), .val (.ref a3)] [(.ref a3), (.ref a1)])) rfl rfl (hb hby d2_22)
  have f12 : Fld Z h11 a1 z0 "kind" z4 (.ref w17) := (((Fw2.other W5 (Or.inr (slot_ne (Or.inr (hw _ m68)) (Or.inr (hw _ m70)) (by decide) (t := (.object z1)) (t' := (.object z3)) (by decide) (by decide)))).other W8 (Or.inr (slot_ne (Or.inr (hw _ m68)) (Or.inr (hw _ m72)) (by decide) (t := (.object z1)) (t' := (.object z2)) (by decide) (by decide)))).other W11 (Or.inr (slot_ne (Or.inr (hw _ m68)) (Or.inr (hw _ m74)) (by decide) (t := (.object z1)) (t' := (.object z3)) (by decide) (by decide))))
  have f13 : Fld Z h11 a1 z0 "limitation" z8 (.ref a2) := ((Fw5.other W8 (Or.inr (slot_ne (Or.inr (hw _ m70)) (Or.inr (hw _ m72)) (by decide) (t := (.object z3)) (t' := (.object z2)) (by decide) (by decide)))).other W11 (Or.inr (slot_ne (Or.inr (hw _ m70)) (Or.inr (hw _ m74)) (by decide) (t := (.object z3)) (t' := (.object z3)) (by decide) (by decide))))
  have f14 : Fld Z h11 a1 z0 "catcher" z5 (.ref w0) := (Fw8.other W11 (Or.inr (slot_ne (Or.inr (hw _ m72)) (Or.inr (hw _ m74)) (by decide) (t := (.object z2)) (t' := (.object z3)) (by decide) (by decide))))
  obtain ⟨fs, hr, hrun, hended, hW, hsame⟩ := X11.leave (v := none) (fun _ => rfl)
  refine ⟨_, _, pre0 _ ?_, hrun, hended, _, _, rfl, ?_, ⟨_, rfl⟩, hW, hsame.mono (by decide) (by decide)⟩
  · show Steps p.tables e below (s₁.setTop (mkF m 0 #[.val (.ref a1), .val (.ref w17), .val (.ref a2), .val (.ref w0), .val (.ref a3)] [])) _
    refine XS.aloadN X0.here hx rfl (hb hby d2_0) rfl rfl ?_
    refine st1 _ ?_
    refine XS.aloadN X1.here hx rfl (hb hby d2_4) rfl rfl ?_
    refine XS.aloadN X1.here hx rfl (hb hby d2_5) rfl rfl ?_
    show Steps p.tables e below (T1.setTop (mkF m 6 #[.val (.ref a1), .val (.ref w17), .val (.ref a2), .val (.ref w0), .val (.ref a3)] [(.ref w17), (.ref a1)])) _
    refine st2 _ ?_
    refine XS.aloadN X2.here hx rfl (hb hby d2_9) rfl rfl ?_
    refine XS.aloadN X2.here hx rfl (hb hby d2_10) rfl rfl ?_
    refine st5 _ ?_
    show Steps p.tables e below (T5.setTop (mkF m 14 #[.val (.ref a1), .val (.ref w17), .val (.ref a2), .val (.ref w0), .val (.ref a3)] [])) _
    refine XS.aloadN X5.here hx rfl (hb hby d2_14) rfl rfl ?_
    refine XS.aloadN X5.here hx rfl (hb hby d2_15) rfl rfl ?_
    refine st8 _ ?_
    refine XS.aloadN X8.here hx rfl (hb hby d2_19) rfl rfl ?_
    show Steps p.tables e below (T8.setTop (mkF m 20 #[.val (.ref a1), .val (.ref w17), .val (.ref a2), .val (.ref w0), .val (.ref a3)] [(.ref a1)])) _
    refine XS.aload X8.here hx rfl (hb hby d2_20) rfl rfl ?_
    refine st11 _ ?_
    exact X11.returnOut hx Bd.returns (hb hby d2_25) hr
  · show Qrm54 Z w0 w1 w2 w3 w4 w5 w6 w7 w8 w9 w10 w11 w12 w13 w14 w15 w16 w17 a1 a2 a3 h0 n0 _ T11.heap _
    rw [e11]
    exact ⟨rfl, N11, K11, f12, f13, f14, Fw11⟩
def Qrm55 (Z : State) (w0 : Addr) (w1 : Addr) (w2 : Addr) (w3 : Addr) (w4 : Addr) (w5 : Addr) (w6 : Addr) (w7 : Addr) (w8 : Addr) (w9 : Addr) (w10 : Addr) (w11 : Addr) (w12 : Addr) (w13 : Addr) (w14 : Addr) (w15 : Addr) (w16 : Addr) (w17 : Addr) (h0 : Heap) (n0 : Nat) (v : Option Value) (h : Heap) (L : List Loc) : Prop := ∃ x0 : Addr, ∃ x1 : Addr, ∃ x2 : Addr, ∃ x3 : Addr, ∃ x4 : Addr, ∃ xk0 : ClassId, ∃ xk1 : ClassId, v = some (.ref x0) ∧ Fr n0 L ∧ Keep h0 h [] ∧ h0.size ≤ x0 ∧ Exa Z h x0 z0 ∧ Fld Z h x0 z0 "kind" z4 (.ref w17) ∧ Fld Z h x0 z0 "limitation" z8 (.ref x1) ∧ Fld Z h x0 z0 "catcher" z5 (.ref w0) ∧ Fld Z h x0 z0 "errorCode" z8 (.ref x2) ∧ Exa Z h x1 z3 ∧ Fld Z h x1 z3 "coder" "B" (.int (0 : Int32)) ∧ Fld Z h x1 z3 "value" "[B" (.ref x3) ∧ Exa Z h x2 z3 ∧ Fld Z h x2 z3 "coder" "B" (.int (0 : Int32)) ∧ Fld Z h x2 z3 "value" "[B" (.ref x4) ∧ Arv Z h x3 xk0 .byte (0 : Int32) [] (.int (0 : Int32)) ∧ Arv Z h x4 xk1 .byte (0 : Int32) [] (.int (0 : Int32))
set_option maxRecDepth 65536 in
set_option maxHeartbeats 40000000 in
theorem rm55 (l : Launch) (Z : State) (a0 : Array Value) (hw : ∀ d ∈ tables_1, d.before a0 Z = true) (hj : ∀ d ∈ jdkStatics_1, d.before a0 Z = true) (w0 : Addr) (w1 : Addr) (w2 : Addr) (w3 : Addr) (w4 : Addr) (w5 : Addr) (w6 : Addr) (w7 : Addr) (w8 : Addr) (w9 : Addr) (w10 : Addr) (w11 : Addr) (w12 : Addr) (w13 : Addr) (w14 : Addr) (w15 : Addr) (w16 : Addr) (w17 : Addr) (hS : SF Z w0 w1 w2 w3 w4 w5 w6 w7 w8 w9 w10 w11 w12 w13 w14 w15 w16 w17) (ws : List Jvm.Cond) (h0 : Heap) (n0 : Nat) (O0 : Old Z n0 h0) :
    MetFree l (⟨z0, "runs", z7⟩ : MethodName) (head1 (Jvm.Cond.code (⟨z0, "runs", z7⟩ : MethodName) prog_27_method_2_code 1 (some (.object z0)) :: ws) ({ frames := 3, cells := 5, slots := 12, locals := 41 } : Room)) (fun a U => a = #[(.ref w17)] ∧ Z.Warmed39 U.vm ∧ U.heap = h0 ∧ CHv Z EL U.vm h0 ∧ ∀ x ∈ ([] : List Addr), Safe Z EL U.vm h0 x) (fun _ _ _ _ _ => True) (fun _ U o U' => ∃ v L, o = .returned v ∧ Qrm55 Z w0 w1 w2 w3 w4 w5 w6 w7 w8 w9 w10 w11 w12 w13 w14 w15 w16 w17 h0 n0 v U'.heap L ∧ CHr Z EL U.vm U.heap U'.vm U'.heap ∧ ReturnedEndW U o U' L ({ frames := 3, cells := 5, slots := 12, locals := 41 } : Room).cells ({ frames := 3, cells := 5, slots := 12, locals := 41 } : Room).slots) := by
  refine MetFree.of_bodySF (plainFor_of_name pn72) hisR ?_
  intro p e s m args below meth c s₁ Bd hml0 hP hK
  obtain ⟨rfl, hZ, hh, H0, hsx⟩ := hP
  have hx := Bd.exec
  have hby := Bd.bytes
  have hml : c.maxLocals = 1 := hml0
  have hown : s.vm.findClass z0 = some m.cls := findClass_of_methodNamed Bd.named
  have hnm := (name_of_methodNamed Bd.named Bd.method).1
  have X0 : Stand p l e ({ frames := 3, cells := 5, slots := 12, locals := 41 } : Room) (s.setVm s.vm) m #[(.ref w17)] below meth c s₁ [] 0 0 := Stand.of_body Bd
  have e0 : s₁.heap = h0 := by rw [← hh, Bd.state]; rfl
  have N0 := Fr.nil n0
  have pre0 : ∀ t, Steps p.tables e below (s₁.setTop (mkF m 0 #[.val (.ref w17)] [])) t → Steps p.tables e below (s₁.setTop (entryFrame m #[(.ref w17)] 1)) t := fun t k => castTop (ef48 m w17) k
  have hS0 : s.Since s.vm h0.size := (State.WarmedH.refl s).since _
  have C0 : CHr Z EL s.vm h0 s.vm h0 := CHr.refl H0
  obtain ⟨T1, h1, b1, X1, e1, E1, A1, D1, g1, O1, K1, st1⟩ := own_newO X0 hx hZ hown (hw _ m43) (hw _ m44) (hw _ m41) e0 O0 (Keep.refl h0 []) (g := (mkF m 0 #[.val (.ref w17)] [])) rfl (hb hby d1_0) (by decide) (by decide)
  have C1 := C0.trans (CHr.ext E1 C0.1)
  have F1_1 : Fld Z h1 b1 z0 "kind" z4 .null := D1 (Or.inr (hw _ m68)) (ty := (.object z1)) (by decide)
  have F1_2 : Fld Z h1 b1 z0 "limitation" z8 .null := D1 (Or.inr (hw _ m70)) (ty := (.object z3)) (by decide)
  have F1_3 : Fld Z h1 b1 z0 "catcher" z5 .null := D1 (Or.inr (hw _ m72)) (ty := (.object z2)) (by decide)
  have F1_4 : Fld Z h1 b1 z0 "errorCode" z8 .null := D1 (Or.inr (hw _ m74)) (ty := (.object z3)) (by decide)
  obtain ⟨sa2, T2, h2, k12, sb2, k2, X2, e2, E2, hS2, hk2, hZ2, hown2, A2, Fc2, Fv2, V2, la2, lb2, Cq2, -, hn2, st2⟩ := ldcCH X1 hx hZ hown (hw _ m45) (own_str hw hj) e1 hS0 (Nat.le_trans (Nat.le_refl _) E1.1) (own_EW hw hj) (List.mem_of_getElem? (i := 0) rfl) C1.1 (vs := []) (z := (0 : Int32)) ⟨by decide, by decide⟩ (by decide) (by decide) (g := (mkF m 5 #[.val (.ref w17)] [(.ref w17), (.ref b1), (.ref b1)])) rfl (hb hby d1_5) (n := 0) (by decide) (by decide) (by decide) (by decide)
  have O2 : Old Z n0 h2 := O1.ext E2
  have K2 : Keep h0 h2 [] := K1.ext E2
  have C2 := C1.trans Cq2
  obtain ⟨T3, X3, e3, st3⟩ := getS2 X2 hx hZ2 hown2 (host := "") (Or.inl (hw _ m53)) Via.refl e2 (hS.1.ext O2.2) (g := (mkF m 7 #[.val (.ref w17)] [(.ref sa2), (.ref w17), (.ref b1), (.ref b1)])) rfl (hb hby d1_7)
  obtain ⟨sa4, T4, h4, k14, sb4, k4, X4, e4, E4, hS4, hk4, hZ4, hown4, A4, Fc4, Fv4, V4, la4, lb4, Cq4, -, hn4, st4⟩ := ldcCH X3 hx hZ2 hown2 (hw _ m45) (own_str hw hj) e3 hS2 hk2 (own_EW hw hj) (List.mem_of_getElem? (i := 0) rfl) C2.1 (vs := []) (z := (0 : Int32)) ⟨by decide, by decide⟩ (by decide) (by decide) (g := (mkF m 10 #[.val (.ref w17)] [(.ref w0), (.ref sa2), (.ref w17), (.ref b1), (.ref b1)])) rfl (hb hby d1_10) (n := 0) (by decide) (by decide) (by decide) (by decide)
  have O4 : Old Z n0 h4 := O2.ext E4
  have K4 : Keep h0 h4 [] := K2.ext E4
  have C4 := C2.trans Cq4
  have f6 : Exa Z h4 b1 z0 := ((A1.ext E2).ext E4)
  have f7 : Fld Z h4 b1 z0 "kind" z4 .null := ((F1_1.ext E2).ext E4)
  have f8 : Fld Z h4 b1 z0 "limitation" z8 .null := ((F1_2.ext E2).ext E4)
  have f9 : Fld Z h4 b1 z0 "catcher" z5 .null := ((F1_3.ext E2).ext E4)
  have f10 : Fld Z h4 b1 z0 "errorCode" z8 .null := ((F1_4.ext E2).ext E4)
  have sf5 := ((sfS (Safe.exa (EL := EL) hZ4.alike f6 (by decide) (by decide)) sf0) : ∀ x ∈ [b1], Safe Z EL T4.vm h4 x)
  obtain ⟨_, T5, L5, hQ5, X5, st5⟩ := own_special X4 hx hZ4 (W := 1) rfl hown4 (hw _ m56) (hw _ m57) (hw _ m41) (hw _ m58) (by decide) (rm54 l Z a0 hw hj w0 w1 w2 w3 w4 w5 w6 w7 w8 w9 w10 w11 w12 w13 w14 w15 w16 w17 hS [] b1 sa2 sa4 h4 n0 O4 f6 f7 f8 f9 f10 (Nat.le_trans (own_old_le O0) g1)) e4 (a := b1) (g := (mkF m 12 #[.val (.ref w17)] [(.ref sa4), (.ref w0), (.ref sa2), (.ref w17), (.ref b1), (.ref b1)])) rfl (by rw [hml]; rfl) (argsL := [(.ref w17), (.ref sa2), (.ref w0), (.ref sa4)]) (rest := [(.ref b1)]) (lenOf pd74 rfl) rfl rfl (by show 2 * 0 + _ ≤ _; exact Nat.le_of_eq rfl) (hb hby d1_12) (by decide) (by decide) (by decide) (by decide)
  obtain ⟨rfl, N5q, Kq5, q5_0, q5_1, q5_2, q5_3⟩ := hQ5
  have N5 := Fr.app N0 N5q
  have C5 := C4.trans (CHr.keep Kq5 sf5 C4.1)
  have O5 : Old Z n0 T5.heap := O4.keep Kq5 (allS (Nat.le_trans (own_old_le O0) g1) all0)
  have K5 : Keep h0 T5.heap [] := K4.trans Kq5 (allS (Or.inr (Nat.le_trans (Keep.refl h0 []).1 g1)) all0)
  have f11 : Exa Z T5.heap b1 z0 := (f6.keep Kq5)
  have f12 : Exa Z T5.heap sa2 z3 := ((A2.ext E4).keep Kq5)
  have f13 : Fld Z T5.heap sa2 z3 "coder" "B" (.int (0 : Int32)) := ((Fc2.ext E4).keep Kq5 (ninS (ne_exa A2 (A1.ext E2) (by decide)) nin0))
  have f14 : Fld Z T5.heap sa2 z3 "value" "[B" (.ref sb2) := ((Fv2.ext E4).keep Kq5 (ninS (ne_exa A2 (A1.ext E2) (by decide)) nin0))
  have f15 : Exa Z T5.heap sa4 z3 := (A4.keep Kq5)
  have f16 : Fld Z T5.heap sa4 z3 "coder" "B" (.int (0 : Int32)) := (Fc4.keep Kq5 (ninS (ne_exa A4 f6 (by decide)) nin0))
  have f17 : Fld Z T5.heap sa4 z3 "value" "[B" (.ref sb4) := (Fv4.keep Kq5 (ninS (ne_exa A4 f6 (by decide)) nin0))
  have f18 : Arv Z T5.heap sb2 k2 .byte (0 : Int32) [] (.int (0 : Int32)) := ((V2.ext E4).keep Kq5 (ninS (Ne.symm (Exa.neArv (A1.ext E2) V2 (hw _ m44))) nin0))
  have f19 : Arv Z T5.heap sb4 k4 .byte (0 : Int32) [] (.int (0 : Int32)) := (V4.keep Kq5 (ninS (Ne.symm (Exa.neArv f6 V4 (hw _ m44))) nin0))
  obtain ⟨fs, hr, hrun, hended, hRW⟩ := X5.leaveW hS4 (by rw [(rfl : T5.heap = T5.heap)]; exact (Nat.le_trans hk4 Kq5.1)) (v := some (.ref b1)) (fun h => by rw [Bd.returns] at h; cases h)
  refine ⟨_, _, pre0 _ ?_, hrun, hended, _, _, rfl, ?_, ?_, hRW⟩
  · show Steps p.tables e below (s₁.setTop (mkF m 0 #[.val (.ref w17)] [])) _
    refine st1 _ ?_
    refine XS.dup X1.here hx rfl (hb hby d1_3) rfl rfl ?_
    refine XS.aloadN X1.here hx rfl (hb hby d1_4) rfl rfl ?_
    refine st2 _ ?_
    show Steps p.tables e below (T2.setTop (mkF m 7 #[.val (.ref w17)] [(.ref sa2), (.ref w17), (.ref b1), (.ref b1)])) _
    refine st3 _ ?_
    refine st4 _ ?_
    refine st5 _ ?_
    exact retOut X5 hx Bd.returns rfl (Or.inr (Or.inr (Or.inr (Or.inr ⟨rfl, rfl, rfl⟩)))) (hb hby d1_15) hr
  · show Qrm55 Z w0 w1 w2 w3 w4 w5 w6 w7 w8 w9 w10 w11 w12 w13 w14 w15 w16 w17 h0 n0 _ T5.heap _
    exact ⟨b1, sa2, sa4, sb2, sb4, k2, k4, rfl, N5, K5, (Nat.le_trans (Keep.refl h0 []).1 g1), f11, q5_0, q5_1, q5_2, q5_3, f12, f13, f14, f15, f16, f17, f18, f19⟩
  · show CHr Z EL _ _ T5.vm T5.heap
    exact own_chr (by rw [← hh]) (rfl : T5.heap = T5.heap) (C5.trans (CHv.at X5 hZ4 (own_EW hw hj) C5.1))
def Qrm56 (Z : State) (w0 : Addr) (w1 : Addr) (w2 : Addr) (w3 : Addr) (w4 : Addr) (w5 : Addr) (w6 : Addr) (w7 : Addr) (w8 : Addr) (w9 : Addr) (w10 : Addr) (w11 : Addr) (w12 : Addr) (w13 : Addr) (w14 : Addr) (w15 : Addr) (w16 : Addr) (w17 : Addr) (a1 : Addr) (h0 : Heap) (n0 : Nat) (v : Option Value) (h : Heap) (L : List Loc) : Prop := v = some (.ref w17) ∧ Fr n0 L ∧ h = h0
set_option maxRecDepth 65536 in
set_option maxHeartbeats 40000000 in
theorem rm56 (l : Launch) (Z : State) (a0 : Array Value) (hw : ∀ d ∈ tables_1, d.before a0 Z = true) (hj : ∀ d ∈ jdkStatics_1, d.before a0 Z = true) (w0 : Addr) (w1 : Addr) (w2 : Addr) (w3 : Addr) (w4 : Addr) (w5 : Addr) (w6 : Addr) (w7 : Addr) (w8 : Addr) (w9 : Addr) (w10 : Addr) (w11 : Addr) (w12 : Addr) (w13 : Addr) (w14 : Addr) (w15 : Addr) (w16 : Addr) (w17 : Addr) (hS : SF Z w0 w1 w2 w3 w4 w5 w6 w7 w8 w9 w10 w11 w12 w13 w14 w15 w16 w17) (ws : List Jvm.Cond) (a1 : Addr) (h0 : Heap) (n0 : Nat) (O0 : Old Z n0 h0) (F1 : Fld Z h0 a1 z0 "kind" z4 (.ref w17)) :
    MetFree l (⟨z0, "kind", z9⟩ : MethodName) (head1 (Jvm.Cond.code (⟨z0, "kind", z9⟩ : MethodName) prog_27_method_7_code 1 (some (.object z1)) :: ws) ({ frames := 0, cells := 0, slots := 0, locals := 0 } : Room)) (fun a U => a = #[(.ref a1)] ∧ Z.Warmed39 U.vm ∧ U.heap = h0) (fun _ _ _ _ _ => True) (fun _ U o U' => ∃ v L, o = .returned v ∧ Qrm56 Z w0 w1 w2 w3 w4 w5 w6 w7 w8 w9 w10 w11 w12 w13 w14 w15 w16 w17 a1 h0 n0 v U'.heap L ∧ FrameEnd U o U' L ({ frames := 0, cells := 0, slots := 0, locals := 0 } : Room).cells ({ frames := 0, cells := 0, slots := 0, locals := 0 } : Room).slots) := by
  refine MetFree.of_bodySF (plainFor_of_name pn72) hisR ?_
  intro p e s m args below meth c s₁ Bd hml0 hP hK
  obtain ⟨rfl, hZ, hh⟩ := hP
  have hx := Bd.exec
  have hby := Bd.bytes
  have hml : c.maxLocals = 1 := hml0
  have hown : s.vm.findClass z0 = some m.cls := findClass_of_methodNamed Bd.named
  have hnm := (name_of_methodNamed Bd.named Bd.method).1
  have X0 : Stand p l e ({ frames := 0, cells := 0, slots := 0, locals := 0 } : Room) s m #[(.ref a1)] below meth c s₁ [] 0 0 := Stand.of_body Bd
  have e0 : s₁.heap = h0 := by rw [← hh, Bd.state]; rfl
  have N0 := Fr.nil n0
  have pre0 : ∀ t, Steps p.tables e below (s₁.setTop (mkF m 0 #[.val (.ref a1)] [])) t → Steps p.tables e below (s₁.setTop (entryFrame m #[(.ref a1)] 1)) t := fun t k => castTop (ef48 m a1) k
  obtain ⟨T1, X1, e1, st1⟩ := getF X0 hx hZ hown (host := "") (Or.inl (hw _ m67)) Via.refl e0 F1 (g := (mkF m 1 #[.val (.ref a1)] [(.ref a1)])) rfl rfl (hb hby d5_1)
  obtain ⟨fs, hr, hrun, hended, hW, hsame⟩ := X1.leave (v := some (.ref w17)) (fun h => by rw [Bd.returns] at h; cases h)
  refine ⟨_, _, pre0 _ ?_, hrun, hended, _, _, rfl, ?_, ⟨_, rfl⟩, hW, hsame.mono (by decide) (by decide)⟩
  · show Steps p.tables e below (s₁.setTop (mkF m 0 #[.val (.ref a1)] [])) _
    refine XS.aloadN X0.here hx rfl (hb hby d5_0) rfl rfl ?_
    refine st1 _ ?_
    exact retOut X1 hx Bd.returns rfl (Or.inr (Or.inr (Or.inr (Or.inr ⟨rfl, rfl, rfl⟩)))) (hb hby d5_4) hr
  · show Qrm56 Z w0 w1 w2 w3 w4 w5 w6 w7 w8 w9 w10 w11 w12 w13 w14 w15 w16 w17 a1 h0 n0 _ T1.heap _
    rw [e1]
    exact ⟨rfl, N0, rfl⟩
def QL (n0 : Nat) (v : Option Value) (h : Heap) (L : List Loc) : Prop := v = some (.int (1 : Int32)) ∧ Fr n0 L
set_option maxRecDepth 65536 in
set_option maxHeartbeats 40000000 in
theorem rm0 (l : Launch) (Z : State) (a0 : Array Value) (hw : ∀ d ∈ tables_1, d.before a0 Z = true) (hj : ∀ d ∈ jdkStatics_1, d.before a0 Z = true) (w0 : Addr) (w1 : Addr) (w2 : Addr) (w3 : Addr) (w4 : Addr) (w5 : Addr) (w6 : Addr) (w7 : Addr) (w8 : Addr) (w9 : Addr) (w10 : Addr) (w11 : Addr) (w12 : Addr) (w13 : Addr) (w14 : Addr) (w15 : Addr) (w16 : Addr) (w17 : Addr) (hS : SF Z w0 w1 w2 w3 w4 w5 w6 w7 w8 w9 w10 w11 w12 w13 w14 w15 w16 w17) (ws : List Jvm.Cond) (i0 : Int32) (h0 : Heap) (n0 : Nat) (O0 : Old Z n0 h0) :
    MetFree l x (head1 (Jvm.Cond.code x code maxLocals ret :: ws) room_1) (fun a U => a = #[(.int i0)] ∧ Z.Warmed39 U.vm ∧ U.heap = h0 ∧ CHv Z EL U.vm h0 ∧ ∀ x ∈ ([] : List Addr), Safe Z EL U.vm h0 x) (fun _ _ _ _ _ => True) (fun _ U o U' => ∃ v L, o = .returned v ∧ QL n0 v U'.heap L ∧ ReturnedEndW U o U' L room_1.cells room_1.slots) := by
  refine MetFree.of_bodySF (plainFor_of_name pn133) hisR ?_
  intro p e s m args below meth c s₁ Bd hml0 hP hK
  obtain ⟨rfl, hZ, hh, H0, hsx⟩ := hP
  have hx := Bd.exec
  have hby := Bd.bytes
  have hml : c.maxLocals = 4 := hml0
  have hown : s.vm.findClass z10 = some m.cls := findClass_of_methodNamed Bd.named
  have hnm := (name_of_methodNamed Bd.named Bd.method).1
  have X0 : Stand p l e room_1 (s.setVm s.vm) m #[(.int i0)] below meth c s₁ [] 0 0 := Stand.of_body Bd
  have e0 : s₁.heap = h0 := by rw [← hh, Bd.state]; rfl
  have N0 := Fr.nil n0
  have pre0 : ∀ t, Steps p.tables e below (s₁.setTop (mkF m 0 #[.val (.int i0), .unset, .unset, .unset] [])) t → Steps p.tables e below (s₁.setTop (entryFrame m #[(.int i0)] maxLocals)) t := fun t k => castTop (ef132 m i0) k
  have hS0 : s.Since s.vm h0.size := (State.WarmedH.refl s).since _
  have C0 : CHr Z EL s.vm h0 s.vm h0 := CHr.refl H0
  obtain ⟨T1, h1, k1, b1, X1, e1, E1, V1, O'1, g1, O1, K1, st1⟩ := own_newR X0 hx hZ (vs := [.null, .null, .null, .null, .null, .null, .null, .null, .null, .null, .null, .null, .null, .null, .null, .null, .null]) (cap := 17) rfl hown (hw _ m0) (hw _ m1) e0 O0 (Keep.refl h0 []) (g := (mkF m 2 #[.val (.int i0), .unset, .unset, .unset] [(.int (17 : Int32))])) rfl (hb hby at_2) rfl (by decide) (by decide) (by decide) (by decide) (by decide)
  have C1 := C0.trans (CHr.ext E1 C0.1)
  obtain ⟨T2, X2, e2, st2⟩ := getS2 X1 hx hZ hown (host := "") (Or.inl (hw _ m2)) Via.refl e1 (hS.2.2.2.2.2.2.2.2.2.2.2.2.2.2.2.2.2.2.2.2.2.2.2.2.2.2.1.ext O1.2) (g := (mkF m 7 #[.val (.int i0), .unset, .unset, .unset] [(.int (0 : Int32)), (.ref b1), (.ref b1)])) rfl (hb hby at_7)
  obtain ⟨T3, h3, L'3, X3, e3, W3, V3, O3, K3, N3, st3⟩ := own_stR X2 hx hZ e2 V1 O1 K1 N0 (Nat.le_trans (own_old_le O0) g1) (Or.inr (Nat.le_trans (Keep.refl h0 []).1 g1)) (j := (0 : Int32)) 0 (by decide) (Nat.le_of_ble_eq_true rfl) (vs' := [(.ref w13), .null, .null, .null, .null, .null, .null, .null, .null, .null, .null, .null, .null, .null, .null, .null, .null]) rfl rfl rfl (Or.inr ⟨_, _, rfl, O'1, (Ins.self (hS.2.2.2.2.2.2.2.2.2.2.2.2.2.2.2.2.2.2.2.2.2.2.2.2.2.2.2.1.ext O1.2))⟩) (g := (mkF m 10 #[.val (.int i0), .unset, .unset, .unset] [(.ref w13), (.int (0 : Int32)), (.ref b1), (.ref b1)])) rfl rfl (hb hby at_10)
  have sf3 := (Safe.arv (EL := EL) hZ.alike V1 (by decide))
  have C3 := C1.trans (CHr.wr W3 sf3 C1.1)
  obtain ⟨T4, X4, e4, st4⟩ := getS2 X3 hx hZ hown (host := "") (Or.inl (hw _ m6)) Via.refl e3 (hS.2.2.2.2.1.ext O3.2) (g := (mkF m 13 #[.val (.int i0), .unset, .unset, .unset] [(.int (1 : Int32)), (.ref b1), (.ref b1)])) rfl (hb hby at_13)
  obtain ⟨T5, h5, L'5, X5, e5, W5, V5, O5, K5, N5, st5⟩ := own_stR X4 hx hZ e4 V3 O3 K3 N3 (Nat.le_trans (own_old_le O0) g1) (Or.inr (Nat.le_trans (Keep.refl h0 []).1 g1)) (j := (1 : Int32)) 1 (by decide) (Nat.le_of_ble_eq_true rfl) (vs' := [(.ref w13), (.ref w2), .null, .null, .null, .null, .null, .null, .null, .null, .null, .null, .null, .null, .null, .null, .null]) rfl rfl rfl (Or.inr ⟨_, _, rfl, O'1, (Ins.self (hS.2.2.2.2.2.1.ext O3.2))⟩) (g := (mkF m 16 #[.val (.int i0), .unset, .unset, .unset] [(.ref w2), (.int (1 : Int32)), (.ref b1), (.ref b1)])) rfl rfl (hb hby at_16)
  have sf5 := (Safe.arv (EL := EL) hZ.alike V3 (by decide))
  have C5 := C3.trans (CHr.wr W5 sf5 C3.1)
  obtain ⟨T6, X6, e6, st6⟩ := getS2 X5 hx hZ hown (host := "") (Or.inl (hw _ m8)) Via.refl e5 (hS.2.2.2.2.2.2.2.2.2.2.2.2.2.2.2.2.2.2.2.2.1.ext O5.2) (g := (mkF m 19 #[.val (.int i0), .unset, .unset, .unset] [(.int (2 : Int32)), (.ref b1), (.ref b1)])) rfl (hb hby at_19)
  obtain ⟨T7, h7, L'7, X7, e7, W7, V7, O7, K7, N7, st7⟩ := own_stR X6 hx hZ e6 V5 O5 K5 N5 (Nat.le_trans (own_old_le O0) g1) (Or.inr (Nat.le_trans (Keep.refl h0 []).1 g1)) (j := (2 : Int32)) 2 (by decide) (Nat.le_of_ble_eq_true rfl) (vs' := [(.ref w13), (.ref w2), (.ref w10), .null, .null, .null, .null, .null, .null, .null, .null, .null, .null, .null, .null, .null, .null]) rfl rfl rfl (Or.inr ⟨_, _, rfl, O'1, (Ins.self (hS.2.2.2.2.2.2.2.2.2.2.2.2.2.2.2.2.2.2.2.2.2.1.ext O5.2))⟩) (g := (mkF m 22 #[.val (.int i0), .unset, .unset, .unset] [(.ref w10), (.int (2 : Int32)), (.ref b1), (.ref b1)])) rfl rfl (hb hby at_22)
  have sf7 := (Safe.arv (EL := EL) hZ.alike V5 (by decide))
  have C7 := C5.trans (CHr.wr W7 sf7 C5.1)
  obtain ⟨T8, X8, e8, st8⟩ := getS2 X7 hx hZ hown (host := "") (Or.inl (hw _ m10)) Via.refl e7 (hS.2.2.2.2.2.2.2.2.2.2.2.2.2.2.2.2.2.2.2.2.2.2.1.ext O7.2) (g := (mkF m 25 #[.val (.int i0), .unset, .unset, .unset] [(.int (3 : Int32)), (.ref b1), (.ref b1)])) rfl (hb hby at_25)
  obtain ⟨T9, h9, L'9, X9, e9, W9, V9, O9, K9, N9, st9⟩ := own_stR X8 hx hZ e8 V7 O7 K7 N7 (Nat.le_trans (own_old_le O0) g1) (Or.inr (Nat.le_trans (Keep.refl h0 []).1 g1)) (j := (3 : Int32)) 3 (by decide) (Nat.le_of_ble_eq_true rfl) (vs' := [(.ref w13), (.ref w2), (.ref w10), (.ref w11), .null, .null, .null, .null, .null, .null, .null, .null, .null, .null, .null, .null, .null]) rfl rfl rfl (Or.inr ⟨_, _, rfl, O'1, (Ins.self (hS.2.2.2.2.2.2.2.2.2.2.2.2.2.2.2.2.2.2.2.2.2.2.2.1.ext O7.2))⟩) (g := (mkF m 28 #[.val (.int i0), .unset, .unset, .unset] [(.ref w11), (.int (3 : Int32)), (.ref b1), (.ref b1)])) rfl rfl (hb hby at_28)
  have sf9 := (Safe.arv (EL := EL) hZ.alike V7 (by decide))
  have C9 := C7.trans (CHr.wr W9 sf9 C7.1)
  obtain ⟨T10, X10, e10, st10⟩ := getS2 X9 hx hZ hown (host := "") (Or.inl (hw _ m12)) Via.refl e9 (hS.2.2.2.2.2.2.2.2.2.2.2.2.2.2.2.2.2.2.2.2.2.2.2.2.2.2.2.2.2.2.2.2.1.ext O9.2) (g := (mkF m 31 #[.val (.int i0), .unset, .unset, .unset] [(.int (4 : Int32)), (.ref b1), (.ref b1)])) rfl (hb hby at_31)
  obtain ⟨T11, h11, L'11, X11, e11, W11, V11, O11, K11, N11, st11⟩ := own_stR X10 hx hZ e10 V9 O9 K9 N9 (Nat.le_trans (own_old_le O0) g1) (Or.inr (Nat.le_trans (Keep.refl h0 []).1 g1)) (j := (4 : Int32)) 4 (by decide) (Nat.le_of_ble_eq_true rfl) (vs' := [(.ref w13), (.ref w2), (.ref w10), (.ref w11), (.ref w16), .null, .null, .null, .null, .null, .null, .null, .null, .null, .null, .null, .null]) rfl rfl rfl (Or.inr ⟨_, _, rfl, O'1, (Ins.self (hS.2.2.2.2.2.2.2.2.2.2.2.2.2.2.2.2.2.2.2.2.2.2.2.2.2.2.2.2.2.2.2.2.2.1.ext O9.2))⟩) (g := (mkF m 34 #[.val (.int i0), .unset, .unset, .unset] [(.ref w16), (.int (4 : Int32)), (.ref b1), (.ref b1)])) rfl rfl (hb hby at_34)
  have sf11 := (Safe.arv (EL := EL) hZ.alike V9 (by decide))
  have C11 := C9.trans (CHr.wr W11 sf11 C9.1)
  obtain ⟨T12, X12, e12, st12⟩ := getS2 X11 hx hZ hown (host := "") (Or.inl (hw _ m14)) Via.refl e11 (hS.2.2.2.2.2.2.2.2.1.ext O11.2) (g := (mkF m 37 #[.val (.int i0), .unset, .unset, .unset] [(.int (5 : Int32)), (.ref b1), (.ref b1)])) rfl (hb hby at_37)
  obtain ⟨T13, h13, L'13, X13, e13, W13, V13, O13, K13, N13, st13⟩ := own_stR X12 hx hZ e12 V11 O11 K11 N11 (Nat.le_trans (own_old_le O0) g1) (Or.inr (Nat.le_trans (Keep.refl h0 []).1 g1)) (j := (5 : Int32)) 5 (by decide) (Nat.le_of_ble_eq_true rfl) (vs' := [(.ref w13), (.ref w2), (.ref w10), (.ref w11), (.ref w16), (.ref w4), .null, .null, .null, .null, .null, .null, .null, .null, .null, .null, .null]) rfl rfl rfl (Or.inr ⟨_, _, rfl, O'1, (Ins.self (hS.2.2.2.2.2.2.2.2.2.1.ext O11.2))⟩) (g := (mkF m 40 #[.val (.int i0), .unset, .unset, .unset] [(.ref w4), (.int (5 : Int32)), (.ref b1), (.ref b1)])) rfl rfl (hb hby at_40)
  have sf13 := (Safe.arv (EL := EL) hZ.alike V11 (by decide))
  have C13 := C11.trans (CHr.wr W13 sf13 C11.1)
  obtain ⟨T14, X14, e14, st14⟩ := getS2 X13 hx hZ hown (host := "") (Or.inl (hw _ m16)) Via.refl e13 (hS.2.2.2.2.2.2.2.2.2.2.2.2.2.2.2.2.2.2.1.ext O13.2) (g := (mkF m 44 #[.val (.int i0), .unset, .unset, .unset] [(.int (6 : Int32)), (.ref b1), (.ref b1)])) rfl (hb hby at_44)
  obtain ⟨T15, h15, L'15, X15, e15, W15, V15, O15, K15, N15, st15⟩ := own_stR X14 hx hZ e14 V13 O13 K13 N13 (Nat.le_trans (own_old_le O0) g1) (Or.inr (Nat.le_trans (Keep.refl h0 []).1 g1)) (j := (6 : Int32)) 6 (by decide) (Nat.le_of_ble_eq_true rfl) (vs' := [(.ref w13), (.ref w2), (.ref w10), (.ref w11), (.ref w16), (.ref w4), (.ref w9), .null, .null, .null, .null, .null, .null, .null, .null, .null, .null]) rfl rfl rfl (Or.inr ⟨_, _, rfl, O'1, (Ins.self (hS.2.2.2.2.2.2.2.2.2.2.2.2.2.2.2.2.2.2.2.1.ext O13.2))⟩) (g := (mkF m 47 #[.val (.int i0), .unset, .unset, .unset] [(.ref w9), (.int (6 : Int32)), (.ref b1), (.ref b1)])) rfl rfl (hb hby at_47)
  have sf15 := (Safe.arv (EL := EL) hZ.alike V13 (by decide))
  have C15 := C13.trans (CHr.wr W15 sf15 C13.1)
  obtain ⟨T16, X16, e16, st16⟩ := getS2 X15 hx hZ hown (host := "") (Or.inl (hw _ m18)) Via.refl e15 (hS.2.2.2.2.2.2.2.2.2.2.2.2.2.2.1.ext O15.2) (g := (mkF m 51 #[.val (.int i0), .unset, .unset, .unset] [(.int (7 : Int32)), (.ref b1), (.ref b1)])) rfl (hb hby at_51)
  obtain ⟨T17, h17, L'17, X17, e17, W17, V17, O17, K17, N17, st17⟩ := own_stR X16 hx hZ e16 V15 O15 K15 N15 (Nat.le_trans (own_old_le O0) g1) (Or.inr (Nat.le_trans (Keep.refl h0 []).1 g1)) (j := (7 : Int32)) 7 (by decide) (Nat.le_of_ble_eq_true rfl) (vs' := [(.ref w13), (.ref w2), (.ref w10), (.ref w11), (.ref w16), (.ref w4), (.ref w9), (.ref w7), .null, .null, .null, .null, .null, .null, .null, .null, .null]) rfl rfl rfl (Or.inr ⟨_, _, rfl, O'1, (Ins.self (hS.2.2.2.2.2.2.2.2.2.2.2.2.2.2.2.1.ext O15.2))⟩) (g := (mkF m 54 #[.val (.int i0), .unset, .unset, .unset] [(.ref w7), (.int (7 : Int32)), (.ref b1), (.ref b1)])) rfl rfl (hb hby at_54)
  have sf17 := (Safe.arv (EL := EL) hZ.alike V15 (by decide))
  have C17 := C15.trans (CHr.wr W17 sf17 C15.1)
  obtain ⟨T18, X18, e18, st18⟩ := getS2 X17 hx hZ hown (host := "") (Or.inl (hw _ m20)) Via.refl e17 (hS.2.2.2.2.2.2.2.2.2.2.2.2.2.2.2.2.2.2.2.2.2.2.2.2.1.ext O17.2) (g := (mkF m 58 #[.val (.int i0), .unset, .unset, .unset] [(.int (8 : Int32)), (.ref b1), (.ref b1)])) rfl (hb hby at_58)
  obtain ⟨T19, h19, L'19, X19, e19, W19, V19, O19, K19, N19, st19⟩ := own_stR X18 hx hZ e18 V17 O17 K17 N17 (Nat.le_trans (own_old_le O0) g1) (Or.inr (Nat.le_trans (Keep.refl h0 []).1 g1)) (j := (8 : Int32)) 8 (by decide) (Nat.le_of_ble_eq_true rfl) (vs' := [(.ref w13), (.ref w2), (.ref w10), (.ref w11), (.ref w16), (.ref w4), (.ref w9), (.ref w7), (.ref w12), .null, .null, .null, .null, .null, .null, .null, .null]) rfl rfl rfl (Or.inr ⟨_, _, rfl, O'1, (Ins.self (hS.2.2.2.2.2.2.2.2.2.2.2.2.2.2.2.2.2.2.2.2.2.2.2.2.2.1.ext O17.2))⟩) (g := (mkF m 61 #[.val (.int i0), .unset, .unset, .unset] [(.ref w12), (.int (8 : Int32)), (.ref b1), (.ref b1)])) rfl rfl (hb hby at_61)
  have sf19 := (Safe.arv (EL := EL) hZ.alike V17 (by decide))
  have C19 := C17.trans (CHr.wr W19 sf19 C17.1)
  obtain ⟨T20, X20, e20, st20⟩ := getS2 X19 hx hZ hown (host := "") (Or.inl (hw _ m22)) Via.refl e19 (hS.2.2.2.2.2.2.2.2.2.2.2.2.1.ext O19.2) (g := (mkF m 65 #[.val (.int i0), .unset, .unset, .unset] [(.int (9 : Int32)), (.ref b1), (.ref b1)])) rfl (hb hby at_65)
  obtain ⟨T21, h21, L'21, X21, e21, W21, V21, O21, K21, N21, st21⟩ := own_stR X20 hx hZ e20 V19 O19 K19 N19 (Nat.le_trans (own_old_le O0) g1) (Or.inr (Nat.le_trans (Keep.refl h0 []).1 g1)) (j := (9 : Int32)) 9 (by decide) (Nat.le_of_ble_eq_true rfl) (vs' := [(.ref w13), (.ref w2), (.ref w10), (.ref w11), (.ref w16), (.ref w4), (.ref w9), (.ref w7), (.ref w12), (.ref w6), .null, .null, .null, .null, .null, .null, .null]) rfl rfl rfl (Or.inr ⟨_, _, rfl, O'1, (Ins.self (hS.2.2.2.2.2.2.2.2.2.2.2.2.2.1.ext O19.2))⟩) (g := (mkF m 68 #[.val (.int i0), .unset, .unset, .unset] [(.ref w6), (.int (9 : Int32)), (.ref b1), (.ref b1)])) rfl rfl (hb hby at_68)
  have sf21 := (Safe.arv (EL := EL) hZ.alike V19 (by decide))
  have C21 := C19.trans (CHr.wr W21 sf21 C19.1)
  obtain ⟨T22, X22, e22, st22⟩ := getS2 X21 hx hZ hown (host := "") (Or.inl (hw _ m24)) Via.refl e21 (hS.2.2.2.2.2.2.2.2.2.2.2.2.2.2.2.2.2.2.2.2.2.2.2.2.2.2.2.2.2.2.1.ext O21.2) (g := (mkF m 72 #[.val (.int i0), .unset, .unset, .unset] [(.int (10 : Int32)), (.ref b1), (.ref b1)])) rfl (hb hby at_72)
  obtain ⟨T23, h23, L'23, X23, e23, W23, V23, O23, K23, N23, st23⟩ := own_stR X22 hx hZ e22 V21 O21 K21 N21 (Nat.le_trans (own_old_le O0) g1) (Or.inr (Nat.le_trans (Keep.refl h0 []).1 g1)) (j := (10 : Int32)) 10 (by decide) (Nat.le_of_ble_eq_true rfl) (vs' := [(.ref w13), (.ref w2), (.ref w10), (.ref w11), (.ref w16), (.ref w4), (.ref w9), (.ref w7), (.ref w12), (.ref w6), (.ref w15), .null, .null, .null, .null, .null, .null]) rfl rfl rfl (Or.inr ⟨_, _, rfl, O'1, (Ins.self (hS.2.2.2.2.2.2.2.2.2.2.2.2.2.2.2.2.2.2.2.2.2.2.2.2.2.2.2.2.2.2.2.1.ext O21.2))⟩) (g := (mkF m 75 #[.val (.int i0), .unset, .unset, .unset] [(.ref w15), (.int (10 : Int32)), (.ref b1), (.ref b1)])) rfl rfl (hb hby at_75)
  have sf23 := (Safe.arv (EL := EL) hZ.alike V21 (by decide))
  have C23 := C21.trans (CHr.wr W23 sf23 C21.1)
  obtain ⟨T24, X24, e24, st24⟩ := getS2 X23 hx hZ hown (host := "") (Or.inl (hw _ m26)) Via.refl e23 (hS.2.2.2.2.2.2.2.2.2.2.2.2.2.2.2.2.2.2.2.2.2.2.2.2.2.2.2.2.1.ext O23.2) (g := (mkF m 79 #[.val (.int i0), .unset, .unset, .unset] [(.int (11 : Int32)), (.ref b1), (.ref b1)])) rfl (hb hby at_79)
  obtain ⟨T25, h25, L'25, X25, e25, W25, V25, O25, K25, N25, st25⟩ := own_stR X24 hx hZ e24 V23 O23 K23 N23 (Nat.le_trans (own_old_le O0) g1) (Or.inr (Nat.le_trans (Keep.refl h0 []).1 g1)) (j := (11 : Int32)) 11 (by decide) (Nat.le_of_ble_eq_true rfl) (vs' := [(.ref w13), (.ref w2), (.ref w10), (.ref w11), (.ref w16), (.ref w4), (.ref w9), (.ref w7), (.ref w12), (.ref w6), (.ref w15), (.ref w14), .null, .null, .null, .null, .null]) rfl rfl rfl (Or.inr ⟨_, _, rfl, O'1, (Ins.self (hS.2.2.2.2.2.2.2.2.2.2.2.2.2.2.2.2.2.2.2.2.2.2.2.2.2.2.2.2.2.1.ext O23.2))⟩) (g := (mkF m 82 #[.val (.int i0), .unset, .unset, .unset] [(.ref w14), (.int (11 : Int32)), (.ref b1), (.ref b1)])) rfl rfl (hb hby at_82)
  have sf25 := (Safe.arv (EL := EL) hZ.alike V23 (by decide))
  have C25 := C23.trans (CHr.wr W25 sf25 C23.1)
  obtain ⟨T26, X26, e26, st26⟩ := getS2 X25 hx hZ hown (host := "") (Or.inl (hw _ m28)) Via.refl e25 (hS.2.2.1.ext O25.2) (g := (mkF m 86 #[.val (.int i0), .unset, .unset, .unset] [(.int (12 : Int32)), (.ref b1), (.ref b1)])) rfl (hb hby at_86)
  obtain ⟨T27, h27, L'27, X27, e27, W27, V27, O27, K27, N27, st27⟩ := own_stR X26 hx hZ e26 V25 O25 K25 N25 (Nat.le_trans (own_old_le O0) g1) (Or.inr (Nat.le_trans (Keep.refl h0 []).1 g1)) (j := (12 : Int32)) 12 (by decide) (Nat.le_of_ble_eq_true rfl) (vs' := [(.ref w13), (.ref w2), (.ref w10), (.ref w11), (.ref w16), (.ref w4), (.ref w9), (.ref w7), (.ref w12), (.ref w6), (.ref w15), (.ref w14), (.ref w1), .null, .null, .null, .null]) rfl rfl rfl (Or.inr ⟨_, _, rfl, O'1, (Ins.self (hS.2.2.2.1.ext O25.2))⟩) (g := (mkF m 89 #[.val (.int i0), .unset, .unset, .unset] [(.ref w1), (.int (12 : Int32)), (.ref b1), (.ref b1)])) rfl rfl (hb hby at_89)
  have sf27 := (Safe.arv (EL := EL) hZ.alike V25 (by decide))
  have C27 := C25.trans (CHr.wr W27 sf27 C25.1)
  obtain ⟨T28, X28, e28, st28⟩ := getS2 X27 hx hZ hown (host := "") (Or.inl (hw _ m30)) Via.refl e27 (hS.2.2.2.2.2.2.2.2.2.2.1.ext O27.2) (g := (mkF m 93 #[.val (.int i0), .unset, .unset, .unset] [(.int (13 : Int32)), (.ref b1), (.ref b1)])) rfl (hb hby at_93)
  obtain ⟨T29, h29, L'29, X29, e29, W29, V29, O29, K29, N29, st29⟩ := own_stR X28 hx hZ e28 V27 O27 K27 N27 (Nat.le_trans (own_old_le O0) g1) (Or.inr (Nat.le_trans (Keep.refl h0 []).1 g1)) (j := (13 : Int32)) 13 (by decide) (Nat.le_of_ble_eq_true rfl) (vs' := [(.ref w13), (.ref w2), (.ref w10), (.ref w11), (.ref w16), (.ref w4), (.ref w9), (.ref w7), (.ref w12), (.ref w6), (.ref w15), (.ref w14), (.ref w1), (.ref w5), .null, .null, .null]) rfl rfl rfl (Or.inr ⟨_, _, rfl, O'1, (Ins.self (hS.2.2.2.2.2.2.2.2.2.2.2.1.ext O27.2))⟩) (g := (mkF m 96 #[.val (.int i0), .unset, .unset, .unset] [(.ref w5), (.int (13 : Int32)), (.ref b1), (.ref b1)])) rfl rfl (hb hby at_96)
  have sf29 := (Safe.arv (EL := EL) hZ.alike V27 (by decide))
  have C29 := C27.trans (CHr.wr W29 sf29 C27.1)
  obtain ⟨T30, X30, e30, st30⟩ := getS2 X29 hx hZ hown (host := "") (Or.inl (hw _ m32)) Via.refl e29 (hS.2.2.2.2.2.2.2.2.2.2.2.2.2.2.2.2.1.ext O29.2) (g := (mkF m 100 #[.val (.int i0), .unset, .unset, .unset] [(.int (14 : Int32)), (.ref b1), (.ref b1)])) rfl (hb hby at_100)
  obtain ⟨T31, h31, L'31, X31, e31, W31, V31, O31, K31, N31, st31⟩ := own_stR X30 hx hZ e30 V29 O29 K29 N29 (Nat.le_trans (own_old_le O0) g1) (Or.inr (Nat.le_trans (Keep.refl h0 []).1 g1)) (j := (14 : Int32)) 14 (by decide) (Nat.le_of_ble_eq_true rfl) (vs' := [(.ref w13), (.ref w2), (.ref w10), (.ref w11), (.ref w16), (.ref w4), (.ref w9), (.ref w7), (.ref w12), (.ref w6), (.ref w15), (.ref w14), (.ref w1), (.ref w5), (.ref w8), .null, .null]) rfl rfl rfl (Or.inr ⟨_, _, rfl, O'1, (Ins.self (hS.2.2.2.2.2.2.2.2.2.2.2.2.2.2.2.2.2.1.ext O29.2))⟩) (g := (mkF m 103 #[.val (.int i0), .unset, .unset, .unset] [(.ref w8), (.int (14 : Int32)), (.ref b1), (.ref b1)])) rfl rfl (hb hby at_103)
  have sf31 := (Safe.arv (EL := EL) hZ.alike V29 (by decide))
  have C31 := C29.trans (CHr.wr W31 sf31 C29.1)
  obtain ⟨T32, X32, e32, st32⟩ := getS2 X31 hx hZ hown (host := "") (Or.inl (hw _ m34)) Via.refl e31 (hS.2.2.2.2.2.2.1.ext O31.2) (g := (mkF m 107 #[.val (.int i0), .unset, .unset, .unset] [(.int (15 : Int32)), (.ref b1), (.ref b1)])) rfl (hb hby at_107)
  obtain ⟨T33, h33, L'33, X33, e33, W33, V33, O33, K33, N33, st33⟩ := own_stR X32 hx hZ e32 V31 O31 K31 N31 (Nat.le_trans (own_old_le O0) g1) (Or.inr (Nat.le_trans (Keep.refl h0 []).1 g1)) (j := (15 : Int32)) 15 (by decide) (Nat.le_of_ble_eq_true rfl) (vs' := [(.ref w13), (.ref w2), (.ref w10), (.ref w11), (.ref w16), (.ref w4), (.ref w9), (.ref w7), (.ref w12), (.ref w6), (.ref w15), (.ref w14), (.ref w1), (.ref w5), (.ref w8), (.ref w3), .null]) rfl rfl rfl (Or.inr ⟨_, _, rfl, O'1, (Ins.self (hS.2.2.2.2.2.2.2.1.ext O31.2))⟩) (g := (mkF m 110 #[.val (.int i0), .unset, .unset, .unset] [(.ref w3), (.int (15 : Int32)), (.ref b1), (.ref b1)])) rfl rfl (hb hby at_110)
  have sf33 := (Safe.arv (EL := EL) hZ.alike V31 (by decide))
  have C33 := C31.trans (CHr.wr W33 sf33 C31.1)
  obtain ⟨T34, X34, e34, st34⟩ := getS2 X33 hx hZ hown (host := "") (Or.inl (hw _ m36)) Via.refl e33 (hS.2.2.2.2.2.2.2.2.2.2.2.2.2.2.2.2.2.2.2.2.2.2.2.2.2.2.2.2.2.2.2.2.2.2.1.ext O33.2) (g := (mkF m 114 #[.val (.int i0), .unset, .unset, .unset] [(.int (16 : Int32)), (.ref b1), (.ref b1)])) rfl (hb hby at_114)
  obtain ⟨T35, h35, L'35, X35, e35, W35, V35, O35, K35, N35, st35⟩ := own_stR X34 hx hZ e34 V33 O33 K33 N33 (Nat.le_trans (own_old_le O0) g1) (Or.inr (Nat.le_trans (Keep.refl h0 []).1 g1)) (j := (16 : Int32)) 16 (by decide) (Nat.le_of_ble_eq_true rfl) (vs' := [(.ref w13), (.ref w2), (.ref w10), (.ref w11), (.ref w16), (.ref w4), (.ref w9), (.ref w7), (.ref w12), (.ref w6), (.ref w15), (.ref w14), (.ref w1), (.ref w5), (.ref w8), (.ref w3), (.ref w17)]) rfl rfl rfl (Or.inr ⟨_, _, rfl, O'1, (Ins.self (hS.2.2.2.2.2.2.2.2.2.2.2.2.2.2.2.2.2.2.2.2.2.2.2.2.2.2.2.2.2.2.2.2.2.2.2.ext O33.2))⟩) (g := (mkF m 117 #[.val (.int i0), .unset, .unset, .unset] [(.ref w17), (.int (16 : Int32)), (.ref b1), (.ref b1)])) rfl rfl (hb hby at_117)
  have sf35 := (Safe.arv (EL := EL) hZ.alike V33 (by decide))
  have C35 := C33.trans (CHr.wr W35 sf35 C33.1)
  have pre1 : ∀ t, Steps p.tables e below (T35.setTop (mkF m 126 #[.val (.int i0), .val (.ref b1), .unset, .unset] [(.int (17 : Int32)), (.int (i0 &&& (2147483647 : Int32))), (.ref b1)])) t → Steps p.tables e below (s₁.setTop (entryFrame m #[(.int i0)] maxLocals)) t := fun t kt => pre0 _ (by
      show Steps p.tables e below (s₁.setTop (mkF m 0 #[.val (.int i0), .unset, .unset, .unset] [])) _
      refine XS.bipush X0.here hx rfl (hb hby at_0) ?_
      refine st1 _ ?_
      refine XS.dup X1.here hx rfl (hb hby at_5) rfl rfl ?_
      refine XS.iconst X1.here hx rfl (hb hby at_6) ?_
      show Steps p.tables e below (T1.setTop (mkF m 7 #[.val (.int i0), .unset, .unset, .unset] [(.int (0 : Int32)), (.ref b1), (.ref b1)])) _
      refine st2 _ ?_
      refine st3 _ ?_
      refine XS.dup X3.here hx rfl (hb hby at_11) rfl rfl ?_
      refine XS.iconst X3.here hx rfl (hb hby at_12) ?_
      show Steps p.tables e below (T3.setTop (mkF m 13 #[.val (.int i0), .unset, .unset, .unset] [(.int (1 : Int32)), (.ref b1), (.ref b1)])) _
      refine st4 _ ?_
      refine st5 _ ?_
      refine XS.dup X5.here hx rfl (hb hby at_17) rfl rfl ?_
      refine XS.iconst X5.here hx rfl (hb hby at_18) ?_
      show Steps p.tables e below (T5.setTop (mkF m 19 #[.val (.int i0), .unset, .unset, .unset] [(.int (2 : Int32)), (.ref b1), (.ref b1)])) _
      refine st6 _ ?_
      refine st7 _ ?_
      refine XS.dup X7.here hx rfl (hb hby at_23) rfl rfl ?_
      refine XS.iconst X7.here hx rfl (hb hby at_24) ?_
      show Steps p.tables e below (T7.setTop (mkF m 25 #[.val (.int i0), .unset, .unset, .unset] [(.int (3 : Int32)), (.ref b1), (.ref b1)])) _
      refine st8 _ ?_
      refine st9 _ ?_
      refine XS.dup X9.here hx rfl (hb hby at_29) rfl rfl ?_
      refine XS.iconst X9.here hx rfl (hb hby at_30) ?_
      show Steps p.tables e below (T9.setTop (mkF m 31 #[.val (.int i0), .unset, .unset, .unset] [(.int (4 : Int32)), (.ref b1), (.ref b1)])) _
      refine st10 _ ?_
      refine st11 _ ?_
      refine XS.dup X11.here hx rfl (hb hby at_35) rfl rfl ?_
      refine XS.iconst X11.here hx rfl (hb hby at_36) ?_
      show Steps p.tables e below (T11.setTop (mkF m 37 #[.val (.int i0), .unset, .unset, .unset] [(.int (5 : Int32)), (.ref b1), (.ref b1)])) _
      refine st12 _ ?_
      refine st13 _ ?_
      refine XS.dup X13.here hx rfl (hb hby at_41) rfl rfl ?_
      refine XS.bipush X13.here hx rfl (hb hby at_42) ?_
      show Steps p.tables e below (T13.setTop (mkF m 44 #[.val (.int i0), .unset, .unset, .unset] [(.int (6 : Int32)), (.ref b1), (.ref b1)])) _
      refine st14 _ ?_
      refine st15 _ ?_
      refine XS.dup X15.here hx rfl (hb hby at_48) rfl rfl ?_
      refine XS.bipush X15.here hx rfl (hb hby at_49) ?_
      show Steps p.tables e below (T15.setTop (mkF m 51 #[.val (.int i0), .unset, .unset, .unset] [(.int (7 : Int32)), (.ref b1), (.ref b1)])) _
      refine st16 _ ?_
      refine st17 _ ?_
      refine XS.dup X17.here hx rfl (hb hby at_55) rfl rfl ?_
      refine XS.bipush X17.here hx rfl (hb hby at_56) ?_
      show Steps p.tables e below (T17.setTop (mkF m 58 #[.val (.int i0), .unset, .unset, .unset] [(.int (8 : Int32)), (.ref b1), (.ref b1)])) _
      refine st18 _ ?_
      refine st19 _ ?_
      refine XS.dup X19.here hx rfl (hb hby at_62) rfl rfl ?_
      refine XS.bipush X19.here hx rfl (hb hby at_63) ?_
      show Steps p.tables e below (T19.setTop (mkF m 65 #[.val (.int i0), .unset, .unset, .unset] [(.int (9 : Int32)), (.ref b1), (.ref b1)])) _
      refine st20 _ ?_
      refine st21 _ ?_
      refine XS.dup X21.here hx rfl (hb hby at_69) rfl rfl ?_
      refine XS.bipush X21.here hx rfl (hb hby at_70) ?_
      show Steps p.tables e below (T21.setTop (mkF m 72 #[.val (.int i0), .unset, .unset, .unset] [(.int (10 : Int32)), (.ref b1), (.ref b1)])) _
      refine st22 _ ?_
      refine st23 _ ?_
      refine XS.dup X23.here hx rfl (hb hby at_76) rfl rfl ?_
      refine XS.bipush X23.here hx rfl (hb hby at_77) ?_
      show Steps p.tables e below (T23.setTop (mkF m 79 #[.val (.int i0), .unset, .unset, .unset] [(.int (11 : Int32)), (.ref b1), (.ref b1)])) _
      refine st24 _ ?_
      refine st25 _ ?_
      refine XS.dup X25.here hx rfl (hb hby at_83) rfl rfl ?_
      refine XS.bipush X25.here hx rfl (hb hby at_84) ?_
      show Steps p.tables e below (T25.setTop (mkF m 86 #[.val (.int i0), .unset, .unset, .unset] [(.int (12 : Int32)), (.ref b1), (.ref b1)])) _
      refine st26 _ ?_
      refine st27 _ ?_
      refine XS.dup X27.here hx rfl (hb hby at_90) rfl rfl ?_
      refine XS.bipush X27.here hx rfl (hb hby at_91) ?_
      show Steps p.tables e below (T27.setTop (mkF m 93 #[.val (.int i0), .unset, .unset, .unset] [(.int (13 : Int32)), (.ref b1), (.ref b1)])) _
      refine st28 _ ?_
      refine st29 _ ?_
      refine XS.dup X29.here hx rfl (hb hby at_97) rfl rfl ?_
      refine XS.bipush X29.here hx rfl (hb hby at_98) ?_
      show Steps p.tables e below (T29.setTop (mkF m 100 #[.val (.int i0), .unset, .unset, .unset] [(.int (14 : Int32)), (.ref b1), (.ref b1)])) _
      refine st30 _ ?_
      refine st31 _ ?_
      refine XS.dup X31.here hx rfl (hb hby at_104) rfl rfl ?_
      refine XS.bipush X31.here hx rfl (hb hby at_105) ?_
      show Steps p.tables e below (T31.setTop (mkF m 107 #[.val (.int i0), .unset, .unset, .unset] [(.int (15 : Int32)), (.ref b1), (.ref b1)])) _
      refine st32 _ ?_
      refine st33 _ ?_
      refine XS.dup X33.here hx rfl (hb hby at_111) rfl rfl ?_
      refine XS.bipush X33.here hx rfl (hb hby at_112) ?_
      show Steps p.tables e below (T33.setTop (mkF m 114 #[.val (.int i0), .unset, .unset, .unset] [(.int (16 : Int32)), (.ref b1), (.ref b1)])) _
      refine st34 _ ?_
      refine st35 _ ?_
      refine XS.astoreN X35.here hx rfl (hb hby at_118) rfl rfl (l' := #[.val (.int i0), .val (.ref b1), .unset, .unset]) rfl ?_
      refine XS.aloadN X35.here hx rfl (hb hby at_119) rfl rfl ?_
      show Steps p.tables e below (T35.setTop (mkF m 120 #[.val (.int i0), .val (.ref b1), .unset, .unset] [(.ref b1)])) _
      refine XS.iloadN X35.here hx rfl (hb hby at_120) rfl ?_
      refine X35.ldcInt hx hown (mvT hZ (hw _ m38)) (g := (mkF m 121 #[.val (.int i0), .val (.ref b1), .unset, .unset] [(.int i0), (.ref b1)])) rfl (hb hby at_121) _ ?_
      refine XS.iand X35.here hx rfl (hb hby at_123) rfl ?_
      refine XS.bipush X35.here hx rfl (hb hby at_124) ?_
      exact kt)
  rcases en_20 ((i0 &&& (2147483647 : Int32)) % (17 : Int32)) (by have q0 := own_rng i0; have q1 := (by decide : ((2147483647 : Int32)).toInt = 2147483647); have q2 := (own_mask i0 (2147483647 : Int32) (by decide) : 0 ≤ ((i0 &&& (2147483647 : Int32))).toInt ∧ ((i0 &&& (2147483647 : Int32))).toInt ≤ 2147483647); have q3 := (by decide : ((17 : Int32)).toInt = 17); have q4 := (own_rem (i0 &&& (2147483647 : Int32)) (17 : Int32) 17 (by decide) (own_mask i0 (2147483647 : Int32) (by decide) : 0 ≤ ((i0 &&& (2147483647 : Int32))).toInt ∧ ((i0 &&& (2147483647 : Int32))).toInt ≤ 2147483647) (by decide) : 0 ≤ (((i0 &&& (2147483647 : Int32)) % (17 : Int32))).toInt ∧ (((i0 &&& (2147483647 : Int32)) % (17 : Int32))).toInt ≤ 16); omega) with hp0 | hp0 | hp0 | hp0 | hp0 | hp0 | hp0 | hp0 | hp0 | hp0 | hp0 | hp0 | hp0 | hp0 | hp0 | hp0 | hp0
  · obtain ⟨_, T36, L36, hQ36, hS36, hZ36, hown36, Cq36, X36, st36⟩ := own_callSW X35 hx hZ (W := 0) hown (hw _ m39) (hw _ m40) (hw _ m41) (hw _ m42) (by decide) (rm3 l Z a0 hw hj w0 w1 w2 w3 w4 w5 w6 w7 w8 w9 w10 w11 w12 w13 w14 w15 w16 w17 hS [] h35 n0 O35) e35 hS0 (Nat.le_trans (Nat.le_refl _) (Nat.le_trans (Nat.le_trans (Nat.le_trans (Nat.le_trans (Nat.le_trans (Nat.le_trans (Nat.le_trans (Nat.le_trans (Nat.le_trans (Nat.le_trans (Nat.le_trans (Nat.le_trans (Nat.le_trans (Nat.le_trans (Nat.le_trans (Nat.le_trans (Nat.le_trans E1.1 (Nat.le_of_eq W3.size.symm)) (Nat.le_of_eq W5.size.symm)) (Nat.le_of_eq W7.size.symm)) (Nat.le_of_eq W9.size.symm)) (Nat.le_of_eq W11.size.symm)) (Nat.le_of_eq W13.size.symm)) (Nat.le_of_eq W15.size.symm)) (Nat.le_of_eq W17.size.symm)) (Nat.le_of_eq W19.size.symm)) (Nat.le_of_eq W21.size.symm)) (Nat.le_of_eq W23.size.symm)) (Nat.le_of_eq W25.size.symm)) (Nat.le_of_eq W27.size.symm)) (Nat.le_of_eq W29.size.symm)) (Nat.le_of_eq W31.size.symm)) (Nat.le_of_eq W33.size.symm)) (Nat.le_of_eq W35.size.symm))) (own_EW hw hj) C35.1 own_sx0 (g := (mkF m 130 #[.val (.int i0), .val (.ref b1), .val (.ref w13), .unset] [(.ref w13)])) rfl (by rw [hml]; rfl) (argsL := [(.ref w13)]) (rest := []) (lenOf pd78 rfl) rfl rfl (by show 2 * 0 + _ ≤ _; exact Nat.le_of_eq rfl) (hb hby at_130) (by decide) (by decide) (by decide) (by decide)
    obtain ⟨c36_0, c36_1, c36_2, c36_3, c36_4, k36_5, k36_6, rfl, N36q, Kq36, lo36_0, q36_0, q36_1, q36_2, q36_3, q36_4, q36_5, q36_6, q36_7, q36_8, q36_9, q36_10, q36_11, q36_12⟩ := hQ36
    have N36 := Fr.app N35 N36q
    have C36 := C35.trans Cq36
    have O36 : Old Z n0 T36.heap := O35.keep Kq36 all0
    have K36 : Keep h0 T36.heap [] := K35.trans Kq36 all0
    have sf37 := (sf0 : ∀ x ∈ [], Safe Z EL T36.vm T36.heap x)
    obtain ⟨_, T37, L37, hQ37, X37, st37⟩ := own_virtual X36 hx hZ36 (W := 0) hown36 (hw _ m75) (hw _ m76) (notFace_of_selects (args := #[]) (mvT hZ36 (hw _ m78))) (hw _ m78) (hw _ m77) (hw _ m41) (hw _ m79) (by decide) (rm4 l Z a0 hw hj w0 w1 w2 w3 w4 w5 w6 w7 w8 w9 w10 w11 w12 w13 w14 w15 w16 w17 hS [] c36_0 T36.heap n0 O36 q36_1) (rfl : T36.heap = T36.heap) q36_0 (g := (mkF m 135 #[.val (.int i0), .val (.ref b1), .val (.ref w13), .val (.ref c36_0)] [(.ref c36_0)])) rfl (by rw [hml]; rfl) (argsL := []) (rest := []) (lenOf pd86 rfl) rfl rfl (by show 2 * 0 + _ ≤ _; exact Nat.le_of_eq rfl) (hb hby at_135) (by decide) (by decide) (by decide) (by decide)
    obtain ⟨rfl, N37q, e37⟩ := hQ37
    have N37 := Fr.app N36 N37q
    have e37' : T37.heap = T36.heap := e37
    have sf38 := (sf0 : ∀ x ∈ [], Safe Z EL T36.vm T36.heap x)
    obtain ⟨_, T38, L38, hQ38, X38, st38⟩ := own_virtual X37 hx hZ36 (W := 0) hown36 (hw _ m80) (hw _ m81) (notFace_of_selects (args := #[]) (mvT hZ36 (hw _ m83))) (hw _ m83) (hw _ m82) (hw _ m41) (hw _ m84) (by decide) (rm5 l Z a0 hw hj w0 w1 w2 w3 w4 w5 w6 w7 w8 w9 w10 w11 w12 w13 w14 w15 w16 w17 hS [] c36_0 c36_1 T36.heap n0 O36 q36_2) e37' q36_0 (g := (mkF m 143 #[.val (.int i0), .val (.ref b1), .val (.ref w13), .val (.ref c36_0)] [(.ref c36_0)])) rfl (by rw [hml]; rfl) (argsL := []) (rest := []) (lenOf pd95 rfl) rfl rfl (by show 2 * 0 + _ ≤ _; exact Nat.le_of_eq rfl) (hb hby at_143) (by decide) (by decide) (by decide) (by decide)
    obtain ⟨rfl, N38q, e38⟩ := hQ38
    have N38 := Fr.app N37 N38q
    have e38' : T38.heap = T36.heap := e38
    have sf39 := (sf0 : ∀ x ∈ [], Safe Z EL T36.vm T36.heap x)
    obtain ⟨_, T39, L39, hQ39, X39, st39⟩ := own_virtual X38 hx hZ36 (W := 0) hown36 (hw _ m85) (hw _ m86) (notFace_of_selects (args := #[]) (mvT hZ36 (hw _ m88))) (hw _ m88) (hw _ m87) (hw _ m46) (hw _ m89) (by decide) (rm6 l Z a0 hw hj w0 w1 w2 w3 w4 w5 w6 w7 w8 w9 w10 w11 w12 w13 w14 w15 w16 w17 hS [] c36_1 c36_3 k36_5 T36.heap n0 O36 q36_7 q36_11) e38' q36_5 (g := (mkF m 146 #[.val (.int i0), .val (.ref b1), .val (.ref w13), .val (.ref c36_0)] [(.ref c36_1)])) rfl (by rw [hml]; rfl) (argsL := []) (rest := []) (lenOf pd111 rfl) rfl rfl (by show 2 * 0 + _ ≤ _; exact Nat.le_of_eq rfl) (hb hby at_146) (by decide) (by decide) (by decide) (by decide)
    obtain ⟨rfl, N39q, e39⟩ := hQ39
    have N39 := Fr.app N38 N39q
    have e39' : T39.heap = T36.heap := e39
    have sf40 := (sf0 : ∀ x ∈ [], Safe Z EL T36.vm T36.heap x)
    obtain ⟨_, T40, L40, hQ40, X40, st40⟩ := own_virtual X39 hx hZ36 (W := 0) hown36 (hw _ m91) (hw _ m92) (notFace_of_selects (args := #[]) (mvT hZ36 (hw _ m94))) (hw _ m94) (hw _ m93) (hw _ m41) (hw _ m95) (by decide) (rm7 l Z a0 hw hj w0 w1 w2 w3 w4 w5 w6 w7 w8 w9 w10 w11 w12 w13 w14 w15 w16 w17 hS [] c36_0 T36.heap n0 O36 q36_3) e39' q36_0 (g := (mkF m 153 #[.val (.int i0), .val (.ref b1), .val (.ref w13), .val (.ref c36_0)] [(.ref c36_0)])) rfl (by rw [hml]; rfl) (argsL := []) (rest := []) (lenOf pd120 rfl) rfl rfl (by show 2 * 0 + _ ≤ _; exact Nat.le_of_eq rfl) (hb hby at_153) (by decide) (by decide) (by decide) (by decide)
    obtain ⟨rfl, N40q, e40⟩ := hQ40
    have N40 := Fr.app N39 N40q
    have e40' : T40.heap = T36.heap := e40
    obtain ⟨T41, X41, e41, st41⟩ := getS2 X40 hx hZ36 hown36 (host := "") (Or.inl (hw _ m96)) Via.refl e40' (hS.1.ext O36.2) (g := (mkF m 156 #[.val (.int i0), .val (.ref b1), .val (.ref w13), .val (.ref c36_0)] [(.ref w0)])) rfl (hb hby at_156)
    have sf42 := (sf0 : ∀ x ∈ [], Safe Z EL T36.vm T36.heap x)
    obtain ⟨_, T42, L42, hQ42, X42, st42⟩ := own_virtual X41 hx hZ36 (W := 0) hown36 (hw _ m97) (hw _ m98) (notFace_of_selects (args := #[]) (mvT hZ36 (hw _ m100))) (hw _ m100) (hw _ m99) (hw _ m41) (hw _ m101) (by decide) (rm8 l Z a0 hw hj w0 w1 w2 w3 w4 w5 w6 w7 w8 w9 w10 w11 w12 w13 w14 w15 w16 w17 hS [] c36_0 c36_2 T36.heap n0 O36 q36_4) e41 q36_0 (g := (mkF m 163 #[.val (.int i0), .val (.ref b1), .val (.ref w13), .val (.ref c36_0)] [(.ref c36_0)])) rfl (by rw [hml]; rfl) (argsL := []) (rest := []) (lenOf pd95 rfl) rfl rfl (by show 2 * 0 + _ ≤ _; exact Nat.le_of_eq rfl) (hb hby at_163) (by decide) (by decide) (by decide) (by decide)
    obtain ⟨rfl, N42q, e42⟩ := hQ42
    have N42 := Fr.app N40 N42q
    have e42' : T42.heap = T36.heap := e42
    have sf43 := (sf0 : ∀ x ∈ [], Safe Z EL T36.vm T36.heap x)
    obtain ⟨_, T43, L43, hQ43, X43, st43⟩ := own_virtual X42 hx hZ36 (W := 0) hown36 (hw _ m85) (hw _ m86) (notFace_of_selects (args := #[]) (mvT hZ36 (hw _ m88))) (hw _ m88) (hw _ m87) (hw _ m46) (hw _ m89) (by decide) (rm6 l Z a0 hw hj w0 w1 w2 w3 w4 w5 w6 w7 w8 w9 w10 w11 w12 w13 w14 w15 w16 w17 hS [] c36_2 c36_4 k36_6 T36.heap n0 O36 q36_10 q36_12) e42' q36_8 (g := (mkF m 166 #[.val (.int i0), .val (.ref b1), .val (.ref w13), .val (.ref c36_0)] [(.ref c36_2)])) rfl (by rw [hml]; rfl) (argsL := []) (rest := []) (lenOf pd111 rfl) rfl rfl (by show 2 * 0 + _ ≤ _; exact Nat.le_of_eq rfl) (hb hby at_166) (by decide) (by decide) (by decide) (by decide)
    obtain ⟨rfl, N43q, e43⟩ := hQ43
    have N43 := Fr.app N42 N43q
    have e43' : T43.heap = T36.heap := e43
    obtain ⟨fs, hr, hrun, hended, hRW⟩ := X43.leaveW hS36 (by rw [e43']; exact (Nat.le_refl _)) (v := some (.int (1 : Int32))) (fun h => by rw [Bd.returns] at h; cases h)
    refine ⟨_, _, pre1 _ ?_, hrun, hended, _, _, rfl, ?_, own_rwm hRW (by decide) (by decide)⟩
    · show Steps p.tables e below (T35.setTop (mkF m 126 #[.val (.int i0), .val (.ref b1), .unset, .unset] [(.int (17 : Int32)), (.int (i0 &&& (2147483647 : Int32))), (.ref b1)])) _
      refine own_irem X35 hx rfl (hb hby at_126) rfl (by decide : ¬ ((17 : Int32) = (0 : Int32))) hp0 ?_
      refine own_aaload X35 hx hZ e35 V35 (j := (0 : Int32)) (by decide) (v := (.ref w13)) rfl rfl (g := (mkF m 127 #[.val (.int i0), .val (.ref b1), .unset, .unset] [(.int (0 : Int32)), (.ref b1)])) rfl rfl (hb hby at_127) ?_
      refine XS.astoreN X35.here hx rfl (hb hby at_128) rfl rfl (l' := #[.val (.int i0), .val (.ref b1), .val (.ref w13), .unset]) rfl ?_
      refine XS.aloadN X35.here hx rfl (hb hby at_129) rfl rfl ?_
      show Steps p.tables e below (T35.setTop (mkF m 130 #[.val (.int i0), .val (.ref b1), .val (.ref w13), .unset] [(.ref w13)])) _
      refine st36 _ ?_
      refine XS.astoreN X36.here hx rfl (hb hby at_133) rfl rfl (l' := #[.val (.int i0), .val (.ref b1), .val (.ref w13), .val (.ref c36_0)]) rfl ?_
      refine XS.aloadN X36.here hx rfl (hb hby at_134) rfl rfl ?_
      refine st37 _ ?_
      show Steps p.tables e below (T37.setTop (mkF m 138 #[.val (.int i0), .val (.ref b1), .val (.ref w13), .val (.ref c36_0)] [(.ref w13)])) _
      refine XS.aloadN X37.here hx rfl (hb hby at_138) rfl rfl ?_
      refine Jvm.RoadKit.acmp (g := (mkF m 139 #[.val (.int i0), .val (.ref b1), .val (.ref w13), .val (.ref c36_0)] [(.ref w13), (.ref w13)])) X37 hx rfl rfl rfl (pc0 := 139) (pc' := 142) (same := true) rfl (hb hby at_139) rfl (decide_eq_true rfl) (by decide) (by decide) ?_
      refine XS.aloadN X37.here hx rfl (hb hby at_142) rfl rfl ?_
      refine st38 _ ?_
      show Steps p.tables e below (T38.setTop (mkF m 146 #[.val (.int i0), .val (.ref b1), .val (.ref w13), .val (.ref c36_0)] [(.ref c36_1)])) _
      refine st39 _ ?_
      refine XS.ifNo X39.here hx rfl (hb hby at_149) rfl ((if0 _ _).trans (feq (by decide : ¬ ((1 : Int32) = (0 : Int32)))).1) ?_
      refine XS.aloadN X39.here hx rfl (hb hby at_152) rfl rfl ?_
      refine st40 _ ?_
      show Steps p.tables e below (T40.setTop (mkF m 156 #[.val (.int i0), .val (.ref b1), .val (.ref w13), .val (.ref c36_0)] [(.ref w0)])) _
      refine st41 _ ?_
      refine Jvm.RoadKit.acmp (g := (mkF m 159 #[.val (.int i0), .val (.ref b1), .val (.ref w13), .val (.ref c36_0)] [(.ref w0), (.ref w0)])) X41 hx rfl rfl rfl (pc0 := 159) (pc' := 162) (same := true) rfl (hb hby at_159) rfl (decide_eq_true rfl) (by decide) (by decide) ?_
      refine XS.aloadN X41.here hx rfl (hb hby at_162) rfl rfl ?_
      refine st42 _ ?_
      show Steps p.tables e below (T42.setTop (mkF m 166 #[.val (.int i0), .val (.ref b1), .val (.ref w13), .val (.ref c36_0)] [(.ref c36_2)])) _
      refine st43 _ ?_
      refine XS.ifNo X43.here hx rfl (hb hby at_169) rfl ((if0 _ _).trans (feq (by decide : ¬ ((1 : Int32) = (0 : Int32)))).1) ?_
      refine XS.iconst X43.here hx rfl (hb hby at_172) ?_
      refine XS.goto X43.here hx rfl (pc0 := 173) (pc' := 177) rfl (hb hby at_173) (by decide) (by decide) ?_
      show Steps p.tables e below (T43.setTop (mkF m 177 #[.val (.int i0), .val (.ref b1), .val (.ref w13), .val (.ref c36_0)] [(.int (1 : Int32))])) _
      exact retN X43 hx (t := .boolean) Bd.returns (by simp) (hb hby at_177) hr
    · show QL n0 _ T43.heap _
      exact ⟨rfl, N43⟩
  · obtain ⟨_, T36, L36, hQ36, hS36, hZ36, hown36, Cq36, X36, st36⟩ := own_callSW X35 hx hZ (W := 0) hown (hw _ m39) (hw _ m40) (hw _ m41) (hw _ m42) (by decide) (rm10 l Z a0 hw hj w0 w1 w2 w3 w4 w5 w6 w7 w8 w9 w10 w11 w12 w13 w14 w15 w16 w17 hS [] h35 n0 O35) e35 hS0 (Nat.le_trans (Nat.le_refl _) (Nat.le_trans (Nat.le_trans (Nat.le_trans (Nat.le_trans (Nat.le_trans (Nat.le_trans (Nat.le_trans (Nat.le_trans (Nat.le_trans (Nat.le_trans (Nat.le_trans (Nat.le_trans (Nat.le_trans (Nat.le_trans (Nat.le_trans (Nat.le_trans (Nat.le_trans E1.1 (Nat.le_of_eq W3.size.symm)) (Nat.le_of_eq W5.size.symm)) (Nat.le_of_eq W7.size.symm)) (Nat.le_of_eq W9.size.symm)) (Nat.le_of_eq W11.size.symm)) (Nat.le_of_eq W13.size.symm)) (Nat.le_of_eq W15.size.symm)) (Nat.le_of_eq W17.size.symm)) (Nat.le_of_eq W19.size.symm)) (Nat.le_of_eq W21.size.symm)) (Nat.le_of_eq W23.size.symm)) (Nat.le_of_eq W25.size.symm)) (Nat.le_of_eq W27.size.symm)) (Nat.le_of_eq W29.size.symm)) (Nat.le_of_eq W31.size.symm)) (Nat.le_of_eq W33.size.symm)) (Nat.le_of_eq W35.size.symm))) (own_EW hw hj) C35.1 own_sx0 (g := (mkF m 130 #[.val (.int i0), .val (.ref b1), .val (.ref w2), .unset] [(.ref w2)])) rfl (by rw [hml]; rfl) (argsL := [(.ref w2)]) (rest := []) (lenOf pd78 rfl) rfl rfl (by show 2 * 0 + _ ≤ _; exact Nat.le_of_eq rfl) (hb hby at_130) (by decide) (by decide) (by decide) (by decide)
    obtain ⟨c36_0, c36_1, c36_2, c36_3, c36_4, k36_5, k36_6, rfl, N36q, Kq36, lo36_0, q36_0, q36_1, q36_2, q36_3, q36_4, q36_5, q36_6, q36_7, q36_8, q36_9, q36_10, q36_11, q36_12⟩ := hQ36
    have N36 := Fr.app N35 N36q
    have C36 := C35.trans Cq36
    have O36 : Old Z n0 T36.heap := O35.keep Kq36 all0
    have K36 : Keep h0 T36.heap [] := K35.trans Kq36 all0
    have sf37 := (sf0 : ∀ x ∈ [], Safe Z EL T36.vm T36.heap x)
    obtain ⟨_, T37, L37, hQ37, X37, st37⟩ := own_virtual X36 hx hZ36 (W := 0) hown36 (hw _ m75) (hw _ m76) (notFace_of_selects (args := #[]) (mvT hZ36 (hw _ m78))) (hw _ m78) (hw _ m77) (hw _ m41) (hw _ m79) (by decide) (rm11 l Z a0 hw hj w0 w1 w2 w3 w4 w5 w6 w7 w8 w9 w10 w11 w12 w13 w14 w15 w16 w17 hS [] c36_0 T36.heap n0 O36 q36_1) (rfl : T36.heap = T36.heap) q36_0 (g := (mkF m 135 #[.val (.int i0), .val (.ref b1), .val (.ref w2), .val (.ref c36_0)] [(.ref c36_0)])) rfl (by rw [hml]; rfl) (argsL := []) (rest := []) (lenOf pd86 rfl) rfl rfl (by show 2 * 0 + _ ≤ _; exact Nat.le_of_eq rfl) (hb hby at_135) (by decide) (by decide) (by decide) (by decide)
    obtain ⟨rfl, N37q, e37⟩ := hQ37
    have N37 := Fr.app N36 N37q
    have e37' : T37.heap = T36.heap := e37
    have sf38 := (sf0 : ∀ x ∈ [], Safe Z EL T36.vm T36.heap x)
    obtain ⟨_, T38, L38, hQ38, X38, st38⟩ := own_virtual X37 hx hZ36 (W := 0) hown36 (hw _ m80) (hw _ m81) (notFace_of_selects (args := #[]) (mvT hZ36 (hw _ m83))) (hw _ m83) (hw _ m82) (hw _ m41) (hw _ m84) (by decide) (rm5 l Z a0 hw hj w0 w1 w2 w3 w4 w5 w6 w7 w8 w9 w10 w11 w12 w13 w14 w15 w16 w17 hS [] c36_0 c36_1 T36.heap n0 O36 q36_2) e37' q36_0 (g := (mkF m 143 #[.val (.int i0), .val (.ref b1), .val (.ref w2), .val (.ref c36_0)] [(.ref c36_0)])) rfl (by rw [hml]; rfl) (argsL := []) (rest := []) (lenOf pd95 rfl) rfl rfl (by show 2 * 0 + _ ≤ _; exact Nat.le_of_eq rfl) (hb hby at_143) (by decide) (by decide) (by decide) (by decide)
    obtain ⟨rfl, N38q, e38⟩ := hQ38
    have N38 := Fr.app N37 N38q
    have e38' : T38.heap = T36.heap := e38
    have sf39 := (sf0 : ∀ x ∈ [], Safe Z EL T36.vm T36.heap x)
    obtain ⟨_, T39, L39, hQ39, X39, st39⟩ := own_virtual X38 hx hZ36 (W := 0) hown36 (hw _ m85) (hw _ m86) (notFace_of_selects (args := #[]) (mvT hZ36 (hw _ m88))) (hw _ m88) (hw _ m87) (hw _ m46) (hw _ m89) (by decide) (rm6 l Z a0 hw hj w0 w1 w2 w3 w4 w5 w6 w7 w8 w9 w10 w11 w12 w13 w14 w15 w16 w17 hS [] c36_1 c36_3 k36_5 T36.heap n0 O36 q36_7 q36_11) e38' q36_5 (g := (mkF m 146 #[.val (.int i0), .val (.ref b1), .val (.ref w2), .val (.ref c36_0)] [(.ref c36_1)])) rfl (by rw [hml]; rfl) (argsL := []) (rest := []) (lenOf pd111 rfl) rfl rfl (by show 2 * 0 + _ ≤ _; exact Nat.le_of_eq rfl) (hb hby at_146) (by decide) (by decide) (by decide) (by decide)
    obtain ⟨rfl, N39q, e39⟩ := hQ39
    have N39 := Fr.app N38 N39q
    have e39' : T39.heap = T36.heap := e39
    have sf40 := (sf0 : ∀ x ∈ [], Safe Z EL T36.vm T36.heap x)
    obtain ⟨_, T40, L40, hQ40, X40, st40⟩ := own_virtual X39 hx hZ36 (W := 0) hown36 (hw _ m91) (hw _ m92) (notFace_of_selects (args := #[]) (mvT hZ36 (hw _ m94))) (hw _ m94) (hw _ m93) (hw _ m41) (hw _ m95) (by decide) (rm7 l Z a0 hw hj w0 w1 w2 w3 w4 w5 w6 w7 w8 w9 w10 w11 w12 w13 w14 w15 w16 w17 hS [] c36_0 T36.heap n0 O36 q36_3) e39' q36_0 (g := (mkF m 153 #[.val (.int i0), .val (.ref b1), .val (.ref w2), .val (.ref c36_0)] [(.ref c36_0)])) rfl (by rw [hml]; rfl) (argsL := []) (rest := []) (lenOf pd120 rfl) rfl rfl (by show 2 * 0 + _ ≤ _; exact Nat.le_of_eq rfl) (hb hby at_153) (by decide) (by decide) (by decide) (by decide)
    obtain ⟨rfl, N40q, e40⟩ := hQ40
    have N40 := Fr.app N39 N40q
    have e40' : T40.heap = T36.heap := e40
    obtain ⟨T41, X41, e41, st41⟩ := getS2 X40 hx hZ36 hown36 (host := "") (Or.inl (hw _ m96)) Via.refl e40' (hS.1.ext O36.2) (g := (mkF m 156 #[.val (.int i0), .val (.ref b1), .val (.ref w2), .val (.ref c36_0)] [(.ref w0)])) rfl (hb hby at_156)
    have sf42 := (sf0 : ∀ x ∈ [], Safe Z EL T36.vm T36.heap x)
    obtain ⟨_, T42, L42, hQ42, X42, st42⟩ := own_virtual X41 hx hZ36 (W := 0) hown36 (hw _ m97) (hw _ m98) (notFace_of_selects (args := #[]) (mvT hZ36 (hw _ m100))) (hw _ m100) (hw _ m99) (hw _ m41) (hw _ m101) (by decide) (rm8 l Z a0 hw hj w0 w1 w2 w3 w4 w5 w6 w7 w8 w9 w10 w11 w12 w13 w14 w15 w16 w17 hS [] c36_0 c36_2 T36.heap n0 O36 q36_4) e41 q36_0 (g := (mkF m 163 #[.val (.int i0), .val (.ref b1), .val (.ref w2), .val (.ref c36_0)] [(.ref c36_0)])) rfl (by rw [hml]; rfl) (argsL := []) (rest := []) (lenOf pd95 rfl) rfl rfl (by show 2 * 0 + _ ≤ _; exact Nat.le_of_eq rfl) (hb hby at_163) (by decide) (by decide) (by decide) (by decide)
    obtain ⟨rfl, N42q, e42⟩ := hQ42
    have N42 := Fr.app N40 N42q
    have e42' : T42.heap = T36.heap := e42
    have sf43 := (sf0 : ∀ x ∈ [], Safe Z EL T36.vm T36.heap x)
    obtain ⟨_, T43, L43, hQ43, X43, st43⟩ := own_virtual X42 hx hZ36 (W := 0) hown36 (hw _ m85) (hw _ m86) (notFace_of_selects (args := #[]) (mvT hZ36 (hw _ m88))) (hw _ m88) (hw _ m87) (hw _ m46) (hw _ m89) (by decide) (rm6 l Z a0 hw hj w0 w1 w2 w3 w4 w5 w6 w7 w8 w9 w10 w11 w12 w13 w14 w15 w16 w17 hS [] c36_2 c36_4 k36_6 T36.heap n0 O36 q36_10 q36_12) e42' q36_8 (g := (mkF m 166 #[.val (.int i0), .val (.ref b1), .val (.ref w2), .val (.ref c36_0)] [(.ref c36_2)])) rfl (by rw [hml]; rfl) (argsL := []) (rest := []) (lenOf pd111 rfl) rfl rfl (by show 2 * 0 + _ ≤ _; exact Nat.le_of_eq rfl) (hb hby at_166) (by decide) (by decide) (by decide) (by decide)
    obtain ⟨rfl, N43q, e43⟩ := hQ43
    have N43 := Fr.app N42 N43q
    have e43' : T43.heap = T36.heap := e43
    obtain ⟨fs, hr, hrun, hended, hRW⟩ := X43.leaveW hS36 (by rw [e43']; exact (Nat.le_refl _)) (v := some (.int (1 : Int32))) (fun h => by rw [Bd.returns] at h; cases h)
    refine ⟨_, _, pre1 _ ?_, hrun, hended, _, _, rfl, ?_, own_rwm hRW (by decide) (by decide)⟩
    · show Steps p.tables e below (T35.setTop (mkF m 126 #[.val (.int i0), .val (.ref b1), .unset, .unset] [(.int (17 : Int32)), (.int (i0 &&& (2147483647 : Int32))), (.ref b1)])) _
      refine own_irem X35 hx rfl (hb hby at_126) rfl (by decide : ¬ ((17 : Int32) = (0 : Int32))) hp0 ?_
      refine own_aaload X35 hx hZ e35 V35 (j := (1 : Int32)) (by decide) (v := (.ref w2)) rfl rfl (g := (mkF m 127 #[.val (.int i0), .val (.ref b1), .unset, .unset] [(.int (1 : Int32)), (.ref b1)])) rfl rfl (hb hby at_127) ?_
      refine XS.astoreN X35.here hx rfl (hb hby at_128) rfl rfl (l' := #[.val (.int i0), .val (.ref b1), .val (.ref w2), .unset]) rfl ?_
      refine XS.aloadN X35.here hx rfl (hb hby at_129) rfl rfl ?_
      show Steps p.tables e below (T35.setTop (mkF m 130 #[.val (.int i0), .val (.ref b1), .val (.ref w2), .unset] [(.ref w2)])) _
      refine st36 _ ?_
      refine XS.astoreN X36.here hx rfl (hb hby at_133) rfl rfl (l' := #[.val (.int i0), .val (.ref b1), .val (.ref w2), .val (.ref c36_0)]) rfl ?_
      refine XS.aloadN X36.here hx rfl (hb hby at_134) rfl rfl ?_
      refine st37 _ ?_
      show Steps p.tables e below (T37.setTop (mkF m 138 #[.val (.int i0), .val (.ref b1), .val (.ref w2), .val (.ref c36_0)] [(.ref w2)])) _
      refine XS.aloadN X37.here hx rfl (hb hby at_138) rfl rfl ?_
      refine Jvm.RoadKit.acmp (g := (mkF m 139 #[.val (.int i0), .val (.ref b1), .val (.ref w2), .val (.ref c36_0)] [(.ref w2), (.ref w2)])) X37 hx rfl rfl rfl (pc0 := 139) (pc' := 142) (same := true) rfl (hb hby at_139) rfl (decide_eq_true rfl) (by decide) (by decide) ?_
      refine XS.aloadN X37.here hx rfl (hb hby at_142) rfl rfl ?_
      refine st38 _ ?_
      show Steps p.tables e below (T38.setTop (mkF m 146 #[.val (.int i0), .val (.ref b1), .val (.ref w2), .val (.ref c36_0)] [(.ref c36_1)])) _
      refine st39 _ ?_
      refine XS.ifNo X39.here hx rfl (hb hby at_149) rfl ((if0 _ _).trans (feq (by decide : ¬ ((1 : Int32) = (0 : Int32)))).1) ?_
      refine XS.aloadN X39.here hx rfl (hb hby at_152) rfl rfl ?_
      refine st40 _ ?_
      show Steps p.tables e below (T40.setTop (mkF m 156 #[.val (.int i0), .val (.ref b1), .val (.ref w2), .val (.ref c36_0)] [(.ref w0)])) _
      refine st41 _ ?_
      refine Jvm.RoadKit.acmp (g := (mkF m 159 #[.val (.int i0), .val (.ref b1), .val (.ref w2), .val (.ref c36_0)] [(.ref w0), (.ref w0)])) X41 hx rfl rfl rfl (pc0 := 159) (pc' := 162) (same := true) rfl (hb hby at_159) rfl (decide_eq_true rfl) (by decide) (by decide) ?_
      refine XS.aloadN X41.here hx rfl (hb hby at_162) rfl rfl ?_
      refine st42 _ ?_
      show Steps p.tables e below (T42.setTop (mkF m 166 #[.val (.int i0), .val (.ref b1), .val (.ref w2), .val (.ref c36_0)] [(.ref c36_2)])) _
      refine st43 _ ?_
      refine XS.ifNo X43.here hx rfl (hb hby at_169) rfl ((if0 _ _).trans (feq (by decide : ¬ ((1 : Int32) = (0 : Int32)))).1) ?_
      refine XS.iconst X43.here hx rfl (hb hby at_172) ?_
      refine XS.goto X43.here hx rfl (pc0 := 173) (pc' := 177) rfl (hb hby at_173) (by decide) (by decide) ?_
      show Steps p.tables e below (T43.setTop (mkF m 177 #[.val (.int i0), .val (.ref b1), .val (.ref w2), .val (.ref c36_0)] [(.int (1 : Int32))])) _
      exact retN X43 hx (t := .boolean) Bd.returns (by simp) (hb hby at_177) hr
    · show QL n0 _ T43.heap _
      exact ⟨rfl, N43⟩
  · obtain ⟨_, T36, L36, hQ36, hS36, hZ36, hown36, Cq36, X36, st36⟩ := own_callSW X35 hx hZ (W := 0) hown (hw _ m39) (hw _ m40) (hw _ m41) (hw _ m42) (by decide) (rm13 l Z a0 hw hj w0 w1 w2 w3 w4 w5 w6 w7 w8 w9 w10 w11 w12 w13 w14 w15 w16 w17 hS [] h35 n0 O35) e35 hS0 (Nat.le_trans (Nat.le_refl _) (Nat.le_trans (Nat.le_trans (Nat.le_trans (Nat.le_trans (Nat.le_trans (Nat.le_trans (Nat.le_trans (Nat.le_trans (Nat.le_trans (Nat.le_trans (Nat.le_trans (Nat.le_trans (Nat.le_trans (Nat.le_trans (Nat.le_trans (Nat.le_trans (Nat.le_trans E1.1 (Nat.le_of_eq W3.size.symm)) (Nat.le_of_eq W5.size.symm)) (Nat.le_of_eq W7.size.symm)) (Nat.le_of_eq W9.size.symm)) (Nat.le_of_eq W11.size.symm)) (Nat.le_of_eq W13.size.symm)) (Nat.le_of_eq W15.size.symm)) (Nat.le_of_eq W17.size.symm)) (Nat.le_of_eq W19.size.symm)) (Nat.le_of_eq W21.size.symm)) (Nat.le_of_eq W23.size.symm)) (Nat.le_of_eq W25.size.symm)) (Nat.le_of_eq W27.size.symm)) (Nat.le_of_eq W29.size.symm)) (Nat.le_of_eq W31.size.symm)) (Nat.le_of_eq W33.size.symm)) (Nat.le_of_eq W35.size.symm))) (own_EW hw hj) C35.1 own_sx0 (g := (mkF m 130 #[.val (.int i0), .val (.ref b1), .val (.ref w10), .unset] [(.ref w10)])) rfl (by rw [hml]; rfl) (argsL := [(.ref w10)]) (rest := []) (lenOf pd78 rfl) rfl rfl (by show 2 * 0 + _ ≤ _; exact Nat.le_of_eq rfl) (hb hby at_130) (by decide) (by decide) (by decide) (by decide)
    obtain ⟨c36_0, c36_1, c36_2, c36_3, c36_4, k36_5, k36_6, rfl, N36q, Kq36, lo36_0, q36_0, q36_1, q36_2, q36_3, q36_4, q36_5, q36_6, q36_7, q36_8, q36_9, q36_10, q36_11, q36_12⟩ := hQ36
    have N36 := Fr.app N35 N36q
    have C36 := C35.trans Cq36
    have O36 : Old Z n0 T36.heap := O35.keep Kq36 all0
    have K36 : Keep h0 T36.heap [] := K35.trans Kq36 all0
    have sf37 := (sf0 : ∀ x ∈ [], Safe Z EL T36.vm T36.heap x)
    obtain ⟨_, T37, L37, hQ37, X37, st37⟩ := own_virtual X36 hx hZ36 (W := 0) hown36 (hw _ m75) (hw _ m76) (notFace_of_selects (args := #[]) (mvT hZ36 (hw _ m78))) (hw _ m78) (hw _ m77) (hw _ m41) (hw _ m79) (by decide) (rm14 l Z a0 hw hj w0 w1 w2 w3 w4 w5 w6 w7 w8 w9 w10 w11 w12 w13 w14 w15 w16 w17 hS [] c36_0 T36.heap n0 O36 q36_1) (rfl : T36.heap = T36.heap) q36_0 (g := (mkF m 135 #[.val (.int i0), .val (.ref b1), .val (.ref w10), .val (.ref c36_0)] [(.ref c36_0)])) rfl (by rw [hml]; rfl) (argsL := []) (rest := []) (lenOf pd86 rfl) rfl rfl (by show 2 * 0 + _ ≤ _; exact Nat.le_of_eq rfl) (hb hby at_135) (by decide) (by decide) (by decide) (by decide)
    obtain ⟨rfl, N37q, e37⟩ := hQ37
    have N37 := Fr.app N36 N37q
    have e37' : T37.heap = T36.heap := e37
    have sf38 := (sf0 : ∀ x ∈ [], Safe Z EL T36.vm T36.heap x)
    obtain ⟨_, T38, L38, hQ38, X38, st38⟩ := own_virtual X37 hx hZ36 (W := 0) hown36 (hw _ m80) (hw _ m81) (notFace_of_selects (args := #[]) (mvT hZ36 (hw _ m83))) (hw _ m83) (hw _ m82) (hw _ m41) (hw _ m84) (by decide) (rm5 l Z a0 hw hj w0 w1 w2 w3 w4 w5 w6 w7 w8 w9 w10 w11 w12 w13 w14 w15 w16 w17 hS [] c36_0 c36_1 T36.heap n0 O36 q36_2) e37' q36_0 (g := (mkF m 143 #[.val (.int i0), .val (.ref b1), .val (.ref w10), .val (.ref c36_0)] [(.ref c36_0)])) rfl (by rw [hml]; rfl) (argsL := []) (rest := []) (lenOf pd95 rfl) rfl rfl (by show 2 * 0 + _ ≤ _; exact Nat.le_of_eq rfl) (hb hby at_143) (by decide) (by decide) (by decide) (by decide)
    obtain ⟨rfl, N38q, e38⟩ := hQ38
    have N38 := Fr.app N37 N38q
    have e38' : T38.heap = T36.heap := e38
    have sf39 := (sf0 : ∀ x ∈ [], Safe Z EL T36.vm T36.heap x)
    obtain ⟨_, T39, L39, hQ39, X39, st39⟩ := own_virtual X38 hx hZ36 (W := 0) hown36 (hw _ m85) (hw _ m86) (notFace_of_selects (args := #[]) (mvT hZ36 (hw _ m88))) (hw _ m88) (hw _ m87) (hw _ m46) (hw _ m89) (by decide) (rm6 l Z a0 hw hj w0 w1 w2 w3 w4 w5 w6 w7 w8 w9 w10 w11 w12 w13 w14 w15 w16 w17 hS [] c36_1 c36_3 k36_5 T36.heap n0 O36 q36_7 q36_11) e38' q36_5 (g := (mkF m 146 #[.val (.int i0), .val (.ref b1), .val (.ref w10), .val (.ref c36_0)] [(.ref c36_1)])) rfl (by rw [hml]; rfl) (argsL := []) (rest := []) (lenOf pd111 rfl) rfl rfl (by show 2 * 0 + _ ≤ _; exact Nat.le_of_eq rfl) (hb hby at_146) (by decide) (by decide) (by decide) (by decide)
    obtain ⟨rfl, N39q, e39⟩ := hQ39
    have N39 := Fr.app N38 N39q
    have e39' : T39.heap = T36.heap := e39
    have sf40 := (sf0 : ∀ x ∈ [], Safe Z EL T36.vm T36.heap x)
    obtain ⟨_, T40, L40, hQ40, X40, st40⟩ := own_virtual X39 hx hZ36 (W := 0) hown36 (hw _ m91) (hw _ m92) (notFace_of_selects (args := #[]) (mvT hZ36 (hw _ m94))) (hw _ m94) (hw _ m93) (hw _ m41) (hw _ m95) (by decide) (rm7 l Z a0 hw hj w0 w1 w2 w3 w4 w5 w6 w7 w8 w9 w10 w11 w12 w13 w14 w15 w16 w17 hS [] c36_0 T36.heap n0 O36 q36_3) e39' q36_0 (g := (mkF m 153 #[.val (.int i0), .val (.ref b1), .val (.ref w10), .val (.ref c36_0)] [(.ref c36_0)])) rfl (by rw [hml]; rfl) (argsL := []) (rest := []) (lenOf pd120 rfl) rfl rfl (by show 2 * 0 + _ ≤ _; exact Nat.le_of_eq rfl) (hb hby at_153) (by decide) (by decide) (by decide) (by decide)
    obtain ⟨rfl, N40q, e40⟩ := hQ40
    have N40 := Fr.app N39 N40q
    have e40' : T40.heap = T36.heap := e40
    obtain ⟨T41, X41, e41, st41⟩ := getS2 X40 hx hZ36 hown36 (host := "") (Or.inl (hw _ m96)) Via.refl e40' (hS.1.ext O36.2) (g := (mkF m 156 #[.val (.int i0), .val (.ref b1), .val (.ref w10), .val (.ref c36_0)] [(.ref w0)])) rfl (hb hby at_156)
    have sf42 := (sf0 : ∀ x ∈ [], Safe Z EL T36.vm T36.heap x)
    obtain ⟨_, T42, L42, hQ42, X42, st42⟩ := own_virtual X41 hx hZ36 (W := 0) hown36 (hw _ m97) (hw _ m98) (notFace_of_selects (args := #[]) (mvT hZ36 (hw _ m100))) (hw _ m100) (hw _ m99) (hw _ m41) (hw _ m101) (by decide) (rm8 l Z a0 hw hj w0 w1 w2 w3 w4 w5 w6 w7 w8 w9 w10 w11 w12 w13 w14 w15 w16 w17 hS [] c36_0 c36_2 T36.heap n0 O36 q36_4) e41 q36_0 (g := (mkF m 163 #[.val (.int i0), .val (.ref b1), .val (.ref w10), .val (.ref c36_0)] [(.ref c36_0)])) rfl (by rw [hml]; rfl) (argsL := []) (rest := []) (lenOf pd95 rfl) rfl rfl (by show 2 * 0 + _ ≤ _; exact Nat.le_of_eq rfl) (hb hby at_163) (by decide) (by decide) (by decide) (by decide)
    obtain ⟨rfl, N42q, e42⟩ := hQ42
    have N42 := Fr.app N40 N42q
    have e42' : T42.heap = T36.heap := e42
    have sf43 := (sf0 : ∀ x ∈ [], Safe Z EL T36.vm T36.heap x)
    obtain ⟨_, T43, L43, hQ43, X43, st43⟩ := own_virtual X42 hx hZ36 (W := 0) hown36 (hw _ m85) (hw _ m86) (notFace_of_selects (args := #[]) (mvT hZ36 (hw _ m88))) (hw _ m88) (hw _ m87) (hw _ m46) (hw _ m89) (by decide) (rm6 l Z a0 hw hj w0 w1 w2 w3 w4 w5 w6 w7 w8 w9 w10 w11 w12 w13 w14 w15 w16 w17 hS [] c36_2 c36_4 k36_6 T36.heap n0 O36 q36_10 q36_12) e42' q36_8 (g := (mkF m 166 #[.val (.int i0), .val (.ref b1), .val (.ref w10), .val (.ref c36_0)] [(.ref c36_2)])) rfl (by rw [hml]; rfl) (argsL := []) (rest := []) (lenOf pd111 rfl) rfl rfl (by show 2 * 0 + _ ≤ _; exact Nat.le_of_eq rfl) (hb hby at_166) (by decide) (by decide) (by decide) (by decide)
    obtain ⟨rfl, N43q, e43⟩ := hQ43
    have N43 := Fr.app N42 N43q
    have e43' : T43.heap = T36.heap := e43
    obtain ⟨fs, hr, hrun, hended, hRW⟩ := X43.leaveW hS36 (by rw [e43']; exact (Nat.le_refl _)) (v := some (.int (1 : Int32))) (fun h => by rw [Bd.returns] at h; cases h)
    refine ⟨_, _, pre1 _ ?_, hrun, hended, _, _, rfl, ?_, own_rwm hRW (by decide) (by decide)⟩
    · show Steps p.tables e below (T35.setTop (mkF m 126 #[.val (.int i0), .val (.ref b1), .unset, .unset] [(.int (17 : Int32)), (.int (i0 &&& (2147483647 : Int32))), (.ref b1)])) _
      refine own_irem X35 hx rfl (hb hby at_126) rfl (by decide : ¬ ((17 : Int32) = (0 : Int32))) hp0 ?_
      refine own_aaload X35 hx hZ e35 V35 (j := (2 : Int32)) (by decide) (v := (.ref w10)) rfl rfl (g := (mkF m 127 #[.val (.int i0), .val (.ref b1), .unset, .unset] [(.int (2 : Int32)), (.ref b1)])) rfl rfl (hb hby at_127) ?_
      refine XS.astoreN X35.here hx rfl (hb hby at_128) rfl rfl (l' := #[.val (.int i0), .val (.ref b1), .val (.ref w10), .unset]) rfl ?_
      refine XS.aloadN X35.here hx rfl (hb hby at_129) rfl rfl ?_
      show Steps p.tables e below (T35.setTop (mkF m 130 #[.val (.int i0), .val (.ref b1), .val (.ref w10), .unset] [(.ref w10)])) _
      refine st36 _ ?_
      refine XS.astoreN X36.here hx rfl (hb hby at_133) rfl rfl (l' := #[.val (.int i0), .val (.ref b1), .val (.ref w10), .val (.ref c36_0)]) rfl ?_
      refine XS.aloadN X36.here hx rfl (hb hby at_134) rfl rfl ?_
      refine st37 _ ?_
      show Steps p.tables e below (T37.setTop (mkF m 138 #[.val (.int i0), .val (.ref b1), .val (.ref w10), .val (.ref c36_0)] [(.ref w10)])) _
      refine XS.aloadN X37.here hx rfl (hb hby at_138) rfl rfl ?_
      refine Jvm.RoadKit.acmp (g := (mkF m 139 #[.val (.int i0), .val (.ref b1), .val (.ref w10), .val (.ref c36_0)] [(.ref w10), (.ref w10)])) X37 hx rfl rfl rfl (pc0 := 139) (pc' := 142) (same := true) rfl (hb hby at_139) rfl (decide_eq_true rfl) (by decide) (by decide) ?_
      refine XS.aloadN X37.here hx rfl (hb hby at_142) rfl rfl ?_
      refine st38 _ ?_
      show Steps p.tables e below (T38.setTop (mkF m 146 #[.val (.int i0), .val (.ref b1), .val (.ref w10), .val (.ref c36_0)] [(.ref c36_1)])) _
      refine st39 _ ?_
      refine XS.ifNo X39.here hx rfl (hb hby at_149) rfl ((if0 _ _).trans (feq (by decide : ¬ ((1 : Int32) = (0 : Int32)))).1) ?_
      refine XS.aloadN X39.here hx rfl (hb hby at_152) rfl rfl ?_
      refine st40 _ ?_
      show Steps p.tables e below (T40.setTop (mkF m 156 #[.val (.int i0), .val (.ref b1), .val (.ref w10), .val (.ref c36_0)] [(.ref w0)])) _
      refine st41 _ ?_
      refine Jvm.RoadKit.acmp (g := (mkF m 159 #[.val (.int i0), .val (.ref b1), .val (.ref w10), .val (.ref c36_0)] [(.ref w0), (.ref w0)])) X41 hx rfl rfl rfl (pc0 := 159) (pc' := 162) (same := true) rfl (hb hby at_159) rfl (decide_eq_true rfl) (by decide) (by decide) ?_
      refine XS.aloadN X41.here hx rfl (hb hby at_162) rfl rfl ?_
      refine st42 _ ?_
      show Steps p.tables e below (T42.setTop (mkF m 166 #[.val (.int i0), .val (.ref b1), .val (.ref w10), .val (.ref c36_0)] [(.ref c36_2)])) _
      refine st43 _ ?_
      refine XS.ifNo X43.here hx rfl (hb hby at_169) rfl ((if0 _ _).trans (feq (by decide : ¬ ((1 : Int32) = (0 : Int32)))).1) ?_
      refine XS.iconst X43.here hx rfl (hb hby at_172) ?_
      refine XS.goto X43.here hx rfl (pc0 := 173) (pc' := 177) rfl (hb hby at_173) (by decide) (by decide) ?_
      show Steps p.tables e below (T43.setTop (mkF m 177 #[.val (.int i0), .val (.ref b1), .val (.ref w10), .val (.ref c36_0)] [(.int (1 : Int32))])) _
      exact retN X43 hx (t := .boolean) Bd.returns (by simp) (hb hby at_177) hr
    · show QL n0 _ T43.heap _
      exact ⟨rfl, N43⟩
  · obtain ⟨_, T36, L36, hQ36, hS36, hZ36, hown36, Cq36, X36, st36⟩ := own_callSW X35 hx hZ (W := 0) hown (hw _ m39) (hw _ m40) (hw _ m41) (hw _ m42) (by decide) (rm16 l Z a0 hw hj w0 w1 w2 w3 w4 w5 w6 w7 w8 w9 w10 w11 w12 w13 w14 w15 w16 w17 hS [] h35 n0 O35) e35 hS0 (Nat.le_trans (Nat.le_refl _) (Nat.le_trans (Nat.le_trans (Nat.le_trans (Nat.le_trans (Nat.le_trans (Nat.le_trans (Nat.le_trans (Nat.le_trans (Nat.le_trans (Nat.le_trans (Nat.le_trans (Nat.le_trans (Nat.le_trans (Nat.le_trans (Nat.le_trans (Nat.le_trans (Nat.le_trans E1.1 (Nat.le_of_eq W3.size.symm)) (Nat.le_of_eq W5.size.symm)) (Nat.le_of_eq W7.size.symm)) (Nat.le_of_eq W9.size.symm)) (Nat.le_of_eq W11.size.symm)) (Nat.le_of_eq W13.size.symm)) (Nat.le_of_eq W15.size.symm)) (Nat.le_of_eq W17.size.symm)) (Nat.le_of_eq W19.size.symm)) (Nat.le_of_eq W21.size.symm)) (Nat.le_of_eq W23.size.symm)) (Nat.le_of_eq W25.size.symm)) (Nat.le_of_eq W27.size.symm)) (Nat.le_of_eq W29.size.symm)) (Nat.le_of_eq W31.size.symm)) (Nat.le_of_eq W33.size.symm)) (Nat.le_of_eq W35.size.symm))) (own_EW hw hj) C35.1 own_sx0 (g := (mkF m 130 #[.val (.int i0), .val (.ref b1), .val (.ref w11), .unset] [(.ref w11)])) rfl (by rw [hml]; rfl) (argsL := [(.ref w11)]) (rest := []) (lenOf pd78 rfl) rfl rfl (by show 2 * 0 + _ ≤ _; exact Nat.le_of_eq rfl) (hb hby at_130) (by decide) (by decide) (by decide) (by decide)
    obtain ⟨c36_0, c36_1, c36_2, c36_3, c36_4, k36_5, k36_6, rfl, N36q, Kq36, lo36_0, q36_0, q36_1, q36_2, q36_3, q36_4, q36_5, q36_6, q36_7, q36_8, q36_9, q36_10, q36_11, q36_12⟩ := hQ36
    have N36 := Fr.app N35 N36q
    have C36 := C35.trans Cq36
    have O36 : Old Z n0 T36.heap := O35.keep Kq36 all0
    have K36 : Keep h0 T36.heap [] := K35.trans Kq36 all0
    have sf37 := (sf0 : ∀ x ∈ [], Safe Z EL T36.vm T36.heap x)
    obtain ⟨_, T37, L37, hQ37, X37, st37⟩ := own_virtual X36 hx hZ36 (W := 0) hown36 (hw _ m75) (hw _ m76) (notFace_of_selects (args := #[]) (mvT hZ36 (hw _ m78))) (hw _ m78) (hw _ m77) (hw _ m41) (hw _ m79) (by decide) (rm17 l Z a0 hw hj w0 w1 w2 w3 w4 w5 w6 w7 w8 w9 w10 w11 w12 w13 w14 w15 w16 w17 hS [] c36_0 T36.heap n0 O36 q36_1) (rfl : T36.heap = T36.heap) q36_0 (g := (mkF m 135 #[.val (.int i0), .val (.ref b1), .val (.ref w11), .val (.ref c36_0)] [(.ref c36_0)])) rfl (by rw [hml]; rfl) (argsL := []) (rest := []) (lenOf pd86 rfl) rfl rfl (by show 2 * 0 + _ ≤ _; exact Nat.le_of_eq rfl) (hb hby at_135) (by decide) (by decide) (by decide) (by decide)
    obtain ⟨rfl, N37q, e37⟩ := hQ37
    have N37 := Fr.app N36 N37q
    have e37' : T37.heap = T36.heap := e37
    have sf38 := (sf0 : ∀ x ∈ [], Safe Z EL T36.vm T36.heap x)
    obtain ⟨_, T38, L38, hQ38, X38, st38⟩ := own_virtual X37 hx hZ36 (W := 0) hown36 (hw _ m80) (hw _ m81) (notFace_of_selects (args := #[]) (mvT hZ36 (hw _ m83))) (hw _ m83) (hw _ m82) (hw _ m41) (hw _ m84) (by decide) (rm5 l Z a0 hw hj w0 w1 w2 w3 w4 w5 w6 w7 w8 w9 w10 w11 w12 w13 w14 w15 w16 w17 hS [] c36_0 c36_1 T36.heap n0 O36 q36_2) e37' q36_0 (g := (mkF m 143 #[.val (.int i0), .val (.ref b1), .val (.ref w11), .val (.ref c36_0)] [(.ref c36_0)])) rfl (by rw [hml]; rfl) (argsL := []) (rest := []) (lenOf pd95 rfl) rfl rfl (by show 2 * 0 + _ ≤ _; exact Nat.le_of_eq rfl) (hb hby at_143) (by decide) (by decide) (by decide) (by decide)
    obtain ⟨rfl, N38q, e38⟩ := hQ38
    have N38 := Fr.app N37 N38q
    have e38' : T38.heap = T36.heap := e38
    have sf39 := (sf0 : ∀ x ∈ [], Safe Z EL T36.vm T36.heap x)
    obtain ⟨_, T39, L39, hQ39, X39, st39⟩ := own_virtual X38 hx hZ36 (W := 0) hown36 (hw _ m85) (hw _ m86) (notFace_of_selects (args := #[]) (mvT hZ36 (hw _ m88))) (hw _ m88) (hw _ m87) (hw _ m46) (hw _ m89) (by decide) (rm6 l Z a0 hw hj w0 w1 w2 w3 w4 w5 w6 w7 w8 w9 w10 w11 w12 w13 w14 w15 w16 w17 hS [] c36_1 c36_3 k36_5 T36.heap n0 O36 q36_7 q36_11) e38' q36_5 (g := (mkF m 146 #[.val (.int i0), .val (.ref b1), .val (.ref w11), .val (.ref c36_0)] [(.ref c36_1)])) rfl (by rw [hml]; rfl) (argsL := []) (rest := []) (lenOf pd111 rfl) rfl rfl (by show 2 * 0 + _ ≤ _; exact Nat.le_of_eq rfl) (hb hby at_146) (by decide) (by decide) (by decide) (by decide)
    obtain ⟨rfl, N39q, e39⟩ := hQ39
    have N39 := Fr.app N38 N39q
    have e39' : T39.heap = T36.heap := e39
    have sf40 := (sf0 : ∀ x ∈ [], Safe Z EL T36.vm T36.heap x)
    obtain ⟨_, T40, L40, hQ40, X40, st40⟩ := own_virtual X39 hx hZ36 (W := 0) hown36 (hw _ m91) (hw _ m92) (notFace_of_selects (args := #[]) (mvT hZ36 (hw _ m94))) (hw _ m94) (hw _ m93) (hw _ m41) (hw _ m95) (by decide) (rm7 l Z a0 hw hj w0 w1 w2 w3 w4 w5 w6 w7 w8 w9 w10 w11 w12 w13 w14 w15 w16 w17 hS [] c36_0 T36.heap n0 O36 q36_3) e39' q36_0 (g := (mkF m 153 #[.val (.int i0), .val (.ref b1), .val (.ref w11), .val (.ref c36_0)] [(.ref c36_0)])) rfl (by rw [hml]; rfl) (argsL := []) (rest := []) (lenOf pd120 rfl) rfl rfl (by show 2 * 0 + _ ≤ _; exact Nat.le_of_eq rfl) (hb hby at_153) (by decide) (by decide) (by decide) (by decide)
    obtain ⟨rfl, N40q, e40⟩ := hQ40
    have N40 := Fr.app N39 N40q
    have e40' : T40.heap = T36.heap := e40
    obtain ⟨T41, X41, e41, st41⟩ := getS2 X40 hx hZ36 hown36 (host := "") (Or.inl (hw _ m96)) Via.refl e40' (hS.1.ext O36.2) (g := (mkF m 156 #[.val (.int i0), .val (.ref b1), .val (.ref w11), .val (.ref c36_0)] [(.ref w0)])) rfl (hb hby at_156)
    have sf42 := (sf0 : ∀ x ∈ [], Safe Z EL T36.vm T36.heap x)
    obtain ⟨_, T42, L42, hQ42, X42, st42⟩ := own_virtual X41 hx hZ36 (W := 0) hown36 (hw _ m97) (hw _ m98) (notFace_of_selects (args := #[]) (mvT hZ36 (hw _ m100))) (hw _ m100) (hw _ m99) (hw _ m41) (hw _ m101) (by decide) (rm8 l Z a0 hw hj w0 w1 w2 w3 w4 w5 w6 w7 w8 w9 w10 w11 w12 w13 w14 w15 w16 w17 hS [] c36_0 c36_2 T36.heap n0 O36 q36_4) e41 q36_0 (g := (mkF m 163 #[.val (.int i0), .val (.ref b1), .val (.ref w11), .val (.ref c36_0)] [(.ref c36_0)])) rfl (by rw [hml]; rfl) (argsL := []) (rest := []) (lenOf pd95 rfl) rfl rfl (by show 2 * 0 + _ ≤ _; exact Nat.le_of_eq rfl) (hb hby at_163) (by decide) (by decide) (by decide) (by decide)
    obtain ⟨rfl, N42q, e42⟩ := hQ42
    have N42 := Fr.app N40 N42q
    have e42' : T42.heap = T36.heap := e42
    have sf43 := (sf0 : ∀ x ∈ [], Safe Z EL T36.vm T36.heap x)
    obtain ⟨_, T43, L43, hQ43, X43, st43⟩ := own_virtual X42 hx hZ36 (W := 0) hown36 (hw _ m85) (hw _ m86) (notFace_of_selects (args := #[]) (mvT hZ36 (hw _ m88))) (hw _ m88) (hw _ m87) (hw _ m46) (hw _ m89) (by decide) (rm6 l Z a0 hw hj w0 w1 w2 w3 w4 w5 w6 w7 w8 w9 w10 w11 w12 w13 w14 w15 w16 w17 hS [] c36_2 c36_4 k36_6 T36.heap n0 O36 q36_10 q36_12) e42' q36_8 (g := (mkF m 166 #[.val (.int i0), .val (.ref b1), .val (.ref w11), .val (.ref c36_0)] [(.ref c36_2)])) rfl (by rw [hml]; rfl) (argsL := []) (rest := []) (lenOf pd111 rfl) rfl rfl (by show 2 * 0 + _ ≤ _; exact Nat.le_of_eq rfl) (hb hby at_166) (by decide) (by decide) (by decide) (by decide)
    obtain ⟨rfl, N43q, e43⟩ := hQ43
    have N43 := Fr.app N42 N43q
    have e43' : T43.heap = T36.heap := e43
    obtain ⟨fs, hr, hrun, hended, hRW⟩ := X43.leaveW hS36 (by rw [e43']; exact (Nat.le_refl _)) (v := some (.int (1 : Int32))) (fun h => by rw [Bd.returns] at h; cases h)
    refine ⟨_, _, pre1 _ ?_, hrun, hended, _, _, rfl, ?_, own_rwm hRW (by decide) (by decide)⟩
    · show Steps p.tables e below (T35.setTop (mkF m 126 #[.val (.int i0), .val (.ref b1), .unset, .unset] [(.int (17 : Int32)), (.int (i0 &&& (2147483647 : Int32))), (.ref b1)])) _
      refine own_irem X35 hx rfl (hb hby at_126) rfl (by decide : ¬ ((17 : Int32) = (0 : Int32))) hp0 ?_
      refine own_aaload X35 hx hZ e35 V35 (j := (3 : Int32)) (by decide) (v := (.ref w11)) rfl rfl (g := (mkF m 127 #[.val (.int i0), .val (.ref b1), .unset, .unset] [(.int (3 : Int32)), (.ref b1)])) rfl rfl (hb hby at_127) ?_
      refine XS.astoreN X35.here hx rfl (hb hby at_128) rfl rfl (l' := #[.val (.int i0), .val (.ref b1), .val (.ref w11), .unset]) rfl ?_
      refine XS.aloadN X35.here hx rfl (hb hby at_129) rfl rfl ?_
      show Steps p.tables e below (T35.setTop (mkF m 130 #[.val (.int i0), .val (.ref b1), .val (.ref w11), .unset] [(.ref w11)])) _
      refine st36 _ ?_
      refine XS.astoreN X36.here hx rfl (hb hby at_133) rfl rfl (l' := #[.val (.int i0), .val (.ref b1), .val (.ref w11), .val (.ref c36_0)]) rfl ?_
      refine XS.aloadN X36.here hx rfl (hb hby at_134) rfl rfl ?_
      refine st37 _ ?_
      show Steps p.tables e below (T37.setTop (mkF m 138 #[.val (.int i0), .val (.ref b1), .val (.ref w11), .val (.ref c36_0)] [(.ref w11)])) _
      refine XS.aloadN X37.here hx rfl (hb hby at_138) rfl rfl ?_
      refine Jvm.RoadKit.acmp (g := (mkF m 139 #[.val (.int i0), .val (.ref b1), .val (.ref w11), .val (.ref c36_0)] [(.ref w11), (.ref w11)])) X37 hx rfl rfl rfl (pc0 := 139) (pc' := 142) (same := true) rfl (hb hby at_139) rfl (decide_eq_true rfl) (by decide) (by decide) ?_
      refine XS.aloadN X37.here hx rfl (hb hby at_142) rfl rfl ?_
      refine st38 _ ?_
      show Steps p.tables e below (T38.setTop (mkF m 146 #[.val (.int i0), .val (.ref b1), .val (.ref w11), .val (.ref c36_0)] [(.ref c36_1)])) _
      refine st39 _ ?_
      refine XS.ifNo X39.here hx rfl (hb hby at_149) rfl ((if0 _ _).trans (feq (by decide : ¬ ((1 : Int32) = (0 : Int32)))).1) ?_
      refine XS.aloadN X39.here hx rfl (hb hby at_152) rfl rfl ?_
      refine st40 _ ?_
      show Steps p.tables e below (T40.setTop (mkF m 156 #[.val (.int i0), .val (.ref b1), .val (.ref w11), .val (.ref c36_0)] [(.ref w0)])) _
      refine st41 _ ?_
      refine Jvm.RoadKit.acmp (g := (mkF m 159 #[.val (.int i0), .val (.ref b1), .val (.ref w11), .val (.ref c36_0)] [(.ref w0), (.ref w0)])) X41 hx rfl rfl rfl (pc0 := 159) (pc' := 162) (same := true) rfl (hb hby at_159) rfl (decide_eq_true rfl) (by decide) (by decide) ?_
      refine XS.aloadN X41.here hx rfl (hb hby at_162) rfl rfl ?_
      refine st42 _ ?_
      show Steps p.tables e below (T42.setTop (mkF m 166 #[.val (.int i0), .val (.ref b1), .val (.ref w11), .val (.ref c36_0)] [(.ref c36_2)])) _
      refine st43 _ ?_
      refine XS.ifNo X43.here hx rfl (hb hby at_169) rfl ((if0 _ _).trans (feq (by decide : ¬ ((1 : Int32) = (0 : Int32)))).1) ?_
      refine XS.iconst X43.here hx rfl (hb hby at_172) ?_
      refine XS.goto X43.here hx rfl (pc0 := 173) (pc' := 177) rfl (hb hby at_173) (by decide) (by decide) ?_
      show Steps p.tables e below (T43.setTop (mkF m 177 #[.val (.int i0), .val (.ref b1), .val (.ref w11), .val (.ref c36_0)] [(.int (1 : Int32))])) _
      exact retN X43 hx (t := .boolean) Bd.returns (by simp) (hb hby at_177) hr
    · show QL n0 _ T43.heap _
      exact ⟨rfl, N43⟩
  · obtain ⟨_, T36, L36, hQ36, hS36, hZ36, hown36, Cq36, X36, st36⟩ := own_callSW X35 hx hZ (W := 0) hown (hw _ m39) (hw _ m40) (hw _ m41) (hw _ m42) (by decide) (rm19 l Z a0 hw hj w0 w1 w2 w3 w4 w5 w6 w7 w8 w9 w10 w11 w12 w13 w14 w15 w16 w17 hS [] h35 n0 O35) e35 hS0 (Nat.le_trans (Nat.le_refl _) (Nat.le_trans (Nat.le_trans (Nat.le_trans (Nat.le_trans (Nat.le_trans (Nat.le_trans (Nat.le_trans (Nat.le_trans (Nat.le_trans (Nat.le_trans (Nat.le_trans (Nat.le_trans (Nat.le_trans (Nat.le_trans (Nat.le_trans (Nat.le_trans (Nat.le_trans E1.1 (Nat.le_of_eq W3.size.symm)) (Nat.le_of_eq W5.size.symm)) (Nat.le_of_eq W7.size.symm)) (Nat.le_of_eq W9.size.symm)) (Nat.le_of_eq W11.size.symm)) (Nat.le_of_eq W13.size.symm)) (Nat.le_of_eq W15.size.symm)) (Nat.le_of_eq W17.size.symm)) (Nat.le_of_eq W19.size.symm)) (Nat.le_of_eq W21.size.symm)) (Nat.le_of_eq W23.size.symm)) (Nat.le_of_eq W25.size.symm)) (Nat.le_of_eq W27.size.symm)) (Nat.le_of_eq W29.size.symm)) (Nat.le_of_eq W31.size.symm)) (Nat.le_of_eq W33.size.symm)) (Nat.le_of_eq W35.size.symm))) (own_EW hw hj) C35.1 own_sx0 (g := (mkF m 130 #[.val (.int i0), .val (.ref b1), .val (.ref w16), .unset] [(.ref w16)])) rfl (by rw [hml]; rfl) (argsL := [(.ref w16)]) (rest := []) (lenOf pd78 rfl) rfl rfl (by show 2 * 0 + _ ≤ _; exact Nat.le_of_eq rfl) (hb hby at_130) (by decide) (by decide) (by decide) (by decide)
    obtain ⟨c36_0, c36_1, c36_2, c36_3, c36_4, k36_5, k36_6, rfl, N36q, Kq36, lo36_0, q36_0, q36_1, q36_2, q36_3, q36_4, q36_5, q36_6, q36_7, q36_8, q36_9, q36_10, q36_11, q36_12⟩ := hQ36
    have N36 := Fr.app N35 N36q
    have C36 := C35.trans Cq36
    have O36 : Old Z n0 T36.heap := O35.keep Kq36 all0
    have K36 : Keep h0 T36.heap [] := K35.trans Kq36 all0
    have sf37 := (sf0 : ∀ x ∈ [], Safe Z EL T36.vm T36.heap x)
    obtain ⟨_, T37, L37, hQ37, X37, st37⟩ := own_virtual X36 hx hZ36 (W := 0) hown36 (hw _ m75) (hw _ m76) (notFace_of_selects (args := #[]) (mvT hZ36 (hw _ m78))) (hw _ m78) (hw _ m77) (hw _ m41) (hw _ m79) (by decide) (rm20 l Z a0 hw hj w0 w1 w2 w3 w4 w5 w6 w7 w8 w9 w10 w11 w12 w13 w14 w15 w16 w17 hS [] c36_0 T36.heap n0 O36 q36_1) (rfl : T36.heap = T36.heap) q36_0 (g := (mkF m 135 #[.val (.int i0), .val (.ref b1), .val (.ref w16), .val (.ref c36_0)] [(.ref c36_0)])) rfl (by rw [hml]; rfl) (argsL := []) (rest := []) (lenOf pd86 rfl) rfl rfl (by show 2 * 0 + _ ≤ _; exact Nat.le_of_eq rfl) (hb hby at_135) (by decide) (by decide) (by decide) (by decide)
    obtain ⟨rfl, N37q, e37⟩ := hQ37
    have N37 := Fr.app N36 N37q
    have e37' : T37.heap = T36.heap := e37
    have sf38 := (sf0 : ∀ x ∈ [], Safe Z EL T36.vm T36.heap x)
    obtain ⟨_, T38, L38, hQ38, X38, st38⟩ := own_virtual X37 hx hZ36 (W := 0) hown36 (hw _ m80) (hw _ m81) (notFace_of_selects (args := #[]) (mvT hZ36 (hw _ m83))) (hw _ m83) (hw _ m82) (hw _ m41) (hw _ m84) (by decide) (rm5 l Z a0 hw hj w0 w1 w2 w3 w4 w5 w6 w7 w8 w9 w10 w11 w12 w13 w14 w15 w16 w17 hS [] c36_0 c36_1 T36.heap n0 O36 q36_2) e37' q36_0 (g := (mkF m 143 #[.val (.int i0), .val (.ref b1), .val (.ref w16), .val (.ref c36_0)] [(.ref c36_0)])) rfl (by rw [hml]; rfl) (argsL := []) (rest := []) (lenOf pd95 rfl) rfl rfl (by show 2 * 0 + _ ≤ _; exact Nat.le_of_eq rfl) (hb hby at_143) (by decide) (by decide) (by decide) (by decide)
    obtain ⟨rfl, N38q, e38⟩ := hQ38
    have N38 := Fr.app N37 N38q
    have e38' : T38.heap = T36.heap := e38
    have sf39 := (sf0 : ∀ x ∈ [], Safe Z EL T36.vm T36.heap x)
    obtain ⟨_, T39, L39, hQ39, X39, st39⟩ := own_virtual X38 hx hZ36 (W := 0) hown36 (hw _ m85) (hw _ m86) (notFace_of_selects (args := #[]) (mvT hZ36 (hw _ m88))) (hw _ m88) (hw _ m87) (hw _ m46) (hw _ m89) (by decide) (rm6 l Z a0 hw hj w0 w1 w2 w3 w4 w5 w6 w7 w8 w9 w10 w11 w12 w13 w14 w15 w16 w17 hS [] c36_1 c36_3 k36_5 T36.heap n0 O36 q36_7 q36_11) e38' q36_5 (g := (mkF m 146 #[.val (.int i0), .val (.ref b1), .val (.ref w16), .val (.ref c36_0)] [(.ref c36_1)])) rfl (by rw [hml]; rfl) (argsL := []) (rest := []) (lenOf pd111 rfl) rfl rfl (by show 2 * 0 + _ ≤ _; exact Nat.le_of_eq rfl) (hb hby at_146) (by decide) (by decide) (by decide) (by decide)
    obtain ⟨rfl, N39q, e39⟩ := hQ39
    have N39 := Fr.app N38 N39q
    have e39' : T39.heap = T36.heap := e39
    have sf40 := (sf0 : ∀ x ∈ [], Safe Z EL T36.vm T36.heap x)
    obtain ⟨_, T40, L40, hQ40, X40, st40⟩ := own_virtual X39 hx hZ36 (W := 0) hown36 (hw _ m91) (hw _ m92) (notFace_of_selects (args := #[]) (mvT hZ36 (hw _ m94))) (hw _ m94) (hw _ m93) (hw _ m41) (hw _ m95) (by decide) (rm7 l Z a0 hw hj w0 w1 w2 w3 w4 w5 w6 w7 w8 w9 w10 w11 w12 w13 w14 w15 w16 w17 hS [] c36_0 T36.heap n0 O36 q36_3) e39' q36_0 (g := (mkF m 153 #[.val (.int i0), .val (.ref b1), .val (.ref w16), .val (.ref c36_0)] [(.ref c36_0)])) rfl (by rw [hml]; rfl) (argsL := []) (rest := []) (lenOf pd120 rfl) rfl rfl (by show 2 * 0 + _ ≤ _; exact Nat.le_of_eq rfl) (hb hby at_153) (by decide) (by decide) (by decide) (by decide)
    obtain ⟨rfl, N40q, e40⟩ := hQ40
    have N40 := Fr.app N39 N40q
    have e40' : T40.heap = T36.heap := e40
    obtain ⟨T41, X41, e41, st41⟩ := getS2 X40 hx hZ36 hown36 (host := "") (Or.inl (hw _ m96)) Via.refl e40' (hS.1.ext O36.2) (g := (mkF m 156 #[.val (.int i0), .val (.ref b1), .val (.ref w16), .val (.ref c36_0)] [(.ref w0)])) rfl (hb hby at_156)
    have sf42 := (sf0 : ∀ x ∈ [], Safe Z EL T36.vm T36.heap x)
    obtain ⟨_, T42, L42, hQ42, X42, st42⟩ := own_virtual X41 hx hZ36 (W := 0) hown36 (hw _ m97) (hw _ m98) (notFace_of_selects (args := #[]) (mvT hZ36 (hw _ m100))) (hw _ m100) (hw _ m99) (hw _ m41) (hw _ m101) (by decide) (rm8 l Z a0 hw hj w0 w1 w2 w3 w4 w5 w6 w7 w8 w9 w10 w11 w12 w13 w14 w15 w16 w17 hS [] c36_0 c36_2 T36.heap n0 O36 q36_4) e41 q36_0 (g := (mkF m 163 #[.val (.int i0), .val (.ref b1), .val (.ref w16), .val (.ref c36_0)] [(.ref c36_0)])) rfl (by rw [hml]; rfl) (argsL := []) (rest := []) (lenOf pd95 rfl) rfl rfl (by show 2 * 0 + _ ≤ _; exact Nat.le_of_eq rfl) (hb hby at_163) (by decide) (by decide) (by decide) (by decide)
    obtain ⟨rfl, N42q, e42⟩ := hQ42
    have N42 := Fr.app N40 N42q
    have e42' : T42.heap = T36.heap := e42
    have sf43 := (sf0 : ∀ x ∈ [], Safe Z EL T36.vm T36.heap x)
    obtain ⟨_, T43, L43, hQ43, X43, st43⟩ := own_virtual X42 hx hZ36 (W := 0) hown36 (hw _ m85) (hw _ m86) (notFace_of_selects (args := #[]) (mvT hZ36 (hw _ m88))) (hw _ m88) (hw _ m87) (hw _ m46) (hw _ m89) (by decide) (rm6 l Z a0 hw hj w0 w1 w2 w3 w4 w5 w6 w7 w8 w9 w10 w11 w12 w13 w14 w15 w16 w17 hS [] c36_2 c36_4 k36_6 T36.heap n0 O36 q36_10 q36_12) e42' q36_8 (g := (mkF m 166 #[.val (.int i0), .val (.ref b1), .val (.ref w16), .val (.ref c36_0)] [(.ref c36_2)])) rfl (by rw [hml]; rfl) (argsL := []) (rest := []) (lenOf pd111 rfl) rfl rfl (by show 2 * 0 + _ ≤ _; exact Nat.le_of_eq rfl) (hb hby at_166) (by decide) (by decide) (by decide) (by decide)
    obtain ⟨rfl, N43q, e43⟩ := hQ43
    have N43 := Fr.app N42 N43q
    have e43' : T43.heap = T36.heap := e43
    obtain ⟨fs, hr, hrun, hended, hRW⟩ := X43.leaveW hS36 (by rw [e43']; exact (Nat.le_refl _)) (v := some (.int (1 : Int32))) (fun h => by rw [Bd.returns] at h; cases h)
    refine ⟨_, _, pre1 _ ?_, hrun, hended, _, _, rfl, ?_, own_rwm hRW (by decide) (by decide)⟩
    · show Steps p.tables e below (T35.setTop (mkF m 126 #[.val (.int i0), .val (.ref b1), .unset, .unset] [(.int (17 : Int32)), (.int (i0 &&& (2147483647 : Int32))), (.ref b1)])) _
      refine own_irem X35 hx rfl (hb hby at_126) rfl (by decide : ¬ ((17 : Int32) = (0 : Int32))) hp0 ?_
      refine own_aaload X35 hx hZ e35 V35 (j := (4 : Int32)) (by decide) (v := (.ref w16)) rfl rfl (g := (mkF m 127 #[.val (.int i0), .val (.ref b1), .unset, .unset] [(.int (4 : Int32)), (.ref b1)])) rfl rfl (hb hby at_127) ?_
      refine XS.astoreN X35.here hx rfl (hb hby at_128) rfl rfl (l' := #[.val (.int i0), .val (.ref b1), .val (.ref w16), .unset]) rfl ?_
      refine XS.aloadN X35.here hx rfl (hb hby at_129) rfl rfl ?_
      show Steps p.tables e below (T35.setTop (mkF m 130 #[.val (.int i0), .val (.ref b1), .val (.ref w16), .unset] [(.ref w16)])) _
      refine st36 _ ?_
      refine XS.astoreN X36.here hx rfl (hb hby at_133) rfl rfl (l' := #[.val (.int i0), .val (.ref b1), .val (.ref w16), .val (.ref c36_0)]) rfl ?_
      refine XS.aloadN X36.here hx rfl (hb hby at_134) rfl rfl ?_
      refine st37 _ ?_
      show Steps p.tables e below (T37.setTop (mkF m 138 #[.val (.int i0), .val (.ref b1), .val (.ref w16), .val (.ref c36_0)] [(.ref w16)])) _
      refine XS.aloadN X37.here hx rfl (hb hby at_138) rfl rfl ?_
      refine Jvm.RoadKit.acmp (g := (mkF m 139 #[.val (.int i0), .val (.ref b1), .val (.ref w16), .val (.ref c36_0)] [(.ref w16), (.ref w16)])) X37 hx rfl rfl rfl (pc0 := 139) (pc' := 142) (same := true) rfl (hb hby at_139) rfl (decide_eq_true rfl) (by decide) (by decide) ?_
      refine XS.aloadN X37.here hx rfl (hb hby at_142) rfl rfl ?_
      refine st38 _ ?_
      show Steps p.tables e below (T38.setTop (mkF m 146 #[.val (.int i0), .val (.ref b1), .val (.ref w16), .val (.ref c36_0)] [(.ref c36_1)])) _
      refine st39 _ ?_
      refine XS.ifNo X39.here hx rfl (hb hby at_149) rfl ((if0 _ _).trans (feq (by decide : ¬ ((1 : Int32) = (0 : Int32)))).1) ?_
      refine XS.aloadN X39.here hx rfl (hb hby at_152) rfl rfl ?_
      refine st40 _ ?_
      show Steps p.tables e below (T40.setTop (mkF m 156 #[.val (.int i0), .val (.ref b1), .val (.ref w16), .val (.ref c36_0)] [(.ref w0)])) _
      refine st41 _ ?_
      refine Jvm.RoadKit.acmp (g := (mkF m 159 #[.val (.int i0), .val (.ref b1), .val (.ref w16), .val (.ref c36_0)] [(.ref w0), (.ref w0)])) X41 hx rfl rfl rfl (pc0 := 159) (pc' := 162) (same := true) rfl (hb hby at_159) rfl (decide_eq_true rfl) (by decide) (by decide) ?_
      refine XS.aloadN X41.here hx rfl (hb hby at_162) rfl rfl ?_
      refine st42 _ ?_
      show Steps p.tables e below (T42.setTop (mkF m 166 #[.val (.int i0), .val (.ref b1), .val (.ref w16), .val (.ref c36_0)] [(.ref c36_2)])) _
      refine st43 _ ?_
      refine XS.ifNo X43.here hx rfl (hb hby at_169) rfl ((if0 _ _).trans (feq (by decide : ¬ ((1 : Int32) = (0 : Int32)))).1) ?_
      refine XS.iconst X43.here hx rfl (hb hby at_172) ?_
      refine XS.goto X43.here hx rfl (pc0 := 173) (pc' := 177) rfl (hb hby at_173) (by decide) (by decide) ?_
      show Steps p.tables e below (T43.setTop (mkF m 177 #[.val (.int i0), .val (.ref b1), .val (.ref w16), .val (.ref c36_0)] [(.int (1 : Int32))])) _
      exact retN X43 hx (t := .boolean) Bd.returns (by simp) (hb hby at_177) hr
    · show QL n0 _ T43.heap _
      exact ⟨rfl, N43⟩
  · obtain ⟨_, T36, L36, hQ36, hS36, hZ36, hown36, Cq36, X36, st36⟩ := own_callSW X35 hx hZ (W := 0) hown (hw _ m39) (hw _ m40) (hw _ m41) (hw _ m42) (by decide) (rm22 l Z a0 hw hj w0 w1 w2 w3 w4 w5 w6 w7 w8 w9 w10 w11 w12 w13 w14 w15 w16 w17 hS [] h35 n0 O35) e35 hS0 (Nat.le_trans (Nat.le_refl _) (Nat.le_trans (Nat.le_trans (Nat.le_trans (Nat.le_trans (Nat.le_trans (Nat.le_trans (Nat.le_trans (Nat.le_trans (Nat.le_trans (Nat.le_trans (Nat.le_trans (Nat.le_trans (Nat.le_trans (Nat.le_trans (Nat.le_trans (Nat.le_trans (Nat.le_trans E1.1 (Nat.le_of_eq W3.size.symm)) (Nat.le_of_eq W5.size.symm)) (Nat.le_of_eq W7.size.symm)) (Nat.le_of_eq W9.size.symm)) (Nat.le_of_eq W11.size.symm)) (Nat.le_of_eq W13.size.symm)) (Nat.le_of_eq W15.size.symm)) (Nat.le_of_eq W17.size.symm)) (Nat.le_of_eq W19.size.symm)) (Nat.le_of_eq W21.size.symm)) (Nat.le_of_eq W23.size.symm)) (Nat.le_of_eq W25.size.symm)) (Nat.le_of_eq W27.size.symm)) (Nat.le_of_eq W29.size.symm)) (Nat.le_of_eq W31.size.symm)) (Nat.le_of_eq W33.size.symm)) (Nat.le_of_eq W35.size.symm))) (own_EW hw hj) C35.1 own_sx0 (g := (mkF m 130 #[.val (.int i0), .val (.ref b1), .val (.ref w4), .unset] [(.ref w4)])) rfl (by rw [hml]; rfl) (argsL := [(.ref w4)]) (rest := []) (lenOf pd78 rfl) rfl rfl (by show 2 * 0 + _ ≤ _; exact Nat.le_of_eq rfl) (hb hby at_130) (by decide) (by decide) (by decide) (by decide)
    obtain ⟨c36_0, c36_1, c36_2, c36_3, c36_4, k36_5, k36_6, rfl, N36q, Kq36, lo36_0, q36_0, q36_1, q36_2, q36_3, q36_4, q36_5, q36_6, q36_7, q36_8, q36_9, q36_10, q36_11, q36_12⟩ := hQ36
    have N36 := Fr.app N35 N36q
    have C36 := C35.trans Cq36
    have O36 : Old Z n0 T36.heap := O35.keep Kq36 all0
    have K36 : Keep h0 T36.heap [] := K35.trans Kq36 all0
    have sf37 := (sf0 : ∀ x ∈ [], Safe Z EL T36.vm T36.heap x)
    obtain ⟨_, T37, L37, hQ37, X37, st37⟩ := own_virtual X36 hx hZ36 (W := 0) hown36 (hw _ m75) (hw _ m76) (notFace_of_selects (args := #[]) (mvT hZ36 (hw _ m78))) (hw _ m78) (hw _ m77) (hw _ m41) (hw _ m79) (by decide) (rm23 l Z a0 hw hj w0 w1 w2 w3 w4 w5 w6 w7 w8 w9 w10 w11 w12 w13 w14 w15 w16 w17 hS [] c36_0 T36.heap n0 O36 q36_1) (rfl : T36.heap = T36.heap) q36_0 (g := (mkF m 135 #[.val (.int i0), .val (.ref b1), .val (.ref w4), .val (.ref c36_0)] [(.ref c36_0)])) rfl (by rw [hml]; rfl) (argsL := []) (rest := []) (lenOf pd86 rfl) rfl rfl (by show 2 * 0 + _ ≤ _; exact Nat.le_of_eq rfl) (hb hby at_135) (by decide) (by decide) (by decide) (by decide)
    obtain ⟨rfl, N37q, e37⟩ := hQ37
    have N37 := Fr.app N36 N37q
    have e37' : T37.heap = T36.heap := e37
    have sf38 := (sf0 : ∀ x ∈ [], Safe Z EL T36.vm T36.heap x)
    obtain ⟨_, T38, L38, hQ38, X38, st38⟩ := own_virtual X37 hx hZ36 (W := 0) hown36 (hw _ m80) (hw _ m81) (notFace_of_selects (args := #[]) (mvT hZ36 (hw _ m83))) (hw _ m83) (hw _ m82) (hw _ m41) (hw _ m84) (by decide) (rm5 l Z a0 hw hj w0 w1 w2 w3 w4 w5 w6 w7 w8 w9 w10 w11 w12 w13 w14 w15 w16 w17 hS [] c36_0 c36_1 T36.heap n0 O36 q36_2) e37' q36_0 (g := (mkF m 143 #[.val (.int i0), .val (.ref b1), .val (.ref w4), .val (.ref c36_0)] [(.ref c36_0)])) rfl (by rw [hml]; rfl) (argsL := []) (rest := []) (lenOf pd95 rfl) rfl rfl (by show 2 * 0 + _ ≤ _; exact Nat.le_of_eq rfl) (hb hby at_143) (by decide) (by decide) (by decide) (by decide)
    obtain ⟨rfl, N38q, e38⟩ := hQ38
    have N38 := Fr.app N37 N38q
    have e38' : T38.heap = T36.heap := e38
    have sf39 := (sf0 : ∀ x ∈ [], Safe Z EL T36.vm T36.heap x)
    obtain ⟨_, T39, L39, hQ39, X39, st39⟩ := own_virtual X38 hx hZ36 (W := 0) hown36 (hw _ m85) (hw _ m86) (notFace_of_selects (args := #[]) (mvT hZ36 (hw _ m88))) (hw _ m88) (hw _ m87) (hw _ m46) (hw _ m89) (by decide) (rm6 l Z a0 hw hj w0 w1 w2 w3 w4 w5 w6 w7 w8 w9 w10 w11 w12 w13 w14 w15 w16 w17 hS [] c36_1 c36_3 k36_5 T36.heap n0 O36 q36_7 q36_11) e38' q36_5 (g := (mkF m 146 #[.val (.int i0), .val (.ref b1), .val (.ref w4), .val (.ref c36_0)] [(.ref c36_1)])) rfl (by rw [hml]; rfl) (argsL := []) (rest := []) (lenOf pd111 rfl) rfl rfl (by show 2 * 0 + _ ≤ _; exact Nat.le_of_eq rfl) (hb hby at_146) (by decide) (by decide) (by decide) (by decide)
    obtain ⟨rfl, N39q, e39⟩ := hQ39
    have N39 := Fr.app N38 N39q
    have e39' : T39.heap = T36.heap := e39
    have sf40 := (sf0 : ∀ x ∈ [], Safe Z EL T36.vm T36.heap x)
    obtain ⟨_, T40, L40, hQ40, X40, st40⟩ := own_virtual X39 hx hZ36 (W := 0) hown36 (hw _ m91) (hw _ m92) (notFace_of_selects (args := #[]) (mvT hZ36 (hw _ m94))) (hw _ m94) (hw _ m93) (hw _ m41) (hw _ m95) (by decide) (rm7 l Z a0 hw hj w0 w1 w2 w3 w4 w5 w6 w7 w8 w9 w10 w11 w12 w13 w14 w15 w16 w17 hS [] c36_0 T36.heap n0 O36 q36_3) e39' q36_0 (g := (mkF m 153 #[.val (.int i0), .val (.ref b1), .val (.ref w4), .val (.ref c36_0)] [(.ref c36_0)])) rfl (by rw [hml]; rfl) (argsL := []) (rest := []) (lenOf pd120 rfl) rfl rfl (by show 2 * 0 + _ ≤ _; exact Nat.le_of_eq rfl) (hb hby at_153) (by decide) (by decide) (by decide) (by decide)
    obtain ⟨rfl, N40q, e40⟩ := hQ40
    have N40 := Fr.app N39 N40q
    have e40' : T40.heap = T36.heap := e40
    obtain ⟨T41, X41, e41, st41⟩ := getS2 X40 hx hZ36 hown36 (host := "") (Or.inl (hw _ m96)) Via.refl e40' (hS.1.ext O36.2) (g := (mkF m 156 #[.val (.int i0), .val (.ref b1), .val (.ref w4), .val (.ref c36_0)] [(.ref w0)])) rfl (hb hby at_156)
    have sf42 := (sf0 : ∀ x ∈ [], Safe Z EL T36.vm T36.heap x)
    obtain ⟨_, T42, L42, hQ42, X42, st42⟩ := own_virtual X41 hx hZ36 (W := 0) hown36 (hw _ m97) (hw _ m98) (notFace_of_selects (args := #[]) (mvT hZ36 (hw _ m100))) (hw _ m100) (hw _ m99) (hw _ m41) (hw _ m101) (by decide) (rm8 l Z a0 hw hj w0 w1 w2 w3 w4 w5 w6 w7 w8 w9 w10 w11 w12 w13 w14 w15 w16 w17 hS [] c36_0 c36_2 T36.heap n0 O36 q36_4) e41 q36_0 (g := (mkF m 163 #[.val (.int i0), .val (.ref b1), .val (.ref w4), .val (.ref c36_0)] [(.ref c36_0)])) rfl (by rw [hml]; rfl) (argsL := []) (rest := []) (lenOf pd95 rfl) rfl rfl (by show 2 * 0 + _ ≤ _; exact Nat.le_of_eq rfl) (hb hby at_163) (by decide) (by decide) (by decide) (by decide)
    obtain ⟨rfl, N42q, e42⟩ := hQ42
    have N42 := Fr.app N40 N42q
    have e42' : T42.heap = T36.heap := e42
    have sf43 := (sf0 : ∀ x ∈ [], Safe Z EL T36.vm T36.heap x)
    obtain ⟨_, T43, L43, hQ43, X43, st43⟩ := own_virtual X42 hx hZ36 (W := 0) hown36 (hw _ m85) (hw _ m86) (notFace_of_selects (args := #[]) (mvT hZ36 (hw _ m88))) (hw _ m88) (hw _ m87) (hw _ m46) (hw _ m89) (by decide) (rm6 l Z a0 hw hj w0 w1 w2 w3 w4 w5 w6 w7 w8 w9 w10 w11 w12 w13 w14 w15 w16 w17 hS [] c36_2 c36_4 k36_6 T36.heap n0 O36 q36_10 q36_12) e42' q36_8 (g := (mkF m 166 #[.val (.int i0), .val (.ref b1), .val (.ref w4), .val (.ref c36_0)] [(.ref c36_2)])) rfl (by rw [hml]; rfl) (argsL := []) (rest := []) (lenOf pd111 rfl) rfl rfl (by show 2 * 0 + _ ≤ _; exact Nat.le_of_eq rfl) (hb hby at_166) (by decide) (by decide) (by decide) (by decide)
    obtain ⟨rfl, N43q, e43⟩ := hQ43
    have N43 := Fr.app N42 N43q
    have e43' : T43.heap = T36.heap := e43
    obtain ⟨fs, hr, hrun, hended, hRW⟩ := X43.leaveW hS36 (by rw [e43']; exact (Nat.le_refl _)) (v := some (.int (1 : Int32))) (fun h => by rw [Bd.returns] at h; cases h)
    refine ⟨_, _, pre1 _ ?_, hrun, hended, _, _, rfl, ?_, own_rwm hRW (by decide) (by decide)⟩
    · show Steps p.tables e below (T35.setTop (mkF m 126 #[.val (.int i0), .val (.ref b1), .unset, .unset] [(.int (17 : Int32)), (.int (i0 &&& (2147483647 : Int32))), (.ref b1)])) _
      refine own_irem X35 hx rfl (hb hby at_126) rfl (by decide : ¬ ((17 : Int32) = (0 : Int32))) hp0 ?_
      refine own_aaload X35 hx hZ e35 V35 (j := (5 : Int32)) (by decide) (v := (.ref w4)) rfl rfl (g := (mkF m 127 #[.val (.int i0), .val (.ref b1), .unset, .unset] [(.int (5 : Int32)), (.ref b1)])) rfl rfl (hb hby at_127) ?_
      refine XS.astoreN X35.here hx rfl (hb hby at_128) rfl rfl (l' := #[.val (.int i0), .val (.ref b1), .val (.ref w4), .unset]) rfl ?_
      refine XS.aloadN X35.here hx rfl (hb hby at_129) rfl rfl ?_
      show Steps p.tables e below (T35.setTop (mkF m 130 #[.val (.int i0), .val (.ref b1), .val (.ref w4), .unset] [(.ref w4)])) _
      refine st36 _ ?_
      refine XS.astoreN X36.here hx rfl (hb hby at_133) rfl rfl (l' := #[.val (.int i0), .val (.ref b1), .val (.ref w4), .val (.ref c36_0)]) rfl ?_
      refine XS.aloadN X36.here hx rfl (hb hby at_134) rfl rfl ?_
      refine st37 _ ?_
      show Steps p.tables e below (T37.setTop (mkF m 138 #[.val (.int i0), .val (.ref b1), .val (.ref w4), .val (.ref c36_0)] [(.ref w4)])) _
      refine XS.aloadN X37.here hx rfl (hb hby at_138) rfl rfl ?_
      refine Jvm.RoadKit.acmp (g := (mkF m 139 #[.val (.int i0), .val (.ref b1), .val (.ref w4), .val (.ref c36_0)] [(.ref w4), (.ref w4)])) X37 hx rfl rfl rfl (pc0 := 139) (pc' := 142) (same := true) rfl (hb hby at_139) rfl (decide_eq_true rfl) (by decide) (by decide) ?_
      refine XS.aloadN X37.here hx rfl (hb hby at_142) rfl rfl ?_
      refine st38 _ ?_
      show Steps p.tables e below (T38.setTop (mkF m 146 #[.val (.int i0), .val (.ref b1), .val (.ref w4), .val (.ref c36_0)] [(.ref c36_1)])) _
      refine st39 _ ?_
      refine XS.ifNo X39.here hx rfl (hb hby at_149) rfl ((if0 _ _).trans (feq (by decide : ¬ ((1 : Int32) = (0 : Int32)))).1) ?_
      refine XS.aloadN X39.here hx rfl (hb hby at_152) rfl rfl ?_
      refine st40 _ ?_
      show Steps p.tables e below (T40.setTop (mkF m 156 #[.val (.int i0), .val (.ref b1), .val (.ref w4), .val (.ref c36_0)] [(.ref w0)])) _
      refine st41 _ ?_
      refine Jvm.RoadKit.acmp (g := (mkF m 159 #[.val (.int i0), .val (.ref b1), .val (.ref w4), .val (.ref c36_0)] [(.ref w0), (.ref w0)])) X41 hx rfl rfl rfl (pc0 := 159) (pc' := 162) (same := true) rfl (hb hby at_159) rfl (decide_eq_true rfl) (by decide) (by decide) ?_
      refine XS.aloadN X41.here hx rfl (hb hby at_162) rfl rfl ?_
      refine st42 _ ?_
      show Steps p.tables e below (T42.setTop (mkF m 166 #[.val (.int i0), .val (.ref b1), .val (.ref w4), .val (.ref c36_0)] [(.ref c36_2)])) _
      refine st43 _ ?_
      refine XS.ifNo X43.here hx rfl (hb hby at_169) rfl ((if0 _ _).trans (feq (by decide : ¬ ((1 : Int32) = (0 : Int32)))).1) ?_
      refine XS.iconst X43.here hx rfl (hb hby at_172) ?_
      refine XS.goto X43.here hx rfl (pc0 := 173) (pc' := 177) rfl (hb hby at_173) (by decide) (by decide) ?_
      show Steps p.tables e below (T43.setTop (mkF m 177 #[.val (.int i0), .val (.ref b1), .val (.ref w4), .val (.ref c36_0)] [(.int (1 : Int32))])) _
      exact retN X43 hx (t := .boolean) Bd.returns (by simp) (hb hby at_177) hr
    · show QL n0 _ T43.heap _
      exact ⟨rfl, N43⟩
  · obtain ⟨_, T36, L36, hQ36, hS36, hZ36, hown36, Cq36, X36, st36⟩ := own_callSW X35 hx hZ (W := 0) hown (hw _ m39) (hw _ m40) (hw _ m41) (hw _ m42) (by decide) (rm25 l Z a0 hw hj w0 w1 w2 w3 w4 w5 w6 w7 w8 w9 w10 w11 w12 w13 w14 w15 w16 w17 hS [] h35 n0 O35) e35 hS0 (Nat.le_trans (Nat.le_refl _) (Nat.le_trans (Nat.le_trans (Nat.le_trans (Nat.le_trans (Nat.le_trans (Nat.le_trans (Nat.le_trans (Nat.le_trans (Nat.le_trans (Nat.le_trans (Nat.le_trans (Nat.le_trans (Nat.le_trans (Nat.le_trans (Nat.le_trans (Nat.le_trans (Nat.le_trans E1.1 (Nat.le_of_eq W3.size.symm)) (Nat.le_of_eq W5.size.symm)) (Nat.le_of_eq W7.size.symm)) (Nat.le_of_eq W9.size.symm)) (Nat.le_of_eq W11.size.symm)) (Nat.le_of_eq W13.size.symm)) (Nat.le_of_eq W15.size.symm)) (Nat.le_of_eq W17.size.symm)) (Nat.le_of_eq W19.size.symm)) (Nat.le_of_eq W21.size.symm)) (Nat.le_of_eq W23.size.symm)) (Nat.le_of_eq W25.size.symm)) (Nat.le_of_eq W27.size.symm)) (Nat.le_of_eq W29.size.symm)) (Nat.le_of_eq W31.size.symm)) (Nat.le_of_eq W33.size.symm)) (Nat.le_of_eq W35.size.symm))) (own_EW hw hj) C35.1 own_sx0 (g := (mkF m 130 #[.val (.int i0), .val (.ref b1), .val (.ref w9), .unset] [(.ref w9)])) rfl (by rw [hml]; rfl) (argsL := [(.ref w9)]) (rest := []) (lenOf pd78 rfl) rfl rfl (by show 2 * 0 + _ ≤ _; exact Nat.le_of_eq rfl) (hb hby at_130) (by decide) (by decide) (by decide) (by decide)
    obtain ⟨c36_0, c36_1, c36_2, c36_3, c36_4, k36_5, k36_6, rfl, N36q, Kq36, lo36_0, q36_0, q36_1, q36_2, q36_3, q36_4, q36_5, q36_6, q36_7, q36_8, q36_9, q36_10, q36_11, q36_12⟩ := hQ36
    have N36 := Fr.app N35 N36q
    have C36 := C35.trans Cq36
    have O36 : Old Z n0 T36.heap := O35.keep Kq36 all0
    have K36 : Keep h0 T36.heap [] := K35.trans Kq36 all0
    have sf37 := (sf0 : ∀ x ∈ [], Safe Z EL T36.vm T36.heap x)
    obtain ⟨_, T37, L37, hQ37, X37, st37⟩ := own_virtual X36 hx hZ36 (W := 0) hown36 (hw _ m75) (hw _ m76) (notFace_of_selects (args := #[]) (mvT hZ36 (hw _ m78))) (hw _ m78) (hw _ m77) (hw _ m41) (hw _ m79) (by decide) (rm26 l Z a0 hw hj w0 w1 w2 w3 w4 w5 w6 w7 w8 w9 w10 w11 w12 w13 w14 w15 w16 w17 hS [] c36_0 T36.heap n0 O36 q36_1) (rfl : T36.heap = T36.heap) q36_0 (g := (mkF m 135 #[.val (.int i0), .val (.ref b1), .val (.ref w9), .val (.ref c36_0)] [(.ref c36_0)])) rfl (by rw [hml]; rfl) (argsL := []) (rest := []) (lenOf pd86 rfl) rfl rfl (by show 2 * 0 + _ ≤ _; exact Nat.le_of_eq rfl) (hb hby at_135) (by decide) (by decide) (by decide) (by decide)
    obtain ⟨rfl, N37q, e37⟩ := hQ37
    have N37 := Fr.app N36 N37q
    have e37' : T37.heap = T36.heap := e37
    have sf38 := (sf0 : ∀ x ∈ [], Safe Z EL T36.vm T36.heap x)
    obtain ⟨_, T38, L38, hQ38, X38, st38⟩ := own_virtual X37 hx hZ36 (W := 0) hown36 (hw _ m80) (hw _ m81) (notFace_of_selects (args := #[]) (mvT hZ36 (hw _ m83))) (hw _ m83) (hw _ m82) (hw _ m41) (hw _ m84) (by decide) (rm5 l Z a0 hw hj w0 w1 w2 w3 w4 w5 w6 w7 w8 w9 w10 w11 w12 w13 w14 w15 w16 w17 hS [] c36_0 c36_1 T36.heap n0 O36 q36_2) e37' q36_0 (g := (mkF m 143 #[.val (.int i0), .val (.ref b1), .val (.ref w9), .val (.ref c36_0)] [(.ref c36_0)])) rfl (by rw [hml]; rfl) (argsL := []) (rest := []) (lenOf pd95 rfl) rfl rfl (by show 2 * 0 + _ ≤ _; exact Nat.le_of_eq rfl) (hb hby at_143) (by decide) (by decide) (by decide) (by decide)
    obtain ⟨rfl, N38q, e38⟩ := hQ38
    have N38 := Fr.app N37 N38q
    have e38' : T38.heap = T36.heap := e38
    have sf39 := (sf0 : ∀ x ∈ [], Safe Z EL T36.vm T36.heap x)
    obtain ⟨_, T39, L39, hQ39, X39, st39⟩ := own_virtual X38 hx hZ36 (W := 0) hown36 (hw _ m85) (hw _ m86) (notFace_of_selects (args := #[]) (mvT hZ36 (hw _ m88))) (hw _ m88) (hw _ m87) (hw _ m46) (hw _ m89) (by decide) (rm6 l Z a0 hw hj w0 w1 w2 w3 w4 w5 w6 w7 w8 w9 w10 w11 w12 w13 w14 w15 w16 w17 hS [] c36_1 c36_3 k36_5 T36.heap n0 O36 q36_7 q36_11) e38' q36_5 (g := (mkF m 146 #[.val (.int i0), .val (.ref b1), .val (.ref w9), .val (.ref c36_0)] [(.ref c36_1)])) rfl (by rw [hml]; rfl) (argsL := []) (rest := []) (lenOf pd111 rfl) rfl rfl (by show 2 * 0 + _ ≤ _; exact Nat.le_of_eq rfl) (hb hby at_146) (by decide) (by decide) (by decide) (by decide)
    obtain ⟨rfl, N39q, e39⟩ := hQ39
    have N39 := Fr.app N38 N39q
    have e39' : T39.heap = T36.heap := e39
    have sf40 := (sf0 : ∀ x ∈ [], Safe Z EL T36.vm T36.heap x)
    obtain ⟨_, T40, L40, hQ40, X40, st40⟩ := own_virtual X39 hx hZ36 (W := 0) hown36 (hw _ m91) (hw _ m92) (notFace_of_selects (args := #[]) (mvT hZ36 (hw _ m94))) (hw _ m94) (hw _ m93) (hw _ m41) (hw _ m95) (by decide) (rm7 l Z a0 hw hj w0 w1 w2 w3 w4 w5 w6 w7 w8 w9 w10 w11 w12 w13 w14 w15 w16 w17 hS [] c36_0 T36.heap n0 O36 q36_3) e39' q36_0 (g := (mkF m 153 #[.val (.int i0), .val (.ref b1), .val (.ref w9), .val (.ref c36_0)] [(.ref c36_0)])) rfl (by rw [hml]; rfl) (argsL := []) (rest := []) (lenOf pd120 rfl) rfl rfl (by show 2 * 0 + _ ≤ _; exact Nat.le_of_eq rfl) (hb hby at_153) (by decide) (by decide) (by decide) (by decide)
    obtain ⟨rfl, N40q, e40⟩ := hQ40
    have N40 := Fr.app N39 N40q
    have e40' : T40.heap = T36.heap := e40
    obtain ⟨T41, X41, e41, st41⟩ := getS2 X40 hx hZ36 hown36 (host := "") (Or.inl (hw _ m96)) Via.refl e40' (hS.1.ext O36.2) (g := (mkF m 156 #[.val (.int i0), .val (.ref b1), .val (.ref w9), .val (.ref c36_0)] [(.ref w0)])) rfl (hb hby at_156)
    have sf42 := (sf0 : ∀ x ∈ [], Safe Z EL T36.vm T36.heap x)
    obtain ⟨_, T42, L42, hQ42, X42, st42⟩ := own_virtual X41 hx hZ36 (W := 0) hown36 (hw _ m97) (hw _ m98) (notFace_of_selects (args := #[]) (mvT hZ36 (hw _ m100))) (hw _ m100) (hw _ m99) (hw _ m41) (hw _ m101) (by decide) (rm8 l Z a0 hw hj w0 w1 w2 w3 w4 w5 w6 w7 w8 w9 w10 w11 w12 w13 w14 w15 w16 w17 hS [] c36_0 c36_2 T36.heap n0 O36 q36_4) e41 q36_0 (g := (mkF m 163 #[.val (.int i0), .val (.ref b1), .val (.ref w9), .val (.ref c36_0)] [(.ref c36_0)])) rfl (by rw [hml]; rfl) (argsL := []) (rest := []) (lenOf pd95 rfl) rfl rfl (by show 2 * 0 + _ ≤ _; exact Nat.le_of_eq rfl) (hb hby at_163) (by decide) (by decide) (by decide) (by decide)
    obtain ⟨rfl, N42q, e42⟩ := hQ42
    have N42 := Fr.app N40 N42q
    have e42' : T42.heap = T36.heap := e42
    have sf43 := (sf0 : ∀ x ∈ [], Safe Z EL T36.vm T36.heap x)
    obtain ⟨_, T43, L43, hQ43, X43, st43⟩ := own_virtual X42 hx hZ36 (W := 0) hown36 (hw _ m85) (hw _ m86) (notFace_of_selects (args := #[]) (mvT hZ36 (hw _ m88))) (hw _ m88) (hw _ m87) (hw _ m46) (hw _ m89) (by decide) (rm6 l Z a0 hw hj w0 w1 w2 w3 w4 w5 w6 w7 w8 w9 w10 w11 w12 w13 w14 w15 w16 w17 hS [] c36_2 c36_4 k36_6 T36.heap n0 O36 q36_10 q36_12) e42' q36_8 (g := (mkF m 166 #[.val (.int i0), .val (.ref b1), .val (.ref w9), .val (.ref c36_0)] [(.ref c36_2)])) rfl (by rw [hml]; rfl) (argsL := []) (rest := []) (lenOf pd111 rfl) rfl rfl (by show 2 * 0 + _ ≤ _; exact Nat.le_of_eq rfl) (hb hby at_166) (by decide) (by decide) (by decide) (by decide)
    obtain ⟨rfl, N43q, e43⟩ := hQ43
    have N43 := Fr.app N42 N43q
    have e43' : T43.heap = T36.heap := e43
    obtain ⟨fs, hr, hrun, hended, hRW⟩ := X43.leaveW hS36 (by rw [e43']; exact (Nat.le_refl _)) (v := some (.int (1 : Int32))) (fun h => by rw [Bd.returns] at h; cases h)
    refine ⟨_, _, pre1 _ ?_, hrun, hended, _, _, rfl, ?_, own_rwm hRW (by decide) (by decide)⟩
    · show Steps p.tables e below (T35.setTop (mkF m 126 #[.val (.int i0), .val (.ref b1), .unset, .unset] [(.int (17 : Int32)), (.int (i0 &&& (2147483647 : Int32))), (.ref b1)])) _
      refine own_irem X35 hx rfl (hb hby at_126) rfl (by decide : ¬ ((17 : Int32) = (0 : Int32))) hp0 ?_
      refine own_aaload X35 hx hZ e35 V35 (j := (6 : Int32)) (by decide) (v := (.ref w9)) rfl rfl (g := (mkF m 127 #[.val (.int i0), .val (.ref b1), .unset, .unset] [(.int (6 : Int32)), (.ref b1)])) rfl rfl (hb hby at_127) ?_
      refine XS.astoreN X35.here hx rfl (hb hby at_128) rfl rfl (l' := #[.val (.int i0), .val (.ref b1), .val (.ref w9), .unset]) rfl ?_
      refine XS.aloadN X35.here hx rfl (hb hby at_129) rfl rfl ?_
      show Steps p.tables e below (T35.setTop (mkF m 130 #[.val (.int i0), .val (.ref b1), .val (.ref w9), .unset] [(.ref w9)])) _
      refine st36 _ ?_
      refine XS.astoreN X36.here hx rfl (hb hby at_133) rfl rfl (l' := #[.val (.int i0), .val (.ref b1), .val (.ref w9), .val (.ref c36_0)]) rfl ?_
      refine XS.aloadN X36.here hx rfl (hb hby at_134) rfl rfl ?_
      refine st37 _ ?_
      show Steps p.tables e below (T37.setTop (mkF m 138 #[.val (.int i0), .val (.ref b1), .val (.ref w9), .val (.ref c36_0)] [(.ref w9)])) _
      refine XS.aloadN X37.here hx rfl (hb hby at_138) rfl rfl ?_
      refine Jvm.RoadKit.acmp (g := (mkF m 139 #[.val (.int i0), .val (.ref b1), .val (.ref w9), .val (.ref c36_0)] [(.ref w9), (.ref w9)])) X37 hx rfl rfl rfl (pc0 := 139) (pc' := 142) (same := true) rfl (hb hby at_139) rfl (decide_eq_true rfl) (by decide) (by decide) ?_
      refine XS.aloadN X37.here hx rfl (hb hby at_142) rfl rfl ?_
      refine st38 _ ?_
      show Steps p.tables e below (T38.setTop (mkF m 146 #[.val (.int i0), .val (.ref b1), .val (.ref w9), .val (.ref c36_0)] [(.ref c36_1)])) _
      refine st39 _ ?_
      refine XS.ifNo X39.here hx rfl (hb hby at_149) rfl ((if0 _ _).trans (feq (by decide : ¬ ((1 : Int32) = (0 : Int32)))).1) ?_
      refine XS.aloadN X39.here hx rfl (hb hby at_152) rfl rfl ?_
      refine st40 _ ?_
      show Steps p.tables e below (T40.setTop (mkF m 156 #[.val (.int i0), .val (.ref b1), .val (.ref w9), .val (.ref c36_0)] [(.ref w0)])) _
      refine st41 _ ?_
      refine Jvm.RoadKit.acmp (g := (mkF m 159 #[.val (.int i0), .val (.ref b1), .val (.ref w9), .val (.ref c36_0)] [(.ref w0), (.ref w0)])) X41 hx rfl rfl rfl (pc0 := 159) (pc' := 162) (same := true) rfl (hb hby at_159) rfl (decide_eq_true rfl) (by decide) (by decide) ?_
      refine XS.aloadN X41.here hx rfl (hb hby at_162) rfl rfl ?_
      refine st42 _ ?_
      show Steps p.tables e below (T42.setTop (mkF m 166 #[.val (.int i0), .val (.ref b1), .val (.ref w9), .val (.ref c36_0)] [(.ref c36_2)])) _
      refine st43 _ ?_
      refine XS.ifNo X43.here hx rfl (hb hby at_169) rfl ((if0 _ _).trans (feq (by decide : ¬ ((1 : Int32) = (0 : Int32)))).1) ?_
      refine XS.iconst X43.here hx rfl (hb hby at_172) ?_
      refine XS.goto X43.here hx rfl (pc0 := 173) (pc' := 177) rfl (hb hby at_173) (by decide) (by decide) ?_
      show Steps p.tables e below (T43.setTop (mkF m 177 #[.val (.int i0), .val (.ref b1), .val (.ref w9), .val (.ref c36_0)] [(.int (1 : Int32))])) _
      exact retN X43 hx (t := .boolean) Bd.returns (by simp) (hb hby at_177) hr
    · show QL n0 _ T43.heap _
      exact ⟨rfl, N43⟩
  · obtain ⟨_, T36, L36, hQ36, hS36, hZ36, hown36, Cq36, X36, st36⟩ := own_callSW X35 hx hZ (W := 0) hown (hw _ m39) (hw _ m40) (hw _ m41) (hw _ m42) (by decide) (rm28 l Z a0 hw hj w0 w1 w2 w3 w4 w5 w6 w7 w8 w9 w10 w11 w12 w13 w14 w15 w16 w17 hS [] h35 n0 O35) e35 hS0 (Nat.le_trans (Nat.le_refl _) (Nat.le_trans (Nat.le_trans (Nat.le_trans (Nat.le_trans (Nat.le_trans (Nat.le_trans (Nat.le_trans (Nat.le_trans (Nat.le_trans (Nat.le_trans (Nat.le_trans (Nat.le_trans (Nat.le_trans (Nat.le_trans (Nat.le_trans (Nat.le_trans (Nat.le_trans E1.1 (Nat.le_of_eq W3.size.symm)) (Nat.le_of_eq W5.size.symm)) (Nat.le_of_eq W7.size.symm)) (Nat.le_of_eq W9.size.symm)) (Nat.le_of_eq W11.size.symm)) (Nat.le_of_eq W13.size.symm)) (Nat.le_of_eq W15.size.symm)) (Nat.le_of_eq W17.size.symm)) (Nat.le_of_eq W19.size.symm)) (Nat.le_of_eq W21.size.symm)) (Nat.le_of_eq W23.size.symm)) (Nat.le_of_eq W25.size.symm)) (Nat.le_of_eq W27.size.symm)) (Nat.le_of_eq W29.size.symm)) (Nat.le_of_eq W31.size.symm)) (Nat.le_of_eq W33.size.symm)) (Nat.le_of_eq W35.size.symm))) (own_EW hw hj) C35.1 own_sx0 (g := (mkF m 130 #[.val (.int i0), .val (.ref b1), .val (.ref w7), .unset] [(.ref w7)])) rfl (by rw [hml]; rfl) (argsL := [(.ref w7)]) (rest := []) (lenOf pd78 rfl) rfl rfl (by show 2 * 0 + _ ≤ _; exact Nat.le_of_eq rfl) (hb hby at_130) (by decide) (by decide) (by decide) (by decide)
    obtain ⟨c36_0, c36_1, c36_2, c36_3, c36_4, k36_5, k36_6, rfl, N36q, Kq36, lo36_0, q36_0, q36_1, q36_2, q36_3, q36_4, q36_5, q36_6, q36_7, q36_8, q36_9, q36_10, q36_11, q36_12⟩ := hQ36
    have N36 := Fr.app N35 N36q
    have C36 := C35.trans Cq36
    have O36 : Old Z n0 T36.heap := O35.keep Kq36 all0
    have K36 : Keep h0 T36.heap [] := K35.trans Kq36 all0
    have sf37 := (sf0 : ∀ x ∈ [], Safe Z EL T36.vm T36.heap x)
    obtain ⟨_, T37, L37, hQ37, X37, st37⟩ := own_virtual X36 hx hZ36 (W := 0) hown36 (hw _ m75) (hw _ m76) (notFace_of_selects (args := #[]) (mvT hZ36 (hw _ m78))) (hw _ m78) (hw _ m77) (hw _ m41) (hw _ m79) (by decide) (rm29 l Z a0 hw hj w0 w1 w2 w3 w4 w5 w6 w7 w8 w9 w10 w11 w12 w13 w14 w15 w16 w17 hS [] c36_0 T36.heap n0 O36 q36_1) (rfl : T36.heap = T36.heap) q36_0 (g := (mkF m 135 #[.val (.int i0), .val (.ref b1), .val (.ref w7), .val (.ref c36_0)] [(.ref c36_0)])) rfl (by rw [hml]; rfl) (argsL := []) (rest := []) (lenOf pd86 rfl) rfl rfl (by show 2 * 0 + _ ≤ _; exact Nat.le_of_eq rfl) (hb hby at_135) (by decide) (by decide) (by decide) (by decide)
    obtain ⟨rfl, N37q, e37⟩ := hQ37
    have N37 := Fr.app N36 N37q
    have e37' : T37.heap = T36.heap := e37
    have sf38 := (sf0 : ∀ x ∈ [], Safe Z EL T36.vm T36.heap x)
    obtain ⟨_, T38, L38, hQ38, X38, st38⟩ := own_virtual X37 hx hZ36 (W := 0) hown36 (hw _ m80) (hw _ m81) (notFace_of_selects (args := #[]) (mvT hZ36 (hw _ m83))) (hw _ m83) (hw _ m82) (hw _ m41) (hw _ m84) (by decide) (rm5 l Z a0 hw hj w0 w1 w2 w3 w4 w5 w6 w7 w8 w9 w10 w11 w12 w13 w14 w15 w16 w17 hS [] c36_0 c36_1 T36.heap n0 O36 q36_2) e37' q36_0 (g := (mkF m 143 #[.val (.int i0), .val (.ref b1), .val (.ref w7), .val (.ref c36_0)] [(.ref c36_0)])) rfl (by rw [hml]; rfl) (argsL := []) (rest := []) (lenOf pd95 rfl) rfl rfl (by show 2 * 0 + _ ≤ _; exact Nat.le_of_eq rfl) (hb hby at_143) (by decide) (by decide) (by decide) (by decide)
    obtain ⟨rfl, N38q, e38⟩ := hQ38
    have N38 := Fr.app N37 N38q
    have e38' : T38.heap = T36.heap := e38
    have sf39 := (sf0 : ∀ x ∈ [], Safe Z EL T36.vm T36.heap x)
    obtain ⟨_, T39, L39, hQ39, X39, st39⟩ := own_virtual X38 hx hZ36 (W := 0) hown36 (hw _ m85) (hw _ m86) (notFace_of_selects (args := #[]) (mvT hZ36 (hw _ m88))) (hw _ m88) (hw _ m87) (hw _ m46) (hw _ m89) (by decide) (rm6 l Z a0 hw hj w0 w1 w2 w3 w4 w5 w6 w7 w8 w9 w10 w11 w12 w13 w14 w15 w16 w17 hS [] c36_1 c36_3 k36_5 T36.heap n0 O36 q36_7 q36_11) e38' q36_5 (g := (mkF m 146 #[.val (.int i0), .val (.ref b1), .val (.ref w7), .val (.ref c36_0)] [(.ref c36_1)])) rfl (by rw [hml]; rfl) (argsL := []) (rest := []) (lenOf pd111 rfl) rfl rfl (by show 2 * 0 + _ ≤ _; exact Nat.le_of_eq rfl) (hb hby at_146) (by decide) (by decide) (by decide) (by decide)
    obtain ⟨rfl, N39q, e39⟩ := hQ39
    have N39 := Fr.app N38 N39q
    have e39' : T39.heap = T36.heap := e39
    have sf40 := (sf0 : ∀ x ∈ [], Safe Z EL T36.vm T36.heap x)
    obtain ⟨_, T40, L40, hQ40, X40, st40⟩ := own_virtual X39 hx hZ36 (W := 0) hown36 (hw _ m91) (hw _ m92) (notFace_of_selects (args := #[]) (mvT hZ36 (hw _ m94))) (hw _ m94) (hw _ m93) (hw _ m41) (hw _ m95) (by decide) (rm7 l Z a0 hw hj w0 w1 w2 w3 w4 w5 w6 w7 w8 w9 w10 w11 w12 w13 w14 w15 w16 w17 hS [] c36_0 T36.heap n0 O36 q36_3) e39' q36_0 (g := (mkF m 153 #[.val (.int i0), .val (.ref b1), .val (.ref w7), .val (.ref c36_0)] [(.ref c36_0)])) rfl (by rw [hml]; rfl) (argsL := []) (rest := []) (lenOf pd120 rfl) rfl rfl (by show 2 * 0 + _ ≤ _; exact Nat.le_of_eq rfl) (hb hby at_153) (by decide) (by decide) (by decide) (by decide)
    obtain ⟨rfl, N40q, e40⟩ := hQ40
    have N40 := Fr.app N39 N40q
    have e40' : T40.heap = T36.heap := e40
    obtain ⟨T41, X41, e41, st41⟩ := getS2 X40 hx hZ36 hown36 (host := "") (Or.inl (hw _ m96)) Via.refl e40' (hS.1.ext O36.2) (g := (mkF m 156 #[.val (.int i0), .val (.ref b1), .val (.ref w7), .val (.ref c36_0)] [(.ref w0)])) rfl (hb hby at_156)
    have sf42 := (sf0 : ∀ x ∈ [], Safe Z EL T36.vm T36.heap x)
    obtain ⟨_, T42, L42, hQ42, X42, st42⟩ := own_virtual X41 hx hZ36 (W := 0) hown36 (hw _ m97) (hw _ m98) (notFace_of_selects (args := #[]) (mvT hZ36 (hw _ m100))) (hw _ m100) (hw _ m99) (hw _ m41) (hw _ m101) (by decide) (rm8 l Z a0 hw hj w0 w1 w2 w3 w4 w5 w6 w7 w8 w9 w10 w11 w12 w13 w14 w15 w16 w17 hS [] c36_0 c36_2 T36.heap n0 O36 q36_4) e41 q36_0 (g := (mkF m 163 #[.val (.int i0), .val (.ref b1), .val (.ref w7), .val (.ref c36_0)] [(.ref c36_0)])) rfl (by rw [hml]; rfl) (argsL := []) (rest := []) (lenOf pd95 rfl) rfl rfl (by show 2 * 0 + _ ≤ _; exact Nat.le_of_eq rfl) (hb hby at_163) (by decide) (by decide) (by decide) (by decide)
    obtain ⟨rfl, N42q, e42⟩ := hQ42
    have N42 := Fr.app N40 N42q
    have e42' : T42.heap = T36.heap := e42
    have sf43 := (sf0 : ∀ x ∈ [], Safe Z EL T36.vm T36.heap x)
    obtain ⟨_, T43, L43, hQ43, X43, st43⟩ := own_virtual X42 hx hZ36 (W := 0) hown36 (hw _ m85) (hw _ m86) (notFace_of_selects (args := #[]) (mvT hZ36 (hw _ m88))) (hw _ m88) (hw _ m87) (hw _ m46) (hw _ m89) (by decide) (rm6 l Z a0 hw hj w0 w1 w2 w3 w4 w5 w6 w7 w8 w9 w10 w11 w12 w13 w14 w15 w16 w17 hS [] c36_2 c36_4 k36_6 T36.heap n0 O36 q36_10 q36_12) e42' q36_8 (g := (mkF m 166 #[.val (.int i0), .val (.ref b1), .val (.ref w7), .val (.ref c36_0)] [(.ref c36_2)])) rfl (by rw [hml]; rfl) (argsL := []) (rest := []) (lenOf pd111 rfl) rfl rfl (by show 2 * 0 + _ ≤ _; exact Nat.le_of_eq rfl) (hb hby at_166) (by decide) (by decide) (by decide) (by decide)
    obtain ⟨rfl, N43q, e43⟩ := hQ43
    have N43 := Fr.app N42 N43q
    have e43' : T43.heap = T36.heap := e43
    obtain ⟨fs, hr, hrun, hended, hRW⟩ := X43.leaveW hS36 (by rw [e43']; exact (Nat.le_refl _)) (v := some (.int (1 : Int32))) (fun h => by rw [Bd.returns] at h; cases h)
    refine ⟨_, _, pre1 _ ?_, hrun, hended, _, _, rfl, ?_, own_rwm hRW (by decide) (by decide)⟩
    · show Steps p.tables e below (T35.setTop (mkF m 126 #[.val (.int i0), .val (.ref b1), .unset, .unset] [(.int (17 : Int32)), (.int (i0 &&& (2147483647 : Int32))), (.ref b1)])) _
      refine own_irem X35 hx rfl (hb hby at_126) rfl (by decide : ¬ ((17 : Int32) = (0 : Int32))) hp0 ?_
      refine own_aaload X35 hx hZ e35 V35 (j := (7 : Int32)) (by decide) (v := (.ref w7)) rfl rfl (g := (mkF m 127 #[.val (.int i0), .val (.ref b1), .unset, .unset] [(.int (7 : Int32)), (.ref b1)])) rfl rfl (hb hby at_127) ?_
      refine XS.astoreN X35.here hx rfl (hb hby at_128) rfl rfl (l' := #[.val (.int i0), .val (.ref b1), .val (.ref w7), .unset]) rfl ?_
      refine XS.aloadN X35.here hx rfl (hb hby at_129) rfl rfl ?_
      show Steps p.tables e below (T35.setTop (mkF m 130 #[.val (.int i0), .val (.ref b1), .val (.ref w7), .unset] [(.ref w7)])) _
      refine st36 _ ?_
      refine XS.astoreN X36.here hx rfl (hb hby at_133) rfl rfl (l' := #[.val (.int i0), .val (.ref b1), .val (.ref w7), .val (.ref c36_0)]) rfl ?_
      refine XS.aloadN X36.here hx rfl (hb hby at_134) rfl rfl ?_
      refine st37 _ ?_
      show Steps p.tables e below (T37.setTop (mkF m 138 #[.val (.int i0), .val (.ref b1), .val (.ref w7), .val (.ref c36_0)] [(.ref w7)])) _
      refine XS.aloadN X37.here hx rfl (hb hby at_138) rfl rfl ?_
      refine Jvm.RoadKit.acmp (g := (mkF m 139 #[.val (.int i0), .val (.ref b1), .val (.ref w7), .val (.ref c36_0)] [(.ref w7), (.ref w7)])) X37 hx rfl rfl rfl (pc0 := 139) (pc' := 142) (same := true) rfl (hb hby at_139) rfl (decide_eq_true rfl) (by decide) (by decide) ?_
      refine XS.aloadN X37.here hx rfl (hb hby at_142) rfl rfl ?_
      refine st38 _ ?_
      show Steps p.tables e below (T38.setTop (mkF m 146 #[.val (.int i0), .val (.ref b1), .val (.ref w7), .val (.ref c36_0)] [(.ref c36_1)])) _
      refine st39 _ ?_
      refine XS.ifNo X39.here hx rfl (hb hby at_149) rfl ((if0 _ _).trans (feq (by decide : ¬ ((1 : Int32) = (0 : Int32)))).1) ?_
      refine XS.aloadN X39.here hx rfl (hb hby at_152) rfl rfl ?_
      refine st40 _ ?_
      show Steps p.tables e below (T40.setTop (mkF m 156 #[.val (.int i0), .val (.ref b1), .val (.ref w7), .val (.ref c36_0)] [(.ref w0)])) _
      refine st41 _ ?_
      refine Jvm.RoadKit.acmp (g := (mkF m 159 #[.val (.int i0), .val (.ref b1), .val (.ref w7), .val (.ref c36_0)] [(.ref w0), (.ref w0)])) X41 hx rfl rfl rfl (pc0 := 159) (pc' := 162) (same := true) rfl (hb hby at_159) rfl (decide_eq_true rfl) (by decide) (by decide) ?_
      refine XS.aloadN X41.here hx rfl (hb hby at_162) rfl rfl ?_
      refine st42 _ ?_
      show Steps p.tables e below (T42.setTop (mkF m 166 #[.val (.int i0), .val (.ref b1), .val (.ref w7), .val (.ref c36_0)] [(.ref c36_2)])) _
      refine st43 _ ?_
      refine XS.ifNo X43.here hx rfl (hb hby at_169) rfl ((if0 _ _).trans (feq (by decide : ¬ ((1 : Int32) = (0 : Int32)))).1) ?_
      refine XS.iconst X43.here hx rfl (hb hby at_172) ?_
      refine XS.goto X43.here hx rfl (pc0 := 173) (pc' := 177) rfl (hb hby at_173) (by decide) (by decide) ?_
      show Steps p.tables e below (T43.setTop (mkF m 177 #[.val (.int i0), .val (.ref b1), .val (.ref w7), .val (.ref c36_0)] [(.int (1 : Int32))])) _
      exact retN X43 hx (t := .boolean) Bd.returns (by simp) (hb hby at_177) hr
    · show QL n0 _ T43.heap _
      exact ⟨rfl, N43⟩
  · obtain ⟨_, T36, L36, hQ36, hS36, hZ36, hown36, Cq36, X36, st36⟩ := own_callSW X35 hx hZ (W := 0) hown (hw _ m39) (hw _ m40) (hw _ m41) (hw _ m42) (by decide) (rm31 l Z a0 hw hj w0 w1 w2 w3 w4 w5 w6 w7 w8 w9 w10 w11 w12 w13 w14 w15 w16 w17 hS [] h35 n0 O35) e35 hS0 (Nat.le_trans (Nat.le_refl _) (Nat.le_trans (Nat.le_trans (Nat.le_trans (Nat.le_trans (Nat.le_trans (Nat.le_trans (Nat.le_trans (Nat.le_trans (Nat.le_trans (Nat.le_trans (Nat.le_trans (Nat.le_trans (Nat.le_trans (Nat.le_trans (Nat.le_trans (Nat.le_trans (Nat.le_trans E1.1 (Nat.le_of_eq W3.size.symm)) (Nat.le_of_eq W5.size.symm)) (Nat.le_of_eq W7.size.symm)) (Nat.le_of_eq W9.size.symm)) (Nat.le_of_eq W11.size.symm)) (Nat.le_of_eq W13.size.symm)) (Nat.le_of_eq W15.size.symm)) (Nat.le_of_eq W17.size.symm)) (Nat.le_of_eq W19.size.symm)) (Nat.le_of_eq W21.size.symm)) (Nat.le_of_eq W23.size.symm)) (Nat.le_of_eq W25.size.symm)) (Nat.le_of_eq W27.size.symm)) (Nat.le_of_eq W29.size.symm)) (Nat.le_of_eq W31.size.symm)) (Nat.le_of_eq W33.size.symm)) (Nat.le_of_eq W35.size.symm))) (own_EW hw hj) C35.1 own_sx0 (g := (mkF m 130 #[.val (.int i0), .val (.ref b1), .val (.ref w12), .unset] [(.ref w12)])) rfl (by rw [hml]; rfl) (argsL := [(.ref w12)]) (rest := []) (lenOf pd78 rfl) rfl rfl (by show 2 * 0 + _ ≤ _; exact Nat.le_of_eq rfl) (hb hby at_130) (by decide) (by decide) (by decide) (by decide)
    obtain ⟨c36_0, c36_1, c36_2, c36_3, c36_4, k36_5, k36_6, rfl, N36q, Kq36, lo36_0, q36_0, q36_1, q36_2, q36_3, q36_4, q36_5, q36_6, q36_7, q36_8, q36_9, q36_10, q36_11, q36_12⟩ := hQ36
    have N36 := Fr.app N35 N36q
    have C36 := C35.trans Cq36
    have O36 : Old Z n0 T36.heap := O35.keep Kq36 all0
    have K36 : Keep h0 T36.heap [] := K35.trans Kq36 all0
    have sf37 := (sf0 : ∀ x ∈ [], Safe Z EL T36.vm T36.heap x)
    obtain ⟨_, T37, L37, hQ37, X37, st37⟩ := own_virtual X36 hx hZ36 (W := 0) hown36 (hw _ m75) (hw _ m76) (notFace_of_selects (args := #[]) (mvT hZ36 (hw _ m78))) (hw _ m78) (hw _ m77) (hw _ m41) (hw _ m79) (by decide) (rm32 l Z a0 hw hj w0 w1 w2 w3 w4 w5 w6 w7 w8 w9 w10 w11 w12 w13 w14 w15 w16 w17 hS [] c36_0 T36.heap n0 O36 q36_1) (rfl : T36.heap = T36.heap) q36_0 (g := (mkF m 135 #[.val (.int i0), .val (.ref b1), .val (.ref w12), .val (.ref c36_0)] [(.ref c36_0)])) rfl (by rw [hml]; rfl) (argsL := []) (rest := []) (lenOf pd86 rfl) rfl rfl (by show 2 * 0 + _ ≤ _; exact Nat.le_of_eq rfl) (hb hby at_135) (by decide) (by decide) (by decide) (by decide)
    obtain ⟨rfl, N37q, e37⟩ := hQ37
    have N37 := Fr.app N36 N37q
    have e37' : T37.heap = T36.heap := e37
    have sf38 := (sf0 : ∀ x ∈ [], Safe Z EL T36.vm T36.heap x)
    obtain ⟨_, T38, L38, hQ38, X38, st38⟩ := own_virtual X37 hx hZ36 (W := 0) hown36 (hw _ m80) (hw _ m81) (notFace_of_selects (args := #[]) (mvT hZ36 (hw _ m83))) (hw _ m83) (hw _ m82) (hw _ m41) (hw _ m84) (by decide) (rm5 l Z a0 hw hj w0 w1 w2 w3 w4 w5 w6 w7 w8 w9 w10 w11 w12 w13 w14 w15 w16 w17 hS [] c36_0 c36_1 T36.heap n0 O36 q36_2) e37' q36_0 (g := (mkF m 143 #[.val (.int i0), .val (.ref b1), .val (.ref w12), .val (.ref c36_0)] [(.ref c36_0)])) rfl (by rw [hml]; rfl) (argsL := []) (rest := []) (lenOf pd95 rfl) rfl rfl (by show 2 * 0 + _ ≤ _; exact Nat.le_of_eq rfl) (hb hby at_143) (by decide) (by decide) (by decide) (by decide)
    obtain ⟨rfl, N38q, e38⟩ := hQ38
    have N38 := Fr.app N37 N38q
    have e38' : T38.heap = T36.heap := e38
    have sf39 := (sf0 : ∀ x ∈ [], Safe Z EL T36.vm T36.heap x)
    obtain ⟨_, T39, L39, hQ39, X39, st39⟩ := own_virtual X38 hx hZ36 (W := 0) hown36 (hw _ m85) (hw _ m86) (notFace_of_selects (args := #[]) (mvT hZ36 (hw _ m88))) (hw _ m88) (hw _ m87) (hw _ m46) (hw _ m89) (by decide) (rm6 l Z a0 hw hj w0 w1 w2 w3 w4 w5 w6 w7 w8 w9 w10 w11 w12 w13 w14 w15 w16 w17 hS [] c36_1 c36_3 k36_5 T36.heap n0 O36 q36_7 q36_11) e38' q36_5 (g := (mkF m 146 #[.val (.int i0), .val (.ref b1), .val (.ref w12), .val (.ref c36_0)] [(.ref c36_1)])) rfl (by rw [hml]; rfl) (argsL := []) (rest := []) (lenOf pd111 rfl) rfl rfl (by show 2 * 0 + _ ≤ _; exact Nat.le_of_eq rfl) (hb hby at_146) (by decide) (by decide) (by decide) (by decide)
    obtain ⟨rfl, N39q, e39⟩ := hQ39
    have N39 := Fr.app N38 N39q
    have e39' : T39.heap = T36.heap := e39
    have sf40 := (sf0 : ∀ x ∈ [], Safe Z EL T36.vm T36.heap x)
    obtain ⟨_, T40, L40, hQ40, X40, st40⟩ := own_virtual X39 hx hZ36 (W := 0) hown36 (hw _ m91) (hw _ m92) (notFace_of_selects (args := #[]) (mvT hZ36 (hw _ m94))) (hw _ m94) (hw _ m93) (hw _ m41) (hw _ m95) (by decide) (rm7 l Z a0 hw hj w0 w1 w2 w3 w4 w5 w6 w7 w8 w9 w10 w11 w12 w13 w14 w15 w16 w17 hS [] c36_0 T36.heap n0 O36 q36_3) e39' q36_0 (g := (mkF m 153 #[.val (.int i0), .val (.ref b1), .val (.ref w12), .val (.ref c36_0)] [(.ref c36_0)])) rfl (by rw [hml]; rfl) (argsL := []) (rest := []) (lenOf pd120 rfl) rfl rfl (by show 2 * 0 + _ ≤ _; exact Nat.le_of_eq rfl) (hb hby at_153) (by decide) (by decide) (by decide) (by decide)
    obtain ⟨rfl, N40q, e40⟩ := hQ40
    have N40 := Fr.app N39 N40q
    have e40' : T40.heap = T36.heap := e40
    obtain ⟨T41, X41, e41, st41⟩ := getS2 X40 hx hZ36 hown36 (host := "") (Or.inl (hw _ m96)) Via.refl e40' (hS.1.ext O36.2) (g := (mkF m 156 #[.val (.int i0), .val (.ref b1), .val (.ref w12), .val (.ref c36_0)] [(.ref w0)])) rfl (hb hby at_156)
    have sf42 := (sf0 : ∀ x ∈ [], Safe Z EL T36.vm T36.heap x)
    obtain ⟨_, T42, L42, hQ42, X42, st42⟩ := own_virtual X41 hx hZ36 (W := 0) hown36 (hw _ m97) (hw _ m98) (notFace_of_selects (args := #[]) (mvT hZ36 (hw _ m100))) (hw _ m100) (hw _ m99) (hw _ m41) (hw _ m101) (by decide) (rm8 l Z a0 hw hj w0 w1 w2 w3 w4 w5 w6 w7 w8 w9 w10 w11 w12 w13 w14 w15 w16 w17 hS [] c36_0 c36_2 T36.heap n0 O36 q36_4) e41 q36_0 (g := (mkF m 163 #[.val (.int i0), .val (.ref b1), .val (.ref w12), .val (.ref c36_0)] [(.ref c36_0)])) rfl (by rw [hml]; rfl) (argsL := []) (rest := []) (lenOf pd95 rfl) rfl rfl (by show 2 * 0 + _ ≤ _; exact Nat.le_of_eq rfl) (hb hby at_163) (by decide) (by decide) (by decide) (by decide)
    obtain ⟨rfl, N42q, e42⟩ := hQ42
    have N42 := Fr.app N40 N42q
    have e42' : T42.heap = T36.heap := e42
    have sf43 := (sf0 : ∀ x ∈ [], Safe Z EL T36.vm T36.heap x)
    obtain ⟨_, T43, L43, hQ43, X43, st43⟩ := own_virtual X42 hx hZ36 (W := 0) hown36 (hw _ m85) (hw _ m86) (notFace_of_selects (args := #[]) (mvT hZ36 (hw _ m88))) (hw _ m88) (hw _ m87) (hw _ m46) (hw _ m89) (by decide) (rm6 l Z a0 hw hj w0 w1 w2 w3 w4 w5 w6 w7 w8 w9 w10 w11 w12 w13 w14 w15 w16 w17 hS [] c36_2 c36_4 k36_6 T36.heap n0 O36 q36_10 q36_12) e42' q36_8 (g := (mkF m 166 #[.val (.int i0), .val (.ref b1), .val (.ref w12), .val (.ref c36_0)] [(.ref c36_2)])) rfl (by rw [hml]; rfl) (argsL := []) (rest := []) (lenOf pd111 rfl) rfl rfl (by show 2 * 0 + _ ≤ _; exact Nat.le_of_eq rfl) (hb hby at_166) (by decide) (by decide) (by decide) (by decide)
    obtain ⟨rfl, N43q, e43⟩ := hQ43
    have N43 := Fr.app N42 N43q
    have e43' : T43.heap = T36.heap := e43
    obtain ⟨fs, hr, hrun, hended, hRW⟩ := X43.leaveW hS36 (by rw [e43']; exact (Nat.le_refl _)) (v := some (.int (1 : Int32))) (fun h => by rw [Bd.returns] at h; cases h)
    refine ⟨_, _, pre1 _ ?_, hrun, hended, _, _, rfl, ?_, own_rwm hRW (by decide) (by decide)⟩
    · show Steps p.tables e below (T35.setTop (mkF m 126 #[.val (.int i0), .val (.ref b1), .unset, .unset] [(.int (17 : Int32)), (.int (i0 &&& (2147483647 : Int32))), (.ref b1)])) _
      refine own_irem X35 hx rfl (hb hby at_126) rfl (by decide : ¬ ((17 : Int32) = (0 : Int32))) hp0 ?_
      refine own_aaload X35 hx hZ e35 V35 (j := (8 : Int32)) (by decide) (v := (.ref w12)) rfl rfl (g := (mkF m 127 #[.val (.int i0), .val (.ref b1), .unset, .unset] [(.int (8 : Int32)), (.ref b1)])) rfl rfl (hb hby at_127) ?_
      refine XS.astoreN X35.here hx rfl (hb hby at_128) rfl rfl (l' := #[.val (.int i0), .val (.ref b1), .val (.ref w12), .unset]) rfl ?_
      refine XS.aloadN X35.here hx rfl (hb hby at_129) rfl rfl ?_
      show Steps p.tables e below (T35.setTop (mkF m 130 #[.val (.int i0), .val (.ref b1), .val (.ref w12), .unset] [(.ref w12)])) _
      refine st36 _ ?_
      refine XS.astoreN X36.here hx rfl (hb hby at_133) rfl rfl (l' := #[.val (.int i0), .val (.ref b1), .val (.ref w12), .val (.ref c36_0)]) rfl ?_
      refine XS.aloadN X36.here hx rfl (hb hby at_134) rfl rfl ?_
      refine st37 _ ?_
      show Steps p.tables e below (T37.setTop (mkF m 138 #[.val (.int i0), .val (.ref b1), .val (.ref w12), .val (.ref c36_0)] [(.ref w12)])) _
      refine XS.aloadN X37.here hx rfl (hb hby at_138) rfl rfl ?_
      refine Jvm.RoadKit.acmp (g := (mkF m 139 #[.val (.int i0), .val (.ref b1), .val (.ref w12), .val (.ref c36_0)] [(.ref w12), (.ref w12)])) X37 hx rfl rfl rfl (pc0 := 139) (pc' := 142) (same := true) rfl (hb hby at_139) rfl (decide_eq_true rfl) (by decide) (by decide) ?_
      refine XS.aloadN X37.here hx rfl (hb hby at_142) rfl rfl ?_
      refine st38 _ ?_
      show Steps p.tables e below (T38.setTop (mkF m 146 #[.val (.int i0), .val (.ref b1), .val (.ref w12), .val (.ref c36_0)] [(.ref c36_1)])) _
      refine st39 _ ?_
      refine XS.ifNo X39.here hx rfl (hb hby at_149) rfl ((if0 _ _).trans (feq (by decide : ¬ ((1 : Int32) = (0 : Int32)))).1) ?_
      refine XS.aloadN X39.here hx rfl (hb hby at_152) rfl rfl ?_
      refine st40 _ ?_
      show Steps p.tables e below (T40.setTop (mkF m 156 #[.val (.int i0), .val (.ref b1), .val (.ref w12), .val (.ref c36_0)] [(.ref w0)])) _
      refine st41 _ ?_
      refine Jvm.RoadKit.acmp (g := (mkF m 159 #[.val (.int i0), .val (.ref b1), .val (.ref w12), .val (.ref c36_0)] [(.ref w0), (.ref w0)])) X41 hx rfl rfl rfl (pc0 := 159) (pc' := 162) (same := true) rfl (hb hby at_159) rfl (decide_eq_true rfl) (by decide) (by decide) ?_
      refine XS.aloadN X41.here hx rfl (hb hby at_162) rfl rfl ?_
      refine st42 _ ?_
      show Steps p.tables e below (T42.setTop (mkF m 166 #[.val (.int i0), .val (.ref b1), .val (.ref w12), .val (.ref c36_0)] [(.ref c36_2)])) _
      refine st43 _ ?_
      refine XS.ifNo X43.here hx rfl (hb hby at_169) rfl ((if0 _ _).trans (feq (by decide : ¬ ((1 : Int32) = (0 : Int32)))).1) ?_
      refine XS.iconst X43.here hx rfl (hb hby at_172) ?_
      refine XS.goto X43.here hx rfl (pc0 := 173) (pc' := 177) rfl (hb hby at_173) (by decide) (by decide) ?_
      show Steps p.tables e below (T43.setTop (mkF m 177 #[.val (.int i0), .val (.ref b1), .val (.ref w12), .val (.ref c36_0)] [(.int (1 : Int32))])) _
      exact retN X43 hx (t := .boolean) Bd.returns (by simp) (hb hby at_177) hr
    · show QL n0 _ T43.heap _
      exact ⟨rfl, N43⟩
  · obtain ⟨_, T36, L36, hQ36, hS36, hZ36, hown36, Cq36, X36, st36⟩ := own_callSW X35 hx hZ (W := 0) hown (hw _ m39) (hw _ m40) (hw _ m41) (hw _ m42) (by decide) (rm34 l Z a0 hw hj w0 w1 w2 w3 w4 w5 w6 w7 w8 w9 w10 w11 w12 w13 w14 w15 w16 w17 hS [] h35 n0 O35) e35 hS0 (Nat.le_trans (Nat.le_refl _) (Nat.le_trans (Nat.le_trans (Nat.le_trans (Nat.le_trans (Nat.le_trans (Nat.le_trans (Nat.le_trans (Nat.le_trans (Nat.le_trans (Nat.le_trans (Nat.le_trans (Nat.le_trans (Nat.le_trans (Nat.le_trans (Nat.le_trans (Nat.le_trans (Nat.le_trans E1.1 (Nat.le_of_eq W3.size.symm)) (Nat.le_of_eq W5.size.symm)) (Nat.le_of_eq W7.size.symm)) (Nat.le_of_eq W9.size.symm)) (Nat.le_of_eq W11.size.symm)) (Nat.le_of_eq W13.size.symm)) (Nat.le_of_eq W15.size.symm)) (Nat.le_of_eq W17.size.symm)) (Nat.le_of_eq W19.size.symm)) (Nat.le_of_eq W21.size.symm)) (Nat.le_of_eq W23.size.symm)) (Nat.le_of_eq W25.size.symm)) (Nat.le_of_eq W27.size.symm)) (Nat.le_of_eq W29.size.symm)) (Nat.le_of_eq W31.size.symm)) (Nat.le_of_eq W33.size.symm)) (Nat.le_of_eq W35.size.symm))) (own_EW hw hj) C35.1 own_sx0 (g := (mkF m 130 #[.val (.int i0), .val (.ref b1), .val (.ref w6), .unset] [(.ref w6)])) rfl (by rw [hml]; rfl) (argsL := [(.ref w6)]) (rest := []) (lenOf pd78 rfl) rfl rfl (by show 2 * 0 + _ ≤ _; exact Nat.le_of_eq rfl) (hb hby at_130) (by decide) (by decide) (by decide) (by decide)
    obtain ⟨c36_0, c36_1, c36_2, c36_3, c36_4, k36_5, k36_6, rfl, N36q, Kq36, lo36_0, q36_0, q36_1, q36_2, q36_3, q36_4, q36_5, q36_6, q36_7, q36_8, q36_9, q36_10, q36_11, q36_12⟩ := hQ36
    have N36 := Fr.app N35 N36q
    have C36 := C35.trans Cq36
    have O36 : Old Z n0 T36.heap := O35.keep Kq36 all0
    have K36 : Keep h0 T36.heap [] := K35.trans Kq36 all0
    have sf37 := (sf0 : ∀ x ∈ [], Safe Z EL T36.vm T36.heap x)
    obtain ⟨_, T37, L37, hQ37, X37, st37⟩ := own_virtual X36 hx hZ36 (W := 0) hown36 (hw _ m75) (hw _ m76) (notFace_of_selects (args := #[]) (mvT hZ36 (hw _ m78))) (hw _ m78) (hw _ m77) (hw _ m41) (hw _ m79) (by decide) (rm35 l Z a0 hw hj w0 w1 w2 w3 w4 w5 w6 w7 w8 w9 w10 w11 w12 w13 w14 w15 w16 w17 hS [] c36_0 T36.heap n0 O36 q36_1) (rfl : T36.heap = T36.heap) q36_0 (g := (mkF m 135 #[.val (.int i0), .val (.ref b1), .val (.ref w6), .val (.ref c36_0)] [(.ref c36_0)])) rfl (by rw [hml]; rfl) (argsL := []) (rest := []) (lenOf pd86 rfl) rfl rfl (by show 2 * 0 + _ ≤ _; exact Nat.le_of_eq rfl) (hb hby at_135) (by decide) (by decide) (by decide) (by decide)
    obtain ⟨rfl, N37q, e37⟩ := hQ37
    have N37 := Fr.app N36 N37q
    have e37' : T37.heap = T36.heap := e37
    have sf38 := (sf0 : ∀ x ∈ [], Safe Z EL T36.vm T36.heap x)
    obtain ⟨_, T38, L38, hQ38, X38, st38⟩ := own_virtual X37 hx hZ36 (W := 0) hown36 (hw _ m80) (hw _ m81) (notFace_of_selects (args := #[]) (mvT hZ36 (hw _ m83))) (hw _ m83) (hw _ m82) (hw _ m41) (hw _ m84) (by decide) (rm5 l Z a0 hw hj w0 w1 w2 w3 w4 w5 w6 w7 w8 w9 w10 w11 w12 w13 w14 w15 w16 w17 hS [] c36_0 c36_1 T36.heap n0 O36 q36_2) e37' q36_0 (g := (mkF m 143 #[.val (.int i0), .val (.ref b1), .val (.ref w6), .val (.ref c36_0)] [(.ref c36_0)])) rfl (by rw [hml]; rfl) (argsL := []) (rest := []) (lenOf pd95 rfl) rfl rfl (by show 2 * 0 + _ ≤ _; exact Nat.le_of_eq rfl) (hb hby at_143) (by decide) (by decide) (by decide) (by decide)
    obtain ⟨rfl, N38q, e38⟩ := hQ38
    have N38 := Fr.app N37 N38q
    have e38' : T38.heap = T36.heap := e38
    have sf39 := (sf0 : ∀ x ∈ [], Safe Z EL T36.vm T36.heap x)
    obtain ⟨_, T39, L39, hQ39, X39, st39⟩ := own_virtual X38 hx hZ36 (W := 0) hown36 (hw _ m85) (hw _ m86) (notFace_of_selects (args := #[]) (mvT hZ36 (hw _ m88))) (hw _ m88) (hw _ m87) (hw _ m46) (hw _ m89) (by decide) (rm6 l Z a0 hw hj w0 w1 w2 w3 w4 w5 w6 w7 w8 w9 w10 w11 w12 w13 w14 w15 w16 w17 hS [] c36_1 c36_3 k36_5 T36.heap n0 O36 q36_7 q36_11) e38' q36_5 (g := (mkF m 146 #[.val (.int i0), .val (.ref b1), .val (.ref w6), .val (.ref c36_0)] [(.ref c36_1)])) rfl (by rw [hml]; rfl) (argsL := []) (rest := []) (lenOf pd111 rfl) rfl rfl (by show 2 * 0 + _ ≤ _; exact Nat.le_of_eq rfl) (hb hby at_146) (by decide) (by decide) (by decide) (by decide)
    obtain ⟨rfl, N39q, e39⟩ := hQ39
    have N39 := Fr.app N38 N39q
    have e39' : T39.heap = T36.heap := e39
    have sf40 := (sf0 : ∀ x ∈ [], Safe Z EL T36.vm T36.heap x)
    obtain ⟨_, T40, L40, hQ40, X40, st40⟩ := own_virtual X39 hx hZ36 (W := 0) hown36 (hw _ m91) (hw _ m92) (notFace_of_selects (args := #[]) (mvT hZ36 (hw _ m94))) (hw _ m94) (hw _ m93) (hw _ m41) (hw _ m95) (by decide) (rm7 l Z a0 hw hj w0 w1 w2 w3 w4 w5 w6 w7 w8 w9 w10 w11 w12 w13 w14 w15 w16 w17 hS [] c36_0 T36.heap n0 O36 q36_3) e39' q36_0 (g := (mkF m 153 #[.val (.int i0), .val (.ref b1), .val (.ref w6), .val (.ref c36_0)] [(.ref c36_0)])) rfl (by rw [hml]; rfl) (argsL := []) (rest := []) (lenOf pd120 rfl) rfl rfl (by show 2 * 0 + _ ≤ _; exact Nat.le_of_eq rfl) (hb hby at_153) (by decide) (by decide) (by decide) (by decide)
    obtain ⟨rfl, N40q, e40⟩ := hQ40
    have N40 := Fr.app N39 N40q
    have e40' : T40.heap = T36.heap := e40
    obtain ⟨T41, X41, e41, st41⟩ := getS2 X40 hx hZ36 hown36 (host := "") (Or.inl (hw _ m96)) Via.refl e40' (hS.1.ext O36.2) (g := (mkF m 156 #[.val (.int i0), .val (.ref b1), .val (.ref w6), .val (.ref c36_0)] [(.ref w0)])) rfl (hb hby at_156)
    have sf42 := (sf0 : ∀ x ∈ [], Safe Z EL T36.vm T36.heap x)
    obtain ⟨_, T42, L42, hQ42, X42, st42⟩ := own_virtual X41 hx hZ36 (W := 0) hown36 (hw _ m97) (hw _ m98) (notFace_of_selects (args := #[]) (mvT hZ36 (hw _ m100))) (hw _ m100) (hw _ m99) (hw _ m41) (hw _ m101) (by decide) (rm8 l Z a0 hw hj w0 w1 w2 w3 w4 w5 w6 w7 w8 w9 w10 w11 w12 w13 w14 w15 w16 w17 hS [] c36_0 c36_2 T36.heap n0 O36 q36_4) e41 q36_0 (g := (mkF m 163 #[.val (.int i0), .val (.ref b1), .val (.ref w6), .val (.ref c36_0)] [(.ref c36_0)])) rfl (by rw [hml]; rfl) (argsL := []) (rest := []) (lenOf pd95 rfl) rfl rfl (by show 2 * 0 + _ ≤ _; exact Nat.le_of_eq rfl) (hb hby at_163) (by decide) (by decide) (by decide) (by decide)
    obtain ⟨rfl, N42q, e42⟩ := hQ42
    have N42 := Fr.app N40 N42q
    have e42' : T42.heap = T36.heap := e42
    have sf43 := (sf0 : ∀ x ∈ [], Safe Z EL T36.vm T36.heap x)
    obtain ⟨_, T43, L43, hQ43, X43, st43⟩ := own_virtual X42 hx hZ36 (W := 0) hown36 (hw _ m85) (hw _ m86) (notFace_of_selects (args := #[]) (mvT hZ36 (hw _ m88))) (hw _ m88) (hw _ m87) (hw _ m46) (hw _ m89) (by decide) (rm6 l Z a0 hw hj w0 w1 w2 w3 w4 w5 w6 w7 w8 w9 w10 w11 w12 w13 w14 w15 w16 w17 hS [] c36_2 c36_4 k36_6 T36.heap n0 O36 q36_10 q36_12) e42' q36_8 (g := (mkF m 166 #[.val (.int i0), .val (.ref b1), .val (.ref w6), .val (.ref c36_0)] [(.ref c36_2)])) rfl (by rw [hml]; rfl) (argsL := []) (rest := []) (lenOf pd111 rfl) rfl rfl (by show 2 * 0 + _ ≤ _; exact Nat.le_of_eq rfl) (hb hby at_166) (by decide) (by decide) (by decide) (by decide)
    obtain ⟨rfl, N43q, e43⟩ := hQ43
    have N43 := Fr.app N42 N43q
    have e43' : T43.heap = T36.heap := e43
    obtain ⟨fs, hr, hrun, hended, hRW⟩ := X43.leaveW hS36 (by rw [e43']; exact (Nat.le_refl _)) (v := some (.int (1 : Int32))) (fun h => by rw [Bd.returns] at h; cases h)
    refine ⟨_, _, pre1 _ ?_, hrun, hended, _, _, rfl, ?_, own_rwm hRW (by decide) (by decide)⟩
    · show Steps p.tables e below (T35.setTop (mkF m 126 #[.val (.int i0), .val (.ref b1), .unset, .unset] [(.int (17 : Int32)), (.int (i0 &&& (2147483647 : Int32))), (.ref b1)])) _
      refine own_irem X35 hx rfl (hb hby at_126) rfl (by decide : ¬ ((17 : Int32) = (0 : Int32))) hp0 ?_
      refine own_aaload X35 hx hZ e35 V35 (j := (9 : Int32)) (by decide) (v := (.ref w6)) rfl rfl (g := (mkF m 127 #[.val (.int i0), .val (.ref b1), .unset, .unset] [(.int (9 : Int32)), (.ref b1)])) rfl rfl (hb hby at_127) ?_
      refine XS.astoreN X35.here hx rfl (hb hby at_128) rfl rfl (l' := #[.val (.int i0), .val (.ref b1), .val (.ref w6), .unset]) rfl ?_
      refine XS.aloadN X35.here hx rfl (hb hby at_129) rfl rfl ?_
      show Steps p.tables e below (T35.setTop (mkF m 130 #[.val (.int i0), .val (.ref b1), .val (.ref w6), .unset] [(.ref w6)])) _
      refine st36 _ ?_
      refine XS.astoreN X36.here hx rfl (hb hby at_133) rfl rfl (l' := #[.val (.int i0), .val (.ref b1), .val (.ref w6), .val (.ref c36_0)]) rfl ?_
      refine XS.aloadN X36.here hx rfl (hb hby at_134) rfl rfl ?_
      refine st37 _ ?_
      show Steps p.tables e below (T37.setTop (mkF m 138 #[.val (.int i0), .val (.ref b1), .val (.ref w6), .val (.ref c36_0)] [(.ref w6)])) _
      refine XS.aloadN X37.here hx rfl (hb hby at_138) rfl rfl ?_
      refine Jvm.RoadKit.acmp (g := (mkF m 139 #[.val (.int i0), .val (.ref b1), .val (.ref w6), .val (.ref c36_0)] [(.ref w6), (.ref w6)])) X37 hx rfl rfl rfl (pc0 := 139) (pc' := 142) (same := true) rfl (hb hby at_139) rfl (decide_eq_true rfl) (by decide) (by decide) ?_
      refine XS.aloadN X37.here hx rfl (hb hby at_142) rfl rfl ?_
      refine st38 _ ?_
      show Steps p.tables e below (T38.setTop (mkF m 146 #[.val (.int i0), .val (.ref b1), .val (.ref w6), .val (.ref c36_0)] [(.ref c36_1)])) _
      refine st39 _ ?_
      refine XS.ifNo X39.here hx rfl (hb hby at_149) rfl ((if0 _ _).trans (feq (by decide : ¬ ((1 : Int32) = (0 : Int32)))).1) ?_
      refine XS.aloadN X39.here hx rfl (hb hby at_152) rfl rfl ?_
      refine st40 _ ?_
      show Steps p.tables e below (T40.setTop (mkF m 156 #[.val (.int i0), .val (.ref b1), .val (.ref w6), .val (.ref c36_0)] [(.ref w0)])) _
      refine st41 _ ?_
      refine Jvm.RoadKit.acmp (g := (mkF m 159 #[.val (.int i0), .val (.ref b1), .val (.ref w6), .val (.ref c36_0)] [(.ref w0), (.ref w0)])) X41 hx rfl rfl rfl (pc0 := 159) (pc' := 162) (same := true) rfl (hb hby at_159) rfl (decide_eq_true rfl) (by decide) (by decide) ?_
      refine XS.aloadN X41.here hx rfl (hb hby at_162) rfl rfl ?_
      refine st42 _ ?_
      show Steps p.tables e below (T42.setTop (mkF m 166 #[.val (.int i0), .val (.ref b1), .val (.ref w6), .val (.ref c36_0)] [(.ref c36_2)])) _
      refine st43 _ ?_
      refine XS.ifNo X43.here hx rfl (hb hby at_169) rfl ((if0 _ _).trans (feq (by decide : ¬ ((1 : Int32) = (0 : Int32)))).1) ?_
      refine XS.iconst X43.here hx rfl (hb hby at_172) ?_
      refine XS.goto X43.here hx rfl (pc0 := 173) (pc' := 177) rfl (hb hby at_173) (by decide) (by decide) ?_
      show Steps p.tables e below (T43.setTop (mkF m 177 #[.val (.int i0), .val (.ref b1), .val (.ref w6), .val (.ref c36_0)] [(.int (1 : Int32))])) _
      exact retN X43 hx (t := .boolean) Bd.returns (by simp) (hb hby at_177) hr
    · show QL n0 _ T43.heap _
      exact ⟨rfl, N43⟩
  · obtain ⟨_, T36, L36, hQ36, hS36, hZ36, hown36, Cq36, X36, st36⟩ := own_callSW X35 hx hZ (W := 0) hown (hw _ m39) (hw _ m40) (hw _ m41) (hw _ m42) (by decide) (rm37 l Z a0 hw hj w0 w1 w2 w3 w4 w5 w6 w7 w8 w9 w10 w11 w12 w13 w14 w15 w16 w17 hS [] h35 n0 O35) e35 hS0 (Nat.le_trans (Nat.le_refl _) (Nat.le_trans (Nat.le_trans (Nat.le_trans (Nat.le_trans (Nat.le_trans (Nat.le_trans (Nat.le_trans (Nat.le_trans (Nat.le_trans (Nat.le_trans (Nat.le_trans (Nat.le_trans (Nat.le_trans (Nat.le_trans (Nat.le_trans (Nat.le_trans (Nat.le_trans E1.1 (Nat.le_of_eq W3.size.symm)) (Nat.le_of_eq W5.size.symm)) (Nat.le_of_eq W7.size.symm)) (Nat.le_of_eq W9.size.symm)) (Nat.le_of_eq W11.size.symm)) (Nat.le_of_eq W13.size.symm)) (Nat.le_of_eq W15.size.symm)) (Nat.le_of_eq W17.size.symm)) (Nat.le_of_eq W19.size.symm)) (Nat.le_of_eq W21.size.symm)) (Nat.le_of_eq W23.size.symm)) (Nat.le_of_eq W25.size.symm)) (Nat.le_of_eq W27.size.symm)) (Nat.le_of_eq W29.size.symm)) (Nat.le_of_eq W31.size.symm)) (Nat.le_of_eq W33.size.symm)) (Nat.le_of_eq W35.size.symm))) (own_EW hw hj) C35.1 own_sx0 (g := (mkF m 130 #[.val (.int i0), .val (.ref b1), .val (.ref w15), .unset] [(.ref w15)])) rfl (by rw [hml]; rfl) (argsL := [(.ref w15)]) (rest := []) (lenOf pd78 rfl) rfl rfl (by show 2 * 0 + _ ≤ _; exact Nat.le_of_eq rfl) (hb hby at_130) (by decide) (by decide) (by decide) (by decide)
    obtain ⟨c36_0, c36_1, c36_2, c36_3, c36_4, k36_5, k36_6, rfl, N36q, Kq36, lo36_0, q36_0, q36_1, q36_2, q36_3, q36_4, q36_5, q36_6, q36_7, q36_8, q36_9, q36_10, q36_11, q36_12⟩ := hQ36
    have N36 := Fr.app N35 N36q
    have C36 := C35.trans Cq36
    have O36 : Old Z n0 T36.heap := O35.keep Kq36 all0
    have K36 : Keep h0 T36.heap [] := K35.trans Kq36 all0
    have sf37 := (sf0 : ∀ x ∈ [], Safe Z EL T36.vm T36.heap x)
    obtain ⟨_, T37, L37, hQ37, X37, st37⟩ := own_virtual X36 hx hZ36 (W := 0) hown36 (hw _ m75) (hw _ m76) (notFace_of_selects (args := #[]) (mvT hZ36 (hw _ m78))) (hw _ m78) (hw _ m77) (hw _ m41) (hw _ m79) (by decide) (rm38 l Z a0 hw hj w0 w1 w2 w3 w4 w5 w6 w7 w8 w9 w10 w11 w12 w13 w14 w15 w16 w17 hS [] c36_0 T36.heap n0 O36 q36_1) (rfl : T36.heap = T36.heap) q36_0 (g := (mkF m 135 #[.val (.int i0), .val (.ref b1), .val (.ref w15), .val (.ref c36_0)] [(.ref c36_0)])) rfl (by rw [hml]; rfl) (argsL := []) (rest := []) (lenOf pd86 rfl) rfl rfl (by show 2 * 0 + _ ≤ _; exact Nat.le_of_eq rfl) (hb hby at_135) (by decide) (by decide) (by decide) (by decide)
    obtain ⟨rfl, N37q, e37⟩ := hQ37
    have N37 := Fr.app N36 N37q
    have e37' : T37.heap = T36.heap := e37
    have sf38 := (sf0 : ∀ x ∈ [], Safe Z EL T36.vm T36.heap x)
    obtain ⟨_, T38, L38, hQ38, X38, st38⟩ := own_virtual X37 hx hZ36 (W := 0) hown36 (hw _ m80) (hw _ m81) (notFace_of_selects (args := #[]) (mvT hZ36 (hw _ m83))) (hw _ m83) (hw _ m82) (hw _ m41) (hw _ m84) (by decide) (rm5 l Z a0 hw hj w0 w1 w2 w3 w4 w5 w6 w7 w8 w9 w10 w11 w12 w13 w14 w15 w16 w17 hS [] c36_0 c36_1 T36.heap n0 O36 q36_2) e37' q36_0 (g := (mkF m 143 #[.val (.int i0), .val (.ref b1), .val (.ref w15), .val (.ref c36_0)] [(.ref c36_0)])) rfl (by rw [hml]; rfl) (argsL := []) (rest := []) (lenOf pd95 rfl) rfl rfl (by show 2 * 0 + _ ≤ _; exact Nat.le_of_eq rfl) (hb hby at_143) (by decide) (by decide) (by decide) (by decide)
    obtain ⟨rfl, N38q, e38⟩ := hQ38
    have N38 := Fr.app N37 N38q
    have e38' : T38.heap = T36.heap := e38
    have sf39 := (sf0 : ∀ x ∈ [], Safe Z EL T36.vm T36.heap x)
    obtain ⟨_, T39, L39, hQ39, X39, st39⟩ := own_virtual X38 hx hZ36 (W := 0) hown36 (hw _ m85) (hw _ m86) (notFace_of_selects (args := #[]) (mvT hZ36 (hw _ m88))) (hw _ m88) (hw _ m87) (hw _ m46) (hw _ m89) (by decide) (rm6 l Z a0 hw hj w0 w1 w2 w3 w4 w5 w6 w7 w8 w9 w10 w11 w12 w13 w14 w15 w16 w17 hS [] c36_1 c36_3 k36_5 T36.heap n0 O36 q36_7 q36_11) e38' q36_5 (g := (mkF m 146 #[.val (.int i0), .val (.ref b1), .val (.ref w15), .val (.ref c36_0)] [(.ref c36_1)])) rfl (by rw [hml]; rfl) (argsL := []) (rest := []) (lenOf pd111 rfl) rfl rfl (by show 2 * 0 + _ ≤ _; exact Nat.le_of_eq rfl) (hb hby at_146) (by decide) (by decide) (by decide) (by decide)
    obtain ⟨rfl, N39q, e39⟩ := hQ39
    have N39 := Fr.app N38 N39q
    have e39' : T39.heap = T36.heap := e39
    have sf40 := (sf0 : ∀ x ∈ [], Safe Z EL T36.vm T36.heap x)
    obtain ⟨_, T40, L40, hQ40, X40, st40⟩ := own_virtual X39 hx hZ36 (W := 0) hown36 (hw _ m91) (hw _ m92) (notFace_of_selects (args := #[]) (mvT hZ36 (hw _ m94))) (hw _ m94) (hw _ m93) (hw _ m41) (hw _ m95) (by decide) (rm7 l Z a0 hw hj w0 w1 w2 w3 w4 w5 w6 w7 w8 w9 w10 w11 w12 w13 w14 w15 w16 w17 hS [] c36_0 T36.heap n0 O36 q36_3) e39' q36_0 (g := (mkF m 153 #[.val (.int i0), .val (.ref b1), .val (.ref w15), .val (.ref c36_0)] [(.ref c36_0)])) rfl (by rw [hml]; rfl) (argsL := []) (rest := []) (lenOf pd120 rfl) rfl rfl (by show 2 * 0 + _ ≤ _; exact Nat.le_of_eq rfl) (hb hby at_153) (by decide) (by decide) (by decide) (by decide)
    obtain ⟨rfl, N40q, e40⟩ := hQ40
    have N40 := Fr.app N39 N40q
    have e40' : T40.heap = T36.heap := e40
    obtain ⟨T41, X41, e41, st41⟩ := getS2 X40 hx hZ36 hown36 (host := "") (Or.inl (hw _ m96)) Via.refl e40' (hS.1.ext O36.2) (g := (mkF m 156 #[.val (.int i0), .val (.ref b1), .val (.ref w15), .val (.ref c36_0)] [(.ref w0)])) rfl (hb hby at_156)
    have sf42 := (sf0 : ∀ x ∈ [], Safe Z EL T36.vm T36.heap x)
    obtain ⟨_, T42, L42, hQ42, X42, st42⟩ := own_virtual X41 hx hZ36 (W := 0) hown36 (hw _ m97) (hw _ m98) (notFace_of_selects (args := #[]) (mvT hZ36 (hw _ m100))) (hw _ m100) (hw _ m99) (hw _ m41) (hw _ m101) (by decide) (rm8 l Z a0 hw hj w0 w1 w2 w3 w4 w5 w6 w7 w8 w9 w10 w11 w12 w13 w14 w15 w16 w17 hS [] c36_0 c36_2 T36.heap n0 O36 q36_4) e41 q36_0 (g := (mkF m 163 #[.val (.int i0), .val (.ref b1), .val (.ref w15), .val (.ref c36_0)] [(.ref c36_0)])) rfl (by rw [hml]; rfl) (argsL := []) (rest := []) (lenOf pd95 rfl) rfl rfl (by show 2 * 0 + _ ≤ _; exact Nat.le_of_eq rfl) (hb hby at_163) (by decide) (by decide) (by decide) (by decide)
    obtain ⟨rfl, N42q, e42⟩ := hQ42
    have N42 := Fr.app N40 N42q
    have e42' : T42.heap = T36.heap := e42
    have sf43 := (sf0 : ∀ x ∈ [], Safe Z EL T36.vm T36.heap x)
    obtain ⟨_, T43, L43, hQ43, X43, st43⟩ := own_virtual X42 hx hZ36 (W := 0) hown36 (hw _ m85) (hw _ m86) (notFace_of_selects (args := #[]) (mvT hZ36 (hw _ m88))) (hw _ m88) (hw _ m87) (hw _ m46) (hw _ m89) (by decide) (rm6 l Z a0 hw hj w0 w1 w2 w3 w4 w5 w6 w7 w8 w9 w10 w11 w12 w13 w14 w15 w16 w17 hS [] c36_2 c36_4 k36_6 T36.heap n0 O36 q36_10 q36_12) e42' q36_8 (g := (mkF m 166 #[.val (.int i0), .val (.ref b1), .val (.ref w15), .val (.ref c36_0)] [(.ref c36_2)])) rfl (by rw [hml]; rfl) (argsL := []) (rest := []) (lenOf pd111 rfl) rfl rfl (by show 2 * 0 + _ ≤ _; exact Nat.le_of_eq rfl) (hb hby at_166) (by decide) (by decide) (by decide) (by decide)
    obtain ⟨rfl, N43q, e43⟩ := hQ43
    have N43 := Fr.app N42 N43q
    have e43' : T43.heap = T36.heap := e43
    obtain ⟨fs, hr, hrun, hended, hRW⟩ := X43.leaveW hS36 (by rw [e43']; exact (Nat.le_refl _)) (v := some (.int (1 : Int32))) (fun h => by rw [Bd.returns] at h; cases h)
    refine ⟨_, _, pre1 _ ?_, hrun, hended, _, _, rfl, ?_, own_rwm hRW (by decide) (by decide)⟩
    · show Steps p.tables e below (T35.setTop (mkF m 126 #[.val (.int i0), .val (.ref b1), .unset, .unset] [(.int (17 : Int32)), (.int (i0 &&& (2147483647 : Int32))), (.ref b1)])) _
      refine own_irem X35 hx rfl (hb hby at_126) rfl (by decide : ¬ ((17 : Int32) = (0 : Int32))) hp0 ?_
      refine own_aaload X35 hx hZ e35 V35 (j := (10 : Int32)) (by decide) (v := (.ref w15)) rfl rfl (g := (mkF m 127 #[.val (.int i0), .val (.ref b1), .unset, .unset] [(.int (10 : Int32)), (.ref b1)])) rfl rfl (hb hby at_127) ?_
      refine XS.astoreN X35.here hx rfl (hb hby at_128) rfl rfl (l' := #[.val (.int i0), .val (.ref b1), .val (.ref w15), .unset]) rfl ?_
      refine XS.aloadN X35.here hx rfl (hb hby at_129) rfl rfl ?_
      show Steps p.tables e below (T35.setTop (mkF m 130 #[.val (.int i0), .val (.ref b1), .val (.ref w15), .unset] [(.ref w15)])) _
      refine st36 _ ?_
      refine XS.astoreN X36.here hx rfl (hb hby at_133) rfl rfl (l' := #[.val (.int i0), .val (.ref b1), .val (.ref w15), .val (.ref c36_0)]) rfl ?_
      refine XS.aloadN X36.here hx rfl (hb hby at_134) rfl rfl ?_
      refine st37 _ ?_
      show Steps p.tables e below (T37.setTop (mkF m 138 #[.val (.int i0), .val (.ref b1), .val (.ref w15), .val (.ref c36_0)] [(.ref w15)])) _
      refine XS.aloadN X37.here hx rfl (hb hby at_138) rfl rfl ?_
      refine Jvm.RoadKit.acmp (g := (mkF m 139 #[.val (.int i0), .val (.ref b1), .val (.ref w15), .val (.ref c36_0)] [(.ref w15), (.ref w15)])) X37 hx rfl rfl rfl (pc0 := 139) (pc' := 142) (same := true) rfl (hb hby at_139) rfl (decide_eq_true rfl) (by decide) (by decide) ?_
      refine XS.aloadN X37.here hx rfl (hb hby at_142) rfl rfl ?_
      refine st38 _ ?_
      show Steps p.tables e below (T38.setTop (mkF m 146 #[.val (.int i0), .val (.ref b1), .val (.ref w15), .val (.ref c36_0)] [(.ref c36_1)])) _
      refine st39 _ ?_
      refine XS.ifNo X39.here hx rfl (hb hby at_149) rfl ((if0 _ _).trans (feq (by decide : ¬ ((1 : Int32) = (0 : Int32)))).1) ?_
      refine XS.aloadN X39.here hx rfl (hb hby at_152) rfl rfl ?_
      refine st40 _ ?_
      show Steps p.tables e below (T40.setTop (mkF m 156 #[.val (.int i0), .val (.ref b1), .val (.ref w15), .val (.ref c36_0)] [(.ref w0)])) _
      refine st41 _ ?_
      refine Jvm.RoadKit.acmp (g := (mkF m 159 #[.val (.int i0), .val (.ref b1), .val (.ref w15), .val (.ref c36_0)] [(.ref w0), (.ref w0)])) X41 hx rfl rfl rfl (pc0 := 159) (pc' := 162) (same := true) rfl (hb hby at_159) rfl (decide_eq_true rfl) (by decide) (by decide) ?_
      refine XS.aloadN X41.here hx rfl (hb hby at_162) rfl rfl ?_
      refine st42 _ ?_
      show Steps p.tables e below (T42.setTop (mkF m 166 #[.val (.int i0), .val (.ref b1), .val (.ref w15), .val (.ref c36_0)] [(.ref c36_2)])) _
      refine st43 _ ?_
      refine XS.ifNo X43.here hx rfl (hb hby at_169) rfl ((if0 _ _).trans (feq (by decide : ¬ ((1 : Int32) = (0 : Int32)))).1) ?_
      refine XS.iconst X43.here hx rfl (hb hby at_172) ?_
      refine XS.goto X43.here hx rfl (pc0 := 173) (pc' := 177) rfl (hb hby at_173) (by decide) (by decide) ?_
      show Steps p.tables e below (T43.setTop (mkF m 177 #[.val (.int i0), .val (.ref b1), .val (.ref w15), .val (.ref c36_0)] [(.int (1 : Int32))])) _
      exact retN X43 hx (t := .boolean) Bd.returns (by simp) (hb hby at_177) hr
    · show QL n0 _ T43.heap _
      exact ⟨rfl, N43⟩
  · obtain ⟨_, T36, L36, hQ36, hS36, hZ36, hown36, Cq36, X36, st36⟩ := own_callSW X35 hx hZ (W := 0) hown (hw _ m39) (hw _ m40) (hw _ m41) (hw _ m42) (by decide) (rm40 l Z a0 hw hj w0 w1 w2 w3 w4 w5 w6 w7 w8 w9 w10 w11 w12 w13 w14 w15 w16 w17 hS [] h35 n0 O35) e35 hS0 (Nat.le_trans (Nat.le_refl _) (Nat.le_trans (Nat.le_trans (Nat.le_trans (Nat.le_trans (Nat.le_trans (Nat.le_trans (Nat.le_trans (Nat.le_trans (Nat.le_trans (Nat.le_trans (Nat.le_trans (Nat.le_trans (Nat.le_trans (Nat.le_trans (Nat.le_trans (Nat.le_trans (Nat.le_trans E1.1 (Nat.le_of_eq W3.size.symm)) (Nat.le_of_eq W5.size.symm)) (Nat.le_of_eq W7.size.symm)) (Nat.le_of_eq W9.size.symm)) (Nat.le_of_eq W11.size.symm)) (Nat.le_of_eq W13.size.symm)) (Nat.le_of_eq W15.size.symm)) (Nat.le_of_eq W17.size.symm)) (Nat.le_of_eq W19.size.symm)) (Nat.le_of_eq W21.size.symm)) (Nat.le_of_eq W23.size.symm)) (Nat.le_of_eq W25.size.symm)) (Nat.le_of_eq W27.size.symm)) (Nat.le_of_eq W29.size.symm)) (Nat.le_of_eq W31.size.symm)) (Nat.le_of_eq W33.size.symm)) (Nat.le_of_eq W35.size.symm))) (own_EW hw hj) C35.1 own_sx0 (g := (mkF m 130 #[.val (.int i0), .val (.ref b1), .val (.ref w14), .unset] [(.ref w14)])) rfl (by rw [hml]; rfl) (argsL := [(.ref w14)]) (rest := []) (lenOf pd78 rfl) rfl rfl (by show 2 * 0 + _ ≤ _; exact Nat.le_of_eq rfl) (hb hby at_130) (by decide) (by decide) (by decide) (by decide)
    obtain ⟨c36_0, c36_1, c36_2, c36_3, c36_4, k36_5, k36_6, rfl, N36q, Kq36, lo36_0, q36_0, q36_1, q36_2, q36_3, q36_4, q36_5, q36_6, q36_7, q36_8, q36_9, q36_10, q36_11, q36_12⟩ := hQ36
    have N36 := Fr.app N35 N36q
    have C36 := C35.trans Cq36
    have O36 : Old Z n0 T36.heap := O35.keep Kq36 all0
    have K36 : Keep h0 T36.heap [] := K35.trans Kq36 all0
    have sf37 := (sf0 : ∀ x ∈ [], Safe Z EL T36.vm T36.heap x)
    obtain ⟨_, T37, L37, hQ37, X37, st37⟩ := own_virtual X36 hx hZ36 (W := 0) hown36 (hw _ m75) (hw _ m76) (notFace_of_selects (args := #[]) (mvT hZ36 (hw _ m78))) (hw _ m78) (hw _ m77) (hw _ m41) (hw _ m79) (by decide) (rm41 l Z a0 hw hj w0 w1 w2 w3 w4 w5 w6 w7 w8 w9 w10 w11 w12 w13 w14 w15 w16 w17 hS [] c36_0 T36.heap n0 O36 q36_1) (rfl : T36.heap = T36.heap) q36_0 (g := (mkF m 135 #[.val (.int i0), .val (.ref b1), .val (.ref w14), .val (.ref c36_0)] [(.ref c36_0)])) rfl (by rw [hml]; rfl) (argsL := []) (rest := []) (lenOf pd86 rfl) rfl rfl (by show 2 * 0 + _ ≤ _; exact Nat.le_of_eq rfl) (hb hby at_135) (by decide) (by decide) (by decide) (by decide)
    obtain ⟨rfl, N37q, e37⟩ := hQ37
    have N37 := Fr.app N36 N37q
    have e37' : T37.heap = T36.heap := e37
    have sf38 := (sf0 : ∀ x ∈ [], Safe Z EL T36.vm T36.heap x)
    obtain ⟨_, T38, L38, hQ38, X38, st38⟩ := own_virtual X37 hx hZ36 (W := 0) hown36 (hw _ m80) (hw _ m81) (notFace_of_selects (args := #[]) (mvT hZ36 (hw _ m83))) (hw _ m83) (hw _ m82) (hw _ m41) (hw _ m84) (by decide) (rm5 l Z a0 hw hj w0 w1 w2 w3 w4 w5 w6 w7 w8 w9 w10 w11 w12 w13 w14 w15 w16 w17 hS [] c36_0 c36_1 T36.heap n0 O36 q36_2) e37' q36_0 (g := (mkF m 143 #[.val (.int i0), .val (.ref b1), .val (.ref w14), .val (.ref c36_0)] [(.ref c36_0)])) rfl (by rw [hml]; rfl) (argsL := []) (rest := []) (lenOf pd95 rfl) rfl rfl (by show 2 * 0 + _ ≤ _; exact Nat.le_of_eq rfl) (hb hby at_143) (by decide) (by decide) (by decide) (by decide)
    obtain ⟨rfl, N38q, e38⟩ := hQ38
    have N38 := Fr.app N37 N38q
    have e38' : T38.heap = T36.heap := e38
    have sf39 := (sf0 : ∀ x ∈ [], Safe Z EL T36.vm T36.heap x)
    obtain ⟨_, T39, L39, hQ39, X39, st39⟩ := own_virtual X38 hx hZ36 (W := 0) hown36 (hw _ m85) (hw _ m86) (notFace_of_selects (args := #[]) (mvT hZ36 (hw _ m88))) (hw _ m88) (hw _ m87) (hw _ m46) (hw _ m89) (by decide) (rm6 l Z a0 hw hj w0 w1 w2 w3 w4 w5 w6 w7 w8 w9 w10 w11 w12 w13 w14 w15 w16 w17 hS [] c36_1 c36_3 k36_5 T36.heap n0 O36 q36_7 q36_11) e38' q36_5 (g := (mkF m 146 #[.val (.int i0), .val (.ref b1), .val (.ref w14), .val (.ref c36_0)] [(.ref c36_1)])) rfl (by rw [hml]; rfl) (argsL := []) (rest := []) (lenOf pd111 rfl) rfl rfl (by show 2 * 0 + _ ≤ _; exact Nat.le_of_eq rfl) (hb hby at_146) (by decide) (by decide) (by decide) (by decide)
    obtain ⟨rfl, N39q, e39⟩ := hQ39
    have N39 := Fr.app N38 N39q
    have e39' : T39.heap = T36.heap := e39
    have sf40 := (sf0 : ∀ x ∈ [], Safe Z EL T36.vm T36.heap x)
    obtain ⟨_, T40, L40, hQ40, X40, st40⟩ := own_virtual X39 hx hZ36 (W := 0) hown36 (hw _ m91) (hw _ m92) (notFace_of_selects (args := #[]) (mvT hZ36 (hw _ m94))) (hw _ m94) (hw _ m93) (hw _ m41) (hw _ m95) (by decide) (rm7 l Z a0 hw hj w0 w1 w2 w3 w4 w5 w6 w7 w8 w9 w10 w11 w12 w13 w14 w15 w16 w17 hS [] c36_0 T36.heap n0 O36 q36_3) e39' q36_0 (g := (mkF m 153 #[.val (.int i0), .val (.ref b1), .val (.ref w14), .val (.ref c36_0)] [(.ref c36_0)])) rfl (by rw [hml]; rfl) (argsL := []) (rest := []) (lenOf pd120 rfl) rfl rfl (by show 2 * 0 + _ ≤ _; exact Nat.le_of_eq rfl) (hb hby at_153) (by decide) (by decide) (by decide) (by decide)
    obtain ⟨rfl, N40q, e40⟩ := hQ40
    have N40 := Fr.app N39 N40q
    have e40' : T40.heap = T36.heap := e40
    obtain ⟨T41, X41, e41, st41⟩ := getS2 X40 hx hZ36 hown36 (host := "") (Or.inl (hw _ m96)) Via.refl e40' (hS.1.ext O36.2) (g := (mkF m 156 #[.val (.int i0), .val (.ref b1), .val (.ref w14), .val (.ref c36_0)] [(.ref w0)])) rfl (hb hby at_156)
    have sf42 := (sf0 : ∀ x ∈ [], Safe Z EL T36.vm T36.heap x)
    obtain ⟨_, T42, L42, hQ42, X42, st42⟩ := own_virtual X41 hx hZ36 (W := 0) hown36 (hw _ m97) (hw _ m98) (notFace_of_selects (args := #[]) (mvT hZ36 (hw _ m100))) (hw _ m100) (hw _ m99) (hw _ m41) (hw _ m101) (by decide) (rm8 l Z a0 hw hj w0 w1 w2 w3 w4 w5 w6 w7 w8 w9 w10 w11 w12 w13 w14 w15 w16 w17 hS [] c36_0 c36_2 T36.heap n0 O36 q36_4) e41 q36_0 (g := (mkF m 163 #[.val (.int i0), .val (.ref b1), .val (.ref w14), .val (.ref c36_0)] [(.ref c36_0)])) rfl (by rw [hml]; rfl) (argsL := []) (rest := []) (lenOf pd95 rfl) rfl rfl (by show 2 * 0 + _ ≤ _; exact Nat.le_of_eq rfl) (hb hby at_163) (by decide) (by decide) (by decide) (by decide)
    obtain ⟨rfl, N42q, e42⟩ := hQ42
    have N42 := Fr.app N40 N42q
    have e42' : T42.heap = T36.heap := e42
    have sf43 := (sf0 : ∀ x ∈ [], Safe Z EL T36.vm T36.heap x)
    obtain ⟨_, T43, L43, hQ43, X43, st43⟩ := own_virtual X42 hx hZ36 (W := 0) hown36 (hw _ m85) (hw _ m86) (notFace_of_selects (args := #[]) (mvT hZ36 (hw _ m88))) (hw _ m88) (hw _ m87) (hw _ m46) (hw _ m89) (by decide) (rm6 l Z a0 hw hj w0 w1 w2 w3 w4 w5 w6 w7 w8 w9 w10 w11 w12 w13 w14 w15 w16 w17 hS [] c36_2 c36_4 k36_6 T36.heap n0 O36 q36_10 q36_12) e42' q36_8 (g := (mkF m 166 #[.val (.int i0), .val (.ref b1), .val (.ref w14), .val (.ref c36_0)] [(.ref c36_2)])) rfl (by rw [hml]; rfl) (argsL := []) (rest := []) (lenOf pd111 rfl) rfl rfl (by show 2 * 0 + _ ≤ _; exact Nat.le_of_eq rfl) (hb hby at_166) (by decide) (by decide) (by decide) (by decide)
    obtain ⟨rfl, N43q, e43⟩ := hQ43
    have N43 := Fr.app N42 N43q
    have e43' : T43.heap = T36.heap := e43
    obtain ⟨fs, hr, hrun, hended, hRW⟩ := X43.leaveW hS36 (by rw [e43']; exact (Nat.le_refl _)) (v := some (.int (1 : Int32))) (fun h => by rw [Bd.returns] at h; cases h)
    refine ⟨_, _, pre1 _ ?_, hrun, hended, _, _, rfl, ?_, own_rwm hRW (by decide) (by decide)⟩
    · show Steps p.tables e below (T35.setTop (mkF m 126 #[.val (.int i0), .val (.ref b1), .unset, .unset] [(.int (17 : Int32)), (.int (i0 &&& (2147483647 : Int32))), (.ref b1)])) _
      refine own_irem X35 hx rfl (hb hby at_126) rfl (by decide : ¬ ((17 : Int32) = (0 : Int32))) hp0 ?_
      refine own_aaload X35 hx hZ e35 V35 (j := (11 : Int32)) (by decide) (v := (.ref w14)) rfl rfl (g := (mkF m 127 #[.val (.int i0), .val (.ref b1), .unset, .unset] [(.int (11 : Int32)), (.ref b1)])) rfl rfl (hb hby at_127) ?_
      refine XS.astoreN X35.here hx rfl (hb hby at_128) rfl rfl (l' := #[.val (.int i0), .val (.ref b1), .val (.ref w14), .unset]) rfl ?_
      refine XS.aloadN X35.here hx rfl (hb hby at_129) rfl rfl ?_
      show Steps p.tables e below (T35.setTop (mkF m 130 #[.val (.int i0), .val (.ref b1), .val (.ref w14), .unset] [(.ref w14)])) _
      refine st36 _ ?_
      refine XS.astoreN X36.here hx rfl (hb hby at_133) rfl rfl (l' := #[.val (.int i0), .val (.ref b1), .val (.ref w14), .val (.ref c36_0)]) rfl ?_
      refine XS.aloadN X36.here hx rfl (hb hby at_134) rfl rfl ?_
      refine st37 _ ?_
      show Steps p.tables e below (T37.setTop (mkF m 138 #[.val (.int i0), .val (.ref b1), .val (.ref w14), .val (.ref c36_0)] [(.ref w14)])) _
      refine XS.aloadN X37.here hx rfl (hb hby at_138) rfl rfl ?_
      refine Jvm.RoadKit.acmp (g := (mkF m 139 #[.val (.int i0), .val (.ref b1), .val (.ref w14), .val (.ref c36_0)] [(.ref w14), (.ref w14)])) X37 hx rfl rfl rfl (pc0 := 139) (pc' := 142) (same := true) rfl (hb hby at_139) rfl (decide_eq_true rfl) (by decide) (by decide) ?_
      refine XS.aloadN X37.here hx rfl (hb hby at_142) rfl rfl ?_
      refine st38 _ ?_
      show Steps p.tables e below (T38.setTop (mkF m 146 #[.val (.int i0), .val (.ref b1), .val (.ref w14), .val (.ref c36_0)] [(.ref c36_1)])) _
      refine st39 _ ?_
      refine XS.ifNo X39.here hx rfl (hb hby at_149) rfl ((if0 _ _).trans (feq (by decide : ¬ ((1 : Int32) = (0 : Int32)))).1) ?_
      refine XS.aloadN X39.here hx rfl (hb hby at_152) rfl rfl ?_
      refine st40 _ ?_
      show Steps p.tables e below (T40.setTop (mkF m 156 #[.val (.int i0), .val (.ref b1), .val (.ref w14), .val (.ref c36_0)] [(.ref w0)])) _
      refine st41 _ ?_
      refine Jvm.RoadKit.acmp (g := (mkF m 159 #[.val (.int i0), .val (.ref b1), .val (.ref w14), .val (.ref c36_0)] [(.ref w0), (.ref w0)])) X41 hx rfl rfl rfl (pc0 := 159) (pc' := 162) (same := true) rfl (hb hby at_159) rfl (decide_eq_true rfl) (by decide) (by decide) ?_
      refine XS.aloadN X41.here hx rfl (hb hby at_162) rfl rfl ?_
      refine st42 _ ?_
      show Steps p.tables e below (T42.setTop (mkF m 166 #[.val (.int i0), .val (.ref b1), .val (.ref w14), .val (.ref c36_0)] [(.ref c36_2)])) _
      refine st43 _ ?_
      refine XS.ifNo X43.here hx rfl (hb hby at_169) rfl ((if0 _ _).trans (feq (by decide : ¬ ((1 : Int32) = (0 : Int32)))).1) ?_
      refine XS.iconst X43.here hx rfl (hb hby at_172) ?_
      refine XS.goto X43.here hx rfl (pc0 := 173) (pc' := 177) rfl (hb hby at_173) (by decide) (by decide) ?_
      show Steps p.tables e below (T43.setTop (mkF m 177 #[.val (.int i0), .val (.ref b1), .val (.ref w14), .val (.ref c36_0)] [(.int (1 : Int32))])) _
      exact retN X43 hx (t := .boolean) Bd.returns (by simp) (hb hby at_177) hr
    · show QL n0 _ T43.heap _
      exact ⟨rfl, N43⟩
  · obtain ⟨_, T36, L36, hQ36, hS36, hZ36, hown36, Cq36, X36, st36⟩ := own_callSW X35 hx hZ (W := 0) hown (hw _ m39) (hw _ m40) (hw _ m41) (hw _ m42) (by decide) (rm43 l Z a0 hw hj w0 w1 w2 w3 w4 w5 w6 w7 w8 w9 w10 w11 w12 w13 w14 w15 w16 w17 hS [] h35 n0 O35) e35 hS0 (Nat.le_trans (Nat.le_refl _) (Nat.le_trans (Nat.le_trans (Nat.le_trans (Nat.le_trans (Nat.le_trans (Nat.le_trans (Nat.le_trans (Nat.le_trans (Nat.le_trans (Nat.le_trans (Nat.le_trans (Nat.le_trans (Nat.le_trans (Nat.le_trans (Nat.le_trans (Nat.le_trans (Nat.le_trans E1.1 (Nat.le_of_eq W3.size.symm)) (Nat.le_of_eq W5.size.symm)) (Nat.le_of_eq W7.size.symm)) (Nat.le_of_eq W9.size.symm)) (Nat.le_of_eq W11.size.symm)) (Nat.le_of_eq W13.size.symm)) (Nat.le_of_eq W15.size.symm)) (Nat.le_of_eq W17.size.symm)) (Nat.le_of_eq W19.size.symm)) (Nat.le_of_eq W21.size.symm)) (Nat.le_of_eq W23.size.symm)) (Nat.le_of_eq W25.size.symm)) (Nat.le_of_eq W27.size.symm)) (Nat.le_of_eq W29.size.symm)) (Nat.le_of_eq W31.size.symm)) (Nat.le_of_eq W33.size.symm)) (Nat.le_of_eq W35.size.symm))) (own_EW hw hj) C35.1 own_sx0 (g := (mkF m 130 #[.val (.int i0), .val (.ref b1), .val (.ref w1), .unset] [(.ref w1)])) rfl (by rw [hml]; rfl) (argsL := [(.ref w1)]) (rest := []) (lenOf pd78 rfl) rfl rfl (by show 2 * 0 + _ ≤ _; exact Nat.le_of_eq rfl) (hb hby at_130) (by decide) (by decide) (by decide) (by decide)
    obtain ⟨c36_0, c36_1, c36_2, c36_3, c36_4, k36_5, k36_6, rfl, N36q, Kq36, lo36_0, q36_0, q36_1, q36_2, q36_3, q36_4, q36_5, q36_6, q36_7, q36_8, q36_9, q36_10, q36_11, q36_12⟩ := hQ36
    have N36 := Fr.app N35 N36q
    have C36 := C35.trans Cq36
    have O36 : Old Z n0 T36.heap := O35.keep Kq36 all0
    have K36 : Keep h0 T36.heap [] := K35.trans Kq36 all0
    have sf37 := (sf0 : ∀ x ∈ [], Safe Z EL T36.vm T36.heap x)
    obtain ⟨_, T37, L37, hQ37, X37, st37⟩ := own_virtual X36 hx hZ36 (W := 0) hown36 (hw _ m75) (hw _ m76) (notFace_of_selects (args := #[]) (mvT hZ36 (hw _ m78))) (hw _ m78) (hw _ m77) (hw _ m41) (hw _ m79) (by decide) (rm44 l Z a0 hw hj w0 w1 w2 w3 w4 w5 w6 w7 w8 w9 w10 w11 w12 w13 w14 w15 w16 w17 hS [] c36_0 T36.heap n0 O36 q36_1) (rfl : T36.heap = T36.heap) q36_0 (g := (mkF m 135 #[.val (.int i0), .val (.ref b1), .val (.ref w1), .val (.ref c36_0)] [(.ref c36_0)])) rfl (by rw [hml]; rfl) (argsL := []) (rest := []) (lenOf pd86 rfl) rfl rfl (by show 2 * 0 + _ ≤ _; exact Nat.le_of_eq rfl) (hb hby at_135) (by decide) (by decide) (by decide) (by decide)
    obtain ⟨rfl, N37q, e37⟩ := hQ37
    have N37 := Fr.app N36 N37q
    have e37' : T37.heap = T36.heap := e37
    have sf38 := (sf0 : ∀ x ∈ [], Safe Z EL T36.vm T36.heap x)
    obtain ⟨_, T38, L38, hQ38, X38, st38⟩ := own_virtual X37 hx hZ36 (W := 0) hown36 (hw _ m80) (hw _ m81) (notFace_of_selects (args := #[]) (mvT hZ36 (hw _ m83))) (hw _ m83) (hw _ m82) (hw _ m41) (hw _ m84) (by decide) (rm5 l Z a0 hw hj w0 w1 w2 w3 w4 w5 w6 w7 w8 w9 w10 w11 w12 w13 w14 w15 w16 w17 hS [] c36_0 c36_1 T36.heap n0 O36 q36_2) e37' q36_0 (g := (mkF m 143 #[.val (.int i0), .val (.ref b1), .val (.ref w1), .val (.ref c36_0)] [(.ref c36_0)])) rfl (by rw [hml]; rfl) (argsL := []) (rest := []) (lenOf pd95 rfl) rfl rfl (by show 2 * 0 + _ ≤ _; exact Nat.le_of_eq rfl) (hb hby at_143) (by decide) (by decide) (by decide) (by decide)
    obtain ⟨rfl, N38q, e38⟩ := hQ38
    have N38 := Fr.app N37 N38q
    have e38' : T38.heap = T36.heap := e38
    have sf39 := (sf0 : ∀ x ∈ [], Safe Z EL T36.vm T36.heap x)
    obtain ⟨_, T39, L39, hQ39, X39, st39⟩ := own_virtual X38 hx hZ36 (W := 0) hown36 (hw _ m85) (hw _ m86) (notFace_of_selects (args := #[]) (mvT hZ36 (hw _ m88))) (hw _ m88) (hw _ m87) (hw _ m46) (hw _ m89) (by decide) (rm6 l Z a0 hw hj w0 w1 w2 w3 w4 w5 w6 w7 w8 w9 w10 w11 w12 w13 w14 w15 w16 w17 hS [] c36_1 c36_3 k36_5 T36.heap n0 O36 q36_7 q36_11) e38' q36_5 (g := (mkF m 146 #[.val (.int i0), .val (.ref b1), .val (.ref w1), .val (.ref c36_0)] [(.ref c36_1)])) rfl (by rw [hml]; rfl) (argsL := []) (rest := []) (lenOf pd111 rfl) rfl rfl (by show 2 * 0 + _ ≤ _; exact Nat.le_of_eq rfl) (hb hby at_146) (by decide) (by decide) (by decide) (by decide)
    obtain ⟨rfl, N39q, e39⟩ := hQ39
    have N39 := Fr.app N38 N39q
    have e39' : T39.heap = T36.heap := e39
    have sf40 := (sf0 : ∀ x ∈ [], Safe Z EL T36.vm T36.heap x)
    obtain ⟨_, T40, L40, hQ40, X40, st40⟩ := own_virtual X39 hx hZ36 (W := 0) hown36 (hw _ m91) (hw _ m92) (notFace_of_selects (args := #[]) (mvT hZ36 (hw _ m94))) (hw _ m94) (hw _ m93) (hw _ m41) (hw _ m95) (by decide) (rm7 l Z a0 hw hj w0 w1 w2 w3 w4 w5 w6 w7 w8 w9 w10 w11 w12 w13 w14 w15 w16 w17 hS [] c36_0 T36.heap n0 O36 q36_3) e39' q36_0 (g := (mkF m 153 #[.val (.int i0), .val (.ref b1), .val (.ref w1), .val (.ref c36_0)] [(.ref c36_0)])) rfl (by rw [hml]; rfl) (argsL := []) (rest := []) (lenOf pd120 rfl) rfl rfl (by show 2 * 0 + _ ≤ _; exact Nat.le_of_eq rfl) (hb hby at_153) (by decide) (by decide) (by decide) (by decide)
    obtain ⟨rfl, N40q, e40⟩ := hQ40
    have N40 := Fr.app N39 N40q
    have e40' : T40.heap = T36.heap := e40
    obtain ⟨T41, X41, e41, st41⟩ := getS2 X40 hx hZ36 hown36 (host := "") (Or.inl (hw _ m96)) Via.refl e40' (hS.1.ext O36.2) (g := (mkF m 156 #[.val (.int i0), .val (.ref b1), .val (.ref w1), .val (.ref c36_0)] [(.ref w0)])) rfl (hb hby at_156)
    have sf42 := (sf0 : ∀ x ∈ [], Safe Z EL T36.vm T36.heap x)
    obtain ⟨_, T42, L42, hQ42, X42, st42⟩ := own_virtual X41 hx hZ36 (W := 0) hown36 (hw _ m97) (hw _ m98) (notFace_of_selects (args := #[]) (mvT hZ36 (hw _ m100))) (hw _ m100) (hw _ m99) (hw _ m41) (hw _ m101) (by decide) (rm8 l Z a0 hw hj w0 w1 w2 w3 w4 w5 w6 w7 w8 w9 w10 w11 w12 w13 w14 w15 w16 w17 hS [] c36_0 c36_2 T36.heap n0 O36 q36_4) e41 q36_0 (g := (mkF m 163 #[.val (.int i0), .val (.ref b1), .val (.ref w1), .val (.ref c36_0)] [(.ref c36_0)])) rfl (by rw [hml]; rfl) (argsL := []) (rest := []) (lenOf pd95 rfl) rfl rfl (by show 2 * 0 + _ ≤ _; exact Nat.le_of_eq rfl) (hb hby at_163) (by decide) (by decide) (by decide) (by decide)
    obtain ⟨rfl, N42q, e42⟩ := hQ42
    have N42 := Fr.app N40 N42q
    have e42' : T42.heap = T36.heap := e42
    have sf43 := (sf0 : ∀ x ∈ [], Safe Z EL T36.vm T36.heap x)
    obtain ⟨_, T43, L43, hQ43, X43, st43⟩ := own_virtual X42 hx hZ36 (W := 0) hown36 (hw _ m85) (hw _ m86) (notFace_of_selects (args := #[]) (mvT hZ36 (hw _ m88))) (hw _ m88) (hw _ m87) (hw _ m46) (hw _ m89) (by decide) (rm6 l Z a0 hw hj w0 w1 w2 w3 w4 w5 w6 w7 w8 w9 w10 w11 w12 w13 w14 w15 w16 w17 hS [] c36_2 c36_4 k36_6 T36.heap n0 O36 q36_10 q36_12) e42' q36_8 (g := (mkF m 166 #[.val (.int i0), .val (.ref b1), .val (.ref w1), .val (.ref c36_0)] [(.ref c36_2)])) rfl (by rw [hml]; rfl) (argsL := []) (rest := []) (lenOf pd111 rfl) rfl rfl (by show 2 * 0 + _ ≤ _; exact Nat.le_of_eq rfl) (hb hby at_166) (by decide) (by decide) (by decide) (by decide)
    obtain ⟨rfl, N43q, e43⟩ := hQ43
    have N43 := Fr.app N42 N43q
    have e43' : T43.heap = T36.heap := e43
    obtain ⟨fs, hr, hrun, hended, hRW⟩ := X43.leaveW hS36 (by rw [e43']; exact (Nat.le_refl _)) (v := some (.int (1 : Int32))) (fun h => by rw [Bd.returns] at h; cases h)
    refine ⟨_, _, pre1 _ ?_, hrun, hended, _, _, rfl, ?_, own_rwm hRW (by decide) (by decide)⟩
    · show Steps p.tables e below (T35.setTop (mkF m 126 #[.val (.int i0), .val (.ref b1), .unset, .unset] [(.int (17 : Int32)), (.int (i0 &&& (2147483647 : Int32))), (.ref b1)])) _
      refine own_irem X35 hx rfl (hb hby at_126) rfl (by decide : ¬ ((17 : Int32) = (0 : Int32))) hp0 ?_
      refine own_aaload X35 hx hZ e35 V35 (j := (12 : Int32)) (by decide) (v := (.ref w1)) rfl rfl (g := (mkF m 127 #[.val (.int i0), .val (.ref b1), .unset, .unset] [(.int (12 : Int32)), (.ref b1)])) rfl rfl (hb hby at_127) ?_
      refine XS.astoreN X35.here hx rfl (hb hby at_128) rfl rfl (l' := #[.val (.int i0), .val (.ref b1), .val (.ref w1), .unset]) rfl ?_
      refine XS.aloadN X35.here hx rfl (hb hby at_129) rfl rfl ?_
      show Steps p.tables e below (T35.setTop (mkF m 130 #[.val (.int i0), .val (.ref b1), .val (.ref w1), .unset] [(.ref w1)])) _
      refine st36 _ ?_
      refine XS.astoreN X36.here hx rfl (hb hby at_133) rfl rfl (l' := #[.val (.int i0), .val (.ref b1), .val (.ref w1), .val (.ref c36_0)]) rfl ?_
      refine XS.aloadN X36.here hx rfl (hb hby at_134) rfl rfl ?_
      refine st37 _ ?_
      show Steps p.tables e below (T37.setTop (mkF m 138 #[.val (.int i0), .val (.ref b1), .val (.ref w1), .val (.ref c36_0)] [(.ref w1)])) _
      refine XS.aloadN X37.here hx rfl (hb hby at_138) rfl rfl ?_
      refine Jvm.RoadKit.acmp (g := (mkF m 139 #[.val (.int i0), .val (.ref b1), .val (.ref w1), .val (.ref c36_0)] [(.ref w1), (.ref w1)])) X37 hx rfl rfl rfl (pc0 := 139) (pc' := 142) (same := true) rfl (hb hby at_139) rfl (decide_eq_true rfl) (by decide) (by decide) ?_
      refine XS.aloadN X37.here hx rfl (hb hby at_142) rfl rfl ?_
      refine st38 _ ?_
      show Steps p.tables e below (T38.setTop (mkF m 146 #[.val (.int i0), .val (.ref b1), .val (.ref w1), .val (.ref c36_0)] [(.ref c36_1)])) _
      refine st39 _ ?_
      refine XS.ifNo X39.here hx rfl (hb hby at_149) rfl ((if0 _ _).trans (feq (by decide : ¬ ((1 : Int32) = (0 : Int32)))).1) ?_
      refine XS.aloadN X39.here hx rfl (hb hby at_152) rfl rfl ?_
      refine st40 _ ?_
      show Steps p.tables e below (T40.setTop (mkF m 156 #[.val (.int i0), .val (.ref b1), .val (.ref w1), .val (.ref c36_0)] [(.ref w0)])) _
      refine st41 _ ?_
      refine Jvm.RoadKit.acmp (g := (mkF m 159 #[.val (.int i0), .val (.ref b1), .val (.ref w1), .val (.ref c36_0)] [(.ref w0), (.ref w0)])) X41 hx rfl rfl rfl (pc0 := 159) (pc' := 162) (same := true) rfl (hb hby at_159) rfl (decide_eq_true rfl) (by decide) (by decide) ?_
      refine XS.aloadN X41.here hx rfl (hb hby at_162) rfl rfl ?_
      refine st42 _ ?_
      show Steps p.tables e below (T42.setTop (mkF m 166 #[.val (.int i0), .val (.ref b1), .val (.ref w1), .val (.ref c36_0)] [(.ref c36_2)])) _
      refine st43 _ ?_
      refine XS.ifNo X43.here hx rfl (hb hby at_169) rfl ((if0 _ _).trans (feq (by decide : ¬ ((1 : Int32) = (0 : Int32)))).1) ?_
      refine XS.iconst X43.here hx rfl (hb hby at_172) ?_
      refine XS.goto X43.here hx rfl (pc0 := 173) (pc' := 177) rfl (hb hby at_173) (by decide) (by decide) ?_
      show Steps p.tables e below (T43.setTop (mkF m 177 #[.val (.int i0), .val (.ref b1), .val (.ref w1), .val (.ref c36_0)] [(.int (1 : Int32))])) _
      exact retN X43 hx (t := .boolean) Bd.returns (by simp) (hb hby at_177) hr
    · show QL n0 _ T43.heap _
      exact ⟨rfl, N43⟩
  · obtain ⟨_, T36, L36, hQ36, hS36, hZ36, hown36, Cq36, X36, st36⟩ := own_callSW X35 hx hZ (W := 0) hown (hw _ m39) (hw _ m40) (hw _ m41) (hw _ m42) (by decide) (rm46 l Z a0 hw hj w0 w1 w2 w3 w4 w5 w6 w7 w8 w9 w10 w11 w12 w13 w14 w15 w16 w17 hS [] h35 n0 O35) e35 hS0 (Nat.le_trans (Nat.le_refl _) (Nat.le_trans (Nat.le_trans (Nat.le_trans (Nat.le_trans (Nat.le_trans (Nat.le_trans (Nat.le_trans (Nat.le_trans (Nat.le_trans (Nat.le_trans (Nat.le_trans (Nat.le_trans (Nat.le_trans (Nat.le_trans (Nat.le_trans (Nat.le_trans (Nat.le_trans E1.1 (Nat.le_of_eq W3.size.symm)) (Nat.le_of_eq W5.size.symm)) (Nat.le_of_eq W7.size.symm)) (Nat.le_of_eq W9.size.symm)) (Nat.le_of_eq W11.size.symm)) (Nat.le_of_eq W13.size.symm)) (Nat.le_of_eq W15.size.symm)) (Nat.le_of_eq W17.size.symm)) (Nat.le_of_eq W19.size.symm)) (Nat.le_of_eq W21.size.symm)) (Nat.le_of_eq W23.size.symm)) (Nat.le_of_eq W25.size.symm)) (Nat.le_of_eq W27.size.symm)) (Nat.le_of_eq W29.size.symm)) (Nat.le_of_eq W31.size.symm)) (Nat.le_of_eq W33.size.symm)) (Nat.le_of_eq W35.size.symm))) (own_EW hw hj) C35.1 own_sx0 (g := (mkF m 130 #[.val (.int i0), .val (.ref b1), .val (.ref w5), .unset] [(.ref w5)])) rfl (by rw [hml]; rfl) (argsL := [(.ref w5)]) (rest := []) (lenOf pd78 rfl) rfl rfl (by show 2 * 0 + _ ≤ _; exact Nat.le_of_eq rfl) (hb hby at_130) (by decide) (by decide) (by decide) (by decide)
    obtain ⟨c36_0, c36_1, c36_2, c36_3, c36_4, k36_5, k36_6, rfl, N36q, Kq36, lo36_0, q36_0, q36_1, q36_2, q36_3, q36_4, q36_5, q36_6, q36_7, q36_8, q36_9, q36_10, q36_11, q36_12⟩ := hQ36
    have N36 := Fr.app N35 N36q
    have C36 := C35.trans Cq36
    have O36 : Old Z n0 T36.heap := O35.keep Kq36 all0
    have K36 : Keep h0 T36.heap [] := K35.trans Kq36 all0
    have sf37 := (sf0 : ∀ x ∈ [], Safe Z EL T36.vm T36.heap x)
    obtain ⟨_, T37, L37, hQ37, X37, st37⟩ := own_virtual X36 hx hZ36 (W := 0) hown36 (hw _ m75) (hw _ m76) (notFace_of_selects (args := #[]) (mvT hZ36 (hw _ m78))) (hw _ m78) (hw _ m77) (hw _ m41) (hw _ m79) (by decide) (rm47 l Z a0 hw hj w0 w1 w2 w3 w4 w5 w6 w7 w8 w9 w10 w11 w12 w13 w14 w15 w16 w17 hS [] c36_0 T36.heap n0 O36 q36_1) (rfl : T36.heap = T36.heap) q36_0 (g := (mkF m 135 #[.val (.int i0), .val (.ref b1), .val (.ref w5), .val (.ref c36_0)] [(.ref c36_0)])) rfl (by rw [hml]; rfl) (argsL := []) (rest := []) (lenOf pd86 rfl) rfl rfl (by show 2 * 0 + _ ≤ _; exact Nat.le_of_eq rfl) (hb hby at_135) (by decide) (by decide) (by decide) (by decide)
    obtain ⟨rfl, N37q, e37⟩ := hQ37
    have N37 := Fr.app N36 N37q
    have e37' : T37.heap = T36.heap := e37
    have sf38 := (sf0 : ∀ x ∈ [], Safe Z EL T36.vm T36.heap x)
    obtain ⟨_, T38, L38, hQ38, X38, st38⟩ := own_virtual X37 hx hZ36 (W := 0) hown36 (hw _ m80) (hw _ m81) (notFace_of_selects (args := #[]) (mvT hZ36 (hw _ m83))) (hw _ m83) (hw _ m82) (hw _ m41) (hw _ m84) (by decide) (rm5 l Z a0 hw hj w0 w1 w2 w3 w4 w5 w6 w7 w8 w9 w10 w11 w12 w13 w14 w15 w16 w17 hS [] c36_0 c36_1 T36.heap n0 O36 q36_2) e37' q36_0 (g := (mkF m 143 #[.val (.int i0), .val (.ref b1), .val (.ref w5), .val (.ref c36_0)] [(.ref c36_0)])) rfl (by rw [hml]; rfl) (argsL := []) (rest := []) (lenOf pd95 rfl) rfl rfl (by show 2 * 0 + _ ≤ _; exact Nat.le_of_eq rfl) (hb hby at_143) (by decide) (by decide) (by decide) (by decide)
    obtain ⟨rfl, N38q, e38⟩ := hQ38
    have N38 := Fr.app N37 N38q
    have e38' : T38.heap = T36.heap := e38
    have sf39 := (sf0 : ∀ x ∈ [], Safe Z EL T36.vm T36.heap x)
    obtain ⟨_, T39, L39, hQ39, X39, st39⟩ := own_virtual X38 hx hZ36 (W := 0) hown36 (hw _ m85) (hw _ m86) (notFace_of_selects (args := #[]) (mvT hZ36 (hw _ m88))) (hw _ m88) (hw _ m87) (hw _ m46) (hw _ m89) (by decide) (rm6 l Z a0 hw hj w0 w1 w2 w3 w4 w5 w6 w7 w8 w9 w10 w11 w12 w13 w14 w15 w16 w17 hS [] c36_1 c36_3 k36_5 T36.heap n0 O36 q36_7 q36_11) e38' q36_5 (g := (mkF m 146 #[.val (.int i0), .val (.ref b1), .val (.ref w5), .val (.ref c36_0)] [(.ref c36_1)])) rfl (by rw [hml]; rfl) (argsL := []) (rest := []) (lenOf pd111 rfl) rfl rfl (by show 2 * 0 + _ ≤ _; exact Nat.le_of_eq rfl) (hb hby at_146) (by decide) (by decide) (by decide) (by decide)
    obtain ⟨rfl, N39q, e39⟩ := hQ39
    have N39 := Fr.app N38 N39q
    have e39' : T39.heap = T36.heap := e39
    have sf40 := (sf0 : ∀ x ∈ [], Safe Z EL T36.vm T36.heap x)
    obtain ⟨_, T40, L40, hQ40, X40, st40⟩ := own_virtual X39 hx hZ36 (W := 0) hown36 (hw _ m91) (hw _ m92) (notFace_of_selects (args := #[]) (mvT hZ36 (hw _ m94))) (hw _ m94) (hw _ m93) (hw _ m41) (hw _ m95) (by decide) (rm7 l Z a0 hw hj w0 w1 w2 w3 w4 w5 w6 w7 w8 w9 w10 w11 w12 w13 w14 w15 w16 w17 hS [] c36_0 T36.heap n0 O36 q36_3) e39' q36_0 (g := (mkF m 153 #[.val (.int i0), .val (.ref b1), .val (.ref w5), .val (.ref c36_0)] [(.ref c36_0)])) rfl (by rw [hml]; rfl) (argsL := []) (rest := []) (lenOf pd120 rfl) rfl rfl (by show 2 * 0 + _ ≤ _; exact Nat.le_of_eq rfl) (hb hby at_153) (by decide) (by decide) (by decide) (by decide)
    obtain ⟨rfl, N40q, e40⟩ := hQ40
    have N40 := Fr.app N39 N40q
    have e40' : T40.heap = T36.heap := e40
    obtain ⟨T41, X41, e41, st41⟩ := getS2 X40 hx hZ36 hown36 (host := "") (Or.inl (hw _ m96)) Via.refl e40' (hS.1.ext O36.2) (g := (mkF m 156 #[.val (.int i0), .val (.ref b1), .val (.ref w5), .val (.ref c36_0)] [(.ref w0)])) rfl (hb hby at_156)
    have sf42 := (sf0 : ∀ x ∈ [], Safe Z EL T36.vm T36.heap x)
    obtain ⟨_, T42, L42, hQ42, X42, st42⟩ := own_virtual X41 hx hZ36 (W := 0) hown36 (hw _ m97) (hw _ m98) (notFace_of_selects (args := #[]) (mvT hZ36 (hw _ m100))) (hw _ m100) (hw _ m99) (hw _ m41) (hw _ m101) (by decide) (rm8 l Z a0 hw hj w0 w1 w2 w3 w4 w5 w6 w7 w8 w9 w10 w11 w12 w13 w14 w15 w16 w17 hS [] c36_0 c36_2 T36.heap n0 O36 q36_4) e41 q36_0 (g := (mkF m 163 #[.val (.int i0), .val (.ref b1), .val (.ref w5), .val (.ref c36_0)] [(.ref c36_0)])) rfl (by rw [hml]; rfl) (argsL := []) (rest := []) (lenOf pd95 rfl) rfl rfl (by show 2 * 0 + _ ≤ _; exact Nat.le_of_eq rfl) (hb hby at_163) (by decide) (by decide) (by decide) (by decide)
    obtain ⟨rfl, N42q, e42⟩ := hQ42
    have N42 := Fr.app N40 N42q
    have e42' : T42.heap = T36.heap := e42
    have sf43 := (sf0 : ∀ x ∈ [], Safe Z EL T36.vm T36.heap x)
    obtain ⟨_, T43, L43, hQ43, X43, st43⟩ := own_virtual X42 hx hZ36 (W := 0) hown36 (hw _ m85) (hw _ m86) (notFace_of_selects (args := #[]) (mvT hZ36 (hw _ m88))) (hw _ m88) (hw _ m87) (hw _ m46) (hw _ m89) (by decide) (rm6 l Z a0 hw hj w0 w1 w2 w3 w4 w5 w6 w7 w8 w9 w10 w11 w12 w13 w14 w15 w16 w17 hS [] c36_2 c36_4 k36_6 T36.heap n0 O36 q36_10 q36_12) e42' q36_8 (g := (mkF m 166 #[.val (.int i0), .val (.ref b1), .val (.ref w5), .val (.ref c36_0)] [(.ref c36_2)])) rfl (by rw [hml]; rfl) (argsL := []) (rest := []) (lenOf pd111 rfl) rfl rfl (by show 2 * 0 + _ ≤ _; exact Nat.le_of_eq rfl) (hb hby at_166) (by decide) (by decide) (by decide) (by decide)
    obtain ⟨rfl, N43q, e43⟩ := hQ43
    have N43 := Fr.app N42 N43q
    have e43' : T43.heap = T36.heap := e43
    obtain ⟨fs, hr, hrun, hended, hRW⟩ := X43.leaveW hS36 (by rw [e43']; exact (Nat.le_refl _)) (v := some (.int (1 : Int32))) (fun h => by rw [Bd.returns] at h; cases h)
    refine ⟨_, _, pre1 _ ?_, hrun, hended, _, _, rfl, ?_, own_rwm hRW (by decide) (by decide)⟩
    · show Steps p.tables e below (T35.setTop (mkF m 126 #[.val (.int i0), .val (.ref b1), .unset, .unset] [(.int (17 : Int32)), (.int (i0 &&& (2147483647 : Int32))), (.ref b1)])) _
      refine own_irem X35 hx rfl (hb hby at_126) rfl (by decide : ¬ ((17 : Int32) = (0 : Int32))) hp0 ?_
      refine own_aaload X35 hx hZ e35 V35 (j := (13 : Int32)) (by decide) (v := (.ref w5)) rfl rfl (g := (mkF m 127 #[.val (.int i0), .val (.ref b1), .unset, .unset] [(.int (13 : Int32)), (.ref b1)])) rfl rfl (hb hby at_127) ?_
      refine XS.astoreN X35.here hx rfl (hb hby at_128) rfl rfl (l' := #[.val (.int i0), .val (.ref b1), .val (.ref w5), .unset]) rfl ?_
      refine XS.aloadN X35.here hx rfl (hb hby at_129) rfl rfl ?_
      show Steps p.tables e below (T35.setTop (mkF m 130 #[.val (.int i0), .val (.ref b1), .val (.ref w5), .unset] [(.ref w5)])) _
      refine st36 _ ?_
      refine XS.astoreN X36.here hx rfl (hb hby at_133) rfl rfl (l' := #[.val (.int i0), .val (.ref b1), .val (.ref w5), .val (.ref c36_0)]) rfl ?_
      refine XS.aloadN X36.here hx rfl (hb hby at_134) rfl rfl ?_
      refine st37 _ ?_
      show Steps p.tables e below (T37.setTop (mkF m 138 #[.val (.int i0), .val (.ref b1), .val (.ref w5), .val (.ref c36_0)] [(.ref w5)])) _
      refine XS.aloadN X37.here hx rfl (hb hby at_138) rfl rfl ?_
      refine Jvm.RoadKit.acmp (g := (mkF m 139 #[.val (.int i0), .val (.ref b1), .val (.ref w5), .val (.ref c36_0)] [(.ref w5), (.ref w5)])) X37 hx rfl rfl rfl (pc0 := 139) (pc' := 142) (same := true) rfl (hb hby at_139) rfl (decide_eq_true rfl) (by decide) (by decide) ?_
      refine XS.aloadN X37.here hx rfl (hb hby at_142) rfl rfl ?_
      refine st38 _ ?_
      show Steps p.tables e below (T38.setTop (mkF m 146 #[.val (.int i0), .val (.ref b1), .val (.ref w5), .val (.ref c36_0)] [(.ref c36_1)])) _
      refine st39 _ ?_
      refine XS.ifNo X39.here hx rfl (hb hby at_149) rfl ((if0 _ _).trans (feq (by decide : ¬ ((1 : Int32) = (0 : Int32)))).1) ?_
      refine XS.aloadN X39.here hx rfl (hb hby at_152) rfl rfl ?_
      refine st40 _ ?_
      show Steps p.tables e below (T40.setTop (mkF m 156 #[.val (.int i0), .val (.ref b1), .val (.ref w5), .val (.ref c36_0)] [(.ref w0)])) _
      refine st41 _ ?_
      refine Jvm.RoadKit.acmp (g := (mkF m 159 #[.val (.int i0), .val (.ref b1), .val (.ref w5), .val (.ref c36_0)] [(.ref w0), (.ref w0)])) X41 hx rfl rfl rfl (pc0 := 159) (pc' := 162) (same := true) rfl (hb hby at_159) rfl (decide_eq_true rfl) (by decide) (by decide) ?_
      refine XS.aloadN X41.here hx rfl (hb hby at_162) rfl rfl ?_
      refine st42 _ ?_
      show Steps p.tables e below (T42.setTop (mkF m 166 #[.val (.int i0), .val (.ref b1), .val (.ref w5), .val (.ref c36_0)] [(.ref c36_2)])) _
      refine st43 _ ?_
      refine XS.ifNo X43.here hx rfl (hb hby at_169) rfl ((if0 _ _).trans (feq (by decide : ¬ ((1 : Int32) = (0 : Int32)))).1) ?_
      refine XS.iconst X43.here hx rfl (hb hby at_172) ?_
      refine XS.goto X43.here hx rfl (pc0 := 173) (pc' := 177) rfl (hb hby at_173) (by decide) (by decide) ?_
      show Steps p.tables e below (T43.setTop (mkF m 177 #[.val (.int i0), .val (.ref b1), .val (.ref w5), .val (.ref c36_0)] [(.int (1 : Int32))])) _
      exact retN X43 hx (t := .boolean) Bd.returns (by simp) (hb hby at_177) hr
    · show QL n0 _ T43.heap _
      exact ⟨rfl, N43⟩
  · obtain ⟨_, T36, L36, hQ36, hS36, hZ36, hown36, Cq36, X36, st36⟩ := own_callSW X35 hx hZ (W := 0) hown (hw _ m39) (hw _ m40) (hw _ m41) (hw _ m42) (by decide) (rm49 l Z a0 hw hj w0 w1 w2 w3 w4 w5 w6 w7 w8 w9 w10 w11 w12 w13 w14 w15 w16 w17 hS [] h35 n0 O35) e35 hS0 (Nat.le_trans (Nat.le_refl _) (Nat.le_trans (Nat.le_trans (Nat.le_trans (Nat.le_trans (Nat.le_trans (Nat.le_trans (Nat.le_trans (Nat.le_trans (Nat.le_trans (Nat.le_trans (Nat.le_trans (Nat.le_trans (Nat.le_trans (Nat.le_trans (Nat.le_trans (Nat.le_trans (Nat.le_trans E1.1 (Nat.le_of_eq W3.size.symm)) (Nat.le_of_eq W5.size.symm)) (Nat.le_of_eq W7.size.symm)) (Nat.le_of_eq W9.size.symm)) (Nat.le_of_eq W11.size.symm)) (Nat.le_of_eq W13.size.symm)) (Nat.le_of_eq W15.size.symm)) (Nat.le_of_eq W17.size.symm)) (Nat.le_of_eq W19.size.symm)) (Nat.le_of_eq W21.size.symm)) (Nat.le_of_eq W23.size.symm)) (Nat.le_of_eq W25.size.symm)) (Nat.le_of_eq W27.size.symm)) (Nat.le_of_eq W29.size.symm)) (Nat.le_of_eq W31.size.symm)) (Nat.le_of_eq W33.size.symm)) (Nat.le_of_eq W35.size.symm))) (own_EW hw hj) C35.1 own_sx0 (g := (mkF m 130 #[.val (.int i0), .val (.ref b1), .val (.ref w8), .unset] [(.ref w8)])) rfl (by rw [hml]; rfl) (argsL := [(.ref w8)]) (rest := []) (lenOf pd78 rfl) rfl rfl (by show 2 * 0 + _ ≤ _; exact Nat.le_of_eq rfl) (hb hby at_130) (by decide) (by decide) (by decide) (by decide)
    obtain ⟨c36_0, c36_1, c36_2, c36_3, c36_4, k36_5, k36_6, rfl, N36q, Kq36, lo36_0, q36_0, q36_1, q36_2, q36_3, q36_4, q36_5, q36_6, q36_7, q36_8, q36_9, q36_10, q36_11, q36_12⟩ := hQ36
    have N36 := Fr.app N35 N36q
    have C36 := C35.trans Cq36
    have O36 : Old Z n0 T36.heap := O35.keep Kq36 all0
    have K36 : Keep h0 T36.heap [] := K35.trans Kq36 all0
    have sf37 := (sf0 : ∀ x ∈ [], Safe Z EL T36.vm T36.heap x)
    obtain ⟨_, T37, L37, hQ37, X37, st37⟩ := own_virtual X36 hx hZ36 (W := 0) hown36 (hw _ m75) (hw _ m76) (notFace_of_selects (args := #[]) (mvT hZ36 (hw _ m78))) (hw _ m78) (hw _ m77) (hw _ m41) (hw _ m79) (by decide) (rm50 l Z a0 hw hj w0 w1 w2 w3 w4 w5 w6 w7 w8 w9 w10 w11 w12 w13 w14 w15 w16 w17 hS [] c36_0 T36.heap n0 O36 q36_1) (rfl : T36.heap = T36.heap) q36_0 (g := (mkF m 135 #[.val (.int i0), .val (.ref b1), .val (.ref w8), .val (.ref c36_0)] [(.ref c36_0)])) rfl (by rw [hml]; rfl) (argsL := []) (rest := []) (lenOf pd86 rfl) rfl rfl (by show 2 * 0 + _ ≤ _; exact Nat.le_of_eq rfl) (hb hby at_135) (by decide) (by decide) (by decide) (by decide)
    obtain ⟨rfl, N37q, e37⟩ := hQ37
    have N37 := Fr.app N36 N37q
    have e37' : T37.heap = T36.heap := e37
    have sf38 := (sf0 : ∀ x ∈ [], Safe Z EL T36.vm T36.heap x)
    obtain ⟨_, T38, L38, hQ38, X38, st38⟩ := own_virtual X37 hx hZ36 (W := 0) hown36 (hw _ m80) (hw _ m81) (notFace_of_selects (args := #[]) (mvT hZ36 (hw _ m83))) (hw _ m83) (hw _ m82) (hw _ m41) (hw _ m84) (by decide) (rm5 l Z a0 hw hj w0 w1 w2 w3 w4 w5 w6 w7 w8 w9 w10 w11 w12 w13 w14 w15 w16 w17 hS [] c36_0 c36_1 T36.heap n0 O36 q36_2) e37' q36_0 (g := (mkF m 143 #[.val (.int i0), .val (.ref b1), .val (.ref w8), .val (.ref c36_0)] [(.ref c36_0)])) rfl (by rw [hml]; rfl) (argsL := []) (rest := []) (lenOf pd95 rfl) rfl rfl (by show 2 * 0 + _ ≤ _; exact Nat.le_of_eq rfl) (hb hby at_143) (by decide) (by decide) (by decide) (by decide)
    obtain ⟨rfl, N38q, e38⟩ := hQ38
    have N38 := Fr.app N37 N38q
    have e38' : T38.heap = T36.heap := e38
    have sf39 := (sf0 : ∀ x ∈ [], Safe Z EL T36.vm T36.heap x)
    obtain ⟨_, T39, L39, hQ39, X39, st39⟩ := own_virtual X38 hx hZ36 (W := 0) hown36 (hw _ m85) (hw _ m86) (notFace_of_selects (args := #[]) (mvT hZ36 (hw _ m88))) (hw _ m88) (hw _ m87) (hw _ m46) (hw _ m89) (by decide) (rm6 l Z a0 hw hj w0 w1 w2 w3 w4 w5 w6 w7 w8 w9 w10 w11 w12 w13 w14 w15 w16 w17 hS [] c36_1 c36_3 k36_5 T36.heap n0 O36 q36_7 q36_11) e38' q36_5 (g := (mkF m 146 #[.val (.int i0), .val (.ref b1), .val (.ref w8), .val (.ref c36_0)] [(.ref c36_1)])) rfl (by rw [hml]; rfl) (argsL := []) (rest := []) (lenOf pd111 rfl) rfl rfl (by show 2 * 0 + _ ≤ _; exact Nat.le_of_eq rfl) (hb hby at_146) (by decide) (by decide) (by decide) (by decide)
    obtain ⟨rfl, N39q, e39⟩ := hQ39
    have N39 := Fr.app N38 N39q
    have e39' : T39.heap = T36.heap := e39
    have sf40 := (sf0 : ∀ x ∈ [], Safe Z EL T36.vm T36.heap x)
    obtain ⟨_, T40, L40, hQ40, X40, st40⟩ := own_virtual X39 hx hZ36 (W := 0) hown36 (hw _ m91) (hw _ m92) (notFace_of_selects (args := #[]) (mvT hZ36 (hw _ m94))) (hw _ m94) (hw _ m93) (hw _ m41) (hw _ m95) (by decide) (rm7 l Z a0 hw hj w0 w1 w2 w3 w4 w5 w6 w7 w8 w9 w10 w11 w12 w13 w14 w15 w16 w17 hS [] c36_0 T36.heap n0 O36 q36_3) e39' q36_0 (g := (mkF m 153 #[.val (.int i0), .val (.ref b1), .val (.ref w8), .val (.ref c36_0)] [(.ref c36_0)])) rfl (by rw [hml]; rfl) (argsL := []) (rest := []) (lenOf pd120 rfl) rfl rfl (by show 2 * 0 + _ ≤ _; exact Nat.le_of_eq rfl) (hb hby at_153) (by decide) (by decide) (by decide) (by decide)
    obtain ⟨rfl, N40q, e40⟩ := hQ40
    have N40 := Fr.app N39 N40q
    have e40' : T40.heap = T36.heap := e40
    obtain ⟨T41, X41, e41, st41⟩ := getS2 X40 hx hZ36 hown36 (host := "") (Or.inl (hw _ m96)) Via.refl e40' (hS.1.ext O36.2) (g := (mkF m 156 #[.val (.int i0), .val (.ref b1), .val (.ref w8), .val (.ref c36_0)] [(.ref w0)])) rfl (hb hby at_156)
    have sf42 := (sf0 : ∀ x ∈ [], Safe Z EL T36.vm T36.heap x)
    obtain ⟨_, T42, L42, hQ42, X42, st42⟩ := own_virtual X41 hx hZ36 (W := 0) hown36 (hw _ m97) (hw _ m98) (notFace_of_selects (args := #[]) (mvT hZ36 (hw _ m100))) (hw _ m100) (hw _ m99) (hw _ m41) (hw _ m101) (by decide) (rm8 l Z a0 hw hj w0 w1 w2 w3 w4 w5 w6 w7 w8 w9 w10 w11 w12 w13 w14 w15 w16 w17 hS [] c36_0 c36_2 T36.heap n0 O36 q36_4) e41 q36_0 (g := (mkF m 163 #[.val (.int i0), .val (.ref b1), .val (.ref w8), .val (.ref c36_0)] [(.ref c36_0)])) rfl (by rw [hml]; rfl) (argsL := []) (rest := []) (lenOf pd95 rfl) rfl rfl (by show 2 * 0 + _ ≤ _; exact Nat.le_of_eq rfl) (hb hby at_163) (by decide) (by decide) (by decide) (by decide)
    obtain ⟨rfl, N42q, e42⟩ := hQ42
    have N42 := Fr.app N40 N42q
    have e42' : T42.heap = T36.heap := e42
    have sf43 := (sf0 : ∀ x ∈ [], Safe Z EL T36.vm T36.heap x)
    obtain ⟨_, T43, L43, hQ43, X43, st43⟩ := own_virtual X42 hx hZ36 (W := 0) hown36 (hw _ m85) (hw _ m86) (notFace_of_selects (args := #[]) (mvT hZ36 (hw _ m88))) (hw _ m88) (hw _ m87) (hw _ m46) (hw _ m89) (by decide) (rm6 l Z a0 hw hj w0 w1 w2 w3 w4 w5 w6 w7 w8 w9 w10 w11 w12 w13 w14 w15 w16 w17 hS [] c36_2 c36_4 k36_6 T36.heap n0 O36 q36_10 q36_12) e42' q36_8 (g := (mkF m 166 #[.val (.int i0), .val (.ref b1), .val (.ref w8), .val (.ref c36_0)] [(.ref c36_2)])) rfl (by rw [hml]; rfl) (argsL := []) (rest := []) (lenOf pd111 rfl) rfl rfl (by show 2 * 0 + _ ≤ _; exact Nat.le_of_eq rfl) (hb hby at_166) (by decide) (by decide) (by decide) (by decide)
    obtain ⟨rfl, N43q, e43⟩ := hQ43
    have N43 := Fr.app N42 N43q
    have e43' : T43.heap = T36.heap := e43
    obtain ⟨fs, hr, hrun, hended, hRW⟩ := X43.leaveW hS36 (by rw [e43']; exact (Nat.le_refl _)) (v := some (.int (1 : Int32))) (fun h => by rw [Bd.returns] at h; cases h)
    refine ⟨_, _, pre1 _ ?_, hrun, hended, _, _, rfl, ?_, own_rwm hRW (by decide) (by decide)⟩
    · show Steps p.tables e below (T35.setTop (mkF m 126 #[.val (.int i0), .val (.ref b1), .unset, .unset] [(.int (17 : Int32)), (.int (i0 &&& (2147483647 : Int32))), (.ref b1)])) _
      refine own_irem X35 hx rfl (hb hby at_126) rfl (by decide : ¬ ((17 : Int32) = (0 : Int32))) hp0 ?_
      refine own_aaload X35 hx hZ e35 V35 (j := (14 : Int32)) (by decide) (v := (.ref w8)) rfl rfl (g := (mkF m 127 #[.val (.int i0), .val (.ref b1), .unset, .unset] [(.int (14 : Int32)), (.ref b1)])) rfl rfl (hb hby at_127) ?_
      refine XS.astoreN X35.here hx rfl (hb hby at_128) rfl rfl (l' := #[.val (.int i0), .val (.ref b1), .val (.ref w8), .unset]) rfl ?_
      refine XS.aloadN X35.here hx rfl (hb hby at_129) rfl rfl ?_
      show Steps p.tables e below (T35.setTop (mkF m 130 #[.val (.int i0), .val (.ref b1), .val (.ref w8), .unset] [(.ref w8)])) _
      refine st36 _ ?_
      refine XS.astoreN X36.here hx rfl (hb hby at_133) rfl rfl (l' := #[.val (.int i0), .val (.ref b1), .val (.ref w8), .val (.ref c36_0)]) rfl ?_
      refine XS.aloadN X36.here hx rfl (hb hby at_134) rfl rfl ?_
      refine st37 _ ?_
      show Steps p.tables e below (T37.setTop (mkF m 138 #[.val (.int i0), .val (.ref b1), .val (.ref w8), .val (.ref c36_0)] [(.ref w8)])) _
      refine XS.aloadN X37.here hx rfl (hb hby at_138) rfl rfl ?_
      refine Jvm.RoadKit.acmp (g := (mkF m 139 #[.val (.int i0), .val (.ref b1), .val (.ref w8), .val (.ref c36_0)] [(.ref w8), (.ref w8)])) X37 hx rfl rfl rfl (pc0 := 139) (pc' := 142) (same := true) rfl (hb hby at_139) rfl (decide_eq_true rfl) (by decide) (by decide) ?_
      refine XS.aloadN X37.here hx rfl (hb hby at_142) rfl rfl ?_
      refine st38 _ ?_
      show Steps p.tables e below (T38.setTop (mkF m 146 #[.val (.int i0), .val (.ref b1), .val (.ref w8), .val (.ref c36_0)] [(.ref c36_1)])) _
      refine st39 _ ?_
      refine XS.ifNo X39.here hx rfl (hb hby at_149) rfl ((if0 _ _).trans (feq (by decide : ¬ ((1 : Int32) = (0 : Int32)))).1) ?_
      refine XS.aloadN X39.here hx rfl (hb hby at_152) rfl rfl ?_
      refine st40 _ ?_
      show Steps p.tables e below (T40.setTop (mkF m 156 #[.val (.int i0), .val (.ref b1), .val (.ref w8), .val (.ref c36_0)] [(.ref w0)])) _
      refine st41 _ ?_
      refine Jvm.RoadKit.acmp (g := (mkF m 159 #[.val (.int i0), .val (.ref b1), .val (.ref w8), .val (.ref c36_0)] [(.ref w0), (.ref w0)])) X41 hx rfl rfl rfl (pc0 := 159) (pc' := 162) (same := true) rfl (hb hby at_159) rfl (decide_eq_true rfl) (by decide) (by decide) ?_
      refine XS.aloadN X41.here hx rfl (hb hby at_162) rfl rfl ?_
      refine st42 _ ?_
      show Steps p.tables e below (T42.setTop (mkF m 166 #[.val (.int i0), .val (.ref b1), .val (.ref w8), .val (.ref c36_0)] [(.ref c36_2)])) _
      refine st43 _ ?_
      refine XS.ifNo X43.here hx rfl (hb hby at_169) rfl ((if0 _ _).trans (feq (by decide : ¬ ((1 : Int32) = (0 : Int32)))).1) ?_
      refine XS.iconst X43.here hx rfl (hb hby at_172) ?_
      refine XS.goto X43.here hx rfl (pc0 := 173) (pc' := 177) rfl (hb hby at_173) (by decide) (by decide) ?_
      show Steps p.tables e below (T43.setTop (mkF m 177 #[.val (.int i0), .val (.ref b1), .val (.ref w8), .val (.ref c36_0)] [(.int (1 : Int32))])) _
      exact retN X43 hx (t := .boolean) Bd.returns (by simp) (hb hby at_177) hr
    · show QL n0 _ T43.heap _
      exact ⟨rfl, N43⟩
  · obtain ⟨_, T36, L36, hQ36, hS36, hZ36, hown36, Cq36, X36, st36⟩ := own_callSW X35 hx hZ (W := 0) hown (hw _ m39) (hw _ m40) (hw _ m41) (hw _ m42) (by decide) (rm52 l Z a0 hw hj w0 w1 w2 w3 w4 w5 w6 w7 w8 w9 w10 w11 w12 w13 w14 w15 w16 w17 hS [] h35 n0 O35) e35 hS0 (Nat.le_trans (Nat.le_refl _) (Nat.le_trans (Nat.le_trans (Nat.le_trans (Nat.le_trans (Nat.le_trans (Nat.le_trans (Nat.le_trans (Nat.le_trans (Nat.le_trans (Nat.le_trans (Nat.le_trans (Nat.le_trans (Nat.le_trans (Nat.le_trans (Nat.le_trans (Nat.le_trans (Nat.le_trans E1.1 (Nat.le_of_eq W3.size.symm)) (Nat.le_of_eq W5.size.symm)) (Nat.le_of_eq W7.size.symm)) (Nat.le_of_eq W9.size.symm)) (Nat.le_of_eq W11.size.symm)) (Nat.le_of_eq W13.size.symm)) (Nat.le_of_eq W15.size.symm)) (Nat.le_of_eq W17.size.symm)) (Nat.le_of_eq W19.size.symm)) (Nat.le_of_eq W21.size.symm)) (Nat.le_of_eq W23.size.symm)) (Nat.le_of_eq W25.size.symm)) (Nat.le_of_eq W27.size.symm)) (Nat.le_of_eq W29.size.symm)) (Nat.le_of_eq W31.size.symm)) (Nat.le_of_eq W33.size.symm)) (Nat.le_of_eq W35.size.symm))) (own_EW hw hj) C35.1 own_sx0 (g := (mkF m 130 #[.val (.int i0), .val (.ref b1), .val (.ref w3), .unset] [(.ref w3)])) rfl (by rw [hml]; rfl) (argsL := [(.ref w3)]) (rest := []) (lenOf pd78 rfl) rfl rfl (by show 2 * 0 + _ ≤ _; exact Nat.le_of_eq rfl) (hb hby at_130) (by decide) (by decide) (by decide) (by decide)
    obtain ⟨c36_0, c36_1, c36_2, c36_3, c36_4, k36_5, k36_6, rfl, N36q, Kq36, lo36_0, q36_0, q36_1, q36_2, q36_3, q36_4, q36_5, q36_6, q36_7, q36_8, q36_9, q36_10, q36_11, q36_12⟩ := hQ36
    have N36 := Fr.app N35 N36q
    have C36 := C35.trans Cq36
    have O36 : Old Z n0 T36.heap := O35.keep Kq36 all0
    have K36 : Keep h0 T36.heap [] := K35.trans Kq36 all0
    have sf37 := (sf0 : ∀ x ∈ [], Safe Z EL T36.vm T36.heap x)
    obtain ⟨_, T37, L37, hQ37, X37, st37⟩ := own_virtual X36 hx hZ36 (W := 0) hown36 (hw _ m75) (hw _ m76) (notFace_of_selects (args := #[]) (mvT hZ36 (hw _ m78))) (hw _ m78) (hw _ m77) (hw _ m41) (hw _ m79) (by decide) (rm53 l Z a0 hw hj w0 w1 w2 w3 w4 w5 w6 w7 w8 w9 w10 w11 w12 w13 w14 w15 w16 w17 hS [] c36_0 T36.heap n0 O36 q36_1) (rfl : T36.heap = T36.heap) q36_0 (g := (mkF m 135 #[.val (.int i0), .val (.ref b1), .val (.ref w3), .val (.ref c36_0)] [(.ref c36_0)])) rfl (by rw [hml]; rfl) (argsL := []) (rest := []) (lenOf pd86 rfl) rfl rfl (by show 2 * 0 + _ ≤ _; exact Nat.le_of_eq rfl) (hb hby at_135) (by decide) (by decide) (by decide) (by decide)
    obtain ⟨rfl, N37q, e37⟩ := hQ37
    have N37 := Fr.app N36 N37q
    have e37' : T37.heap = T36.heap := e37
    have sf38 := (sf0 : ∀ x ∈ [], Safe Z EL T36.vm T36.heap x)
    obtain ⟨_, T38, L38, hQ38, X38, st38⟩ := own_virtual X37 hx hZ36 (W := 0) hown36 (hw _ m80) (hw _ m81) (notFace_of_selects (args := #[]) (mvT hZ36 (hw _ m83))) (hw _ m83) (hw _ m82) (hw _ m41) (hw _ m84) (by decide) (rm5 l Z a0 hw hj w0 w1 w2 w3 w4 w5 w6 w7 w8 w9 w10 w11 w12 w13 w14 w15 w16 w17 hS [] c36_0 c36_1 T36.heap n0 O36 q36_2) e37' q36_0 (g := (mkF m 143 #[.val (.int i0), .val (.ref b1), .val (.ref w3), .val (.ref c36_0)] [(.ref c36_0)])) rfl (by rw [hml]; rfl) (argsL := []) (rest := []) (lenOf pd95 rfl) rfl rfl (by show 2 * 0 + _ ≤ _; exact Nat.le_of_eq rfl) (hb hby at_143) (by decide) (by decide) (by decide) (by decide)
    obtain ⟨rfl, N38q, e38⟩ := hQ38
    have N38 := Fr.app N37 N38q
    have e38' : T38.heap = T36.heap := e38
    have sf39 := (sf0 : ∀ x ∈ [], Safe Z EL T36.vm T36.heap x)
    obtain ⟨_, T39, L39, hQ39, X39, st39⟩ := own_virtual X38 hx hZ36 (W := 0) hown36 (hw _ m85) (hw _ m86) (notFace_of_selects (args := #[]) (mvT hZ36 (hw _ m88))) (hw _ m88) (hw _ m87) (hw _ m46) (hw _ m89) (by decide) (rm6 l Z a0 hw hj w0 w1 w2 w3 w4 w5 w6 w7 w8 w9 w10 w11 w12 w13 w14 w15 w16 w17 hS [] c36_1 c36_3 k36_5 T36.heap n0 O36 q36_7 q36_11) e38' q36_5 (g := (mkF m 146 #[.val (.int i0), .val (.ref b1), .val (.ref w3), .val (.ref c36_0)] [(.ref c36_1)])) rfl (by rw [hml]; rfl) (argsL := []) (rest := []) (lenOf pd111 rfl) rfl rfl (by show 2 * 0 + _ ≤ _; exact Nat.le_of_eq rfl) (hb hby at_146) (by decide) (by decide) (by decide) (by decide)
    obtain ⟨rfl, N39q, e39⟩ := hQ39
    have N39 := Fr.app N38 N39q
    have e39' : T39.heap = T36.heap := e39
    have sf40 := (sf0 : ∀ x ∈ [], Safe Z EL T36.vm T36.heap x)
    obtain ⟨_, T40, L40, hQ40, X40, st40⟩ := own_virtual X39 hx hZ36 (W := 0) hown36 (hw _ m91) (hw _ m92) (notFace_of_selects (args := #[]) (mvT hZ36 (hw _ m94))) (hw _ m94) (hw _ m93) (hw _ m41) (hw _ m95) (by decide) (rm7 l Z a0 hw hj w0 w1 w2 w3 w4 w5 w6 w7 w8 w9 w10 w11 w12 w13 w14 w15 w16 w17 hS [] c36_0 T36.heap n0 O36 q36_3) e39' q36_0 (g := (mkF m 153 #[.val (.int i0), .val (.ref b1), .val (.ref w3), .val (.ref c36_0)] [(.ref c36_0)])) rfl (by rw [hml]; rfl) (argsL := []) (rest := []) (lenOf pd120 rfl) rfl rfl (by show 2 * 0 + _ ≤ _; exact Nat.le_of_eq rfl) (hb hby at_153) (by decide) (by decide) (by decide) (by decide)
    obtain ⟨rfl, N40q, e40⟩ := hQ40
    have N40 := Fr.app N39 N40q
    have e40' : T40.heap = T36.heap := e40
    obtain ⟨T41, X41, e41, st41⟩ := getS2 X40 hx hZ36 hown36 (host := "") (Or.inl (hw _ m96)) Via.refl e40' (hS.1.ext O36.2) (g := (mkF m 156 #[.val (.int i0), .val (.ref b1), .val (.ref w3), .val (.ref c36_0)] [(.ref w0)])) rfl (hb hby at_156)
    have sf42 := (sf0 : ∀ x ∈ [], Safe Z EL T36.vm T36.heap x)
    obtain ⟨_, T42, L42, hQ42, X42, st42⟩ := own_virtual X41 hx hZ36 (W := 0) hown36 (hw _ m97) (hw _ m98) (notFace_of_selects (args := #[]) (mvT hZ36 (hw _ m100))) (hw _ m100) (hw _ m99) (hw _ m41) (hw _ m101) (by decide) (rm8 l Z a0 hw hj w0 w1 w2 w3 w4 w5 w6 w7 w8 w9 w10 w11 w12 w13 w14 w15 w16 w17 hS [] c36_0 c36_2 T36.heap n0 O36 q36_4) e41 q36_0 (g := (mkF m 163 #[.val (.int i0), .val (.ref b1), .val (.ref w3), .val (.ref c36_0)] [(.ref c36_0)])) rfl (by rw [hml]; rfl) (argsL := []) (rest := []) (lenOf pd95 rfl) rfl rfl (by show 2 * 0 + _ ≤ _; exact Nat.le_of_eq rfl) (hb hby at_163) (by decide) (by decide) (by decide) (by decide)
    obtain ⟨rfl, N42q, e42⟩ := hQ42
    have N42 := Fr.app N40 N42q
    have e42' : T42.heap = T36.heap := e42
    have sf43 := (sf0 : ∀ x ∈ [], Safe Z EL T36.vm T36.heap x)
    obtain ⟨_, T43, L43, hQ43, X43, st43⟩ := own_virtual X42 hx hZ36 (W := 0) hown36 (hw _ m85) (hw _ m86) (notFace_of_selects (args := #[]) (mvT hZ36 (hw _ m88))) (hw _ m88) (hw _ m87) (hw _ m46) (hw _ m89) (by decide) (rm6 l Z a0 hw hj w0 w1 w2 w3 w4 w5 w6 w7 w8 w9 w10 w11 w12 w13 w14 w15 w16 w17 hS [] c36_2 c36_4 k36_6 T36.heap n0 O36 q36_10 q36_12) e42' q36_8 (g := (mkF m 166 #[.val (.int i0), .val (.ref b1), .val (.ref w3), .val (.ref c36_0)] [(.ref c36_2)])) rfl (by rw [hml]; rfl) (argsL := []) (rest := []) (lenOf pd111 rfl) rfl rfl (by show 2 * 0 + _ ≤ _; exact Nat.le_of_eq rfl) (hb hby at_166) (by decide) (by decide) (by decide) (by decide)
    obtain ⟨rfl, N43q, e43⟩ := hQ43
    have N43 := Fr.app N42 N43q
    have e43' : T43.heap = T36.heap := e43
    obtain ⟨fs, hr, hrun, hended, hRW⟩ := X43.leaveW hS36 (by rw [e43']; exact (Nat.le_refl _)) (v := some (.int (1 : Int32))) (fun h => by rw [Bd.returns] at h; cases h)
    refine ⟨_, _, pre1 _ ?_, hrun, hended, _, _, rfl, ?_, own_rwm hRW (by decide) (by decide)⟩
    · show Steps p.tables e below (T35.setTop (mkF m 126 #[.val (.int i0), .val (.ref b1), .unset, .unset] [(.int (17 : Int32)), (.int (i0 &&& (2147483647 : Int32))), (.ref b1)])) _
      refine own_irem X35 hx rfl (hb hby at_126) rfl (by decide : ¬ ((17 : Int32) = (0 : Int32))) hp0 ?_
      refine own_aaload X35 hx hZ e35 V35 (j := (15 : Int32)) (by decide) (v := (.ref w3)) rfl rfl (g := (mkF m 127 #[.val (.int i0), .val (.ref b1), .unset, .unset] [(.int (15 : Int32)), (.ref b1)])) rfl rfl (hb hby at_127) ?_
      refine XS.astoreN X35.here hx rfl (hb hby at_128) rfl rfl (l' := #[.val (.int i0), .val (.ref b1), .val (.ref w3), .unset]) rfl ?_
      refine XS.aloadN X35.here hx rfl (hb hby at_129) rfl rfl ?_
      show Steps p.tables e below (T35.setTop (mkF m 130 #[.val (.int i0), .val (.ref b1), .val (.ref w3), .unset] [(.ref w3)])) _
      refine st36 _ ?_
      refine XS.astoreN X36.here hx rfl (hb hby at_133) rfl rfl (l' := #[.val (.int i0), .val (.ref b1), .val (.ref w3), .val (.ref c36_0)]) rfl ?_
      refine XS.aloadN X36.here hx rfl (hb hby at_134) rfl rfl ?_
      refine st37 _ ?_
      show Steps p.tables e below (T37.setTop (mkF m 138 #[.val (.int i0), .val (.ref b1), .val (.ref w3), .val (.ref c36_0)] [(.ref w3)])) _
      refine XS.aloadN X37.here hx rfl (hb hby at_138) rfl rfl ?_
      refine Jvm.RoadKit.acmp (g := (mkF m 139 #[.val (.int i0), .val (.ref b1), .val (.ref w3), .val (.ref c36_0)] [(.ref w3), (.ref w3)])) X37 hx rfl rfl rfl (pc0 := 139) (pc' := 142) (same := true) rfl (hb hby at_139) rfl (decide_eq_true rfl) (by decide) (by decide) ?_
      refine XS.aloadN X37.here hx rfl (hb hby at_142) rfl rfl ?_
      refine st38 _ ?_
      show Steps p.tables e below (T38.setTop (mkF m 146 #[.val (.int i0), .val (.ref b1), .val (.ref w3), .val (.ref c36_0)] [(.ref c36_1)])) _
      refine st39 _ ?_
      refine XS.ifNo X39.here hx rfl (hb hby at_149) rfl ((if0 _ _).trans (feq (by decide : ¬ ((1 : Int32) = (0 : Int32)))).1) ?_
      refine XS.aloadN X39.here hx rfl (hb hby at_152) rfl rfl ?_
      refine st40 _ ?_
      show Steps p.tables e below (T40.setTop (mkF m 156 #[.val (.int i0), .val (.ref b1), .val (.ref w3), .val (.ref c36_0)] [(.ref w0)])) _
      refine st41 _ ?_
      refine Jvm.RoadKit.acmp (g := (mkF m 159 #[.val (.int i0), .val (.ref b1), .val (.ref w3), .val (.ref c36_0)] [(.ref w0), (.ref w0)])) X41 hx rfl rfl rfl (pc0 := 159) (pc' := 162) (same := true) rfl (hb hby at_159) rfl (decide_eq_true rfl) (by decide) (by decide) ?_
      refine XS.aloadN X41.here hx rfl (hb hby at_162) rfl rfl ?_
      refine st42 _ ?_
      show Steps p.tables e below (T42.setTop (mkF m 166 #[.val (.int i0), .val (.ref b1), .val (.ref w3), .val (.ref c36_0)] [(.ref c36_2)])) _
      refine st43 _ ?_
      refine XS.ifNo X43.here hx rfl (hb hby at_169) rfl ((if0 _ _).trans (feq (by decide : ¬ ((1 : Int32) = (0 : Int32)))).1) ?_
      refine XS.iconst X43.here hx rfl (hb hby at_172) ?_
      refine XS.goto X43.here hx rfl (pc0 := 173) (pc' := 177) rfl (hb hby at_173) (by decide) (by decide) ?_
      show Steps p.tables e below (T43.setTop (mkF m 177 #[.val (.int i0), .val (.ref b1), .val (.ref w3), .val (.ref c36_0)] [(.int (1 : Int32))])) _
      exact retN X43 hx (t := .boolean) Bd.returns (by simp) (hb hby at_177) hr
    · show QL n0 _ T43.heap _
      exact ⟨rfl, N43⟩
  · obtain ⟨_, T36, L36, hQ36, hS36, hZ36, hown36, Cq36, X36, st36⟩ := own_callSW X35 hx hZ (W := 0) hown (hw _ m39) (hw _ m40) (hw _ m41) (hw _ m42) (by decide) (rm55 l Z a0 hw hj w0 w1 w2 w3 w4 w5 w6 w7 w8 w9 w10 w11 w12 w13 w14 w15 w16 w17 hS [] h35 n0 O35) e35 hS0 (Nat.le_trans (Nat.le_refl _) (Nat.le_trans (Nat.le_trans (Nat.le_trans (Nat.le_trans (Nat.le_trans (Nat.le_trans (Nat.le_trans (Nat.le_trans (Nat.le_trans (Nat.le_trans (Nat.le_trans (Nat.le_trans (Nat.le_trans (Nat.le_trans (Nat.le_trans (Nat.le_trans (Nat.le_trans E1.1 (Nat.le_of_eq W3.size.symm)) (Nat.le_of_eq W5.size.symm)) (Nat.le_of_eq W7.size.symm)) (Nat.le_of_eq W9.size.symm)) (Nat.le_of_eq W11.size.symm)) (Nat.le_of_eq W13.size.symm)) (Nat.le_of_eq W15.size.symm)) (Nat.le_of_eq W17.size.symm)) (Nat.le_of_eq W19.size.symm)) (Nat.le_of_eq W21.size.symm)) (Nat.le_of_eq W23.size.symm)) (Nat.le_of_eq W25.size.symm)) (Nat.le_of_eq W27.size.symm)) (Nat.le_of_eq W29.size.symm)) (Nat.le_of_eq W31.size.symm)) (Nat.le_of_eq W33.size.symm)) (Nat.le_of_eq W35.size.symm))) (own_EW hw hj) C35.1 own_sx0 (g := (mkF m 130 #[.val (.int i0), .val (.ref b1), .val (.ref w17), .unset] [(.ref w17)])) rfl (by rw [hml]; rfl) (argsL := [(.ref w17)]) (rest := []) (lenOf pd78 rfl) rfl rfl (by show 2 * 0 + _ ≤ _; exact Nat.le_of_eq rfl) (hb hby at_130) (by decide) (by decide) (by decide) (by decide)
    obtain ⟨c36_0, c36_1, c36_2, c36_3, c36_4, k36_5, k36_6, rfl, N36q, Kq36, lo36_0, q36_0, q36_1, q36_2, q36_3, q36_4, q36_5, q36_6, q36_7, q36_8, q36_9, q36_10, q36_11, q36_12⟩ := hQ36
    have N36 := Fr.app N35 N36q
    have C36 := C35.trans Cq36
    have O36 : Old Z n0 T36.heap := O35.keep Kq36 all0
    have K36 : Keep h0 T36.heap [] := K35.trans Kq36 all0
    have sf37 := (sf0 : ∀ x ∈ [], Safe Z EL T36.vm T36.heap x)
    obtain ⟨_, T37, L37, hQ37, X37, st37⟩ := own_virtual X36 hx hZ36 (W := 0) hown36 (hw _ m75) (hw _ m76) (notFace_of_selects (args := #[]) (mvT hZ36 (hw _ m78))) (hw _ m78) (hw _ m77) (hw _ m41) (hw _ m79) (by decide) (rm56 l Z a0 hw hj w0 w1 w2 w3 w4 w5 w6 w7 w8 w9 w10 w11 w12 w13 w14 w15 w16 w17 hS [] c36_0 T36.heap n0 O36 q36_1) (rfl : T36.heap = T36.heap) q36_0 (g := (mkF m 135 #[.val (.int i0), .val (.ref b1), .val (.ref w17), .val (.ref c36_0)] [(.ref c36_0)])) rfl (by rw [hml]; rfl) (argsL := []) (rest := []) (lenOf pd86 rfl) rfl rfl (by show 2 * 0 + _ ≤ _; exact Nat.le_of_eq rfl) (hb hby at_135) (by decide) (by decide) (by decide) (by decide)
    obtain ⟨rfl, N37q, e37⟩ := hQ37
    have N37 := Fr.app N36 N37q
    have e37' : T37.heap = T36.heap := e37
    have sf38 := (sf0 : ∀ x ∈ [], Safe Z EL T36.vm T36.heap x)
    obtain ⟨_, T38, L38, hQ38, X38, st38⟩ := own_virtual X37 hx hZ36 (W := 0) hown36 (hw _ m80) (hw _ m81) (notFace_of_selects (args := #[]) (mvT hZ36 (hw _ m83))) (hw _ m83) (hw _ m82) (hw _ m41) (hw _ m84) (by decide) (rm5 l Z a0 hw hj w0 w1 w2 w3 w4 w5 w6 w7 w8 w9 w10 w11 w12 w13 w14 w15 w16 w17 hS [] c36_0 c36_1 T36.heap n0 O36 q36_2) e37' q36_0 (g := (mkF m 143 #[.val (.int i0), .val (.ref b1), .val (.ref w17), .val (.ref c36_0)] [(.ref c36_0)])) rfl (by rw [hml]; rfl) (argsL := []) (rest := []) (lenOf pd95 rfl) rfl rfl (by show 2 * 0 + _ ≤ _; exact Nat.le_of_eq rfl) (hb hby at_143) (by decide) (by decide) (by decide) (by decide)
    obtain ⟨rfl, N38q, e38⟩ := hQ38
    have N38 := Fr.app N37 N38q
    have e38' : T38.heap = T36.heap := e38
    have sf39 := (sf0 : ∀ x ∈ [], Safe Z EL T36.vm T36.heap x)
    obtain ⟨_, T39, L39, hQ39, X39, st39⟩ := own_virtual X38 hx hZ36 (W := 0) hown36 (hw _ m85) (hw _ m86) (notFace_of_selects (args := #[]) (mvT hZ36 (hw _ m88))) (hw _ m88) (hw _ m87) (hw _ m46) (hw _ m89) (by decide) (rm6 l Z a0 hw hj w0 w1 w2 w3 w4 w5 w6 w7 w8 w9 w10 w11 w12 w13 w14 w15 w16 w17 hS [] c36_1 c36_3 k36_5 T36.heap n0 O36 q36_7 q36_11) e38' q36_5 (g := (mkF m 146 #[.val (.int i0), .val (.ref b1), .val (.ref w17), .val (.ref c36_0)] [(.ref c36_1)])) rfl (by rw [hml]; rfl) (argsL := []) (rest := []) (lenOf pd111 rfl) rfl rfl (by show 2 * 0 + _ ≤ _; exact Nat.le_of_eq rfl) (hb hby at_146) (by decide) (by decide) (by decide) (by decide)
    obtain ⟨rfl, N39q, e39⟩ := hQ39
    have N39 := Fr.app N38 N39q
    have e39' : T39.heap = T36.heap := e39
    have sf40 := (sf0 : ∀ x ∈ [], Safe Z EL T36.vm T36.heap x)
    obtain ⟨_, T40, L40, hQ40, X40, st40⟩ := own_virtual X39 hx hZ36 (W := 0) hown36 (hw _ m91) (hw _ m92) (notFace_of_selects (args := #[]) (mvT hZ36 (hw _ m94))) (hw _ m94) (hw _ m93) (hw _ m41) (hw _ m95) (by decide) (rm7 l Z a0 hw hj w0 w1 w2 w3 w4 w5 w6 w7 w8 w9 w10 w11 w12 w13 w14 w15 w16 w17 hS [] c36_0 T36.heap n0 O36 q36_3) e39' q36_0 (g := (mkF m 153 #[.val (.int i0), .val (.ref b1), .val (.ref w17), .val (.ref c36_0)] [(.ref c36_0)])) rfl (by rw [hml]; rfl) (argsL := []) (rest := []) (lenOf pd120 rfl) rfl rfl (by show 2 * 0 + _ ≤ _; exact Nat.le_of_eq rfl) (hb hby at_153) (by decide) (by decide) (by decide) (by decide)
    obtain ⟨rfl, N40q, e40⟩ := hQ40
    have N40 := Fr.app N39 N40q
    have e40' : T40.heap = T36.heap := e40
    obtain ⟨T41, X41, e41, st41⟩ := getS2 X40 hx hZ36 hown36 (host := "") (Or.inl (hw _ m96)) Via.refl e40' (hS.1.ext O36.2) (g := (mkF m 156 #[.val (.int i0), .val (.ref b1), .val (.ref w17), .val (.ref c36_0)] [(.ref w0)])) rfl (hb hby at_156)
    have sf42 := (sf0 : ∀ x ∈ [], Safe Z EL T36.vm T36.heap x)
    obtain ⟨_, T42, L42, hQ42, X42, st42⟩ := own_virtual X41 hx hZ36 (W := 0) hown36 (hw _ m97) (hw _ m98) (notFace_of_selects (args := #[]) (mvT hZ36 (hw _ m100))) (hw _ m100) (hw _ m99) (hw _ m41) (hw _ m101) (by decide) (rm8 l Z a0 hw hj w0 w1 w2 w3 w4 w5 w6 w7 w8 w9 w10 w11 w12 w13 w14 w15 w16 w17 hS [] c36_0 c36_2 T36.heap n0 O36 q36_4) e41 q36_0 (g := (mkF m 163 #[.val (.int i0), .val (.ref b1), .val (.ref w17), .val (.ref c36_0)] [(.ref c36_0)])) rfl (by rw [hml]; rfl) (argsL := []) (rest := []) (lenOf pd95 rfl) rfl rfl (by show 2 * 0 + _ ≤ _; exact Nat.le_of_eq rfl) (hb hby at_163) (by decide) (by decide) (by decide) (by decide)
    obtain ⟨rfl, N42q, e42⟩ := hQ42
    have N42 := Fr.app N40 N42q
    have e42' : T42.heap = T36.heap := e42
    have sf43 := (sf0 : ∀ x ∈ [], Safe Z EL T36.vm T36.heap x)
    obtain ⟨_, T43, L43, hQ43, X43, st43⟩ := own_virtual X42 hx hZ36 (W := 0) hown36 (hw _ m85) (hw _ m86) (notFace_of_selects (args := #[]) (mvT hZ36 (hw _ m88))) (hw _ m88) (hw _ m87) (hw _ m46) (hw _ m89) (by decide) (rm6 l Z a0 hw hj w0 w1 w2 w3 w4 w5 w6 w7 w8 w9 w10 w11 w12 w13 w14 w15 w16 w17 hS [] c36_2 c36_4 k36_6 T36.heap n0 O36 q36_10 q36_12) e42' q36_8 (g := (mkF m 166 #[.val (.int i0), .val (.ref b1), .val (.ref w17), .val (.ref c36_0)] [(.ref c36_2)])) rfl (by rw [hml]; rfl) (argsL := []) (rest := []) (lenOf pd111 rfl) rfl rfl (by show 2 * 0 + _ ≤ _; exact Nat.le_of_eq rfl) (hb hby at_166) (by decide) (by decide) (by decide) (by decide)
    obtain ⟨rfl, N43q, e43⟩ := hQ43
    have N43 := Fr.app N42 N43q
    have e43' : T43.heap = T36.heap := e43
    obtain ⟨fs, hr, hrun, hended, hRW⟩ := X43.leaveW hS36 (by rw [e43']; exact (Nat.le_refl _)) (v := some (.int (1 : Int32))) (fun h => by rw [Bd.returns] at h; cases h)
    refine ⟨_, _, pre1 _ ?_, hrun, hended, _, _, rfl, ?_, own_rwm hRW (by decide) (by decide)⟩
    · show Steps p.tables e below (T35.setTop (mkF m 126 #[.val (.int i0), .val (.ref b1), .unset, .unset] [(.int (17 : Int32)), (.int (i0 &&& (2147483647 : Int32))), (.ref b1)])) _
      refine own_irem X35 hx rfl (hb hby at_126) rfl (by decide : ¬ ((17 : Int32) = (0 : Int32))) hp0 ?_
      refine own_aaload X35 hx hZ e35 V35 (j := (16 : Int32)) (by decide) (v := (.ref w17)) rfl rfl (g := (mkF m 127 #[.val (.int i0), .val (.ref b1), .unset, .unset] [(.int (16 : Int32)), (.ref b1)])) rfl rfl (hb hby at_127) ?_
      refine XS.astoreN X35.here hx rfl (hb hby at_128) rfl rfl (l' := #[.val (.int i0), .val (.ref b1), .val (.ref w17), .unset]) rfl ?_
      refine XS.aloadN X35.here hx rfl (hb hby at_129) rfl rfl ?_
      show Steps p.tables e below (T35.setTop (mkF m 130 #[.val (.int i0), .val (.ref b1), .val (.ref w17), .unset] [(.ref w17)])) _
      refine st36 _ ?_
      refine XS.astoreN X36.here hx rfl (hb hby at_133) rfl rfl (l' := #[.val (.int i0), .val (.ref b1), .val (.ref w17), .val (.ref c36_0)]) rfl ?_
      refine XS.aloadN X36.here hx rfl (hb hby at_134) rfl rfl ?_
      refine st37 _ ?_
      show Steps p.tables e below (T37.setTop (mkF m 138 #[.val (.int i0), .val (.ref b1), .val (.ref w17), .val (.ref c36_0)] [(.ref w17)])) _
      refine XS.aloadN X37.here hx rfl (hb hby at_138) rfl rfl ?_
      refine Jvm.RoadKit.acmp (g := (mkF m 139 #[.val (.int i0), .val (.ref b1), .val (.ref w17), .val (.ref c36_0)] [(.ref w17), (.ref w17)])) X37 hx rfl rfl rfl (pc0 := 139) (pc' := 142) (same := true) rfl (hb hby at_139) rfl (decide_eq_true rfl) (by decide) (by decide) ?_
      refine XS.aloadN X37.here hx rfl (hb hby at_142) rfl rfl ?_
      refine st38 _ ?_
      show Steps p.tables e below (T38.setTop (mkF m 146 #[.val (.int i0), .val (.ref b1), .val (.ref w17), .val (.ref c36_0)] [(.ref c36_1)])) _
      refine st39 _ ?_
      refine XS.ifNo X39.here hx rfl (hb hby at_149) rfl ((if0 _ _).trans (feq (by decide : ¬ ((1 : Int32) = (0 : Int32)))).1) ?_
      refine XS.aloadN X39.here hx rfl (hb hby at_152) rfl rfl ?_
      refine st40 _ ?_
      show Steps p.tables e below (T40.setTop (mkF m 156 #[.val (.int i0), .val (.ref b1), .val (.ref w17), .val (.ref c36_0)] [(.ref w0)])) _
      refine st41 _ ?_
      refine Jvm.RoadKit.acmp (g := (mkF m 159 #[.val (.int i0), .val (.ref b1), .val (.ref w17), .val (.ref c36_0)] [(.ref w0), (.ref w0)])) X41 hx rfl rfl rfl (pc0 := 159) (pc' := 162) (same := true) rfl (hb hby at_159) rfl (decide_eq_true rfl) (by decide) (by decide) ?_
      refine XS.aloadN X41.here hx rfl (hb hby at_162) rfl rfl ?_
      refine st42 _ ?_
      show Steps p.tables e below (T42.setTop (mkF m 166 #[.val (.int i0), .val (.ref b1), .val (.ref w17), .val (.ref c36_0)] [(.ref c36_2)])) _
      refine st43 _ ?_
      refine XS.ifNo X43.here hx rfl (hb hby at_169) rfl ((if0 _ _).trans (feq (by decide : ¬ ((1 : Int32) = (0 : Int32)))).1) ?_
      refine XS.iconst X43.here hx rfl (hb hby at_172) ?_
      refine XS.goto X43.here hx rfl (pc0 := 173) (pc' := 177) rfl (hb hby at_173) (by decide) (by decide) ?_
      show Steps p.tables e below (T43.setTop (mkF m 177 #[.val (.int i0), .val (.ref b1), .val (.ref w17), .val (.ref c36_0)] [(.int (1 : Int32))])) _
      exact retN X43 hx (t := .boolean) Bd.returns (by simp) (hb hby at_177) hr
    · show QL n0 _ T43.heap _
      exact ⟨rfl, N43⟩
set_option maxRecDepth 65536 in
set_option maxHeartbeats 40000000 in
theorem comes_1 {Post : Tables → Env → Array Value → State → Outcome → State → Prop} (hpost : ∀ tb e args s v u, (limb_1_1.after args s (.returned v) u = true ∧ limb_1_2.after args s (.returned v) u = true ∧ True) → ReturnedEndW s (.returned v) u (Jvm.fieldLocs frame_1_writes args s ++ Jvm.arrayLocs frame_1_arrays args s ++ Jvm.staticLocs frame_1_statics s) 16 1152 → Post tb e args s (.returned v) u) :
    ArmFor flags0 classFile x code maxLocals ret World_1 tables_1 room_1 Calls_1 rest_1 Pre_1 Post := by
  intro l hfl _ _ p e ha hc hk s m args below hf hA hF happ hP
  obtain ⟨hcalls, hrest, hpre⟩ := hP
  obtain ⟨-, -, -, hnamed, -, -, -, hat⟩ := (Spec.applies_iff hf).mp happ
  obtain ⟨hg, hn⟩ := and_e (Cond.before_iff.mp (show (Jvm.Cond.and given_1 narrow_1).before args s = true from hpre))
  obtain ⟨g1a, g1b⟩ := and_e hg
  obtain ⟨n2a, n2b⟩ := and_e hn
  obtain ⟨n3a, n3b⟩ := and_e n2b
  obtain ⟨n4a, n4b⟩ := and_e n3b
  obtain ⟨n5a, n5b⟩ := and_e n4b
  obtain ⟨n6a, n6b⟩ := and_e n5b
  obtain ⟨n7a, n7b⟩ := and_e n6b
  obtain ⟨n8a, n8b⟩ := and_e n7b
  obtain ⟨n9a, n9b⟩ := and_e n8b
  obtain ⟨n10a, n10b⟩ := and_e n9b
  obtain ⟨n11a, n11b⟩ := and_e n10b
  obtain ⟨n12a, n12b⟩ := and_e n11b
  obtain ⟨n13a, n13b⟩ := and_e n12b
  obtain ⟨n14a, n14b⟩ := and_e n13b
  obtain ⟨n15a, n15b⟩ := and_e n14b
  obtain ⟨n16a, n16b⟩ := and_e n15b
  obtain ⟨n17a, n17b⟩ := and_e n16b
  obtain ⟨n18a, n18b⟩ := and_e n17b
  obtain ⟨v0, rfl⟩ : ∃ v0 : Value, args = #[v0] := by
    have hs : args.size = 1 := by simpa [Cond.value, given_1] using g1a
    obtain ⟨L⟩ := args
    match L, hs with
    | [v0], _ => exact ⟨v0, rfl⟩
  have hw := fun d (hd : d ∈ tables_1) => atoms_spec (ws := Jvm.Cond.code x code maxLocals ret :: tables_1) hat d (List.mem_cons_of_mem _ hd)
  have hfit : Fit s := fun {y c} hc i hi => by
    obtain ⟨ha, rfl⟩ := Array.getElem?_eq_some_iff.mp hc
    have q := List.all_eq_true.mp ((Array.all_eq_true_iff_forall_mem.mp hF) _ (Array.getElem_mem ha)) i (List.mem_range.mpr hi)
    simpa [Array.getElem?_eq_getElem hi] using q
  obtain ⟨hj, hown0⟩ := atoms_of _ (rest_1_c_eq ▸ (show rest_1_c.before _ s = true from hrest))
  obtain ⟨i0, ei0⟩ := is_v g1b
  obtain rfl : v0 = (.int i0) := Option.some.inj ei0
  obtain ⟨w0, evw0⟩ := exa_v n18b
  obtain ⟨w1, evw1⟩ := exa_v n14a
  obtain ⟨w2, evw2⟩ := exa_v n3a
  obtain ⟨w3, evw3⟩ := exa_v n17a
  obtain ⟨w4, evw4⟩ := exa_v n7a
  obtain ⟨w5, evw5⟩ := exa_v n15a
  obtain ⟨w6, evw6⟩ := exa_v n11a
  obtain ⟨w7, evw7⟩ := exa_v n9a
  obtain ⟨w8, evw8⟩ := exa_v n16a
  obtain ⟨w9, evw9⟩ := exa_v n8a
  obtain ⟨w10, evw10⟩ := exa_v n4a
  obtain ⟨w11, evw11⟩ := exa_v n5a
  obtain ⟨w12, evw12⟩ := exa_v n10a
  obtain ⟨w13, evw13⟩ := exa_v n2a
  obtain ⟨w14, evw14⟩ := exa_v n13a
  obtain ⟨w15, evw15⟩ := exa_v n12a
  obtain ⟨w16, evw16⟩ := exa_v n6a
  obtain ⟨w17, evw17⟩ := exa_v n18a
  have hS : SF s w0 w1 w2 w3 w4 w5 w6 w7 w8 w9 w10 w11 w12 w13 w14 w15 w16 w17 := ⟨Sta.start evw0 (Or.inr ⟨(hw _ m54), (hw _ m55)⟩), Exa.start evw0 n18b, Sta.start evw1 (Or.inr ⟨(hw _ m3), (hw _ m29)⟩), Exa.start evw1 n14a, Sta.start evw2 (Or.inr ⟨(hw _ m3), (hw _ m7)⟩), Exa.start evw2 n3a, Sta.start evw3 (Or.inr ⟨(hw _ m3), (hw _ m35)⟩), Exa.start evw3 n17a, Sta.start evw4 (Or.inr ⟨(hw _ m3), (hw _ m15)⟩), Exa.start evw4 n7a, Sta.start evw5 (Or.inr ⟨(hw _ m3), (hw _ m31)⟩), Exa.start evw5 n15a, Sta.start evw6 (Or.inr ⟨(hw _ m3), (hw _ m23)⟩), Exa.start evw6 n11a, Sta.start evw7 (Or.inr ⟨(hw _ m3), (hw _ m19)⟩), Exa.start evw7 n9a, Sta.start evw8 (Or.inr ⟨(hw _ m3), (hw _ m33)⟩), Exa.start evw8 n16a, Sta.start evw9 (Or.inr ⟨(hw _ m3), (hw _ m17)⟩), Exa.start evw9 n8a, Sta.start evw10 (Or.inr ⟨(hw _ m3), (hw _ m9)⟩), Exa.start evw10 n4a, Sta.start evw11 (Or.inr ⟨(hw _ m3), (hw _ m11)⟩), Exa.start evw11 n5a, Sta.start evw12 (Or.inr ⟨(hw _ m3), (hw _ m21)⟩), Exa.start evw12 n10a, Sta.start evw13 (Or.inr ⟨(hw _ m3), (hw _ m4)⟩), Exa.start evw13 n2a, Sta.start evw14 (Or.inr ⟨(hw _ m3), (hw _ m27)⟩), Exa.start evw14 n13a, Sta.start evw15 (Or.inr ⟨(hw _ m3), (hw _ m25)⟩), Exa.start evw15 n12a, Sta.start evw16 (Or.inr ⟨(hw _ m3), (hw _ m13)⟩), Exa.start evw16 n6a, Sta.start evw17 (Or.inr ⟨(hw _ m3), (hw _ m37)⟩), Exa.start evw17 n18a⟩
  obtain ⟨n, o, h1, h2, h3, _, L, rfl, ⟨rfl, N⟩, hq⟩ := rm0 l s _ hw hj w0 w1 w2 w3 w4 w5 w6 w7 w8 w9 w10 w11 w12 w13 w14 w15 w16 w17 hS tables_1 i0 s.heap s.heap.size (Old.start s) p e ha hc hk s m _ below hf ((Spec.applies_iff_loose hf).mp happ).1 ⟨rfl, State.Warmed39.refl s, rfl, CHv.start (own_EW hw hj) (fun p hp => hcalls.1 p hp) (hj _ j2) (hw _ m48) (hw _ m47), sf0⟩ trivial
  refine ⟨n, _, h1, h2, h3, hpost _ _ _ _ _ _ ⟨Cond.after_iff.mpr rfl, Cond.after_iff.mpr (eq_i res_at (Term.int_eval (1)) rfl), trivial⟩ ⟨hq.1, hq.2.1, hq.2.2.1, (hq.2.2.2.sift fun y hy => Or.inr (N y hy)).mono (by decide) (by decide)⟩⟩
theorem main_1_1 : Claimed_1_1 := comes_1 fun _ _ _ _ _ _ h hF => ⟨h.1, hF⟩
theorem main_1_2 : Claimed_1_2 := comes_1 fun _ _ _ _ _ _ h hF => ⟨h.2.1, hF⟩
end Jvm.Pilot.@@N@@
namespace Jvm.Pilot.@@N@@
open Jvm Jvm.ClassFile Sem Op Lib Jvm.Free Jvm.Stand Jvm.Pilot.@@N@@.Jvm.D
/-! MADE BY PROGRAM (witnessworld.py) out of the Statement's table words and the real class files: 22 classes; the members and pool entries that the words name. The judged class is class 1, her method 1. -/
namespace start1
open Jvm.ClassFile
def u (s : String) : CpInfo := .utf8 (stringToUtf16 s)
/-- a pool by its gaps: so many unusable entries, then the entry; so many at the end -/
def gap : Nat → List CpInfo → List CpInfo
  | 0, r => r
  | n + 1, r => .unusable :: gap n r
def poolList (es : List (Nat × CpInfo)) (last : Nat) : List CpInfo := es.foldr (fun e r => gap e.1 (e.2 :: r)) (gap last [])
def pool (es : List (Nat × CpInfo)) (last : Nat) : Array CpInfo := ⟨poolList es last⟩
def fileOf (pool : Array CpInfo) (this : Nat) (attrs : Array Attribute := #[]) (ms : Array MethodInfo := #[]) (fl : Nat := 33) (sup : Nat := 0) (ifs : Array Nat := #[]) (fds : Array FieldInfo := #[]) : ClassFile where
  minorVersion := 0
  majorVersion := 65
  constantPool := pool
  accessFlags := fl
  thisClass := this
  superClass := sup
  interfaces := ifs
  fields := fds
  methods := ms
  attributes := attrs
def plain (name : String) (sup : Option ClassId) : Class where
  name := name
  kind := .ordinary
  loader := none
  accessFlags := 33
  super := sup
  interfaces := #[]
  cf := none
  fields := #[]
  methods := #[]
  instanceTypes := #[]
  staticTypes := #[]
  resolved := #[]
  callSites := []
  init := .initialized
  statics := none
  mirror := none

def pool0 : Array CpInfo := pool [(5, u "<init>"), (0, u "()V"), (1, .class_ 10), (1, u "java/lang/Object")] 113

def k0c0 : Code := { maxStack := 0, maxLocals := 1, code := object_method_1_code, exceptionTable := #[], attributes := #[] }
def k0m0 : Method := { name := "<init>", desc := "()V", sig := { parameters := [], returnType := none }, accessFlags := 1, code := some k0c0 }
/-- java/lang/Object -/
def k0 : Class := { plain "java/lang/Object" none with
  accessFlags := 33
  interfaces := #[]
  cf := some (fileOf pool0 8 #[] #[{ accessFlags := 1, nameIndex := 5, descriptorIndex := 6, attributes := #[] }] 33 0 #[] #[])
  fields := #[]
  methods := #[k0m0]
  instanceTypes := #[]
  staticTypes := #[]
  resolved := Array.replicate 124 none
  statics := none }

def pool1 : Array CpInfo := pool [(2, .class_ 4), (1, u "java/lang/Object"), (0, u "<init>"), (0, u "()V"), (0, .class_ 8), (0, u "com/example/faultscope/faultscope/bpmn/NodeKind"), (0, .fieldref 7 10), (0, .nameAndType 11 12), (0, u "START_EVENT"), (0, u "Lcom/example/faultscope/faultscope/bpmn/NodeKind;"), (0, .fieldref 7 14), (0, .nameAndType 15 12), (0, u "END_EVENT"), (0, .fieldref 7 17), (0, .nameAndType 18 12), (0, u "INTERMEDIATE_THROW_EVENT"), (0, .fieldref 7 20), (0, .nameAndType 21 12), (0, u "MESSAGE_THROW_EVENT"), (0, .fieldref 7 23), (0, .nameAndType 24 12), (0, u "TERMINATE_END_EVENT"), (0, .fieldref 7 26), (0, .nameAndType 27 12), (0, u "ERROR_END_EVENT"), (0, .fieldref 7 29), (0, .nameAndType 30 12), (0, u "FIRED_CATCH_EVENT"), (0, .fieldref 7 32), (0, .nameAndType 33 12), (0, u "EXCLUSIVE_GATEWAY"), (0, .fieldref 7 35), (0, .nameAndType 36 12), (0, u "PARALLEL_GATEWAY"), (0, .fieldref 7 38), (0, .nameAndType 39 12), (0, u "EVENT_BASED_GATEWAY"), (0, .fieldref 7 41), (0, .nameAndType 42 12), (0, u "TASK"), (0, .fieldref 7 44), (0, .nameAndType 45 12), (0, u "SUBPROCESS"), (0, .fieldref 7 47), (0, .nameAndType 48 12), (0, u "CALL_ACTIVITY"), (0, .fieldref 7 50), (0, .nameAndType 51 12), (0, u "ERROR_EVENT_SUBPROCESS"), (0, .fieldref 7 53), (0, .nameAndType 54 12), (0, u "FIRED_BOUNDARY_EVENT"), (0, .fieldref 7 56), (0, .nameAndType 57 12), (0, u "ERROR_BOUNDARY_EVENT"), (0, .fieldref 7 59), (0, .nameAndType 60 12), (0, u "UNSUPPORTED"), (0, .integer 2147483647), (0, .methodref 63 64), (0, .class_ 65), (0, .nameAndType 66 67), (0, u "com/example/faultscope/faultscope/bpmn/NodeClassifier$Classification"), (0, u "runs"), (0, u "(Lcom/example/faultscope/faultscope/bpmn/NodeKind;)Lcom/example/faultscope/faultscope/bpmn/NodeClassifier$Classification;"), (0, .methodref 63 69), (0, .nameAndType 70 71), (0, u "kind"), (0, u "()Lcom/example/faultscope/faultscope/bpmn/NodeKind;"), (0, .methodref 63 73), (0, .nameAndType 74 75), (0, u "limitation"), (0, u "()Ljava/lang/String;"), (0, .methodref 77 78), (0, .class_ 79), (0, .nameAndType 80 81), (0, u "java/lang/String"), (0, u "isEmpty"), (0, u "()Z"), (0, .methodref 63 83), (0, .nameAndType 84 85), (0, u "catcher"), (0, u "()Lcom/example/faultscope/faultscope/bpmn/NodeClassifier$Catcher;"), (0, .fieldref 87 88), (0, .class_ 89), (0, .nameAndType 90 91), (0, u "com/example/faultscope/faultscope/bpmn/NodeClassifier$Catcher"), (0, u "NONE"), (0, u "Lcom/example/faultscope/faultscope/bpmn/NodeClassifier$Catcher;"), (0, .methodref 63 93), (0, .nameAndType 94 75), (0, u "errorCode"), (0, .class_ 96), (0, u "com/example/faultscope/faultscope/bpmn/ClassificationRunsPinLaw"), (2, u "law"), (0, u "(I)Z")] 10

def k1m0 : Method := { name := "<init>", desc := "()V", sig := { parameters := [], returnType := none }, accessFlags := 2, code := none }
def k1c1 : Code := { maxStack := 4, maxLocals := 4, code := code, exceptionTable := #[], attributes := #[] }
def k1m1 : Method := { name := "law", desc := "(I)Z", sig := { parameters := [.int], returnType := some .boolean }, accessFlags := 9, code := some k1c1 }
/-- com/example/faultscope/faultscope/bpmn/ClassificationRunsPinLaw -/
def k1 : Class := { plain "com/example/faultscope/faultscope/bpmn/ClassificationRunsPinLaw" (some 0) with
  accessFlags := 49
  interfaces := #[]
  cf := some (fileOf pool1 95 #[] #[{ accessFlags := 2, nameIndex := 5, descriptorIndex := 6, attributes := #[] }, { accessFlags := 9, nameIndex := 99, descriptorIndex := 100, attributes := #[] }] 49 2 #[] #[])
  fields := #[]
  methods := #[k1m0, k1m1]
  instanceTypes := #[]
  staticTypes := #[]
  resolved := Array.replicate 111 none
  statics := none }

def pool2 : Array CpInfo := pool [(1, .class_ 2), (0, u "java/lang/constant/Constable"), (0, .class_ 4), (0, u "java/lang/Object")] 6

/-- java/lang/constant/Constable -/
def k2 : Class := { plain "java/lang/constant/Constable" (some 0) with
  accessFlags := 1537
  interfaces := #[]
  cf := some (fileOf pool2 1 #[] #[] 1537 3 #[] #[])
  fields := #[]
  methods := #[]
  instanceTypes := #[]
  staticTypes := #[]
  resolved := Array.replicate 11 none
  statics := none }

def pool3 : Array CpInfo := pool [(1, .class_ 2), (0, u "java/lang/Comparable"), (0, .class_ 4), (0, u "java/lang/Object")] 7

/-- java/lang/Comparable -/
def k3 : Class := { plain "java/lang/Comparable" (some 0) with
  accessFlags := 1537
  interfaces := #[]
  cf := some (fileOf pool3 1 #[] #[] 1537 3 #[] #[])
  fields := #[]
  methods := #[]
  instanceTypes := #[]
  staticTypes := #[]
  resolved := Array.replicate 12 none
  statics := none }

def pool4 : Array CpInfo := pool [(1, .class_ 2), (0, u "java/io/Serializable"), (0, .class_ 4), (0, u "java/lang/Object")] 2

/-- java/io/Serializable -/
def k4 : Class := { plain "java/io/Serializable" (some 0) with
  accessFlags := 1537
  interfaces := #[]
  cf := some (fileOf pool4 1 #[] #[] 1537 3 #[] #[])
  fields := #[]
  methods := #[]
  instanceTypes := #[]
  staticTypes := #[]
  resolved := Array.replicate 7 none
  statics := none }

def pool5 : Array CpInfo := pool [(2, .class_ 4), (1, u "java/lang/Enum"), (0, u "name"), (0, u "Ljava/lang/String;"), (2, u "ordinal"), (0, u "I"), (1, .class_ 14), (1, u "java/lang/Object"), (4, u "hash"), (86, .class_ 108), (1, u "java/lang/Enum$EnumDesc"), (2, .class_ 112), (0, u "java/lang/constant/Constable"), (0, .class_ 114), (0, u "java/lang/Comparable"), (0, .class_ 116), (0, u "java/io/Serializable")] 87

/-- java/lang/Enum -/
def k5 : Class := { plain "java/lang/Enum" (some 0) with
  accessFlags := 1057
  interfaces := #[2, 3, 4]
  cf := some (fileOf pool5 2 #[.nestMembers #[106]] #[] 1057 12 #[111, 113, 115] #[{ accessFlags := 18, nameIndex := 5, descriptorIndex := 6, attributes := #[] }, { accessFlags := 18, nameIndex := 9, descriptorIndex := 10, attributes := #[] }, { accessFlags := 2, nameIndex := 19, descriptorIndex := 10, attributes := #[] }])
  fields := #[{ name := "name", type := (.object "java/lang/String"), accessFlags := 18, slot := 0, constantValue := 0 }, { name := "ordinal", type := .int, accessFlags := 18, slot := 1, constantValue := 0 }, { name := "hash", type := .int, accessFlags := 2, slot := 2, constantValue := 0 }]
  methods := #[]
  instanceTypes := #[(.object "java/lang/String"), .int, .int]
  staticTypes := #[]
  resolved := Array.replicate 204 none
  statics := none }

def pool6 : Array CpInfo := pool [(1, .class_ 2), (0, u "com/example/faultscope/faultscope/bpmn/NodeKind"), (2, u "START_EVENT"), (0, u "Lcom/example/faultscope/faultscope/bpmn/NodeKind;"), (2, u "END_EVENT"), (2, u "INTERMEDIATE_THROW_EVENT"), (2, u "MESSAGE_THROW_EVENT"), (2, u "TERMINATE_END_EVENT"), (2, u "ERROR_END_EVENT"), (2, u "FIRED_CATCH_EVENT"), (2, u "EXCLUSIVE_GATEWAY"), (2, u "PARALLEL_GATEWAY"), (2, u "EVENT_BASED_GATEWAY"), (2, u "TASK"), (2, u "SUBPROCESS"), (2, u "CALL_ACTIVITY"), (2, u "ERROR_EVENT_SUBPROCESS"), (2, u "FIRED_BOUNDARY_EVENT"), (2, u "ERROR_BOUNDARY_EVENT"), (2, u "UNSUPPORTED"), (2, u "$VALUES"), (0, u "[Lcom/example/faultscope/faultscope/bpmn/NodeKind;"), (6, .class_ 67), (1, u "java/lang/Enum")] 42

/-- com/example/faultscope/faultscope/bpmn/NodeKind -/
def k6 : Class := { plain "com/example/faultscope/faultscope/bpmn/NodeKind" (some 5) with
  accessFlags := 16433
  interfaces := #[]
  cf := some (fileOf pool6 1 #[] #[] 16433 65 #[] #[{ accessFlags := 16409, nameIndex := 5, descriptorIndex := 6, attributes := #[] }, { accessFlags := 16409, nameIndex := 9, descriptorIndex := 6, attributes := #[] }, { accessFlags := 16409, nameIndex := 12, descriptorIndex := 6, attributes := #[] }, { accessFlags := 16409, nameIndex := 15, descriptorIndex := 6, attributes := #[] }, { accessFlags := 16409, nameIndex := 18, descriptorIndex := 6, attributes := #[] }, { accessFlags := 16409, nameIndex := 21, descriptorIndex := 6, attributes := #[] }, { accessFlags := 16409, nameIndex := 24, descriptorIndex := 6, attributes := #[] }, { accessFlags := 16409, nameIndex := 27, descriptorIndex := 6, attributes := #[] }, { accessFlags := 16409, nameIndex := 30, descriptorIndex := 6, attributes := #[] }, { accessFlags := 16409, nameIndex := 33, descriptorIndex := 6, attributes := #[] }, { accessFlags := 16409, nameIndex := 36, descriptorIndex := 6, attributes := #[] }, { accessFlags := 16409, nameIndex := 39, descriptorIndex := 6, attributes := #[] }, { accessFlags := 16409, nameIndex := 42, descriptorIndex := 6, attributes := #[] }, { accessFlags := 16409, nameIndex := 45, descriptorIndex := 6, attributes := #[] }, { accessFlags := 16409, nameIndex := 48, descriptorIndex := 6, attributes := #[] }, { accessFlags := 16409, nameIndex := 51, descriptorIndex := 6, attributes := #[] }, { accessFlags := 16409, nameIndex := 54, descriptorIndex := 6, attributes := #[] }, { accessFlags := 4122, nameIndex := 57, descriptorIndex := 58, attributes := #[] }])
  fields := #[{ name := "START_EVENT", type := (.object "com/example/faultscope/faultscope/bpmn/NodeKind"), accessFlags := 16409, slot := 0, constantValue := 0 }, { name := "END_EVENT", type := (.object "com/example/faultscope/faultscope/bpmn/NodeKind"), accessFlags := 16409, slot := 1, constantValue := 0 }, { name := "INTERMEDIATE_THROW_EVENT", type := (.object "com/example/faultscope/faultscope/bpmn/NodeKind"), accessFlags := 16409, slot := 2, constantValue := 0 }, { name := "MESSAGE_THROW_EVENT", type := (.object "com/example/faultscope/faultscope/bpmn/NodeKind"), accessFlags := 16409, slot := 3, constantValue := 0 }, { name := "TERMINATE_END_EVENT", type := (.object "com/example/faultscope/faultscope/bpmn/NodeKind"), accessFlags := 16409, slot := 4, constantValue := 0 }, { name := "ERROR_END_EVENT", type := (.object "com/example/faultscope/faultscope/bpmn/NodeKind"), accessFlags := 16409, slot := 5, constantValue := 0 }, { name := "FIRED_CATCH_EVENT", type := (.object "com/example/faultscope/faultscope/bpmn/NodeKind"), accessFlags := 16409, slot := 6, constantValue := 0 }, { name := "EXCLUSIVE_GATEWAY", type := (.object "com/example/faultscope/faultscope/bpmn/NodeKind"), accessFlags := 16409, slot := 7, constantValue := 0 }, { name := "PARALLEL_GATEWAY", type := (.object "com/example/faultscope/faultscope/bpmn/NodeKind"), accessFlags := 16409, slot := 8, constantValue := 0 }, { name := "EVENT_BASED_GATEWAY", type := (.object "com/example/faultscope/faultscope/bpmn/NodeKind"), accessFlags := 16409, slot := 9, constantValue := 0 }, { name := "TASK", type := (.object "com/example/faultscope/faultscope/bpmn/NodeKind"), accessFlags := 16409, slot := 10, constantValue := 0 }, { name := "SUBPROCESS", type := (.object "com/example/faultscope/faultscope/bpmn/NodeKind"), accessFlags := 16409, slot := 11, constantValue := 0 }, { name := "CALL_ACTIVITY", type := (.object "com/example/faultscope/faultscope/bpmn/NodeKind"), accessFlags := 16409, slot := 12, constantValue := 0 }, { name := "ERROR_EVENT_SUBPROCESS", type := (.object "com/example/faultscope/faultscope/bpmn/NodeKind"), accessFlags := 16409, slot := 13, constantValue := 0 }, { name := "FIRED_BOUNDARY_EVENT", type := (.object "com/example/faultscope/faultscope/bpmn/NodeKind"), accessFlags := 16409, slot := 14, constantValue := 0 }, { name := "ERROR_BOUNDARY_EVENT", type := (.object "com/example/faultscope/faultscope/bpmn/NodeKind"), accessFlags := 16409, slot := 15, constantValue := 0 }, { name := "UNSUPPORTED", type := (.object "com/example/faultscope/faultscope/bpmn/NodeKind"), accessFlags := 16409, slot := 16, constantValue := 0 }, { name := "$VALUES", type := (.array (.object "com/example/faultscope/faultscope/bpmn/NodeKind")), accessFlags := 4122, slot := 17, constantValue := 0 }]
  methods := #[]
  instanceTypes := #[(.object "java/lang/String"), .int, .int]
  staticTypes := #[(.object "com/example/faultscope/faultscope/bpmn/NodeKind"), (.object "com/example/faultscope/faultscope/bpmn/NodeKind"), (.object "com/example/faultscope/faultscope/bpmn/NodeKind"), (.object "com/example/faultscope/faultscope/bpmn/NodeKind"), (.object "com/example/faultscope/faultscope/bpmn/NodeKind"), (.object "com/example/faultscope/faultscope/bpmn/NodeKind"), (.object "com/example/faultscope/faultscope/bpmn/NodeKind"), (.object "com/example/faultscope/faultscope/bpmn/NodeKind"), (.object "com/example/faultscope/faultscope/bpmn/NodeKind"), (.object "com/example/faultscope/faultscope/bpmn/NodeKind"), (.object "com/example/faultscope/faultscope/bpmn/NodeKind"), (.object "com/example/faultscope/faultscope/bpmn/NodeKind"), (.object "com/example/faultscope/faultscope/bpmn/NodeKind"), (.object "com/example/faultscope/faultscope/bpmn/NodeKind"), (.object "com/example/faultscope/faultscope/bpmn/NodeKind"), (.object "com/example/faultscope/faultscope/bpmn/NodeKind"), (.object "com/example/faultscope/faultscope/bpmn/NodeKind"), (.array (.object "com/example/faultscope/faultscope/bpmn/NodeKind"))]
  resolved := Array.replicate 110 none
  statics := some 0 }

def pool7 : Array CpInfo := pool [(1, .methodref 2 3), (0, .class_ 4), (0, .nameAndType 5 6), (0, u "java/lang/Object"), (0, u "<init>"), (0, u "()V"), (0, .class_ 8), (0, u "java/lang/Record")] 13

def k7c0 : Code := { maxStack := 1, maxLocals := 1, code := jdk_30_method_1_code, exceptionTable := #[], attributes := #[] }
def k7m0 : Method := { name := "<init>", desc := "()V", sig := { parameters := [], returnType := none }, accessFlags := 4, code := some k7c0 }
/-- java/lang/Record -/
def k7 : Class := { plain "java/lang/Record" (some 0) with
  accessFlags := 1057
  interfaces := #[]
  cf := some (fileOf pool7 7 #[] #[{ accessFlags := 4, nameIndex := 5, descriptorIndex := 6, attributes := #[] }] 1057 2 #[] #[])
  fields := #[]
  methods := #[k7m0]
  instanceTypes := #[]
  staticTypes := #[]
  resolved := Array.replicate 22 none
  statics := none }

def pool8 : Array CpInfo := pool [(1, .methodref 2 3), (0, .class_ 4), (0, .nameAndType 5 6), (0, u "java/lang/Record"), (0, u "<init>"), (0, u "()V"), (0, .fieldref 8 9), (0, .class_ 10), (0, .nameAndType 11 12), (0, u "com/example/faultscope/faultscope/bpmn/NodeClassifier$Classification"), (0, u "kind"), (0, u "Lcom/example/faultscope/faultscope/bpmn/NodeKind;"), (0, .fieldref 8 14), (0, .nameAndType 15 16), (0, u "limitation"), (0, u "Ljava/lang/String;"), (0, .fieldref 8 18), (0, .nameAndType 19 20), (0, u "catcher"), (0, u "Lcom/example/faultscope/faultscope/bpmn/NodeClassifier$Catcher;"), (0, .fieldref 8 22), (0, .nameAndType 23 16), (0, u "errorCode"), (0, .string 25), (0, u ""), (0, .fieldref 27 28), (0, .class_ 29), (0, .nameAndType 30 20), (0, u "com/example/faultscope/faultscope/bpmn/NodeClassifier$Catcher"), (0, u "NONE"), (0, .methodref 8 32), (0, .nameAndType 5 33), (0, u "(Lcom/example/faultscope/faultscope/bpmn/NodeKind;Ljava/lang/String;Lcom/example/faultscope/faultscope/bpmn/NodeClassifier$Catcher;Ljava/lang/String;)V"), (20, u "runs"), (0, u "(Lcom/example/faultscope/faultscope/bpmn/NodeKind;)Lcom/example/faultscope/faultscope/bpmn/NodeClassifier$Classification;"), (2, u "()Ljava/lang/String;"), (2, u "()Lcom/example/faultscope/faultscope/bpmn/NodeKind;"), (0, u "()Lcom/example/faultscope/faultscope/bpmn/NodeClassifier$Catcher;"), (3, .class_ 67), (0, u "com/example/faultscope/faultscope/bpmn/NodeClassifier")] 23

def k8c0 : Code := { maxStack := 2, maxLocals := 5, code := prog_27_method_1_code, exceptionTable := #[], attributes := #[] }
def k8m0 : Method := { name := "<init>", desc := "(Lcom/example/faultscope/faultscope/bpmn/NodeKind;Ljava/lang/String;Lcom/example/faultscope/faultscope/bpmn/NodeClassifier$Catcher;Ljava/lang/String;)V", sig := { parameters := [(.object "com/example/faultscope/faultscope/bpmn/NodeKind"), (.object "java/lang/String"), (.object "com/example/faultscope/faultscope/bpmn/NodeClassifier$Catcher"), (.object "java/lang/String")], returnType := none }, accessFlags := 0, code := some k8c0 }
def k8c1 : Code := { maxStack := 6, maxLocals := 1, code := prog_27_method_2_code, exceptionTable := #[], attributes := #[] }
def k8m1 : Method := { name := "runs", desc := "(Lcom/example/faultscope/faultscope/bpmn/NodeKind;)Lcom/example/faultscope/faultscope/bpmn/NodeClassifier$Classification;", sig := { parameters := [(.object "com/example/faultscope/faultscope/bpmn/NodeKind")], returnType := some (.object "com/example/faultscope/faultscope/bpmn/NodeClassifier$Classification") }, accessFlags := 8, code := some k8c1 }
def k8c2 : Code := { maxStack := 1, maxLocals := 1, code := prog_27_method_7_code, exceptionTable := #[], attributes := #[] }
def k8m2 : Method := { name := "kind", desc := "()Lcom/example/faultscope/faultscope/bpmn/NodeKind;", sig := { parameters := [], returnType := some (.object "com/example/faultscope/faultscope/bpmn/NodeKind") }, accessFlags := 1, code := some k8c2 }
def k8c3 : Code := { maxStack := 1, maxLocals := 1, code := prog_27_method_8_code, exceptionTable := #[], attributes := #[] }
def k8m3 : Method := { name := "limitation", desc := "()Ljava/lang/String;", sig := { parameters := [], returnType := some (.object "java/lang/String") }, accessFlags := 1, code := some k8c3 }
def k8c4 : Code := { maxStack := 1, maxLocals := 1, code := prog_27_method_9_code, exceptionTable := #[], attributes := #[] }
def k8m4 : Method := { name := "catcher", desc := "()Lcom/example/faultscope/faultscope/bpmn/NodeClassifier$Catcher;", sig := { parameters := [], returnType := some (.object "com/example/faultscope/faultscope/bpmn/NodeClassifier$Catcher") }, accessFlags := 1, code := some k8c4 }
def k8c5 : Code := { maxStack := 1, maxLocals := 1, code := prog_27_method_10_code, exceptionTable := #[], attributes := #[] }
def k8m5 : Method := { name := "errorCode", desc := "()Ljava/lang/String;", sig := { parameters := [], returnType := some (.object "java/lang/String") }, accessFlags := 1, code := some k8c5 }
/-- com/example/faultscope/faultscope/bpmn/NodeClassifier$Classification -/
def k8 : Class := { plain "com/example/faultscope/faultscope/bpmn/NodeClassifier$Classification" (some 7) with
  accessFlags := 48
  interfaces := #[]
  cf := some (fileOf pool8 8 #[.nestHost 66] #[{ accessFlags := 0, nameIndex := 5, descriptorIndex := 33, attributes := #[] }, { accessFlags := 8, nameIndex := 54, descriptorIndex := 55, attributes := #[] }, { accessFlags := 1, nameIndex := 11, descriptorIndex := 61, attributes := #[] }, { accessFlags := 1, nameIndex := 15, descriptorIndex := 58, attributes := #[] }, { accessFlags := 1, nameIndex := 19, descriptorIndex := 62, attributes := #[] }, { accessFlags := 1, nameIndex := 23, descriptorIndex := 58, attributes := #[] }] 48 2 #[] #[{ accessFlags := 18, nameIndex := 11, descriptorIndex := 12, attributes := #[] }, { accessFlags := 18, nameIndex := 15, descriptorIndex := 16, attributes := #[] }, { accessFlags := 18, nameIndex := 19, descriptorIndex := 20, attributes := #[] }, { accessFlags := 18, nameIndex := 23, descriptorIndex := 16, attributes := #[] }])
  fields := #[{ name := "kind", type := (.object "com/example/faultscope/faultscope/bpmn/NodeKind"), accessFlags := 18, slot := 0, constantValue := 0 }, { name := "limitation", type := (.object "java/lang/String"), accessFlags := 18, slot := 1, constantValue := 0 }, { name := "catcher", type := (.object "com/example/faultscope/faultscope/bpmn/NodeClassifier$Catcher"), accessFlags := 18, slot := 2, constantValue := 0 }, { name := "errorCode", type := (.object "java/lang/String"), accessFlags := 18, slot := 3, constantValue := 0 }]
  methods := #[k8m0, k8m1, k8m2, k8m3, k8m4, k8m5]
  instanceTypes := #[(.object "com/example/faultscope/faultscope/bpmn/NodeKind"), (.object "java/lang/String"), (.object "com/example/faultscope/faultscope/bpmn/NodeClassifier$Catcher"), (.object "java/lang/String")]
  staticTypes := #[]
  resolved := Array.replicate 91 none
  statics := none }

def pool9 : Array CpInfo := pool [(2, .class_ 4), (1, u "java/lang/CharSequence"), (42, .class_ 48), (0, u "java/lang/CharSequence$1CodePointIterator"), (10, .class_ 60), (0, u "java/lang/CharSequence$1CharIterator"), (5, .class_ 67), (0, u "java/lang/Object")] 63

/-- java/lang/CharSequence -/
def k9 : Class := { plain "java/lang/CharSequence" (some 0) with
  accessFlags := 1537
  interfaces := #[]
  cf := some (fileOf pool9 2 #[.nestMembers #[47, 59]] #[] 1537 66 #[] #[])
  fields := #[]
  methods := #[]
  instanceTypes := #[]
  staticTypes := #[]
  resolved := Array.replicate 131 none
  statics := none }

def pool10 : Array CpInfo := pool [(1, .class_ 2), (0, u "java/lang/constant/ConstantDesc"), (0, .class_ 4), (0, u "java/lang/Object")] 32

/-- java/lang/constant/ConstantDesc -/
def k10 : Class := { plain "java/lang/constant/ConstantDesc" (some 0) with
  accessFlags := 1537
  interfaces := #[]
  cf := some (fileOf pool10 1 #[] #[] 1537 3 #[] #[])
  fields := #[]
  methods := #[]
  instanceTypes := #[]
  staticTypes := #[]
  resolved := Array.replicate 37 none
  statics := none }

def pool11 : Array CpInfo := pool [(2, .class_ 4), (1, u "java/lang/Object"), (0, u "<init>"), (0, u "()V"), (2, .fieldref 10 11), (0, .class_ 12), (0, .nameAndType 13 14), (0, u "java/lang/String"), (0, u "value"), (0, u "[B"), (2, u "coder"), (0, u "B"), (2, u "hash"), (0, u "I"), (2, u "hashIsZero"), (0, u "Z"), (13, u "COMPACT_STRINGS"), (101, u "()Z"), (432, .class_ 576), (0, u "java/lang/CharSequence"), (22, u "CASE_INSENSITIVE_ORDER"), (0, u "Ljava/util/Comparator;"), (91, u "isEmpty"), (408, u "serialPersistentFields"), (0, u "[Ljava/io/ObjectStreamField;"), (0, .class_ 1104), (0, u "java/lang/String$CaseInsensitiveComparator"), (1, .class_ 1107), (0, u "java/io/Serializable"), (0, .class_ 1109), (0, u "java/lang/Comparable"), (0, .class_ 1111), (0, u "java/lang/constant/Constable"), (0, .class_ 1113), (0, u "java/lang/constant/ConstantDesc"), (2, u "serialVersionUID"), (0, u "J"), (3, u "REPL"), (0, u "C"), (2, u "LATIN1"), (1, u "UTF16")] 323

def k11m0 : Method := { name := "<init>", desc := "()V", sig := { parameters := [], returnType := none }, accessFlags := 1, code := none }
def k11c1 : Code := { maxStack := 1, maxLocals := 1, code := jdk_42_method_55_code, exceptionTable := #[], attributes := #[] }
def k11m1 : Method := { name := "isEmpty", desc := "()Z", sig := { parameters := [], returnType := some .boolean }, accessFlags := 1, code := some k11c1 }
/-- java/lang/String -/
def k11 : Class := { plain "java/lang/String" (some 0) with
  accessFlags := 49
  interfaces := #[4, 3, 9, 2, 10]
  cf := some (fileOf pool11 10 #[.nestMembers #[1103]] #[{ accessFlags := 1, nameIndex := 5, descriptorIndex := 6, attributes := #[] }, { accessFlags := 1, nameIndex := 692, descriptorIndex := 142, attributes := #[] }] 49 2 #[1106, 1108, 575, 1110, 1112] #[{ accessFlags := 18, nameIndex := 13, descriptorIndex := 14, attributes := #[] }, { accessFlags := 18, nameIndex := 17, descriptorIndex := 18, attributes := #[] }, { accessFlags := 2, nameIndex := 21, descriptorIndex := 22, attributes := #[] }, { accessFlags := 2, nameIndex := 25, descriptorIndex := 26, attributes := #[] }, { accessFlags := 26, nameIndex := 1116, descriptorIndex := 1117, attributes := #[] }, { accessFlags := 24, nameIndex := 40, descriptorIndex := 26, attributes := #[] }, { accessFlags := 26, nameIndex := 1101, descriptorIndex := 1102, attributes := #[] }, { accessFlags := 26, nameIndex := 1121, descriptorIndex := 1122, attributes := #[] }, { accessFlags := 25, nameIndex := 599, descriptorIndex := 600, attributes := #[] }, { accessFlags := 24, nameIndex := 1125, descriptorIndex := 18, attributes := #[] }, { accessFlags := 24, nameIndex := 1127, descriptorIndex := 18, attributes := #[] }])
  fields := #[{ name := "value", type := (.array .byte), accessFlags := 18, slot := 0, constantValue := 0 }, { name := "coder", type := .byte, accessFlags := 18, slot := 1, constantValue := 0 }, { name := "hash", type := .int, accessFlags := 2, slot := 2, constantValue := 0 }, { name := "hashIsZero", type := .boolean, accessFlags := 2, slot := 3, constantValue := 0 }, { name := "serialVersionUID", type := .long, accessFlags := 26, slot := 0, constantValue := 0 }, { name := "COMPACT_STRINGS", type := .boolean, accessFlags := 24, slot := 1, constantValue := 0 }, { name := "serialPersistentFields", type := (.array (.object "java/io/ObjectStreamField")), accessFlags := 26, slot := 2, constantValue := 0 }, { name := "REPL", type := .char, accessFlags := 26, slot := 3, constantValue := 0 }, { name := "CASE_INSENSITIVE_ORDER", type := (.object "java/util/Comparator"), accessFlags := 25, slot := 4, constantValue := 0 }, { name := "LATIN1", type := .byte, accessFlags := 24, slot := 5, constantValue := 0 }, { name := "UTF16", type := .byte, accessFlags := 24, slot := 6, constantValue := 0 }]
  methods := #[k11m0, k11m1]
  instanceTypes := #[(.array .byte), .byte, .int, .boolean]
  staticTypes := #[.long, .boolean, (.array (.object "java/io/ObjectStreamField")), .char, (.object "java/util/Comparator"), .byte, .byte]
  resolved := Array.replicate 1451 none
  statics := some 1 }

def pool12 : Array CpInfo := pool [(1, .class_ 2), (0, u "com/example/faultscope/faultscope/bpmn/NodeClassifier$Catcher"), (2, u "NONE"), (0, u "Lcom/example/faultscope/faultscope/bpmn/NodeClassifier$Catcher;"), (2, u "ERROR_BOUNDARY"), (2, u "ERROR_EVENT_SUBPROCESS"), (2, u "$VALUES"), (0, u "[Lcom/example/faultscope/faultscope/bpmn/NodeClassifier$Catcher;"), (6, .class_ 25), (1, u "java/lang/Enum"), (26, .class_ 53), (0, u "com/example/faultscope/faultscope/bpmn/NodeClassifier")] 2

/-- com/example/faultscope/faultscope/bpmn/NodeClassifier$Catcher -/
def k12 : Class := { plain "com/example/faultscope/faultscope/bpmn/NodeClassifier$Catcher" (some 5) with
  accessFlags := 16432
  interfaces := #[]
  cf := some (fileOf pool12 1 #[.nestHost 52] #[] 16432 23 #[] #[{ accessFlags := 16409, nameIndex := 5, descriptorIndex := 6, attributes := #[] }, { accessFlags := 16409, nameIndex := 9, descriptorIndex := 6, attributes := #[] }, { accessFlags := 16409, nameIndex := 12, descriptorIndex := 6, attributes := #[] }, { accessFlags := 4122, nameIndex := 15, descriptorIndex := 16, attributes := #[] }])
  fields := #[{ name := "NONE", type := (.object "com/example/faultscope/faultscope/bpmn/NodeClassifier$Catcher"), accessFlags := 16409, slot := 0, constantValue := 0 }, { name := "ERROR_BOUNDARY", type := (.object "com/example/faultscope/faultscope/bpmn/NodeClassifier$Catcher"), accessFlags := 16409, slot := 1, constantValue := 0 }, { name := "ERROR_EVENT_SUBPROCESS", type := (.object "com/example/faultscope/faultscope/bpmn/NodeClassifier$Catcher"), accessFlags := 16409, slot := 2, constantValue := 0 }, { name := "$VALUES", type := (.array (.object "com/example/faultscope/faultscope/bpmn/NodeClassifier$Catcher")), accessFlags := 4122, slot := 3, constantValue := 0 }]
  methods := #[]
  instanceTypes := #[(.object "java/lang/String"), .int, .int]
  staticTypes := #[(.object "com/example/faultscope/faultscope/bpmn/NodeClassifier$Catcher"), (.object "com/example/faultscope/faultscope/bpmn/NodeClassifier$Catcher"), (.object "com/example/faultscope/faultscope/bpmn/NodeClassifier$Catcher"), (.array (.object "com/example/faultscope/faultscope/bpmn/NodeClassifier$Catcher"))]
  resolved := Array.replicate 56 none
  statics := some 2 }

def pool13 : Array CpInfo := pool [(4, .class_ 6), (1, u "java/lang/Object"), (0, u "<init>"), (0, u "()V"), (5, .class_ 16), (1, u "java/lang/StringLatin1"), (104, u "$assertionsDisabled"), (0, u "Z"), (98, .class_ 223), (1, u "java/lang/StringLatin1$LinesSpliterator"), (166, .class_ 391), (0, u "java/lang/StringLatin1$CharsSpliterator")] 3

def k13m0 : Method := { name := "<init>", desc := "()V", sig := { parameters := [], returnType := none }, accessFlags := 0, code := none }
/-- java/lang/StringLatin1 -/
def k13 : Class := { plain "java/lang/StringLatin1" (some 0) with
  accessFlags := 48
  interfaces := #[]
  cf := some (fileOf pool13 14 #[.nestMembers #[390, 221]] #[{ accessFlags := 0, nameIndex := 7, descriptorIndex := 8, attributes := #[] }] 48 4 #[] #[{ accessFlags := 4120, nameIndex := 121, descriptorIndex := 122, attributes := #[] }])
  fields := #[{ name := "$assertionsDisabled", type := .boolean, accessFlags := 4120, slot := 0, constantValue := 0 }]
  methods := #[k13m0]
  instanceTypes := #[]
  staticTypes := #[.boolean]
  resolved := Array.replicate 395 none
  statics := none }

def pool14 : Array CpInfo := pool [(2, .class_ 4), (1, u "java/lang/Object"), (0, u "<init>"), (0, u "()V"), (17, .class_ 26), (1, u "jdk/internal/util/Preconditions"), (28, .class_ 56), (0, u "jdk/internal/util/Preconditions$4"), (57, .class_ 115), (0, u "jdk/internal/util/Preconditions$1"), (7, u "SIOOBE_FORMATTER"), (0, u "Ljava/util/function/BiFunction;"), (0, .class_ 126), (0, u "jdk/internal/util/Preconditions$2"), (3, u "AIOOBE_FORMATTER"), (0, .class_ 132), (0, u "jdk/internal/util/Preconditions$3"), (3, u "IOOBE_FORMATTER")] 57

def k14m0 : Method := { name := "<init>", desc := "()V", sig := { parameters := [], returnType := none }, accessFlags := 1, code := none }
/-- jdk/internal/util/Preconditions -/
def k14 : Class := { plain "jdk/internal/util/Preconditions" (some 0) with
  accessFlags := 33
  interfaces := #[]
  cf := some (fileOf pool14 24 #[.nestMembers #[55, 131, 125, 114]] #[{ accessFlags := 1, nameIndex := 5, descriptorIndex := 6, attributes := #[] }] 33 2 #[] #[{ accessFlags := 25, nameIndex := 123, descriptorIndex := 124, attributes := #[] }, { accessFlags := 25, nameIndex := 130, descriptorIndex := 124, attributes := #[] }, { accessFlags := 25, nameIndex := 136, descriptorIndex := 124, attributes := #[] }])
  fields := #[{ name := "SIOOBE_FORMATTER", type := (.object "java/util/function/BiFunction"), accessFlags := 25, slot := 0, constantValue := 0 }, { name := "AIOOBE_FORMATTER", type := (.object "java/util/function/BiFunction"), accessFlags := 25, slot := 1, constantValue := 0 }, { name := "IOOBE_FORMATTER", type := (.object "java/util/function/BiFunction"), accessFlags := 25, slot := 2, constantValue := 0 }]
  methods := #[k14m0]
  instanceTypes := #[]
  staticTypes := #[(.object "java/util/function/BiFunction"), (.object "java/util/function/BiFunction"), (.object "java/util/function/BiFunction")]
  resolved := Array.replicate 194 none
  statics := some 3 }

def pool15 : Array CpInfo := pool [(9, u "<init>"), (6, .class_ 18), (1, u "java/lang/Object"), (0, u "()V"), (1, .class_ 23), (1, u "jdk/internal/util/ArraysSupport"), (0, u "LOG2_ARRAY_LONG_INDEX_SCALE"), (0, u "I"), (2, u "U"), (0, u "Ljdk/internal/misc/Unsafe;"), (8, u "BIG_ENDIAN"), (0, u "Z"), (8, u "LOG2_BYTE_BIT_SIZE"), (4, u "LOG2_ARRAY_INT_INDEX_SCALE"), (54, u "JLA"), (0, u "Ljdk/internal/access/JavaLangAccess;"), (11, u "LOG2_ARRAY_BOOLEAN_INDEX_SCALE"), (9, u "LOG2_ARRAY_BYTE_INDEX_SCALE"), (5, u "LOG2_ARRAY_CHAR_INDEX_SCALE"), (5, u "LOG2_ARRAY_SHORT_INDEX_SCALE"), (18, u "LOG2_ARRAY_FLOAT_INDEX_SCALE"), (24, u "LOG2_ARRAY_DOUBLE_INDEX_SCALE"), (89, u "T_BOOLEAN"), (2, u "T_CHAR"), (1, u "T_FLOAT"), (1, u "T_DOUBLE"), (1, u "T_BYTE"), (1, u "T_SHORT"), (1, u "T_INT"), (1, u "T_LONG"), (1, u "SOFT_MAX_ARRAY_LENGTH")] 83

def k15m0 : Method := { name := "<init>", desc := "()V", sig := { parameters := [], returnType := none }, accessFlags := 2, code := none }
/-- jdk/internal/util/ArraysSupport -/
def k15 : Class := { plain "jdk/internal/util/ArraysSupport" (some 0) with
  accessFlags := 33
  interfaces := #[]
  cf := some (fileOf pool15 21 #[] #[{ accessFlags := 2, nameIndex := 9, descriptorIndex := 19, attributes := #[] }] 33 16 #[] #[{ accessFlags := 24, nameIndex := 28, descriptorIndex := 29, attributes := #[] }, { accessFlags := 26, nameIndex := 38, descriptorIndex := 39, attributes := #[] }, { accessFlags := 25, nameIndex := 121, descriptorIndex := 25, attributes := #[] }, { accessFlags := 25, nameIndex := 131, descriptorIndex := 25, attributes := #[] }, { accessFlags := 25, nameIndex := 137, descriptorIndex := 25, attributes := #[] }, { accessFlags := 25, nameIndex := 143, descriptorIndex := 25, attributes := #[] }, { accessFlags := 25, nameIndex := 53, descriptorIndex := 25, attributes := #[] }, { accessFlags := 25, nameIndex := 24, descriptorIndex := 25, attributes := #[] }, { accessFlags := 25, nameIndex := 162, descriptorIndex := 25, attributes := #[] }, { accessFlags := 25, nameIndex := 187, descriptorIndex := 25, attributes := #[] }, { accessFlags := 26, nameIndex := 48, descriptorIndex := 25, attributes := #[] }, { accessFlags := 25, nameIndex := 277, descriptorIndex := 25, attributes := #[] }, { accessFlags := 25, nameIndex := 280, descriptorIndex := 25, attributes := #[] }, { accessFlags := 25, nameIndex := 282, descriptorIndex := 25, attributes := #[] }, { accessFlags := 25, nameIndex := 284, descriptorIndex := 25, attributes := #[] }, { accessFlags := 25, nameIndex := 286, descriptorIndex := 25, attributes := #[] }, { accessFlags := 25, nameIndex := 288, descriptorIndex := 25, attributes := #[] }, { accessFlags := 25, nameIndex := 290, descriptorIndex := 25, attributes := #[] }, { accessFlags := 25, nameIndex := 292, descriptorIndex := 25, attributes := #[] }, { accessFlags := 26, nameIndex := 108, descriptorIndex := 109, attributes := #[] }, { accessFlags := 25, nameIndex := 294, descriptorIndex := 25, attributes := #[] }])
  fields := #[{ name := "U", type := (.object "jdk/internal/misc/Unsafe"), accessFlags := 24, slot := 0, constantValue := 0 }, { name := "BIG_ENDIAN", type := .boolean, accessFlags := 26, slot := 1, constantValue := 0 }, { name := "LOG2_ARRAY_BOOLEAN_INDEX_SCALE", type := .int, accessFlags := 25, slot := 2, constantValue := 0 }, { name := "LOG2_ARRAY_BYTE_INDEX_SCALE", type := .int, accessFlags := 25, slot := 3, constantValue := 0 }, { name := "LOG2_ARRAY_CHAR_INDEX_SCALE", type := .int, accessFlags := 25, slot := 4, constantValue := 0 }, { name := "LOG2_ARRAY_SHORT_INDEX_SCALE", type := .int, accessFlags := 25, slot := 5, constantValue := 0 }, { name := "LOG2_ARRAY_INT_INDEX_SCALE", type := .int, accessFlags := 25, slot := 6, constantValue := 0 }, { name := "LOG2_ARRAY_LONG_INDEX_SCALE", type := .int, accessFlags := 25, slot := 7, constantValue := 0 }, { name := "LOG2_ARRAY_FLOAT_INDEX_SCALE", type := .int, accessFlags := 25, slot := 8, constantValue := 0 }, { name := "LOG2_ARRAY_DOUBLE_INDEX_SCALE", type := .int, accessFlags := 25, slot := 9, constantValue := 0 }, { name := "LOG2_BYTE_BIT_SIZE", type := .int, accessFlags := 26, slot := 10, constantValue := 0 }, { name := "T_BOOLEAN", type := .int, accessFlags := 25, slot := 11, constantValue := 0 }, { name := "T_CHAR", type := .int, accessFlags := 25, slot := 12, constantValue := 0 }, { name := "T_FLOAT", type := .int, accessFlags := 25, slot := 13, constantValue := 0 }, { name := "T_DOUBLE", type := .int, accessFlags := 25, slot := 14, constantValue := 0 }, { name := "T_BYTE", type := .int, accessFlags := 25, slot := 15, constantValue := 0 }, { name := "T_SHORT", type := .int, accessFlags := 25, slot := 16, constantValue := 0 }, { name := "T_INT", type := .int, accessFlags := 25, slot := 17, constantValue := 0 }, { name := "T_LONG", type := .int, accessFlags := 25, slot := 18, constantValue := 0 }, { name := "JLA", type := (.object "jdk/internal/access/JavaLangAccess"), accessFlags := 26, slot := 19, constantValue := 0 }, { name := "SOFT_MAX_ARRAY_LENGTH", type := .int, accessFlags := 25, slot := 20, constantValue := 0 }]
  methods := #[k15m0]
  instanceTypes := #[]
  staticTypes := #[(.object "jdk/internal/misc/Unsafe"), .boolean, .int, .int, .int, .int, .int, .int, .int, .int, .int, .int, .int, .int, .int, .int, .int, .int, .int, (.object "jdk/internal/access/JavaLangAccess"), .int]
  resolved := Array.replicate 378 none
  statics := none }

def pool16 : Array CpInfo := pool [(1, u "java/lang/Cloneable"), (0, .class_ 1), (0, u "java/lang/Object"), (0, .class_ 3)] 3

/-- java/lang/Cloneable -/
def k16 : Class := { plain "java/lang/Cloneable" (some 0) with
  accessFlags := 1537
  interfaces := #[]
  cf := some (fileOf pool16 2 #[] #[] 1537 4 #[] #[])
  fields := #[]
  methods := #[]
  instanceTypes := #[]
  staticTypes := #[]
  resolved := Array.replicate 8 none
  statics := none }

/-- the primitive byte -/
def k17 : Class := { plain "byte" none with kind := .primitive 'B', accessFlags := 0x411 }
/-- [B -/
def k18 : Class := { plain "[B" (some 0) with kind := .array 17 .byte, interfaces := #[16, 4], accessFlags := 1041 }

/-- the primitive int -/
def k19 : Class := { plain "int" none with kind := .primitive 'I', accessFlags := 0x411 }
/-- [I -/
def k20 : Class := { plain "[I" (some 0) with kind := .array 19 .int, interfaces := #[16, 4], accessFlags := 1041 }

/-- [Lcom/example/faultscope/faultscope/bpmn/NodeKind; -/
def k21 : Class := { plain "[Lcom/example/faultscope/faultscope/bpmn/NodeKind;" (some 0) with kind := .array 6 (.object "com/example/faultscope/faultscope/bpmn/NodeKind"), interfaces := #[16, 4], accessFlags := 1041 }

def heap : Heap := #[{ cls := 6, slots := #[.ref 17, .ref 6, .ref 14, .ref 15, .ref 20, .ref 8, .ref 13, .ref 11, .ref 16, .ref 10, .ref 19, .ref 18, .ref 5, .ref 9, .ref 12, .ref 7, .ref 21, .null], vm := .statics 6 },
  { cls := 11, slots := #[.long 0, .int 1, .null, .int 0, .null, .int 0, .int 0], vm := .statics 11 },
  { cls := 12, slots := #[.ref 4, .null, .null, .null], vm := .statics 12 },
  { cls := 14, slots := #[.null, .null, .null], vm := .statics 14 },
  { cls := 12, slots := #[.null, .int 0, .int 0], vm := .none },
  { cls := 6, slots := #[.null, .int 0, .int 0], vm := .none },
  { cls := 6, slots := #[.null, .int 0, .int 0], vm := .none },
  { cls := 6, slots := #[.null, .int 0, .int 0], vm := .none },
  { cls := 6, slots := #[.null, .int 0, .int 0], vm := .none },
  { cls := 6, slots := #[.null, .int 0, .int 0], vm := .none },
  { cls := 6, slots := #[.null, .int 0, .int 0], vm := .none },
  { cls := 6, slots := #[.null, .int 0, .int 0], vm := .none },
  { cls := 6, slots := #[.null, .int 0, .int 0], vm := .none },
  { cls := 6, slots := #[.null, .int 0, .int 0], vm := .none },
  { cls := 6, slots := #[.null, .int 0, .int 0], vm := .none },
  { cls := 6, slots := #[.null, .int 0, .int 0], vm := .none },
  { cls := 6, slots := #[.null, .int 0, .int 0], vm := .none },
  { cls := 6, slots := #[.null, .int 0, .int 0], vm := .none },
  { cls := 6, slots := #[.null, .int 0, .int 0], vm := .none },
  { cls := 6, slots := #[.null, .int 0, .int 0], vm := .none },
  { cls := 6, slots := #[.null, .int 0, .int 0], vm := .none },
  { cls := 6, slots := #[.null, .int 0, .int 0], vm := .none }]
def classes : Array Class := #[k0, k1, k2, k3, k4, k5, k6, k7, k8, k9, k10, k11, k12, k13, k14, k15, k16, k17, k18, k19, k20, k21]
def interned : List (Array UInt16 × Addr) := []
def slotsUsed : Nat := 86
def theMethod : MethodId := ⟨1, 1⟩
def args0 : Array Value := #[.int 5]
def aboutOver (below : List Frame) : State where
  vm := { classes := classes, interned := interned.toArray }
  heap := heap
  slotsUsed := slotsUsed
  threads := #[{ frames := .invoking theMethod args0 :: below }]
def below0 : List Frame := [.native { method := ⟨0, 0⟩, args := #[] }]
def about1 : State := aboutOver below0
def p0 : Program := .bare "" "" ""
def e0 : Env := launch0.env 0 0 0
theorem w_frames : about1.frames = Frame.invoking theMethod args0 :: below0 := rfl
set_option maxRecDepth 65536 in
theorem w_args : argsFit about1.vm theMethod args0 = true := by decide +kernel
set_option maxRecDepth 65536 in
theorem w_heap : heapFits about1 = true := by decide +kernel
set_option maxRecDepth 65536 in
theorem w_runnable : about1.curStatus? = some .runnable := by decide +kernel
set_option maxRecDepth 65536 in
theorem w_alone : about1.alone = true := by decide +kernel
set_option maxRecDepth 65536 in
theorem w_named : about1.methodNamed? x = some theMethod := by decide +kernel
set_option maxRecDepth 65536 in
theorem w_hears : about1.hears theMethod below0 = true := by decide +kernel
set_option maxRecDepth 65536 in
theorem w_ripe : about1.ripe theMethod args0 below0 = true := by decide +kernel
theorem w_running : about1.status = .running := rfl
set_option maxRecDepth 65536 in
theorem w_room : about1.hasRoom e0.platform room_1 = true :=
  launch0.hasRoom_least _ room_1 (by decide +kernel) (by decide +kernel) (by decide +kernel) (by decide +kernel) (by decide +kernel) (by decide +kernel)
theorem allAtoms_all (ts : List Jvm.Cond) (a : Array Jvm.Value) (st : Jvm.State) : (allAtoms ts).before a st = ts.all (fun c => c.before a st) := by
  induction ts with
  | nil => rfl
  | cons c t ih =>
    show (Jvm.Cond.and c (allAtoms t)).before a st = _
    rw [Jvm.Cond.before_and, ih, List.all_cons]
def words1 : List Jvm.Cond := Jvm.Cond.code x code maxLocals ret :: tables_1
/-- a 'code' word, met by the world's own term for the bytes: nothing is compared byte by byte -/
theorem code_word {y : MethodName} {bytes : ByteArray} {mx : Nat} {rt : Option FieldType} {a : Array Value} {s : State} {m : MethodId} {meth : Method} {c : Code} (h1 : s.methodNamed? y = some m) (h2 : s.vm.method? m = some meth) (h3 : meth.code = some c) (h4 : c.code = bytes)
    (h5 : (c.maxLocals == mx && c.exceptionTable.isEmpty && decide (c.maxStack ≤ mostOperands) && decide (meth.sig.returnType = rt) && !meth.locks && decide (parseMethodDescriptor y.desc = some meth.sig)) = true) : (Jvm.Cond.code y bytes mx rt).before a s = true := by
  simp only [Bool.and_eq_true, beq_iff_eq, Bool.not_eq_true', decide_eq_true_eq] at h5
  obtain ⟨⟨⟨⟨⟨g1, g2⟩, g3⟩, g4⟩, g5⟩, g6⟩ := h5
  simp [Cond.before, Cond.holds, Cond.value, h1, h2, h3, h4, g1, g2, g3, g4, g5, g6]
def isCode : Jvm.Cond → Bool
  | .code _ _ _ _ => true
  | _ => false
theorem all_split {L : List Jvm.Cond} {P : Jvm.Cond → Bool} (h1 : L.all (fun c => isCode c || P c) = true) (h2 : ∀ c ∈ L.filter isCode, P c = true) : L.all P = true := by
  refine List.all_eq_true.mpr fun c hc => ?_
  have h := List.all_eq_true.mp h1 c hc
  rcases Bool.eq_false_or_eq_true (isCode c) with hi | hi
  · exact h2 c (List.mem_filter.mpr ⟨hc, hi⟩)
  · simpa [hi] using h
set_option maxRecDepth 65536 in
theorem w_c0 : (Jvm.Cond.code x code maxLocals ret).before args0 about1 = true := code_word (m := ⟨1, 1⟩) (meth := k1m1) (c := k1c1) (by decide +kernel) rfl rfl rfl (by decide +kernel)
set_option maxRecDepth 65536 in
theorem w_c1 : (Jvm.Cond.code ({ cls := "com/example/faultscope/faultscope/bpmn/NodeClassifier$Classification", name := "runs", desc := "(Lcom/example/faultscope/faultscope/bpmn/NodeKind;)Lcom/example/faultscope/faultscope/bpmn/NodeClassifier$Classification;" } : Jvm.MethodName) prog_27_method_2_code (1 : Nat) (Option.some (Jvm.ClassFile.FieldType.object "com/example/faultscope/faultscope/bpmn/NodeClassifier$Classification"))).before args0 about1 = true := code_word (m := ⟨8, 1⟩) (meth := k8m1) (c := k8c1) (by decide +kernel) rfl rfl rfl (by decide +kernel)
set_option maxRecDepth 65536 in
theorem w_c2 : (Jvm.Cond.code ({ cls := "com/example/faultscope/faultscope/bpmn/NodeClassifier$Classification", name := "<init>", desc := "(Lcom/example/faultscope/faultscope/bpmn/NodeKind;Ljava/lang/String;Lcom/example/faultscope/faultscope/bpmn/NodeClassifier$Catcher;Ljava/lang/String;)V" } : Jvm.MethodName) prog_27_method_1_code (5 : Nat) (Option.none : Option Jvm.ClassFile.FieldType)).before args0 about1 = true := code_word (m := ⟨8, 0⟩) (meth := k8m0) (c := k8c0) (by decide +kernel) rfl rfl rfl (by decide +kernel)
set_option maxRecDepth 65536 in
theorem w_c3 : (Jvm.Cond.code ({ cls := "java/lang/Record", name := "<init>", desc := "()V" } : Jvm.MethodName) jdk_30_method_1_code (1 : Nat) (Option.none : Option Jvm.ClassFile.FieldType)).before args0 about1 = true := code_word (m := ⟨7, 0⟩) (meth := k7m0) (c := k7c0) (by decide +kernel) rfl rfl rfl (by decide +kernel)
set_option maxRecDepth 65536 in
theorem w_c4 : (Jvm.Cond.code ({ cls := "java/lang/Object", name := "<init>", desc := "()V" } : Jvm.MethodName) object_method_1_code (1 : Nat) (Option.none : Option Jvm.ClassFile.FieldType)).before args0 about1 = true := code_word (m := ⟨0, 0⟩) (meth := k0m0) (c := k0c0) (by decide +kernel) rfl rfl rfl (by decide +kernel)
set_option maxRecDepth 65536 in
theorem w_c5 : (Jvm.Cond.code ({ cls := "com/example/faultscope/faultscope/bpmn/NodeClassifier$Classification", name := "kind", desc := "()Lcom/example/faultscope/faultscope/bpmn/NodeKind;" } : Jvm.MethodName) prog_27_method_7_code (1 : Nat) (Option.some (Jvm.ClassFile.FieldType.object "com/example/faultscope/faultscope/bpmn/NodeKind"))).before args0 about1 = true := code_word (m := ⟨8, 2⟩) (meth := k8m2) (c := k8c2) (by decide +kernel) rfl rfl rfl (by decide +kernel)
set_option maxRecDepth 65536 in
theorem w_c6 : (Jvm.Cond.code ({ cls := "com/example/faultscope/faultscope/bpmn/NodeClassifier$Classification", name := "limitation", desc := "()Ljava/lang/String;" } : Jvm.MethodName) prog_27_method_8_code (1 : Nat) (Option.some (Jvm.ClassFile.FieldType.object "java/lang/String"))).before args0 about1 = true := code_word (m := ⟨8, 3⟩) (meth := k8m3) (c := k8c3) (by decide +kernel) rfl rfl rfl (by decide +kernel)
set_option maxRecDepth 65536 in
theorem w_c7 : (Jvm.Cond.code ({ cls := "java/lang/String", name := "isEmpty", desc := "()Z" } : Jvm.MethodName) jdk_42_method_55_code (1 : Nat) (Option.some Jvm.ClassFile.FieldType.boolean)).before args0 about1 = true := code_word (m := ⟨11, 1⟩) (meth := k11m1) (c := k11c1) (by decide +kernel) rfl rfl rfl (by decide +kernel)
set_option maxRecDepth 65536 in
theorem w_c8 : (Jvm.Cond.code ({ cls := "com/example/faultscope/faultscope/bpmn/NodeClassifier$Classification", name := "catcher", desc := "()Lcom/example/faultscope/faultscope/bpmn/NodeClassifier$Catcher;" } : Jvm.MethodName) prog_27_method_9_code (1 : Nat) (Option.some (Jvm.ClassFile.FieldType.object "com/example/faultscope/faultscope/bpmn/NodeClassifier$Catcher"))).before args0 about1 = true := code_word (m := ⟨8, 4⟩) (meth := k8m4) (c := k8c4) (by decide +kernel) rfl rfl rfl (by decide +kernel)
set_option maxRecDepth 65536 in
theorem w_c9 : (Jvm.Cond.code ({ cls := "com/example/faultscope/faultscope/bpmn/NodeClassifier$Classification", name := "errorCode", desc := "()Ljava/lang/String;" } : Jvm.MethodName) prog_27_method_10_code (1 : Nat) (Option.some (Jvm.ClassFile.FieldType.object "java/lang/String"))).before args0 about1 = true := code_word (m := ⟨8, 5⟩) (meth := k8m5) (c := k8c5) (by decide +kernel) rfl rfl rfl (by decide +kernel)
def codes1 : List Jvm.Cond := [Jvm.Cond.code x code maxLocals ret, Jvm.Cond.code ({ cls := "com/example/faultscope/faultscope/bpmn/NodeClassifier$Classification", name := "runs", desc := "(Lcom/example/faultscope/faultscope/bpmn/NodeKind;)Lcom/example/faultscope/faultscope/bpmn/NodeClassifier$Classification;" } : Jvm.MethodName) prog_27_method_2_code (1 : Nat) (Option.some (Jvm.ClassFile.FieldType.object "com/example/faultscope/faultscope/bpmn/NodeClassifier$Classification")), Jvm.Cond.code ({ cls := "com/example/faultscope/faultscope/bpmn/NodeClassifier$Classification", name := "<init>", desc := "(Lcom/example/faultscope/faultscope/bpmn/NodeKind;Ljava/lang/String;Lcom/example/faultscope/faultscope/bpmn/NodeClassifier$Catcher;Ljava/lang/String;)V" } : Jvm.MethodName) prog_27_method_1_code (5 : Nat) (Option.none : Option Jvm.ClassFile.FieldType), Jvm.Cond.code ({ cls := "java/lang/Record", name := "<init>", desc := "()V" } : Jvm.MethodName) jdk_30_method_1_code (1 : Nat) (Option.none : Option Jvm.ClassFile.FieldType), Jvm.Cond.code ({ cls := "java/lang/Object", name := "<init>", desc := "()V" } : Jvm.MethodName) object_method_1_code (1 : Nat) (Option.none : Option Jvm.ClassFile.FieldType), Jvm.Cond.code ({ cls := "com/example/faultscope/faultscope/bpmn/NodeClassifier$Classification", name := "kind", desc := "()Lcom/example/faultscope/faultscope/bpmn/NodeKind;" } : Jvm.MethodName) prog_27_method_7_code (1 : Nat) (Option.some (Jvm.ClassFile.FieldType.object "com/example/faultscope/faultscope/bpmn/NodeKind")), Jvm.Cond.code ({ cls := "com/example/faultscope/faultscope/bpmn/NodeClassifier$Classification", name := "limitation", desc := "()Ljava/lang/String;" } : Jvm.MethodName) prog_27_method_8_code (1 : Nat) (Option.some (Jvm.ClassFile.FieldType.object "java/lang/String")), Jvm.Cond.code ({ cls := "java/lang/String", name := "isEmpty", desc := "()Z" } : Jvm.MethodName) jdk_42_method_55_code (1 : Nat) (Option.some Jvm.ClassFile.FieldType.boolean), Jvm.Cond.code ({ cls := "com/example/faultscope/faultscope/bpmn/NodeClassifier$Classification", name := "catcher", desc := "()Lcom/example/faultscope/faultscope/bpmn/NodeClassifier$Catcher;" } : Jvm.MethodName) prog_27_method_9_code (1 : Nat) (Option.some (Jvm.ClassFile.FieldType.object "com/example/faultscope/faultscope/bpmn/NodeClassifier$Catcher")), Jvm.Cond.code ({ cls := "com/example/faultscope/faultscope/bpmn/NodeClassifier$Classification", name := "errorCode", desc := "()Ljava/lang/String;" } : Jvm.MethodName) prog_27_method_10_code (1 : Nat) (Option.some (Jvm.ClassFile.FieldType.object "java/lang/String"))]
set_option maxRecDepth 65536 in
theorem codes_eq : words1.filter isCode = codes1 := rfl
theorem w_codes : ∀ c ∈ words1.filter isCode, c.before args0 about1 = true := by
  rw [codes_eq]
  intro c hc
  simp only [codes1, List.mem_cons, List.not_mem_nil, or_false] at hc
  rcases hc with rfl | rfl | rfl | rfl | rfl | rfl | rfl | rfl | rfl | rfl
  · exact w_c0
  · exact w_c1
  · exact w_c2
  · exact w_c3
  · exact w_c4
  · exact w_c5
  · exact w_c6
  · exact w_c7
  · exact w_c8
  · exact w_c9
set_option maxRecDepth 65536 in
theorem w_t1 : (words1.take 24).all (fun c => isCode c || c.before args0 about1) = true := by decide +kernel
set_option maxRecDepth 65536 in
theorem w_t2 : ((words1.drop 24).take 24).all (fun c => isCode c || c.before args0 about1) = true := by decide +kernel
set_option maxRecDepth 65536 in
theorem w_t3 : (((words1.drop 24).drop 24).take 24).all (fun c => isCode c || c.before args0 about1) = true := by decide +kernel
set_option maxRecDepth 65536 in
theorem w_t4 : ((((words1.drop 24).drop 24).drop 24).take 24).all (fun c => isCode c || c.before args0 about1) = true := by decide +kernel
set_option maxRecDepth 65536 in
theorem w_t5 : ((((words1.drop 24).drop 24).drop 24).drop 24).all (fun c => isCode c || c.before args0 about1) = true := by decide +kernel
theorem w_tables : (allAtoms (Jvm.Cond.code x code maxLocals ret :: tables_1)).before args0 about1 = true := by
  rw [allAtoms_all]
  show words1.all (fun c => c.before args0 about1) = true
  refine all_split ?_ w_codes
  rw [← List.take_append_drop 24 words1, List.all_append, w_t1, ← List.take_append_drop 24 (words1.drop 24), List.all_append, w_t2, ← List.take_append_drop 24 ((words1.drop 24).drop 24), List.all_append, w_t3, ← List.take_append_drop 24 (((words1.drop 24).drop 24).drop 24), List.all_append, w_t4, w_t5]
  rfl
set_option maxRecDepth 65536 in
theorem w_rest : rest_1_c.before args0 about1 = true := by decide +kernel
set_option maxRecDepth 65536 in
theorem w_case : (Jvm.Cond.and given_1 narrow_1).before args0 about1 = true := by decide +kernel
set_option maxRecDepth 65536 in
theorem w_consts : constsHeld consts_1 about1 := Jvm.Lit.constsHeldB_iff.mp (by decide +kernel)
theorem w_applies : (headSpec (Jvm.Cond.code x code maxLocals ret :: tables_1) room_1).applies x e0.platform about1 = true :=
  (Spec.applies_iff w_frames).mpr ⟨w_running, w_runnable, w_alone, w_named, w_hears, w_ripe, w_room, w_tables⟩
theorem atStart : AtStart classFile x code maxLocals ret World_1 tables_1 room_1 Calls_1 rest_1 Pre_1 launch0 p0 e0 about1 theMethod args0 below0 :=
  ⟨lists_1, trivial, launch0.admits_env _ _ _, launch0.least_env, fairChoices_fair.cas, fairChoices_fair.clock, w_frames, w_args, w_heap, w_applies, ⟨w_consts, trivial⟩, w_rest, w_case⟩
end start1
theorem witness_1 : WitnessClaimed_1 := ⟨start1.p0, start1.e0, start1.about1, start1.theMethod, start1.args0, start1.below0, start1.atStart⟩
end Jvm.Pilot.@@N@@
