import JvmDerived
import JvmDerived.Pilot.@@N@@Statement
import JvmDerived.Pilot.@@N@@Code
set_option linter.unusedVariables false
set_option linter.unusedSimpArgs false
namespace Jvm.Pilot.@@N@@
open Jvm Jvm.ClassFile Sem Op Lib Jvm.Free Jvm.Stand Jvm.LawKit Jvm.RoadKit Bundle Jvm.Pilot.@@N@@.Jvm.D
section OwnSteps
variable {tb : Tables} [Ours tb] {e : Env} {below : List Frame} {T target : State} {m : MethodId} {c : Code} {g : JFrame} {rest : List Value}
theorem Own.iadd (h : At T m c below) (hx : tb.exec = Jvm.exec) (hg : g.method = m) {x : Int32} {y : Int32} {z : Int32} (hd : decode c.code g.pc = .ok (.iadd, 1)) (hs : g.stack = .int y :: .int x :: rest) (hz : (x + y) = z)
    (hr : Steps tb e below (T.setTop { g with pc := g.pc + 1, stack := .int z :: rest }) target) : Steps tb e below (T.setTop g) target := XS.iadd h hx hg hd hs (by rw [show (x + y) = z from hz]; exact hr)
theorem Own.isub (h : At T m c below) (hx : tb.exec = Jvm.exec) (hg : g.method = m) {x : Int32} {y : Int32} {z : Int32} (hd : decode c.code g.pc = .ok (.isub, 1)) (hs : g.stack = .int y :: .int x :: rest) (hz : (x - y) = z)
    (hr : Steps tb e below (T.setTop { g with pc := g.pc + 1, stack := .int z :: rest }) target) : Steps tb e below (T.setTop g) target := XS.isub h hx hg hd hs (by rw [show (x - y) = z from hz]; exact hr)
theorem Own.imul (h : At T m c below) (hx : tb.exec = Jvm.exec) (hg : g.method = m) {x : Int32} {y : Int32} {z : Int32} (hd : decode c.code g.pc = .ok (.imul, 1)) (hs : g.stack = .int y :: .int x :: rest) (hz : (x * y) = z)
    (hr : Steps tb e below (T.setTop { g with pc := g.pc + 1, stack := .int z :: rest }) target) : Steps tb e below (T.setTop g) target := XS.imul h hx hg hd hs (by rw [show (x * y) = z from hz]; exact hr)
theorem Own.iand (h : At T m c below) (hx : tb.exec = Jvm.exec) (hg : g.method = m) {x : Int32} {y : Int32} {z : Int32} (hd : decode c.code g.pc = .ok (.iand, 1)) (hs : g.stack = .int y :: .int x :: rest) (hz : (x &&& y) = z)
    (hr : Steps tb e below (T.setTop { g with pc := g.pc + 1, stack := .int z :: rest }) target) : Steps tb e below (T.setTop g) target := XS.iand h hx hg hd hs (by rw [show (x &&& y) = z from hz]; exact hr)
theorem Own.ior (h : At T m c below) (hx : tb.exec = Jvm.exec) (hg : g.method = m) {x : Int32} {y : Int32} {z : Int32} (hd : decode c.code g.pc = .ok (.ior, 1)) (hs : g.stack = .int y :: .int x :: rest) (hz : (x ||| y) = z)
    (hr : Steps tb e below (T.setTop { g with pc := g.pc + 1, stack := .int z :: rest }) target) : Steps tb e below (T.setTop g) target := XS.ior h hx hg hd hs (by rw [show (x ||| y) = z from hz]; exact hr)
theorem Own.ixor (h : At T m c below) (hx : tb.exec = Jvm.exec) (hg : g.method = m) {x : Int32} {y : Int32} {z : Int32} (hd : decode c.code g.pc = .ok (.ixor, 1)) (hs : g.stack = .int y :: .int x :: rest) (hz : (x ^^^ y) = z)
    (hr : Steps tb e below (T.setTop { g with pc := g.pc + 1, stack := .int z :: rest }) target) : Steps tb e below (T.setTop g) target := XS.ixor h hx hg hd hs (by rw [show (x ^^^ y) = z from hz]; exact hr)
theorem Own.ishl (h : At T m c below) (hx : tb.exec = Jvm.exec) (hg : g.method = m) {x : Int32} {y : Int32} {z : Int32} (hd : decode c.code g.pc = .ok (.ishl, 1)) (hs : g.stack = .int y :: .int x :: rest) (hz : (x <<< (y &&& 31)) = z)
    (hr : Steps tb e below (T.setTop { g with pc := g.pc + 1, stack := .int z :: rest }) target) : Steps tb e below (T.setTop g) target := XS.ishl h hx hg hd hs (by rw [show (x <<< (y &&& 31)) = z from hz]; exact hr)
theorem Own.ishr (h : At T m c below) (hx : tb.exec = Jvm.exec) (hg : g.method = m) {x : Int32} {y : Int32} {z : Int32} (hd : decode c.code g.pc = .ok (.ishr, 1)) (hs : g.stack = .int y :: .int x :: rest) (hz : (x >>> (y &&& 31)) = z)
    (hr : Steps tb e below (T.setTop { g with pc := g.pc + 1, stack := .int z :: rest }) target) : Steps tb e below (T.setTop g) target := XS.ishr h hx hg hd hs (by rw [show (x >>> (y &&& 31)) = z from hz]; exact hr)
theorem Own.iushr (h : At T m c below) (hx : tb.exec = Jvm.exec) (hg : g.method = m) {x : Int32} {y : Int32} {z : Int32} (hd : decode c.code g.pc = .ok (.iushr, 1)) (hs : g.stack = .int y :: .int x :: rest) (hz : ((x.toUInt32 >>> (y &&& 31).toUInt32).toInt32) = z)
    (hr : Steps tb e below (T.setTop { g with pc := g.pc + 1, stack := .int z :: rest }) target) : Steps tb e below (T.setTop g) target := XS.iushr h hx hg hd hs (by rw [show ((x.toUInt32 >>> (y &&& 31).toUInt32).toInt32) = z from hz]; exact hr)
theorem Own.ladd (h : At T m c below) (hx : tb.exec = Jvm.exec) (hg : g.method = m) {x : Int64} {y : Int64} {z : Int64} (hd : decode c.code g.pc = .ok (.ladd, 1)) (hs : g.stack = .long y :: .long x :: rest) (hz : (x + y) = z)
    (hr : Steps tb e below (T.setTop { g with pc := g.pc + 1, stack := .long z :: rest }) target) : Steps tb e below (T.setTop g) target := XS.ladd h hx hg hd hs (by rw [show (x + y) = z from hz]; exact hr)
theorem Own.lsub (h : At T m c below) (hx : tb.exec = Jvm.exec) (hg : g.method = m) {x : Int64} {y : Int64} {z : Int64} (hd : decode c.code g.pc = .ok (.lsub, 1)) (hs : g.stack = .long y :: .long x :: rest) (hz : (x - y) = z)
    (hr : Steps tb e below (T.setTop { g with pc := g.pc + 1, stack := .long z :: rest }) target) : Steps tb e below (T.setTop g) target := XS.lsub h hx hg hd hs (by rw [show (x - y) = z from hz]; exact hr)
theorem Own.lmul (h : At T m c below) (hx : tb.exec = Jvm.exec) (hg : g.method = m) {x : Int64} {y : Int64} {z : Int64} (hd : decode c.code g.pc = .ok (.lmul, 1)) (hs : g.stack = .long y :: .long x :: rest) (hz : (x * y) = z)
    (hr : Steps tb e below (T.setTop { g with pc := g.pc + 1, stack := .long z :: rest }) target) : Steps tb e below (T.setTop g) target := XS.lmul h hx hg hd hs (by rw [show (x * y) = z from hz]; exact hr)
theorem Own.land (h : At T m c below) (hx : tb.exec = Jvm.exec) (hg : g.method = m) {x : Int64} {y : Int64} {z : Int64} (hd : decode c.code g.pc = .ok (.land, 1)) (hs : g.stack = .long y :: .long x :: rest) (hz : (x &&& y) = z)
    (hr : Steps tb e below (T.setTop { g with pc := g.pc + 1, stack := .long z :: rest }) target) : Steps tb e below (T.setTop g) target := XS.land h hx hg hd hs (by rw [show (x &&& y) = z from hz]; exact hr)
theorem Own.lor (h : At T m c below) (hx : tb.exec = Jvm.exec) (hg : g.method = m) {x : Int64} {y : Int64} {z : Int64} (hd : decode c.code g.pc = .ok (.lor, 1)) (hs : g.stack = .long y :: .long x :: rest) (hz : (x ||| y) = z)
    (hr : Steps tb e below (T.setTop { g with pc := g.pc + 1, stack := .long z :: rest }) target) : Steps tb e below (T.setTop g) target := XS.lor h hx hg hd hs (by rw [show (x ||| y) = z from hz]; exact hr)
theorem Own.lxor (h : At T m c below) (hx : tb.exec = Jvm.exec) (hg : g.method = m) {x : Int64} {y : Int64} {z : Int64} (hd : decode c.code g.pc = .ok (.lxor, 1)) (hs : g.stack = .long y :: .long x :: rest) (hz : (x ^^^ y) = z)
    (hr : Steps tb e below (T.setTop { g with pc := g.pc + 1, stack := .long z :: rest }) target) : Steps tb e below (T.setTop g) target := XS.lxor h hx hg hd hs (by rw [show (x ^^^ y) = z from hz]; exact hr)
theorem Own.lshl (h : At T m c below) (hx : tb.exec = Jvm.exec) (hg : g.method = m) {x : Int64} {y : Int32} {z : Int64} (hd : decode c.code g.pc = .ok (.lshl, 1)) (hs : g.stack = .int y :: .long x :: rest) (hz : (x <<< (y &&& 63).toInt64) = z)
    (hr : Steps tb e below (T.setTop { g with pc := g.pc + 1, stack := .long z :: rest }) target) : Steps tb e below (T.setTop g) target := XS.lshl h hx hg hd hs (by rw [show (x <<< (y &&& 63).toInt64) = z from hz]; exact hr)
theorem Own.lshr (h : At T m c below) (hx : tb.exec = Jvm.exec) (hg : g.method = m) {x : Int64} {y : Int32} {z : Int64} (hd : decode c.code g.pc = .ok (.lshr, 1)) (hs : g.stack = .int y :: .long x :: rest) (hz : (x >>> (y &&& 63).toInt64) = z)
    (hr : Steps tb e below (T.setTop { g with pc := g.pc + 1, stack := .long z :: rest }) target) : Steps tb e below (T.setTop g) target := XS.lshr h hx hg hd hs (by rw [show (x >>> (y &&& 63).toInt64) = z from hz]; exact hr)
theorem Own.lushr (h : At T m c below) (hx : tb.exec = Jvm.exec) (hg : g.method = m) {x : Int64} {y : Int32} {z : Int64} (hd : decode c.code g.pc = .ok (.lushr, 1)) (hs : g.stack = .int y :: .long x :: rest) (hz : ((x.toUInt64 >>> (y &&& 63).toInt64.toUInt64).toInt64) = z)
    (hr : Steps tb e below (T.setTop { g with pc := g.pc + 1, stack := .long z :: rest }) target) : Steps tb e below (T.setTop g) target := XS.lushr h hx hg hd hs (by rw [show ((x.toUInt64 >>> (y &&& 63).toInt64.toUInt64).toInt64) = z from hz]; exact hr)
theorem Own.lcmp (h : At T m c below) (hx : tb.exec = Jvm.exec) (hg : g.method = m) {x : Int64} {y : Int64} {z : Int32} (hd : decode c.code g.pc = .ok (.lcmp, 1)) (hs : g.stack = .long y :: .long x :: rest) (hz : lcmpW x y = z)
    (hr : Steps tb e below (T.setTop { g with pc := g.pc + 1, stack := .int z :: rest }) target) : Steps tb e below (T.setTop g) target := XS.lcmp h hx hg hd hs (by rw [show (if x > y then (1 : Int32) else if x = y then 0 else -1) = z from hz]; exact hr)
theorem Own.ineg (h : At T m c below) (hx : tb.exec = Jvm.exec) (hg : g.method = m) {x : Int32} {z : Int32} (hd : decode c.code g.pc = .ok (.ineg, 1)) (hs : g.stack = .int x :: rest) (hz : (-x) = z)
    (hr : Steps tb e below (T.setTop { g with pc := g.pc + 1, stack := .int z :: rest }) target) : Steps tb e below (T.setTop g) target := XS.ineg h hx hg hd hs (by rw [show (-x) = z from hz]; exact hr)
theorem Own.i2l (h : At T m c below) (hx : tb.exec = Jvm.exec) (hg : g.method = m) {x : Int32} {z : Int64} (hd : decode c.code g.pc = .ok (.i2l, 1)) (hs : g.stack = .int x :: rest) (hz : (x.toInt64) = z)
    (hr : Steps tb e below (T.setTop { g with pc := g.pc + 1, stack := .long z :: rest }) target) : Steps tb e below (T.setTop g) target := XS.i2l h hx hg hd hs (by rw [show (x.toInt64) = z from hz]; exact hr)
theorem Own.i2b (h : At T m c below) (hx : tb.exec = Jvm.exec) (hg : g.method = m) {x : Int32} {z : Int32} (hd : decode c.code g.pc = .ok (.i2b, 1)) (hs : g.stack = .int x :: rest) (hz : (x.toInt8.toInt32) = z)
    (hr : Steps tb e below (T.setTop { g with pc := g.pc + 1, stack := .int z :: rest }) target) : Steps tb e below (T.setTop g) target := XS.i2b h hx hg hd hs (by rw [show (x.toInt8.toInt32) = z from hz]; exact hr)
theorem Own.i2c (h : At T m c below) (hx : tb.exec = Jvm.exec) (hg : g.method = m) {x : Int32} {z : Int32} (hd : decode c.code g.pc = .ok (.i2c, 1)) (hs : g.stack = .int x :: rest) (hz : (x.toUInt32.toUInt16.toUInt32.toInt32) = z)
    (hr : Steps tb e below (T.setTop { g with pc := g.pc + 1, stack := .int z :: rest }) target) : Steps tb e below (T.setTop g) target := XS.i2c h hx hg hd hs (by rw [show (x.toUInt32.toUInt16.toUInt32.toInt32) = z from hz]; exact hr)
theorem Own.i2s (h : At T m c below) (hx : tb.exec = Jvm.exec) (hg : g.method = m) {x : Int32} {z : Int32} (hd : decode c.code g.pc = .ok (.i2s, 1)) (hs : g.stack = .int x :: rest) (hz : (x.toInt16.toInt32) = z)
    (hr : Steps tb e below (T.setTop { g with pc := g.pc + 1, stack := .int z :: rest }) target) : Steps tb e below (T.setTop g) target := XS.i2s h hx hg hd hs (by rw [show (x.toInt16.toInt32) = z from hz]; exact hr)
theorem Own.lneg (h : At T m c below) (hx : tb.exec = Jvm.exec) (hg : g.method = m) {x : Int64} {z : Int64} (hd : decode c.code g.pc = .ok (.lneg, 1)) (hs : g.stack = .long x :: rest) (hz : (-x) = z)
    (hr : Steps tb e below (T.setTop { g with pc := g.pc + 1, stack := .long z :: rest }) target) : Steps tb e below (T.setTop g) target := XS.lneg h hx hg hd hs (by rw [show (-x) = z from hz]; exact hr)
theorem Own.l2i (h : At T m c below) (hx : tb.exec = Jvm.exec) (hg : g.method = m) {x : Int64} {z : Int32} (hd : decode c.code g.pc = .ok (.l2i, 1)) (hs : g.stack = .long x :: rest) (hz : (x.toInt32) = z)
    (hr : Steps tb e below (T.setTop { g with pc := g.pc + 1, stack := .int z :: rest }) target) : Steps tb e below (T.setTop g) target := XS.l2i h hx hg hd hs (by rw [show (x.toInt32) = z from hz]; exact hr)
theorem Own.idiv (h : At T m c below) (hx : tb.exec = Jvm.exec) (hg : g.method = m) {x y z : Int32} (hd : decode c.code g.pc = .ok (.idiv, 1)) (hs : g.stack = .int y :: .int x :: rest) (hy : y ≠ 0) (hz : x / y = z)
    (hr : Steps tb e below (T.setTop { g with pc := g.pc + 1, stack := .int z :: rest }) target) : Steps tb e below (T.setTop g) target := XS.idiv h hx hg hd hs hy (by rw [hz]; exact hr)
theorem Own.iinc (h : At T m c below) (hx : tb.exec = Jvm.exec) (hg : g.method = m) {k : Nat} {cst : Int} {x z : Int32} {l' : Array Slot} (hd : decode c.code g.pc = .ok (.iinc k cst, 3)) (hl : g.locals[k]? = some (.val (.int x))) (hz : x + Int32.ofInt cst = z) (hl' : storeLocals g.locals k (.int z) = some l')
    (hr : Steps tb e below (T.setTop { g with pc := g.pc + 3, locals := l' }) target) : Steps tb e below (T.setTop g) target := XS.iinc h hx hg hd hl (by rw [hz]; exact hl') hr
theorem Own.iload (h : At T m c below) (hx : tb.exec = Jvm.exec) (hg : g.method = m) {k : Nat} {v z : Int32} (hd : decode c.code g.pc = .ok (.iload k, 2)) (hl : g.locals[k]? = some (.val (.int v))) (hz : v = z)
    (hr : Steps tb e below (T.setTop { g with pc := g.pc + 2, stack := .int z :: g.stack }) target) : Steps tb e below (T.setTop g) target := XS.iload h hx hg hd hl (by rw [hz]; exact hr)
theorem Own.iloadN (h : At T m c below) (hx : tb.exec = Jvm.exec) (hg : g.method = m) {k : Fin 4} {v z : Int32} (hd : decode c.code g.pc = .ok (.iload_n k, 1)) (hl : g.locals[k.val]? = some (.val (.int v))) (hz : v = z)
    (hr : Steps tb e below (T.setTop { g with pc := g.pc + 1, stack := .int z :: g.stack }) target) : Steps tb e below (T.setTop g) target := XS.iloadN h hx hg hd hl (by rw [hz]; exact hr)
end OwnSteps
theorem own_irem {p : Program} {l : Launch} {e : Env} {R : Room} {s : State} {m : MethodId} {args : Array Value} {below : List Frame} {meth : Method} {c : Code} {T : State} {locs : List Loc} {cells slots : Nat} {g : JFrame} {target : State} (X : Stand p l e R s m args below meth c T locs cells slots) (hx : p.tables.exec = Jvm.exec) (hg : g.method = m) {x y z : Int32} {rest : List Value} (hd : decode c.code g.pc = .ok (.irem, 1)) (hs : g.stack = .int y :: .int x :: rest) (hy : y ≠ 0) (hz : x % y = z)
    (hr : Steps p.tables e below (T.setTop { g with pc := g.pc + 1, stack := .int z :: rest }) target) : Steps p.tables e below (T.setTop g) target := iremM X hx hg hd hs hy (by rw [hz]; exact hr)
section OwnCalls
variable {p : Program} {l : Launch} {e : Env} {R : Room} {s : State} {m : MethodId} {args : Array Value} {below : List Frame} {meth : Method} {c : Code} {T : State} {locs : List Loc} {cells slots : Nat} {Z : State} {a0 : Array Value} {h : Heap}
theorem own_callS (X : Stand p l e R s m args below meth c T locs cells slots) (hx : p.tables.exec = Jvm.exec) (hZ : Z.Warmed39 s.vm) {own : String} {index W maxL : Nat} {y : MethodName} {bytes : ByteArray} {ret : Option FieldType} {rm : Room} {as' : Array Value} {Q : Option Value → Heap → List Loc → Prop}
    (hown : s.vm.findClass own = some m.cls) (w1 : (Jvm.Cond.methodLink own index y).before a0 Z = true) (w2 : (Jvm.Cond.static y).before a0 Z = true) (w3 : (Jvm.Cond.initialized y.cls).before a0 Z = true) (w4 : (Jvm.Cond.code y bytes maxL ret).before a0 Z = true) (hy : y.cls ≠ "java/lang/invoke/MethodHandle" ∧ y.cls ≠ "java/lang/invoke/VarHandle")
    (hM : MetFree l y (head1 [Jvm.Cond.code y bytes maxL ret] rm) (fun a U => a = as' ∧ Z.Warmed39 U.vm ∧ U.heap = h) (fun _ _ _ _ _ => True) (fun _ U o U' => ∃ v L, o = .returned v ∧ Q v U'.heap L ∧ FrameEnd U o U' L rm.cells rm.slots)) (eT : T.heap = h)
    {g : JFrame} (hg : g.method = m) (hsize : g.locals.size = c.maxLocals) {argsL rest : List Value} (hlen : ∀ sig, parseMethodDescriptor y.desc = some sig → argsL.length = sig.parameters.length) (hstack : g.stack = argsL.reverse ++ rest) (has : argsL.toArray = as') (hW : 2 * g.monitorRoom + (rest.map fun v => v.category).sum ≤ W)
    (hdg : decode c.code g.pc = .ok (.invokestatic index, 3)) (hf : rm.frames + 1 ≤ R.frames) (hl : W + (maxL + 11) + rm.locals ≤ R.locals) (hc : cells + rm.cells ≤ R.cells) (hs : slots + rm.slots ≤ R.slots) :
    ∃ (v : Option Value) (T' : State) (L : List Loc), Q v T'.heap L ∧ Stand p l e R s m args below meth c T' (locs ++ L) (cells + rm.cells) (slots + rm.slots) ∧ ∀ target, Steps p.tables e below (T'.setTop { g with pc := g.pc + 3, stack := v.toList ++ rest }) target → Steps p.tables e below (T.setTop g) target := by
  obtain ⟨v, _, ⟨T', L', c', s'⟩, -, X', ⟨L, hq, e1, e2, e3⟩, st⟩ := Jvm.LawKit.callS X hx hown (mvT hZ w1) (mvT hZ w2) (mvT hZ w3) (mvT hZ w4) hy (backOf (W := W) hM hZ w4 w3 hf hl) hg hsize hlen hstack hW hdg (fun _ _ => ⟨has, eT, hc, hs⟩)
  subst e1 e2 e3
  exact ⟨v, T', L, hq, X', st⟩
theorem own_special (X : Stand p l e R s m args below meth c T locs cells slots) (hx : p.tables.exec = Jvm.exec) (hZ : Z.Warmed39 s.vm) {own : String} {index W maxL : Nat} {y : MethodName} {bytes : ByteArray} {rm : Room} {as' : Array Value} {Q : Option Value → Heap → List Loc → Prop} (hy1 : y.name = "<init>")
    (hown : s.vm.findClass own = some m.cls) (w1 : (Jvm.Cond.methodLink own index y).before a0 Z = true) (w2 : (Jvm.Cond.instanceMethod y).before a0 Z = true) (w3 : (Jvm.Cond.initialized y.cls).before a0 Z = true) (w4 : (Jvm.Cond.code y bytes maxL none).before a0 Z = true) (hy : y.cls ≠ "java/lang/invoke/MethodHandle" ∧ y.cls ≠ "java/lang/invoke/VarHandle")
    (hM : MetFree l y (head1 [Jvm.Cond.code y bytes maxL none] rm) (fun a U => a = as' ∧ Z.Warmed39 U.vm ∧ U.heap = h) (fun _ _ _ _ _ => True) (fun _ U o U' => ∃ v L, o = .returned v ∧ Q v U'.heap L ∧ FrameEnd U o U' L rm.cells rm.slots)) (eT : T.heap = h)
    {g : JFrame} (hg : g.method = m) (hsize : g.locals.size = c.maxLocals) {a : Addr} {argsL rest : List Value} (hlen : ∀ sig, parseMethodDescriptor y.desc = some sig → argsL.length = sig.parameters.length) (hstack : g.stack = argsL.reverse ++ .ref a :: rest) (has : (.ref a :: argsL).toArray = as') (hW : 2 * g.monitorRoom + (rest.map fun v => v.category).sum ≤ W)
    (hdg : decode c.code g.pc = .ok (.invokespecial index, 3)) (hf : rm.frames + 1 ≤ R.frames) (hl : W + (maxL + 11) + rm.locals ≤ R.locals) (hc : cells + rm.cells ≤ R.cells) (hs : slots + rm.slots ≤ R.slots) :
    ∃ (v : Option Value) (T' : State) (L : List Loc), Q v T'.heap L ∧ Stand p l e R s m args below meth c T' (locs ++ L) (cells + rm.cells) (slots + rm.slots) ∧ ∀ target, Steps p.tables e below (T'.setTop { g with pc := g.pc + 3, stack := v.toList ++ rest }) target → Steps p.tables e below (T.setTop g) target := by
  obtain ⟨v, _, ⟨T', L', c', s'⟩, -, X', ⟨L, hq, e1, e2, e3⟩, st⟩ := X.specialBack hx hy1 hown (mvT hZ w1) (mvT hZ w2) (mvT hZ w4) hy (backOf (W := W) hM hZ w4 w3 hf hl) hg hsize (Steps.refl _) hlen hstack hW hdg (fun _ _ => ⟨has, eT, hc, hs⟩)
  subst e1 e2 e3
  exact ⟨v, T', L, hq, X', fun _ k => st.trans k⟩
theorem own_virtual (X : Stand p l e R s m args below meth c T locs cells slots) (hx : p.tables.exec = Jvm.exec) (hZ : Z.Warmed39 s.vm) {own C : String} {index W maxL : Nat} {y z : MethodName} {bytes : ByteArray} {ret : Option FieldType} {rm : Room} {as' : Array Value} {Q : Option Value → Heap → List Loc → Prop}
    (hown : s.vm.findClass own = some m.cls) (w1 : (Jvm.Cond.methodLink own index y).before a0 Z = true) (w2 : (Jvm.Cond.declares y).before a0 Z = true) (nf : NotFace s y) (w5 : (Jvm.Cond.selects C y z).before a0 Z = true) (w6 : (Jvm.Cond.instanceMethod z).before a0 Z = true) (w3 : (Jvm.Cond.initialized z.cls).before a0 Z = true) (w4 : (Jvm.Cond.code z bytes maxL ret).before a0 Z = true) (hy : y.cls ≠ "java/lang/invoke/MethodHandle" ∧ y.cls ≠ "java/lang/invoke/VarHandle")
    (hM : MetFree l z (head1 [Jvm.Cond.code z bytes maxL ret] rm) (fun a U => a = as' ∧ Z.Warmed39 U.vm ∧ U.heap = h) (fun _ _ _ _ _ => True) (fun _ U o U' => ∃ v L, o = .returned v ∧ Q v U'.heap L ∧ FrameEnd U o U' L rm.cells rm.slots)) (eT : T.heap = h) {b : Addr} (E : Exa Z h b C)
    {g : JFrame} (hg : g.method = m) (hsize : g.locals.size = c.maxLocals) {argsL rest : List Value} (hlen : ∀ sig, parseMethodDescriptor y.desc = some sig → argsL.length = sig.parameters.length) (hstack : g.stack = argsL.reverse ++ .ref b :: rest) (has : (.ref b :: argsL).toArray = as') (hW : 2 * g.monitorRoom + (rest.map fun v => v.category).sum ≤ W)
    (hdg : decode c.code g.pc = .ok (.invokevirtual index, 3)) (hf : rm.frames + 1 ≤ R.frames) (hl : W + (maxL + 11) + rm.locals ≤ R.locals) (hc : cells + rm.cells ≤ R.cells) (hs : slots + rm.slots ≤ R.slots) :
    ∃ (v : Option Value) (T' : State) (L : List Loc), Q v T'.heap L ∧ Stand p l e R s m args below meth c T' (locs ++ L) (cells + rm.cells) (slots + rm.slots) ∧ ∀ target, Steps p.tables e below (T'.setTop { g with pc := g.pc + 3, stack := v.toList ++ rest }) target → Steps p.tables e below (T.setTop g) target := by
  obtain ⟨cB, kB, qa, qb, qc⟩ := isOf hZ eT E
  obtain ⟨v, _, ⟨T', L', c', s'⟩, -, X', ⟨L, hq, e1, e2, e3⟩, st⟩ := X.virtualBack hx hown (mvT hZ w1) (mvT hZ w2) nf (mvT hZ w5) (mvT hZ w6) hy (backOf (W := W) hM hZ w4 w3 hf hl) qa qc hg hsize (Steps.refl _) hlen hstack hW hdg (fun _ _ => ⟨has, eT, hc, hs⟩)
  subst e1 e2 e3
  exact ⟨v, T', L, hq, X', fun _ k => st.trans k⟩
theorem own_virtualUp (X : Stand p l e R s m args below meth c T locs cells slots) (hx : p.tables.exec = Jvm.exec) (hZ : Z.Warmed39 s.vm) {own C owner : String} {index W maxL : Nat} {y z : MethodName} {bytes : ByteArray} {ret : Option FieldType} {rm : Room} {as' : Array Value} {Q : Option Value → Heap → List Loc → Prop}
    (hown : s.vm.findClass own = some m.cls) (w1 : (Jvm.Cond.methodLink own index y).before a0 Z = true) (w7 : (Jvm.Cond.sameMethod y.cls owner y.name y.desc).before a0 Z = true) (w2 : (Jvm.Cond.declares ⟨owner, y.name, y.desc⟩).before a0 Z = true) (hy : owner ≠ "java/lang/invoke/MethodHandle" ∧ owner ≠ "java/lang/invoke/VarHandle") (w5 : (Jvm.Cond.selects C y z).before a0 Z = true) (w6 : (Jvm.Cond.instanceMethod z).before a0 Z = true) (w3 : (Jvm.Cond.initialized z.cls).before a0 Z = true) (w4 : (Jvm.Cond.code z bytes maxL ret).before a0 Z = true)
    (hM : MetFree l z (head1 [Jvm.Cond.code z bytes maxL ret] rm) (fun a U => a = as' ∧ Z.Warmed39 U.vm ∧ U.heap = h) (fun _ _ _ _ _ => True) (fun _ U o U' => ∃ v L, o = .returned v ∧ Q v U'.heap L ∧ FrameEnd U o U' L rm.cells rm.slots)) (eT : T.heap = h) {b : Addr} (E : Exa Z h b C)
    {g : JFrame} (hg : g.method = m) (hsize : g.locals.size = c.maxLocals) {argsL rest : List Value} (hlen : ∀ sig, parseMethodDescriptor y.desc = some sig → argsL.length = sig.parameters.length) (hstack : g.stack = argsL.reverse ++ .ref b :: rest) (has : (.ref b :: argsL).toArray = as') (hW : 2 * g.monitorRoom + (rest.map fun v => v.category).sum ≤ W)
    (hdg : decode c.code g.pc = .ok (.invokevirtual index, 3)) (hf : rm.frames + 1 ≤ R.frames) (hl : W + (maxL + 11) + rm.locals ≤ R.locals) (hc : cells + rm.cells ≤ R.cells) (hs : slots + rm.slots ≤ R.slots) :
    ∃ (v : Option Value) (T' : State) (L : List Loc), Q v T'.heap L ∧ Stand p l e R s m args below meth c T' (locs ++ L) (cells + rm.cells) (slots + rm.slots) ∧ ∀ target, Steps p.tables e below (T'.setTop { g with pc := g.pc + 3, stack := v.toList ++ rest }) target → Steps p.tables e below (T.setTop g) target := by
  obtain ⟨cB, kB, qa, qb, qc⟩ := isOf hZ eT E
  obtain ⟨v, _, ⟨T', L', c', s'⟩, -, X', ⟨L, hq, e1, e2, e3⟩, st⟩ := X.virtualBackUp hx (owner := owner) hown (mvT hZ w1) (mvT hZ w7) (mvT hZ w2) hy (mvT hZ w5) (mvT hZ w6) (backOf (W := W) hM hZ w4 w3 hf hl) qa qc hg hsize (Steps.refl _) hlen hstack hW hdg (fun _ _ => ⟨has, eT, hc, hs⟩)
  subst e1 e2 e3
  exact ⟨v, T', L, hq, X', fun _ k => st.trans k⟩
theorem own_iface (X : Stand p l e R s m args below meth c T locs cells slots) (hx : p.tables.exec = Jvm.exec) (hZ : Z.Warmed39 s.vm) {own C : String} {index count W maxL : Nat} {y z : MethodName} {bytes : ByteArray} {ret : Option FieldType} {rm : Room} {as' : Array Value} {Q : Option Value → Heap → List Loc → Prop}
    (hown : s.vm.findClass own = some m.cls) (w1 : (Jvm.Cond.methodLink own index y).before a0 Z = true) (w2 : (Jvm.Cond.declares y).before a0 Z = true) (w7 : (Jvm.Cond.interfaceMethod y.cls y.cls y.name y.desc).before args s = true) (w5 : (Jvm.Cond.selects C y z).before a0 Z = true) (w6 : (Jvm.Cond.instanceMethod z).before a0 Z = true) (w8 : (Jvm.Cond.publicMethod z).before args s = true) (w9 : (Jvm.Cond.unhidden C y.name y.desc).before args s = true) (w10 : (Jvm.Cond.castable C y.cls).before a0 Z = true) (w3 : (Jvm.Cond.initialized z.cls).before a0 Z = true) (w4 : (Jvm.Cond.code z bytes maxL ret).before a0 Z = true) (hy : y.cls ≠ "java/lang/invoke/MethodHandle" ∧ y.cls ≠ "java/lang/invoke/VarHandle")
    (hM : MetFree l z (head1 [Jvm.Cond.code z bytes maxL ret] rm) (fun a U => a = as' ∧ Z.Warmed39 U.vm ∧ U.heap = h) (fun _ _ _ _ _ => True) (fun _ U o U' => ∃ v L, o = .returned v ∧ Q v U'.heap L ∧ FrameEnd U o U' L rm.cells rm.slots)) (eT : T.heap = h) {b : Addr} (E : Exa Z h b C)
    {g : JFrame} (hg : g.method = m) (hsize : g.locals.size = c.maxLocals) {argsL rest : List Value} (hlen : ∀ sig, parseMethodDescriptor y.desc = some sig → argsL.length = sig.parameters.length) (hstack : g.stack = argsL.reverse ++ .ref b :: rest) (has : (.ref b :: argsL).toArray = as') (hW : 2 * g.monitorRoom + (rest.map fun v => v.category).sum ≤ W)
    (hdg : decode c.code g.pc = .ok (.invokeinterface index count, 5)) (hf : rm.frames + 1 ≤ R.frames) (hl : W + (maxL + 11) + rm.locals ≤ R.locals) (hc : cells + rm.cells ≤ R.cells) (hs : slots + rm.slots ≤ R.slots) :
    ∃ (v : Option Value) (T' : State) (L : List Loc), Q v T'.heap L ∧ Stand p l e R s m args below meth c T' (locs ++ L) (cells + rm.cells) (slots + rm.slots) ∧ ∀ target, Steps p.tables e below (T'.setTop { g with pc := g.pc + 5, stack := v.toList ++ rest }) target → Steps p.tables e below (T.setTop g) target := by
  obtain ⟨cB, kB, qa, qb, qc⟩ := isOf hZ eT E
  obtain ⟨v, _, ⟨T', L', c', s'⟩, -, X', ⟨L, hq, e1, e2, e3⟩, st⟩ := X.interfaceBack hx hown (mvT hZ w1) (mvT hZ w2) w7 (mvT hZ w5) (mvT hZ w6) w8 w9 (mvT hZ w10) hy (backOf (W := W) hM hZ w4 w3 hf hl) qa qb qc hg hsize (Steps.refl _) hlen hstack hW hdg (fun _ _ => ⟨has, eT, hc, hs⟩)
  subst e1 e2 e3
  exact ⟨v, T', L, hq, X', fun _ k => st.trans k⟩
theorem own_private (X : Stand p l e R s m args below meth c T locs cells slots) (hx : p.tables.exec = Jvm.exec) (hZ : Z.Warmed39 s.vm) {own K : String} {index W maxL : Nat} {y : MethodName} {bytes : ByteArray} {ret : Option FieldType} {rm : Room} {as' : Array Value} {Q : Option Value → Heap → List Loc → Prop}
    (hown : s.vm.findClass own = some m.cls) (w1 : (Jvm.Cond.methodLink own index y).before a0 Z = true) (w2 : (Jvm.Cond.instanceMethod y).before a0 Z = true) (hsel : (Jvm.Cond.selects y.cls y y).before args s = true) (w6 : (Jvm.Cond.privateMethod y).before a0 Z = true) (w3 : (Jvm.Cond.initialized y.cls).before a0 Z = true) (w4 : (Jvm.Cond.code y bytes maxL ret).before a0 Z = true) (hy : y.cls ≠ "java/lang/invoke/MethodHandle" ∧ y.cls ≠ "java/lang/invoke/VarHandle")
    (hM : MetFree l y (head1 [Jvm.Cond.code y bytes maxL ret] rm) (fun a U => a = as' ∧ Z.Warmed39 U.vm ∧ U.heap = h) (fun _ _ _ _ _ => True) (fun _ U o U' => ∃ v L, o = .returned v ∧ Q v U'.heap L ∧ FrameEnd U o U' L rm.cells rm.slots)) (eT : T.heap = h) {b : Addr} (E : Exa Z h b K)
    {g : JFrame} (hg : g.method = m) (hsize : g.locals.size = c.maxLocals) {argsL rest : List Value} (hlen : ∀ sig, parseMethodDescriptor y.desc = some sig → argsL.length = sig.parameters.length) (hstack : g.stack = argsL.reverse ++ .ref b :: rest) (has : (.ref b :: argsL).toArray = as') (hW : 2 * g.monitorRoom + (rest.map fun v => v.category).sum ≤ W)
    (hdg : decode c.code g.pc = .ok (.invokevirtual index, 3)) (hf : rm.frames + 1 ≤ R.frames) (hl : W + (maxL + 11) + rm.locals ≤ R.locals) (hc : cells + rm.cells ≤ R.cells) (hs : slots + rm.slots ≤ R.slots) :
    ∃ (v : Option Value) (T' : State) (L : List Loc), Q v T'.heap L ∧ Stand p l e R s m args below meth c T' (locs ++ L) (cells + rm.cells) (slots + rm.slots) ∧ ∀ target, Steps p.tables e below (T'.setTop { g with pc := g.pc + 3, stack := v.toList ++ rest }) target → Steps p.tables e below (T.setTop g) target := by
  obtain ⟨cq, q, q'⟩ := E.cell
  obtain ⟨v, _, ⟨T', L', c', s'⟩, -, X', ⟨L, hq, e1, e2, e3⟩, st⟩ := X.privateBack hx hown (mvT hZ w1) (mvT hZ w2) hsel (Cond.privateMethod_at (mvP hZ w6 (args := #[]))) (mvT hZ w4) hy (backOf (W := W) hM hZ w4 w3 hf hl) hg hsize (Steps.refl _) (by rw [eT]; exact q) q' hlen hstack hW hdg (fun _ _ => ⟨has, eT, hc, hs⟩)
  subst e1 e2 e3
  exact ⟨v, T', L, hq, X', fun _ k => st.trans k⟩
theorem own_super (X : Stand p l e R s m args below meth c T locs cells slots) (hx : p.tables.exec = Jvm.exec) (hZ : Z.Warmed39 s.vm) {own K : String} {index W maxL : Nat} {y : MethodName} {bytes : ByteArray} {ret : Option FieldType} {rm : Room} {as' : Array Value} {Q : Option Value → Heap → List Loc → Prop}
    (hown : s.vm.findClass own = some m.cls) (w1 : (Jvm.Cond.methodLink own index y).before a0 Z = true) (w2 : (Jvm.Cond.sameMethod y.cls y.cls y.name y.desc).before a0 Z = true) (w5 : (Jvm.Cond.instanceMethod y).before a0 Z = true) (w6 : (Jvm.Cond.superclass own y.cls).before a0 Z = true) (hn : y.name ≠ "<init>") (w3 : (Jvm.Cond.initialized y.cls).before a0 Z = true) (w4 : (Jvm.Cond.code y bytes maxL ret).before a0 Z = true)
    (hM : MetFree l y (head1 [Jvm.Cond.code y bytes maxL ret] rm) (fun a U => a = as' ∧ Z.Warmed39 U.vm ∧ U.heap = h) (fun _ _ _ _ _ => True) (fun _ U o U' => ∃ v L, o = .returned v ∧ Q v U'.heap L ∧ FrameEnd U o U' L rm.cells rm.slots)) (eT : T.heap = h) {b : Addr} (E : Exa Z h b K)
    {g : JFrame} (hg : g.method = m) (hsize : g.locals.size = c.maxLocals) {argsL rest : List Value} (hlen : ∀ sig, parseMethodDescriptor y.desc = some sig → argsL.length = sig.parameters.length) (hstack : g.stack = argsL.reverse ++ .ref b :: rest) (has : (.ref b :: argsL).toArray = as') (hW : 2 * g.monitorRoom + (rest.map fun v => v.category).sum ≤ W)
    (hdg : decode c.code g.pc = .ok (.invokespecial index, 3)) (hf : rm.frames + 1 ≤ R.frames) (hl : W + (maxL + 11) + rm.locals ≤ R.locals) (hc : cells + rm.cells ≤ R.cells) (hs : slots + rm.slots ≤ R.slots) :
    ∃ (v : Option Value) (T' : State) (L : List Loc), Q v T'.heap L ∧ Stand p l e R s m args below meth c T' (locs ++ L) (cells + rm.cells) (slots + rm.slots) ∧ ∀ target, Steps p.tables e below (T'.setTop { g with pc := g.pc + 3, stack := v.toList ++ rest }) target → Steps p.tables e below (T.setTop g) target := by
  obtain ⟨v, _, ⟨T', L', c', s'⟩, -, X', ⟨L, hq, e1, e2, e3⟩, st⟩ := superBack X hx hZ hown w1 w2 w5 w6 hn (backOf (W := W) hM hZ w4 w3 hf hl) eT (Ins.self E) hg hsize w4 hlen hstack hW hdg (fun _ _ => ⟨has, eT, hc, hs⟩)
  subst e1 e2 e3
  exact ⟨v, T', L, hq, X', fun _ k => st.trans k⟩
end OwnCalls
theorem own_irr (x : Int32) : ¬ (x < x) := Int32.lt_irrefl
theorem own_irrL (x : Int64) : ¬ (x < x) := Int64.lt_irrefl
theorem own_lc_lt {x y : Int64} (h : x < y) : lcmpW x y = (-1 : Int32) := Int32.toInt_inj.mp ((c_lcmp x y).1 (Int64.lt_iff_toInt_lt.mp h))
theorem own_lc_eq {x y : Int64} (h : x = y) : lcmpW x y = (0 : Int32) := Int32.toInt_inj.mp ((c_lcmp x y).2.1 (congrArg _ h))
theorem own_lc_gt {x y : Int64} (h : ¬ (x < y)) (h' : ¬ (x = y)) : lcmpW x y = (1 : Int32) := Int32.toInt_inj.mp ((c_lcmp x y).2.2 (by
  have h1 : ¬ (x.toInt < y.toInt) := fun q => h (Int64.lt_iff_toInt_lt.mpr q)
  have h2 : ¬ (x.toInt = y.toInt) := fun q => h' (Int64.toInt_inj.mp q)
  omega))
theorem own_old_le {Z : State} {n0 : Nat} {h : Heap} (O : Old Z n0 h) : n0 ≤ h.size := O.1 ▸ O.2.1
theorem own_fld {Z : State} {args : Array Value} {t : Term} {a : Addr} {C n d : String} {z : Int32} (ev : t.eval args Z none [] Z = some (.ref a)) (h : (Jvm.Cond.eq (Term.field t C n d) (Term.int z)).value args Z none Z [] = some true) : Fld Z Z.heap a C n d (.int z) := by
  refine Fld.start ?_
  obtain ⟨x, y, e1, e2, k1, -⟩ := cmp_v (Or.inl h)
  rw [fld_at ev] at e1
  cases (Term.int_eval z).symm.trans e2
  have hx : ∃ q, x = .int q := by cases x <;> simp [Kin, Value.isRef] at k1 ⊢
  obtain ⟨q, rfl⟩ := hx
  have := gotT (P := q = z) (by simp [Cond.value, fld_at ev, e1, Term.int_eval]) h
  rw [e1, this]
theorem own_sta {Z : State} {args : Array Value} {C n d : String} {z : Int32} (h : (Jvm.Cond.eq (Term.static C n d) (Term.int z)).value args Z none Z [] = some true) : (Term.static C n d).eval args Z none [] Z = some (.int z) := by
  obtain ⟨x, y, e1, e2, k1, -⟩ := cmp_v (Or.inl h)
  cases (Term.int_eval z).symm.trans e2
  have hx : ∃ q, x = .int q := by cases x <;> simp [Kin, Value.isRef] at k1 ⊢
  obtain ⟨q, rfl⟩ := hx
  have := gotT (P := q = z) (by simp [Cond.value, e1, Term.int_eval]) h
  rw [e1, this]
theorem own_fldL {Z : State} {args : Array Value} {t : Term} {a : Addr} {C n d : String} {z : Int64} (ev : t.eval args Z none [] Z = some (.ref a)) (h : (Jvm.Cond.eq (Term.field t C n d) (Term.long z)).value args Z none Z [] = some true) : Fld Z Z.heap a C n d (.long z) := by
  refine Fld.start ?_
  obtain ⟨x, y, e1, e2, k1, -⟩ := cmp_v (Or.inl h)
  rw [fld_at ev] at e1
  cases (long_at z).symm.trans e2
  have hx : ∃ q, x = .long q := by cases x <;> simp [Kin, Value.isRef] at k1 ⊢
  obtain ⟨q, rfl⟩ := hx
  have := gotT (P := q = z) (eq_L (by rw [fld_at ev]; exact e1) (long_at z)) h
  rw [e1, this]
theorem own_len {Z : State} {args : Array Value} {t : Term} {a : Addr} {cl : Cell} {ty : FieldType} {z : Int32} (ev : t.eval args Z none [] Z = some (.ref a)) (A : Arr Z Z.heap a cl ty) (h : (Jvm.Cond.eq (Term.length t) (Term.int z)).value args Z none Z [] = some true) : cl.slots.size < 2 ^ 31 ∧ cl.slots.size.toInt32 = z := by
  obtain ⟨x, y, e1, e2, k1, -⟩ := cmp_v (Or.inl h)
  cases (Term.int_eval z).symm.trans e2
  have harr := A.fin (Vm.Alike.refl _)
  have h31 := SBG.length_lt ev harr e1
  refine ⟨h31, ?_⟩
  rw [len_f ev harr h31] at e1
  cases Option.some.inj e1
  exact gotT (P := cl.slots.size.toInt32 = z) (by simp [Cond.value, len_f ev harr h31, Term.int_eval]) h
theorem own_el {Z : State} {args : Array Value} {t u : Term} {a : Addr} {cl : Cell} {ty : FieldType} {j : Int32} {v : Value} (ev : t.eval args Z none [] Z = some (.ref a)) (A : Arr Z Z.heap a cl ty) (hu : u.eval args Z none [] Z = some v) (hr : v.isRef = true) (h : (Jvm.Cond.eq (Term.elem t (Term.int j)) u).value args Z none Z [] = some true) : cl.slots[j.toNatClampNeg]? = some v := by
  obtain ⟨x, y, e1, e2, k1, k2⟩ := cmp_v (Or.inl h)
  cases hu.symm.trans e2
  have hx : x.isRef = true := by rcases ref_cases hr with rfl | ⟨q, rfl⟩ <;> simp [Kin] at k2 <;> exact k2.2
  have := gotT (eq_R e1 hu hx hr) h
  subst this
  exact (elem_in e1 ev (Term.int_eval j) A.1).2
theorem own_rng (x : Int32) : -2147483648 ≤ x.toInt ∧ x.toInt ≤ 2147483647 := by have := rng32 x; omega
theorem own_mask (x m : Int32) {n : Int} (h : m.toInt = n ∧ 0 ≤ n) : 0 ≤ (x &&& m).toInt ∧ (x &&& m).toInt ≤ n := by have := c_and x m (by omega); omega
theorem own_rem (x y : Int32) (d : Int) {lo hi l h : Int} (hy : y.toInt = d ∧ 0 < d) (hx : lo ≤ x.toInt ∧ x.toInt ≤ hi) (q : (0 ≤ lo ∧ l = 0 ∧ d - 1 ≤ h) ∨ (l = -(d - 1) ∧ h = d - 1)) : l ≤ (x % y).toInt ∧ (x % y).toInt ≤ h := by
  have := c_iremV x y
  rcases Int.lt_or_le x.toInt 0 with g | g
  · have := this.2 g (by omega); omega
  · have := this.1 g (by omega); omega
theorem own_isub (x y : Int32) (d : Int) {lo hi l h : Int} (hy : y.toInt = d) (hx : lo ≤ x.toInt ∧ x.toInt ≤ hi) (q : l = lo - d ∧ h = hi - d ∧ -2147483648 ≤ l ∧ h ≤ 2147483647) : l ≤ (x - y).toInt ∧ (x - y).toInt ≤ h := by have := c_isub x y; have := rng32 (x - y); omega
theorem own_iadd (x y : Int32) (d : Int) {lo hi l h : Int} (hy : y.toInt = d) (hx : lo ≤ x.toInt ∧ x.toInt ≤ hi) (q : l = lo + d ∧ h = hi + d ∧ -2147483648 ≤ l ∧ h ≤ 2147483647) : l ≤ (x + y).toInt ∧ (x + y).toInt ≤ h := by have := c_iadd x y; have := rng32 (x + y); omega
theorem own_ltT {x y : Int32} (h : x.toInt < y.toInt) : x < y := Int32.lt_iff_toInt_lt.mpr h
theorem own_ltF {x y : Int32} (h : ¬ (x.toInt < y.toInt)) : ¬ (x < y) := fun q => h (Int32.lt_iff_toInt_lt.mp q)
theorem own_eqF {x y : Int32} (h : ¬ (x.toInt = y.toInt)) : ¬ (x = y) := fun q => h (q ▸ rfl)
theorem own_ltT' {x y : Int32} (h : x < y) : x.toInt < y.toInt := Int32.lt_iff_toInt_lt.mp h
theorem own_ltF' {x y : Int32} (h : ¬ (x < y)) : ¬ (x.toInt < y.toInt) := fun q => h (Int32.lt_iff_toInt_lt.mpr q)
theorem own_eqF' {x y : Int32} (h : ¬ (x = y)) : ¬ (x.toInt = y.toInt) := fun q => h (Int32.toInt_inj.mp q)
theorem own_eqT' {x y : Int32} (h : x = y) : x.toInt = y.toInt := h ▸ rfl
theorem own_eqT {x y : Int32} (h : x.toInt = y.toInt) : x = y := Int32.toInt_inj.mp h
abbrev z0 : String := "com/example/roam_mutex/roammutex/engine/MessageType"
abbrev z1 : String := "Lcom/example/roam_mutex/roammutex/engine/MessageType;"
abbrev z2 : String := "com/example/roam_mutex/roammutex/engine/MessageTypeBoundToItsLinkPinLaw"
abbrev z3 : String := "boundToItsLink"
abbrev z4 : String := "carriesUnitsOrWeight"
abbrev z5 : String := "java/lang/Enum"
def SF (Z : State) (w0 : Addr) (w1 : Addr) (w2 : Addr) (w3 : Addr) (w4 : Addr) (w5 : Addr) (w6 : Addr) (w7 : Addr) (w8 : Addr) (w9 : Addr) (w10 : Addr) (w11 : Addr) (w12 : Addr) : Prop := Sta Z Z.heap z0 "DOUBT" z1 (.ref w0) ∧ Exa Z Z.heap w0 z0 ∧ Fld Z Z.heap w0 z5 "ordinal" "I" (.int (9 : Int32)) ∧ Sta Z Z.heap z0 "HEIGHT" z1 (.ref w1) ∧ Exa Z Z.heap w1 z0 ∧ Fld Z Z.heap w1 z5 "ordinal" "I" (.int (3 : Int32)) ∧ Sta Z Z.heap z0 "PRIORITY" z1 (.ref w2) ∧ Exa Z Z.heap w2 z0 ∧ Fld Z Z.heap w2 z5 "ordinal" "I" (.int (7 : Int32)) ∧ Sta Z Z.heap z0 "RECEIVED" z1 (.ref w3) ∧ Exa Z Z.heap w3 z0 ∧ Fld Z Z.heap w3 z5 "ordinal" "I" (.int (8 : Int32)) ∧ Sta Z Z.heap z0 "RELEASE" z1 (.ref w4) ∧ Exa Z Z.heap w4 z0 ∧ Fld Z Z.heap w4 z5 "ordinal" "I" (.int (2 : Int32)) ∧ Sta Z Z.heap z0 "REPLY" z1 (.ref w5) ∧ Exa Z Z.heap w5 z0 ∧ Fld Z Z.heap w5 z5 "ordinal" "I" (.int (5 : Int32)) ∧ Sta Z Z.heap z0 "REQUEST" z1 (.ref w6) ∧ Exa Z Z.heap w6 z0 ∧ Fld Z Z.heap w6 z5 "ordinal" "I" (.int (0 : Int32)) ∧ Sta Z Z.heap z0 "SEARCH" z1 (.ref w7) ∧ Exa Z Z.heap w7 z0 ∧ Fld Z Z.heap w7 z5 "ordinal" "I" (.int (4 : Int32)) ∧ Sta Z Z.heap z0 "SETTLED" z1 (.ref w8) ∧ Exa Z Z.heap w8 z0 ∧ Fld Z Z.heap w8 z5 "ordinal" "I" (.int (10 : Int32)) ∧ Sta Z Z.heap z0 "SUBTOKEN" z1 (.ref w9) ∧ Exa Z Z.heap w9 z0 ∧ Fld Z Z.heap w9 z5 "ordinal" "I" (.int (12 : Int32)) ∧ Sta Z Z.heap z0 "TOKEN" z1 (.ref w10) ∧ Exa Z Z.heap w10 z0 ∧ Fld Z Z.heap w10 z5 "ordinal" "I" (.int (1 : Int32)) ∧ Sta Z Z.heap z0 "VERDICT" z1 (.ref w11) ∧ Exa Z Z.heap w11 z0 ∧ Fld Z Z.heap w11 z5 "ordinal" "I" (.int (6 : Int32)) ∧ Sta Z Z.heap z0 "WITHDRAW" z1 (.ref w12) ∧ Exa Z Z.heap w12 z0 ∧ Fld Z Z.heap w12 z5 "ordinal" "I" (.int (11 : Int32))
theorem m0 : (Jvm.Cond.classLink z2 (7 : Nat) z0) ∈ tables_1 := List.mem_of_getElem? (i := 0) rfl
theorem m1 : (Jvm.Cond.arrayOver (FieldType.object z0)) ∈ tables_1 := List.mem_of_getElem? (i := 1) rfl
theorem m2 : (Jvm.Cond.fieldLink z2 (9 : Nat) z0 "REQUEST" z1) ∈ tables_1 := List.mem_of_getElem? (i := 2) rfl
theorem m6 : (Jvm.Cond.fieldLink z2 (13 : Nat) z0 "TOKEN" z1) ∈ tables_1 := List.mem_of_getElem? (i := 6) rfl
theorem m8 : (Jvm.Cond.fieldLink z2 (16 : Nat) z0 "RELEASE" z1) ∈ tables_1 := List.mem_of_getElem? (i := 8) rfl
theorem m10 : (Jvm.Cond.fieldLink z2 (19 : Nat) z0 "HEIGHT" z1) ∈ tables_1 := List.mem_of_getElem? (i := 10) rfl
theorem m12 : (Jvm.Cond.fieldLink z2 (22 : Nat) z0 "SEARCH" z1) ∈ tables_1 := List.mem_of_getElem? (i := 12) rfl
theorem m14 : (Jvm.Cond.fieldLink z2 (25 : Nat) z0 "REPLY" z1) ∈ tables_1 := List.mem_of_getElem? (i := 14) rfl
theorem m16 : (Jvm.Cond.fieldLink z2 (28 : Nat) z0 "VERDICT" z1) ∈ tables_1 := List.mem_of_getElem? (i := 16) rfl
theorem m18 : (Jvm.Cond.fieldLink z2 (31 : Nat) z0 "PRIORITY" z1) ∈ tables_1 := List.mem_of_getElem? (i := 18) rfl
theorem m20 : (Jvm.Cond.fieldLink z2 (34 : Nat) z0 "RECEIVED" z1) ∈ tables_1 := List.mem_of_getElem? (i := 20) rfl
theorem m22 : (Jvm.Cond.fieldLink z2 (37 : Nat) z0 "DOUBT" z1) ∈ tables_1 := List.mem_of_getElem? (i := 22) rfl
theorem m24 : (Jvm.Cond.fieldLink z2 (40 : Nat) z0 "SETTLED" z1) ∈ tables_1 := List.mem_of_getElem? (i := 24) rfl
theorem m26 : (Jvm.Cond.fieldLink z2 (43 : Nat) z0 "WITHDRAW" z1) ∈ tables_1 := List.mem_of_getElem? (i := 26) rfl
theorem m28 : (Jvm.Cond.fieldLink z2 (46 : Nat) z0 "SUBTOKEN" z1) ∈ tables_1 := List.mem_of_getElem? (i := 28) rfl
theorem m30 : (Jvm.Cond.arrayClass FieldType.boolean) ∈ tables_1 := List.mem_of_getElem? (i := 30) rfl
theorem m31 : (Jvm.Cond.constant z2 (49 : Nat) (2147483647 : Int32)) ∈ tables_1 := List.mem_of_getElem? (i := 31) rfl
theorem en_17 (t : Int32) (q : 0 ≤ t.toInt ∧ t.toInt ≤ 12) : t = (0 : Int32) ∨ t = (1 : Int32) ∨ t = (2 : Int32) ∨ t = (3 : Int32) ∨ t = (4 : Int32) ∨ t = (5 : Int32) ∨ t = (6 : Int32) ∨ t = (7 : Int32) ∨ t = (8 : Int32) ∨ t = (9 : Int32) ∨ t = (10 : Int32) ∨ t = (11 : Int32) ∨ t = (12 : Int32) := by
  have q' : t.toInt = 0 ∨ t.toInt = 1 ∨ t.toInt = 2 ∨ t.toInt = 3 ∨ t.toInt = 4 ∨ t.toInt = 5 ∨ t.toInt = 6 ∨ t.toInt = 7 ∨ t.toInt = 8 ∨ t.toInt = 9 ∨ t.toInt = 10 ∨ t.toInt = 11 ∨ t.toInt = 12 := by omega
  rcases q' with r | r | r | r | r | r | r | r | r | r | r | r | r
  · exact Or.inl (Int32.toInt_inj.mp (r.trans (by decide)))
  · exact Or.inr (Or.inl (Int32.toInt_inj.mp (r.trans (by decide))))
  · exact Or.inr (Or.inr (Or.inl (Int32.toInt_inj.mp (r.trans (by decide)))))
  · exact Or.inr (Or.inr (Or.inr (Or.inl (Int32.toInt_inj.mp (r.trans (by decide))))))
  · exact Or.inr (Or.inr (Or.inr (Or.inr (Or.inl (Int32.toInt_inj.mp (r.trans (by decide)))))))
  · exact Or.inr (Or.inr (Or.inr (Or.inr (Or.inr (Or.inl (Int32.toInt_inj.mp (r.trans (by decide))))))))
  · exact Or.inr (Or.inr (Or.inr (Or.inr (Or.inr (Or.inr (Or.inl (Int32.toInt_inj.mp (r.trans (by decide)))))))))
  · exact Or.inr (Or.inr (Or.inr (Or.inr (Or.inr (Or.inr (Or.inr (Or.inl (Int32.toInt_inj.mp (r.trans (by decide))))))))))
  · exact Or.inr (Or.inr (Or.inr (Or.inr (Or.inr (Or.inr (Or.inr (Or.inr (Or.inl (Int32.toInt_inj.mp (r.trans (by decide)))))))))))
  · exact Or.inr (Or.inr (Or.inr (Or.inr (Or.inr (Or.inr (Or.inr (Or.inr (Or.inr (Or.inl (Int32.toInt_inj.mp (r.trans (by decide))))))))))))
  · exact Or.inr (Or.inr (Or.inr (Or.inr (Or.inr (Or.inr (Or.inr (Or.inr (Or.inr (Or.inr (Or.inl (Int32.toInt_inj.mp (r.trans (by decide)))))))))))))
  · exact Or.inr (Or.inr (Or.inr (Or.inr (Or.inr (Or.inr (Or.inr (Or.inr (Or.inr (Or.inr (Or.inr (Or.inl (Int32.toInt_inj.mp (r.trans (by decide))))))))))))))
  · exact Or.inr (Or.inr (Or.inr (Or.inr (Or.inr (Or.inr (Or.inr (Or.inr (Or.inr (Or.inr (Or.inr (Or.inr ((Int32.toInt_inj.mp (r.trans (by decide)))))))))))))))
theorem m32 : (Jvm.Cond.methodLink z2 (50 : Nat) (⟨z0, z3, "()Z"⟩ : MethodName)) ∈ tables_1 := List.mem_of_getElem? (i := 32) rfl
theorem m35 : (Jvm.Cond.selects z0 (⟨z0, z3, "()Z"⟩ : MethodName) (⟨z0, z3, "()Z"⟩ : MethodName)) ∈ tables_1 := List.mem_of_getElem? (i := 35) rfl
theorem d1_0 : decode prog_7_method_5_code 0 = .ok (.aload_n 0, 1) := by decide +kernel
theorem d1_1 : decode prog_7_method_5_code 1 = .ok (.getstatic 3, 3) := by decide +kernel
theorem m37 : (Jvm.Cond.fieldLink z0 (3 : Nat) z0 "REQUEST" z1) ∈ tables_1 := List.mem_of_getElem? (i := 37) rfl
theorem d1_4 : decode prog_7_method_5_code 4 = .ok (.if_acmp .eq 45, 3) := by decide +kernel
theorem d1_49 : decode prog_7_method_5_code 49 = .ok (.iconst 1, 1) := by decide +kernel
theorem d1_50 : decode prog_7_method_5_code 50 = .ok (.goto 4, 3) := by decide +kernel
theorem d1_54 : decode prog_7_method_5_code 54 = .ok (.ireturn, 1) := by decide +kernel
theorem ef27 (m : MethodId) (x0 : Addr) : entryFrame m #[(.ref x0)] 1 = mkF m 0 #[.val (.ref x0)] [] := by first | (simp [entryFrame, mkF, argsToLocals, Value.category]; done) | rfl
theorem pn28 : plainName z0 = true := by first | (simp [plainName, overriddenIn]; done) | decide +kernel
theorem m36 : (Jvm.Cond.code (⟨z0, z3, "()Z"⟩ : MethodName) prog_7_method_5_code (1 : Nat) (Option.some FieldType.boolean)) ∈ tables_1 := List.mem_of_getElem? (i := 36) rfl
theorem m3 : (Jvm.Cond.initialized z0) ∈ tables_1 := List.mem_of_getElem? (i := 3) rfl
theorem pd31 : parseMethodDescriptor "()Z" = some ⟨[], some .boolean⟩ := by decide +kernel
theorem m33 : (Jvm.Cond.declares (⟨z0, z3, "()Z"⟩ : MethodName)) ∈ tables_1 := List.mem_of_getElem? (i := 33) rfl
theorem m34 : (Jvm.Cond.instanceMethod (⟨z0, z3, "()Z"⟩ : MethodName)) ∈ tables_1 := List.mem_of_getElem? (i := 34) rfl
theorem m38 : (Jvm.Cond.methodLink z2 (54 : Nat) (⟨z0, z4, "()Z"⟩ : MethodName)) ∈ tables_1 := List.mem_of_getElem? (i := 38) rfl
theorem m41 : (Jvm.Cond.selects z0 (⟨z0, z4, "()Z"⟩ : MethodName) (⟨z0, z4, "()Z"⟩ : MethodName)) ∈ tables_1 := List.mem_of_getElem? (i := 41) rfl
theorem d2_0 : decode prog_7_method_4_code 0 = .ok (.aload_n 0, 1) := by decide +kernel
theorem d2_1 : decode prog_7_method_4_code 1 = .ok (.getstatic 7, 3) := by decide +kernel
theorem m43 : (Jvm.Cond.fieldLink z0 (7 : Nat) z0 "TOKEN" z1) ∈ tables_1 := List.mem_of_getElem? (i := 43) rfl
theorem d2_4 : decode prog_7_method_4_code 4 = .ok (.if_acmp .eq 17, 3) := by decide +kernel
theorem d2_7 : decode prog_7_method_4_code 7 = .ok (.aload_n 0, 1) := by decide +kernel
theorem d2_8 : decode prog_7_method_4_code 8 = .ok (.getstatic 10, 3) := by decide +kernel
theorem m44 : (Jvm.Cond.fieldLink z0 (10 : Nat) z0 "RELEASE" z1) ∈ tables_1 := List.mem_of_getElem? (i := 44) rfl
theorem d2_11 : decode prog_7_method_4_code 11 = .ok (.if_acmp .eq 10, 3) := by decide +kernel
theorem d2_14 : decode prog_7_method_4_code 14 = .ok (.aload_n 0, 1) := by decide +kernel
theorem d2_15 : decode prog_7_method_4_code 15 = .ok (.getstatic 40, 3) := by decide +kernel
theorem m45 : (Jvm.Cond.fieldLink z0 (40 : Nat) z0 "SUBTOKEN" z1) ∈ tables_1 := List.mem_of_getElem? (i := 45) rfl
theorem d2_18 : decode prog_7_method_4_code 18 = .ok (.if_acmp .ne 7, 3) := by decide +kernel
theorem d2_25 : decode prog_7_method_4_code 25 = .ok (.iconst 0, 1) := by decide +kernel
theorem d2_26 : decode prog_7_method_4_code 26 = .ok (.ireturn, 1) := by decide +kernel
theorem m42 : (Jvm.Cond.code (⟨z0, z4, "()Z"⟩ : MethodName) prog_7_method_4_code (1 : Nat) (Option.some FieldType.boolean)) ∈ tables_1 := List.mem_of_getElem? (i := 42) rfl
theorem m39 : (Jvm.Cond.declares (⟨z0, z4, "()Z"⟩ : MethodName)) ∈ tables_1 := List.mem_of_getElem? (i := 39) rfl
theorem m40 : (Jvm.Cond.instanceMethod (⟨z0, z4, "()Z"⟩ : MethodName)) ∈ tables_1 := List.mem_of_getElem? (i := 40) rfl
theorem ef53 (m : MethodId) (x0 : Int32) : entryFrame m #[(.int x0)] maxLocals = mkF m 0 #[.val (.int x0), .unset, .unset, .unset, .unset, .unset] [] := by first | (simp [entryFrame, mkF, argsToLocals, Value.category, maxLocals]; done) | rfl
theorem pn54 : plainName z2 = true := by first | (simp [plainName, overriddenIn]; done) | decide +kernel
theorem d1_7 : decode prog_7_method_5_code 7 = .ok (.aload_n 0, 1) := by decide +kernel
theorem d1_8 : decode prog_7_method_5_code 8 = .ok (.getstatic 25, 3) := by decide +kernel
theorem m46 : (Jvm.Cond.fieldLink z0 (25 : Nat) z0 "PRIORITY" z1) ∈ tables_1 := List.mem_of_getElem? (i := 46) rfl
theorem d1_11 : decode prog_7_method_5_code 11 = .ok (.if_acmp .eq 38, 3) := by decide +kernel
theorem d1_14 : decode prog_7_method_5_code 14 = .ok (.aload_n 0, 1) := by decide +kernel
theorem d1_15 : decode prog_7_method_5_code 15 = .ok (.getstatic 37, 3) := by decide +kernel
theorem m47 : (Jvm.Cond.fieldLink z0 (37 : Nat) z0 "WITHDRAW" z1) ∈ tables_1 := List.mem_of_getElem? (i := 47) rfl
theorem d1_18 : decode prog_7_method_5_code 18 = .ok (.if_acmp .eq 31, 3) := by decide +kernel
theorem d1_21 : decode prog_7_method_5_code 21 = .ok (.aload_n 0, 1) := by decide +kernel
theorem d1_22 : decode prog_7_method_5_code 22 = .ok (.getstatic 13, 3) := by decide +kernel
theorem m48 : (Jvm.Cond.fieldLink z0 (13 : Nat) z0 "HEIGHT" z1) ∈ tables_1 := List.mem_of_getElem? (i := 48) rfl
theorem d1_25 : decode prog_7_method_5_code 25 = .ok (.if_acmp .eq 24, 3) := by decide +kernel
theorem d1_28 : decode prog_7_method_5_code 28 = .ok (.aload_n 0, 1) := by decide +kernel
theorem d1_29 : decode prog_7_method_5_code 29 = .ok (.getstatic 16, 3) := by decide +kernel
theorem m49 : (Jvm.Cond.fieldLink z0 (16 : Nat) z0 "SEARCH" z1) ∈ tables_1 := List.mem_of_getElem? (i := 49) rfl
theorem d1_32 : decode prog_7_method_5_code 32 = .ok (.if_acmp .eq 17, 3) := by decide +kernel
theorem d1_35 : decode prog_7_method_5_code 35 = .ok (.aload_n 0, 1) := by decide +kernel
theorem d1_36 : decode prog_7_method_5_code 36 = .ok (.getstatic 19, 3) := by decide +kernel
theorem m50 : (Jvm.Cond.fieldLink z0 (19 : Nat) z0 "REPLY" z1) ∈ tables_1 := List.mem_of_getElem? (i := 50) rfl
theorem d1_39 : decode prog_7_method_5_code 39 = .ok (.if_acmp .eq 10, 3) := by decide +kernel
theorem d1_42 : decode prog_7_method_5_code 42 = .ok (.aload_n 0, 1) := by decide +kernel
theorem d1_43 : decode prog_7_method_5_code 43 = .ok (.getstatic 22, 3) := by decide +kernel
theorem m51 : (Jvm.Cond.fieldLink z0 (22 : Nat) z0 "VERDICT" z1) ∈ tables_1 := List.mem_of_getElem? (i := 51) rfl
theorem d1_46 : decode prog_7_method_5_code 46 = .ok (.if_acmp .ne 7, 3) := by decide +kernel
theorem d1_53 : decode prog_7_method_5_code 53 = .ok (.iconst 0, 1) := by decide +kernel
theorem m23 : (Jvm.Cond.laysStatic z0 "DOUBT" z1) ∈ tables_1 := List.mem_of_getElem? (i := 23) rfl
theorem m11 : (Jvm.Cond.laysStatic z0 "HEIGHT" z1) ∈ tables_1 := List.mem_of_getElem? (i := 11) rfl
theorem m19 : (Jvm.Cond.laysStatic z0 "PRIORITY" z1) ∈ tables_1 := List.mem_of_getElem? (i := 19) rfl
theorem m21 : (Jvm.Cond.laysStatic z0 "RECEIVED" z1) ∈ tables_1 := List.mem_of_getElem? (i := 21) rfl
theorem m9 : (Jvm.Cond.laysStatic z0 "RELEASE" z1) ∈ tables_1 := List.mem_of_getElem? (i := 9) rfl
theorem m15 : (Jvm.Cond.laysStatic z0 "REPLY" z1) ∈ tables_1 := List.mem_of_getElem? (i := 15) rfl
theorem m4 : (Jvm.Cond.laysStatic z0 "REQUEST" z1) ∈ tables_1 := List.mem_of_getElem? (i := 4) rfl
theorem m13 : (Jvm.Cond.laysStatic z0 "SEARCH" z1) ∈ tables_1 := List.mem_of_getElem? (i := 13) rfl
theorem m25 : (Jvm.Cond.laysStatic z0 "SETTLED" z1) ∈ tables_1 := List.mem_of_getElem? (i := 25) rfl
theorem m29 : (Jvm.Cond.laysStatic z0 "SUBTOKEN" z1) ∈ tables_1 := List.mem_of_getElem? (i := 29) rfl
theorem m7 : (Jvm.Cond.laysStatic z0 "TOKEN" z1) ∈ tables_1 := List.mem_of_getElem? (i := 7) rfl
theorem m17 : (Jvm.Cond.laysStatic z0 "VERDICT" z1) ∈ tables_1 := List.mem_of_getElem? (i := 17) rfl
theorem m27 : (Jvm.Cond.laysStatic z0 "WITHDRAW" z1) ∈ tables_1 := List.mem_of_getElem? (i := 27) rfl
def Qrm1 (Z : State) (w0 : Addr) (w1 : Addr) (w2 : Addr) (w3 : Addr) (w4 : Addr) (w5 : Addr) (w6 : Addr) (w7 : Addr) (w8 : Addr) (w9 : Addr) (w10 : Addr) (w11 : Addr) (w12 : Addr) (h0 : Heap) (n0 : Nat) (v : Option Value) (h : Heap) (L : List Loc) : Prop := v = some (.int (1 : Int32)) ∧ Fr n0 L ∧ h = h0
set_option maxRecDepth 65536 in
set_option maxHeartbeats 40000000 in
theorem rm1 (l : Launch) (Z : State) (a0 : Array Value) (hw : ∀ d ∈ tables_1, d.before a0 Z = true) (w0 : Addr) (w1 : Addr) (w2 : Addr) (w3 : Addr) (w4 : Addr) (w5 : Addr) (w6 : Addr) (w7 : Addr) (w8 : Addr) (w9 : Addr) (w10 : Addr) (w11 : Addr) (w12 : Addr) (hS : SF Z w0 w1 w2 w3 w4 w5 w6 w7 w8 w9 w10 w11 w12) (ws : List Jvm.Cond) (h0 : Heap) (n0 : Nat) (O0 : Old Z n0 h0) :
    MetFree l (⟨z0, z3, "()Z"⟩ : MethodName) (head1 (Jvm.Cond.code (⟨z0, z3, "()Z"⟩ : MethodName) prog_7_method_5_code 1 (some .boolean) :: ws) ({ frames := 0, cells := 0, slots := 0, locals := 0 } : Room)) (fun a U => a = #[(.ref w6)] ∧ Z.Warmed39 U.vm ∧ U.heap = h0) (fun _ _ _ _ _ => True) (fun _ U o U' => ∃ v L, o = .returned v ∧ Qrm1 Z w0 w1 w2 w3 w4 w5 w6 w7 w8 w9 w10 w11 w12 h0 n0 v U'.heap L ∧ FrameEnd U o U' L ({ frames := 0, cells := 0, slots := 0, locals := 0 } : Room).cells ({ frames := 0, cells := 0, slots := 0, locals := 0 } : Room).slots) := by
  refine MetFree.of_bodySF (plainFor_of_name pn28) hisR ?_
  intro p e s m args below meth c s₁ Bd hml0 hP hK
  obtain ⟨rfl, hZ, hh⟩ := hP
  have hx := Bd.exec
  have hby := Bd.bytes
  have hml : c.maxLocals = 1 := hml0
  have hown : s.vm.findClass z0 = some m.cls := findClass_of_methodNamed Bd.named
  have hnm := (name_of_methodNamed Bd.named Bd.method).1
  have X0 : Stand p l e ({ frames := 0, cells := 0, slots := 0, locals := 0 } : Room) s m #[(.ref w6)] below meth c s₁ [] 0 0 := Stand.of_body Bd
  have e0 : s₁.heap = h0 := by rw [← hh, Bd.state]; rfl
  have N0 := Fr.nil n0
  have pre0 : ∀ t, Steps p.tables e below (s₁.setTop (mkF m 0 #[.val (.ref w6)] [])) t → Steps p.tables e below (s₁.setTop (entryFrame m #[(.ref w6)] 1)) t := fun t k => castTop (ef27 m w6) k
  obtain ⟨T1, X1, e1, st1⟩ := getS2 X0 hx hZ hown (host := "") (Or.inl (hw _ m37)) Via.refl e0 (hS.2.2.2.2.2.2.2.2.2.2.2.2.2.2.2.2.2.2.1.ext O0.2) (g := (mkF m 1 #[.val (.ref w6)] [(.ref w6)])) rfl (hb hby d1_1)
  obtain ⟨fs, hr, hrun, hended, hW, hsame⟩ := X1.leave (v := some (.int (1 : Int32))) (fun h => by rw [Bd.returns] at h; cases h)
  refine ⟨_, _, pre0 _ ?_, hrun, hended, _, _, rfl, ?_, ⟨_, rfl⟩, hW, hsame.mono (by decide) (by decide)⟩
  · show Steps p.tables e below (s₁.setTop (mkF m 0 #[.val (.ref w6)] [])) _
    refine XS.aloadN X0.here hx rfl (hb hby d1_0) rfl rfl ?_
    show Steps p.tables e below (s₁.setTop (mkF m 1 #[.val (.ref w6)] [(.ref w6)])) _
    refine st1 _ ?_
    show Steps p.tables e below (T1.setTop (mkF m 4 #[.val (.ref w6)] [(.ref w6), (.ref w6)])) _
    refine Jvm.RoadKit.acmp (g := (mkF m 4 #[.val (.ref w6)] [(.ref w6), (.ref w6)])) X1 hx rfl rfl rfl (pc0 := 4) (pc' := 49) (same := true) rfl (hb hby d1_4) rfl (decide_eq_true rfl) (by decide) (by decide) ?_
    show Steps p.tables e below (T1.setTop (mkF m 49 #[.val (.ref w6)] [])) _
    refine XS.iconst X1.here hx rfl (hb hby d1_49) ?_
    show Steps p.tables e below (T1.setTop (mkF m 50 #[.val (.ref w6)] [(.int (1 : Int32))])) _
    refine XS.goto X1.here hx rfl (pc0 := 50) (pc' := 54) rfl (hb hby d1_50) (by decide) (by decide) ?_
    show Steps p.tables e below (T1.setTop (mkF m 54 #[.val (.ref w6)] [(.int (1 : Int32))])) _
    exact retN X1 hx (t := .boolean) Bd.returns (by simp) (hb hby d1_54) hr
  · show Qrm1 Z w0 w1 w2 w3 w4 w5 w6 w7 w8 w9 w10 w11 w12 h0 n0 _ T1.heap _
    rw [e1]
    exact ⟨rfl, N0, rfl⟩
def Qrm2 (Z : State) (w0 : Addr) (w1 : Addr) (w2 : Addr) (w3 : Addr) (w4 : Addr) (w5 : Addr) (w6 : Addr) (w7 : Addr) (w8 : Addr) (w9 : Addr) (w10 : Addr) (w11 : Addr) (w12 : Addr) (h0 : Heap) (n0 : Nat) (v : Option Value) (h : Heap) (L : List Loc) : Prop := v = some (.int (0 : Int32)) ∧ Fr n0 L ∧ h = h0
set_option maxRecDepth 65536 in
set_option maxHeartbeats 40000000 in
theorem rm2 (l : Launch) (Z : State) (a0 : Array Value) (hw : ∀ d ∈ tables_1, d.before a0 Z = true) (w0 : Addr) (w1 : Addr) (w2 : Addr) (w3 : Addr) (w4 : Addr) (w5 : Addr) (w6 : Addr) (w7 : Addr) (w8 : Addr) (w9 : Addr) (w10 : Addr) (w11 : Addr) (w12 : Addr) (hS : SF Z w0 w1 w2 w3 w4 w5 w6 w7 w8 w9 w10 w11 w12) (ws : List Jvm.Cond) (h0 : Heap) (n0 : Nat) (O0 : Old Z n0 h0) :
    MetFree l (⟨z0, z4, "()Z"⟩ : MethodName) (head1 (Jvm.Cond.code (⟨z0, z4, "()Z"⟩ : MethodName) prog_7_method_4_code 1 (some .boolean) :: ws) ({ frames := 0, cells := 0, slots := 0, locals := 0 } : Room)) (fun a U => a = #[(.ref w6)] ∧ Z.Warmed39 U.vm ∧ U.heap = h0) (fun _ _ _ _ _ => True) (fun _ U o U' => ∃ v L, o = .returned v ∧ Qrm2 Z w0 w1 w2 w3 w4 w5 w6 w7 w8 w9 w10 w11 w12 h0 n0 v U'.heap L ∧ FrameEnd U o U' L ({ frames := 0, cells := 0, slots := 0, locals := 0 } : Room).cells ({ frames := 0, cells := 0, slots := 0, locals := 0 } : Room).slots) := by
  refine MetFree.of_bodySF (plainFor_of_name pn28) hisR ?_
  intro p e s m args below meth c s₁ Bd hml0 hP hK
  obtain ⟨rfl, hZ, hh⟩ := hP
  have hx := Bd.exec
  have hby := Bd.bytes
  have hml : c.maxLocals = 1 := hml0
  have hown : s.vm.findClass z0 = some m.cls := findClass_of_methodNamed Bd.named
  have hnm := (name_of_methodNamed Bd.named Bd.method).1
  have X0 : Stand p l e ({ frames := 0, cells := 0, slots := 0, locals := 0 } : Room) s m #[(.ref w6)] below meth c s₁ [] 0 0 := Stand.of_body Bd
  have e0 : s₁.heap = h0 := by rw [← hh, Bd.state]; rfl
  have N0 := Fr.nil n0
  have pre0 : ∀ t, Steps p.tables e below (s₁.setTop (mkF m 0 #[.val (.ref w6)] [])) t → Steps p.tables e below (s₁.setTop (entryFrame m #[(.ref w6)] 1)) t := fun t k => castTop (ef27 m w6) k
  obtain ⟨T1, X1, e1, st1⟩ := getS2 X0 hx hZ hown (host := "") (Or.inl (hw _ m43)) Via.refl e0 (hS.2.2.2.2.2.2.2.2.2.2.2.2.2.2.2.2.2.2.2.2.2.2.2.2.2.2.2.2.2.2.1.ext O0.2) (g := (mkF m 1 #[.val (.ref w6)] [(.ref w6)])) rfl (hb hby d2_1)
  have ne2 : w6 ≠ w10 := (Fld.ne hS.2.2.2.2.2.2.2.2.2.2.2.2.2.2.2.2.2.2.2.2.1 hS.2.2.2.2.2.2.2.2.2.2.2.2.2.2.2.2.2.2.2.2.2.2.2.2.2.2.2.2.2.2.2.2.1 (fun q => absurd (Value.int.inj q) (by decide)))
  obtain ⟨T3, X3, e3, st3⟩ := getS2 X1 hx hZ hown (host := "") (Or.inl (hw _ m44)) Via.refl e1 (hS.2.2.2.2.2.2.2.2.2.2.2.2.1.ext O0.2) (g := (mkF m 8 #[.val (.ref w6)] [(.ref w6)])) rfl (hb hby d2_8)
  have ne4 : w6 ≠ w4 := (Fld.ne hS.2.2.2.2.2.2.2.2.2.2.2.2.2.2.2.2.2.2.2.2.1 hS.2.2.2.2.2.2.2.2.2.2.2.2.2.2.1 (fun q => absurd (Value.int.inj q) (by decide)))
  obtain ⟨T5, X5, e5, st5⟩ := getS2 X3 hx hZ hown (host := "") (Or.inl (hw _ m45)) Via.refl e3 (hS.2.2.2.2.2.2.2.2.2.2.2.2.2.2.2.2.2.2.2.2.2.2.2.2.2.2.2.1.ext O0.2) (g := (mkF m 15 #[.val (.ref w6)] [(.ref w6)])) rfl (hb hby d2_15)
  have ne6 : w6 ≠ w9 := (Fld.ne hS.2.2.2.2.2.2.2.2.2.2.2.2.2.2.2.2.2.2.2.2.1 hS.2.2.2.2.2.2.2.2.2.2.2.2.2.2.2.2.2.2.2.2.2.2.2.2.2.2.2.2.2.1 (fun q => absurd (Value.int.inj q) (by decide)))
  obtain ⟨fs, hr, hrun, hended, hW, hsame⟩ := X5.leave (v := some (.int (0 : Int32))) (fun h => by rw [Bd.returns] at h; cases h)
  refine ⟨_, _, pre0 _ ?_, hrun, hended, _, _, rfl, ?_, ⟨_, rfl⟩, hW, hsame.mono (by decide) (by decide)⟩
  · show Steps p.tables e below (s₁.setTop (mkF m 0 #[.val (.ref w6)] [])) _
    refine XS.aloadN X0.here hx rfl (hb hby d2_0) rfl rfl ?_
    show Steps p.tables e below (s₁.setTop (mkF m 1 #[.val (.ref w6)] [(.ref w6)])) _
    refine st1 _ ?_
    show Steps p.tables e below (T1.setTop (mkF m 4 #[.val (.ref w6)] [(.ref w10), (.ref w6)])) _
    refine Jvm.RoadKit.acmp (g := (mkF m 4 #[.val (.ref w6)] [(.ref w10), (.ref w6)])) X1 hx rfl rfl rfl (pc0 := 4) (pc' := 7) (same := false) rfl (hb hby d2_4) rfl (decide_eq_false fun q => ne2 (Value.ref.inj q)) (by decide) (by decide) ?_
    show Steps p.tables e below (T1.setTop (mkF m 7 #[.val (.ref w6)] [])) _
    refine XS.aloadN X1.here hx rfl (hb hby d2_7) rfl rfl ?_
    show Steps p.tables e below (T1.setTop (mkF m 8 #[.val (.ref w6)] [(.ref w6)])) _
    refine st3 _ ?_
    show Steps p.tables e below (T3.setTop (mkF m 11 #[.val (.ref w6)] [(.ref w4), (.ref w6)])) _
    refine Jvm.RoadKit.acmp (g := (mkF m 11 #[.val (.ref w6)] [(.ref w4), (.ref w6)])) X3 hx rfl rfl rfl (pc0 := 11) (pc' := 14) (same := false) rfl (hb hby d2_11) rfl (decide_eq_false fun q => ne4 (Value.ref.inj q)) (by decide) (by decide) ?_
    show Steps p.tables e below (T3.setTop (mkF m 14 #[.val (.ref w6)] [])) _
    refine XS.aloadN X3.here hx rfl (hb hby d2_14) rfl rfl ?_
    show Steps p.tables e below (T3.setTop (mkF m 15 #[.val (.ref w6)] [(.ref w6)])) _
    refine st5 _ ?_
    show Steps p.tables e below (T5.setTop (mkF m 18 #[.val (.ref w6)] [(.ref w9), (.ref w6)])) _
    refine Jvm.RoadKit.acmp (g := (mkF m 18 #[.val (.ref w6)] [(.ref w9), (.ref w6)])) X5 hx rfl rfl rfl (pc0 := 18) (pc' := 25) (same := false) rfl (hb hby d2_18) rfl (decide_eq_false fun q => ne6 (Value.ref.inj q)) (by decide) (by decide) ?_
    show Steps p.tables e below (T5.setTop (mkF m 25 #[.val (.ref w6)] [])) _
    refine XS.iconst X5.here hx rfl (hb hby d2_25) ?_
    show Steps p.tables e below (T5.setTop (mkF m 26 #[.val (.ref w6)] [(.int (0 : Int32))])) _
    exact retN X5 hx (t := .boolean) Bd.returns (by simp) (hb hby d2_26) hr
  · show Qrm2 Z w0 w1 w2 w3 w4 w5 w6 w7 w8 w9 w10 w11 w12 h0 n0 _ T5.heap _
    rw [e5]
    exact ⟨rfl, N0, rfl⟩
def Qrm3 (Z : State) (w0 : Addr) (w1 : Addr) (w2 : Addr) (w3 : Addr) (w4 : Addr) (w5 : Addr) (w6 : Addr) (w7 : Addr) (w8 : Addr) (w9 : Addr) (w10 : Addr) (w11 : Addr) (w12 : Addr) (h0 : Heap) (n0 : Nat) (v : Option Value) (h : Heap) (L : List Loc) : Prop := v = some (.int (0 : Int32)) ∧ Fr n0 L ∧ h = h0
set_option maxRecDepth 65536 in
set_option maxHeartbeats 40000000 in
theorem rm3 (l : Launch) (Z : State) (a0 : Array Value) (hw : ∀ d ∈ tables_1, d.before a0 Z = true) (w0 : Addr) (w1 : Addr) (w2 : Addr) (w3 : Addr) (w4 : Addr) (w5 : Addr) (w6 : Addr) (w7 : Addr) (w8 : Addr) (w9 : Addr) (w10 : Addr) (w11 : Addr) (w12 : Addr) (hS : SF Z w0 w1 w2 w3 w4 w5 w6 w7 w8 w9 w10 w11 w12) (ws : List Jvm.Cond) (h0 : Heap) (n0 : Nat) (O0 : Old Z n0 h0) :
    MetFree l (⟨z0, z3, "()Z"⟩ : MethodName) (head1 (Jvm.Cond.code (⟨z0, z3, "()Z"⟩ : MethodName) prog_7_method_5_code 1 (some .boolean) :: ws) ({ frames := 0, cells := 0, slots := 0, locals := 0 } : Room)) (fun a U => a = #[(.ref w10)] ∧ Z.Warmed39 U.vm ∧ U.heap = h0) (fun _ _ _ _ _ => True) (fun _ U o U' => ∃ v L, o = .returned v ∧ Qrm3 Z w0 w1 w2 w3 w4 w5 w6 w7 w8 w9 w10 w11 w12 h0 n0 v U'.heap L ∧ FrameEnd U o U' L ({ frames := 0, cells := 0, slots := 0, locals := 0 } : Room).cells ({ frames := 0, cells := 0, slots := 0, locals := 0 } : Room).slots) := by
  refine MetFree.of_bodySF (plainFor_of_name pn28) hisR ?_
  intro p e s m args below meth c s₁ Bd hml0 hP hK
  obtain ⟨rfl, hZ, hh⟩ := hP
  have hx := Bd.exec
  have hby := Bd.bytes
  have hml : c.maxLocals = 1 := hml0
  have hown : s.vm.findClass z0 = some m.cls := findClass_of_methodNamed Bd.named
  have hnm := (name_of_methodNamed Bd.named Bd.method).1
  have X0 : Stand p l e ({ frames := 0, cells := 0, slots := 0, locals := 0 } : Room) s m #[(.ref w10)] below meth c s₁ [] 0 0 := Stand.of_body Bd
  have e0 : s₁.heap = h0 := by rw [← hh, Bd.state]; rfl
  have N0 := Fr.nil n0
  have pre0 : ∀ t, Steps p.tables e below (s₁.setTop (mkF m 0 #[.val (.ref w10)] [])) t → Steps p.tables e below (s₁.setTop (entryFrame m #[(.ref w10)] 1)) t := fun t k => castTop (ef27 m w10) k
  obtain ⟨T1, X1, e1, st1⟩ := getS2 X0 hx hZ hown (host := "") (Or.inl (hw _ m37)) Via.refl e0 (hS.2.2.2.2.2.2.2.2.2.2.2.2.2.2.2.2.2.2.1.ext O0.2) (g := (mkF m 1 #[.val (.ref w10)] [(.ref w10)])) rfl (hb hby d1_1)
  have ne2 : w10 ≠ w6 := (Fld.ne hS.2.2.2.2.2.2.2.2.2.2.2.2.2.2.2.2.2.2.2.2.2.2.2.2.2.2.2.2.2.2.2.2.1 hS.2.2.2.2.2.2.2.2.2.2.2.2.2.2.2.2.2.2.2.2.1 (fun q => absurd (Value.int.inj q) (by decide)))
  obtain ⟨T3, X3, e3, st3⟩ := getS2 X1 hx hZ hown (host := "") (Or.inl (hw _ m46)) Via.refl e1 (hS.2.2.2.2.2.2.1.ext O0.2) (g := (mkF m 8 #[.val (.ref w10)] [(.ref w10)])) rfl (hb hby d1_8)
  have ne4 : w10 ≠ w2 := (Fld.ne hS.2.2.2.2.2.2.2.2.2.2.2.2.2.2.2.2.2.2.2.2.2.2.2.2.2.2.2.2.2.2.2.2.1 hS.2.2.2.2.2.2.2.2.1 (fun q => absurd (Value.int.inj q) (by decide)))
  obtain ⟨T5, X5, e5, st5⟩ := getS2 X3 hx hZ hown (host := "") (Or.inl (hw _ m47)) Via.refl e3 (hS.2.2.2.2.2.2.2.2.2.2.2.2.2.2.2.2.2.2.2.2.2.2.2.2.2.2.2.2.2.2.2.2.2.2.2.2.1.ext O0.2) (g := (mkF m 15 #[.val (.ref w10)] [(.ref w10)])) rfl (hb hby d1_15)
  have ne6 : w10 ≠ w12 := (Fld.ne hS.2.2.2.2.2.2.2.2.2.2.2.2.2.2.2.2.2.2.2.2.2.2.2.2.2.2.2.2.2.2.2.2.1 hS.2.2.2.2.2.2.2.2.2.2.2.2.2.2.2.2.2.2.2.2.2.2.2.2.2.2.2.2.2.2.2.2.2.2.2.2.2.2 (fun q => absurd (Value.int.inj q) (by decide)))
  obtain ⟨T7, X7, e7, st7⟩ := getS2 X5 hx hZ hown (host := "") (Or.inl (hw _ m48)) Via.refl e5 (hS.2.2.2.1.ext O0.2) (g := (mkF m 22 #[.val (.ref w10)] [(.ref w10)])) rfl (hb hby d1_22)
  have ne8 : w10 ≠ w1 := (Fld.ne hS.2.2.2.2.2.2.2.2.2.2.2.2.2.2.2.2.2.2.2.2.2.2.2.2.2.2.2.2.2.2.2.2.1 hS.2.2.2.2.2.1 (fun q => absurd (Value.int.inj q) (by decide)))
  obtain ⟨T9, X9, e9, st9⟩ := getS2 X7 hx hZ hown (host := "") (Or.inl (hw _ m49)) Via.refl e7 (hS.2.2.2.2.2.2.2.2.2.2.2.2.2.2.2.2.2.2.2.2.2.1.ext O0.2) (g := (mkF m 29 #[.val (.ref w10)] [(.ref w10)])) rfl (hb hby d1_29)
  have ne10 : w10 ≠ w7 := (Fld.ne hS.2.2.2.2.2.2.2.2.2.2.2.2.2.2.2.2.2.2.2.2.2.2.2.2.2.2.2.2.2.2.2.2.1 hS.2.2.2.2.2.2.2.2.2.2.2.2.2.2.2.2.2.2.2.2.2.2.2.1 (fun q => absurd (Value.int.inj q) (by decide)))
  obtain ⟨T11, X11, e11, st11⟩ := getS2 X9 hx hZ hown (host := "") (Or.inl (hw _ m50)) Via.refl e9 (hS.2.2.2.2.2.2.2.2.2.2.2.2.2.2.2.1.ext O0.2) (g := (mkF m 36 #[.val (.ref w10)] [(.ref w10)])) rfl (hb hby d1_36)
  have ne12 : w10 ≠ w5 := (Fld.ne hS.2.2.2.2.2.2.2.2.2.2.2.2.2.2.2.2.2.2.2.2.2.2.2.2.2.2.2.2.2.2.2.2.1 hS.2.2.2.2.2.2.2.2.2.2.2.2.2.2.2.2.2.1 (fun q => absurd (Value.int.inj q) (by decide)))
  obtain ⟨T13, X13, e13, st13⟩ := getS2 X11 hx hZ hown (host := "") (Or.inl (hw _ m51)) Via.refl e11 (hS.2.2.2.2.2.2.2.2.2.2.2.2.2.2.2.2.2.2.2.2.2.2.2.2.2.2.2.2.2.2.2.2.2.1.ext O0.2) (g := (mkF m 43 #[.val (.ref w10)] [(.ref w10)])) rfl (hb hby d1_43)
  have ne14 : w10 ≠ w11 := (Fld.ne hS.2.2.2.2.2.2.2.2.2.2.2.2.2.2.2.2.2.2.2.2.2.2.2.2.2.2.2.2.2.2.2.2.1 hS.2.2.2.2.2.2.2.2.2.2.2.2.2.2.2.2.2.2.2.2.2.2.2.2.2.2.2.2.2.2.2.2.2.2.2.1 (fun q => absurd (Value.int.inj q) (by decide)))
  obtain ⟨fs, hr, hrun, hended, hW, hsame⟩ := X13.leave (v := some (.int (0 : Int32))) (fun h => by rw [Bd.returns] at h; cases h)
  refine ⟨_, _, pre0 _ ?_, hrun, hended, _, _, rfl, ?_, ⟨_, rfl⟩, hW, hsame.mono (by decide) (by decide)⟩
  · show Steps p.tables e below (s₁.setTop (mkF m 0 #[.val (.ref w10)] [])) _
    refine XS.aloadN X0.here hx rfl (hb hby d1_0) rfl rfl ?_
    show Steps p.tables e below (s₁.setTop (mkF m 1 #[.val (.ref w10)] [(.ref w10)])) _
    refine st1 _ ?_
    show Steps p.tables e below (T1.setTop (mkF m 4 #[.val (.ref w10)] [(.ref w6), (.ref w10)])) _
    refine Jvm.RoadKit.acmp (g := (mkF m 4 #[.val (.ref w10)] [(.ref w6), (.ref w10)])) X1 hx rfl rfl rfl (pc0 := 4) (pc' := 7) (same := false) rfl (hb hby d1_4) rfl (decide_eq_false fun q => ne2 (Value.ref.inj q)) (by decide) (by decide) ?_
    show Steps p.tables e below (T1.setTop (mkF m 7 #[.val (.ref w10)] [])) _
    refine XS.aloadN X1.here hx rfl (hb hby d1_7) rfl rfl ?_
    show Steps p.tables e below (T1.setTop (mkF m 8 #[.val (.ref w10)] [(.ref w10)])) _
    refine st3 _ ?_
    show Steps p.tables e below (T3.setTop (mkF m 11 #[.val (.ref w10)] [(.ref w2), (.ref w10)])) _
    refine Jvm.RoadKit.acmp (g := (mkF m 11 #[.val (.ref w10)] [(.ref w2), (.ref w10)])) X3 hx rfl rfl rfl (pc0 := 11) (pc' := 14) (same := false) rfl (hb hby d1_11) rfl (decide_eq_false fun q => ne4 (Value.ref.inj q)) (by decide) (by decide) ?_
    show Steps p.tables e below (T3.setTop (mkF m 14 #[.val (.ref w10)] [])) _
    refine XS.aloadN X3.here hx rfl (hb hby d1_14) rfl rfl ?_
    show Steps p.tables e below (T3.setTop (mkF m 15 #[.val (.ref w10)] [(.ref w10)])) _
    refine st5 _ ?_
    show Steps p.tables e below (T5.setTop (mkF m 18 #[.val (.ref w10)] [(.ref w12), (.ref w10)])) _
    refine Jvm.RoadKit.acmp (g := (mkF m 18 #[.val (.ref w10)] [(.ref w12), (.ref w10)])) X5 hx rfl rfl rfl (pc0 := 18) (pc' := 21) (same := false) rfl (hb hby d1_18) rfl (decide_eq_false fun q => ne6 (Value.ref.inj q)) (by decide) (by decide) ?_
    show Steps p.tables e below (T5.setTop (mkF m 21 #[.val (.ref w10)] [])) _
    refine XS.aloadN X5.here hx rfl (hb hby d1_21) rfl rfl ?_
    show Steps p.tables e below (T5.setTop (mkF m 22 #[.val (.ref w10)] [(.ref w10)])) _
    refine st7 _ ?_
    show Steps p.tables e below (T7.setTop (mkF m 25 #[.val (.ref w10)] [(.ref w1), (.ref w10)])) _
    refine Jvm.RoadKit.acmp (g := (mkF m 25 #[.val (.ref w10)] [(.ref w1), (.ref w10)])) X7 hx rfl rfl rfl (pc0 := 25) (pc' := 28) (same := false) rfl (hb hby d1_25) rfl (decide_eq_false fun q => ne8 (Value.ref.inj q)) (by decide) (by decide) ?_
    show Steps p.tables e below (T7.setTop (mkF m 28 #[.val (.ref w10)] [])) _
    refine XS.aloadN X7.here hx rfl (hb hby d1_28) rfl rfl ?_
    show Steps p.tables e below (T7.setTop (mkF m 29 #[.val (.ref w10)] [(.ref w10)])) _
    refine st9 _ ?_
    show Steps p.tables e below (T9.setTop (mkF m 32 #[.val (.ref w10)] [(.ref w7), (.ref w10)])) _
    refine Jvm.RoadKit.acmp (g := (mkF m 32 #[.val (.ref w10)] [(.ref w7), (.ref w10)])) X9 hx rfl rfl rfl (pc0 := 32) (pc' := 35) (same := false) rfl (hb hby d1_32) rfl (decide_eq_false fun q => ne10 (Value.ref.inj q)) (by decide) (by decide) ?_
    show Steps p.tables e below (T9.setTop (mkF m 35 #[.val (.ref w10)] [])) _
    refine XS.aloadN X9.here hx rfl (hb hby d1_35) rfl rfl ?_
    show Steps p.tables e below (T9.setTop (mkF m 36 #[.val (.ref w10)] [(.ref w10)])) _
    refine st11 _ ?_
    show Steps p.tables e below (T11.setTop (mkF m 39 #[.val (.ref w10)] [(.ref w5), (.ref w10)])) _
    refine Jvm.RoadKit.acmp (g := (mkF m 39 #[.val (.ref w10)] [(.ref w5), (.ref w10)])) X11 hx rfl rfl rfl (pc0 := 39) (pc' := 42) (same := false) rfl (hb hby d1_39) rfl (decide_eq_false fun q => ne12 (Value.ref.inj q)) (by decide) (by decide) ?_
    show Steps p.tables e below (T11.setTop (mkF m 42 #[.val (.ref w10)] [])) _
    refine XS.aloadN X11.here hx rfl (hb hby d1_42) rfl rfl ?_
    show Steps p.tables e below (T11.setTop (mkF m 43 #[.val (.ref w10)] [(.ref w10)])) _
    refine st13 _ ?_
    show Steps p.tables e below (T13.setTop (mkF m 46 #[.val (.ref w10)] [(.ref w11), (.ref w10)])) _
    refine Jvm.RoadKit.acmp (g := (mkF m 46 #[.val (.ref w10)] [(.ref w11), (.ref w10)])) X13 hx rfl rfl rfl (pc0 := 46) (pc' := 53) (same := false) rfl (hb hby d1_46) rfl (decide_eq_false fun q => ne14 (Value.ref.inj q)) (by decide) (by decide) ?_
    show Steps p.tables e below (T13.setTop (mkF m 53 #[.val (.ref w10)] [])) _
    refine XS.iconst X13.here hx rfl (hb hby d1_53) ?_
    show Steps p.tables e below (T13.setTop (mkF m 54 #[.val (.ref w10)] [(.int (0 : Int32))])) _
    exact retN X13 hx (t := .boolean) Bd.returns (by simp) (hb hby d1_54) hr
  · show Qrm3 Z w0 w1 w2 w3 w4 w5 w6 w7 w8 w9 w10 w11 w12 h0 n0 _ T13.heap _
    rw [e13]
    exact ⟨rfl, N0, rfl⟩
def Qrm4 (Z : State) (w0 : Addr) (w1 : Addr) (w2 : Addr) (w3 : Addr) (w4 : Addr) (w5 : Addr) (w6 : Addr) (w7 : Addr) (w8 : Addr) (w9 : Addr) (w10 : Addr) (w11 : Addr) (w12 : Addr) (h0 : Heap) (n0 : Nat) (v : Option Value) (h : Heap) (L : List Loc) : Prop := v = some (.int (0 : Int32)) ∧ Fr n0 L ∧ h = h0
set_option maxRecDepth 65536 in
set_option maxHeartbeats 40000000 in
theorem rm4 (l : Launch) (Z : State) (a0 : Array Value) (hw : ∀ d ∈ tables_1, d.before a0 Z = true) (w0 : Addr) (w1 : Addr) (w2 : Addr) (w3 : Addr) (w4 : Addr) (w5 : Addr) (w6 : Addr) (w7 : Addr) (w8 : Addr) (w9 : Addr) (w10 : Addr) (w11 : Addr) (w12 : Addr) (hS : SF Z w0 w1 w2 w3 w4 w5 w6 w7 w8 w9 w10 w11 w12) (ws : List Jvm.Cond) (h0 : Heap) (n0 : Nat) (O0 : Old Z n0 h0) :
    MetFree l (⟨z0, z3, "()Z"⟩ : MethodName) (head1 (Jvm.Cond.code (⟨z0, z3, "()Z"⟩ : MethodName) prog_7_method_5_code 1 (some .boolean) :: ws) ({ frames := 0, cells := 0, slots := 0, locals := 0 } : Room)) (fun a U => a = #[(.ref w4)] ∧ Z.Warmed39 U.vm ∧ U.heap = h0) (fun _ _ _ _ _ => True) (fun _ U o U' => ∃ v L, o = .returned v ∧ Qrm4 Z w0 w1 w2 w3 w4 w5 w6 w7 w8 w9 w10 w11 w12 h0 n0 v U'.heap L ∧ FrameEnd U o U' L ({ frames := 0, cells := 0, slots := 0, locals := 0 } : Room).cells ({ frames := 0, cells := 0, slots := 0, locals := 0 } : Room).slots) := by
  refine MetFree.of_bodySF (plainFor_of_name pn28) hisR ?_
  intro p e s m args below meth c s₁ Bd hml0 hP hK
  obtain ⟨rfl, hZ, hh⟩ := hP
  have hx := Bd.exec
  have hby := Bd.bytes
  have hml : c.maxLocals = 1 := hml0
  have hown : s.vm.findClass z0 = some m.cls := findClass_of_methodNamed Bd.named
  have hnm := (name_of_methodNamed Bd.named Bd.method).1
  have X0 : Stand p l e ({ frames := 0, cells := 0, slots := 0, locals := 0 } : Room) s m #[(.ref w4)] below meth c s₁ [] 0 0 := Stand.of_body Bd
  have e0 : s₁.heap = h0 := by rw [← hh, Bd.state]; rfl
  have N0 := Fr.nil n0
  have pre0 : ∀ t, Steps p.tables e below (s₁.setTop (mkF m 0 #[.val (.ref w4)] [])) t → Steps p.tables e below (s₁.setTop (entryFrame m #[(.ref w4)] 1)) t := fun t k => castTop (ef27 m w4) k
  obtain ⟨T1, X1, e1, st1⟩ := getS2 X0 hx hZ hown (host := "") (Or.inl (hw _ m37)) Via.refl e0 (hS.2.2.2.2.2.2.2.2.2.2.2.2.2.2.2.2.2.2.1.ext O0.2) (g := (mkF m 1 #[.val (.ref w4)] [(.ref w4)])) rfl (hb hby d1_1)
  have ne2 : w4 ≠ w6 := (Fld.ne hS.2.2.2.2.2.2.2.2.2.2.2.2.2.2.1 hS.2.2.2.2.2.2.2.2.2.2.2.2.2.2.2.2.2.2.2.2.1 (fun q => absurd (Value.int.inj q) (by decide)))
  obtain ⟨T3, X3, e3, st3⟩ := getS2 X1 hx hZ hown (host := "") (Or.inl (hw _ m46)) Via.refl e1 (hS.2.2.2.2.2.2.1.ext O0.2) (g := (mkF m 8 #[.val (.ref w4)] [(.ref w4)])) rfl (hb hby d1_8)
  have ne4 : w4 ≠ w2 := (Fld.ne hS.2.2.2.2.2.2.2.2.2.2.2.2.2.2.1 hS.2.2.2.2.2.2.2.2.1 (fun q => absurd (Value.int.inj q) (by decide)))
  obtain ⟨T5, X5, e5, st5⟩ := getS2 X3 hx hZ hown (host := "") (Or.inl (hw _ m47)) Via.refl e3 (hS.2.2.2.2.2.2.2.2.2.2.2.2.2.2.2.2.2.2.2.2.2.2.2.2.2.2.2.2.2.2.2.2.2.2.2.2.1.ext O0.2) (g := (mkF m 15 #[.val (.ref w4)] [(.ref w4)])) rfl (hb hby d1_15)
  have ne6 : w4 ≠ w12 := (Fld.ne hS.2.2.2.2.2.2.2.2.2.2.2.2.2.2.1 hS.2.2.2.2.2.2.2.2.2.2.2.2.2.2.2.2.2.2.2.2.2.2.2.2.2.2.2.2.2.2.2.2.2.2.2.2.2.2 (fun q => absurd (Value.int.inj q) (by decide)))
  obtain ⟨T7, X7, e7, st7⟩ := getS2 X5 hx hZ hown (host := "") (Or.inl (hw _ m48)) Via.refl e5 (hS.2.2.2.1.ext O0.2) (g := (mkF m 22 #[.val (.ref w4)] [(.ref w4)])) rfl (hb hby d1_22)
  have ne8 : w4 ≠ w1 := (Fld.ne hS.2.2.2.2.2.2.2.2.2.2.2.2.2.2.1 hS.2.2.2.2.2.1 (fun q => absurd (Value.int.inj q) (by decide)))
  obtain ⟨T9, X9, e9, st9⟩ := getS2 X7 hx hZ hown (host := "") (Or.inl (hw _ m49)) Via.refl e7 (hS.2.2.2.2.2.2.2.2.2.2.2.2.2.2.2.2.2.2.2.2.2.1.ext O0.2) (g := (mkF m 29 #[.val (.ref w4)] [(.ref w4)])) rfl (hb hby d1_29)
  have ne10 : w4 ≠ w7 := (Fld.ne hS.2.2.2.2.2.2.2.2.2.2.2.2.2.2.1 hS.2.2.2.2.2.2.2.2.2.2.2.2.2.2.2.2.2.2.2.2.2.2.2.1 (fun q => absurd (Value.int.inj q) (by decide)))
  obtain ⟨T11, X11, e11, st11⟩ := getS2 X9 hx hZ hown (host := "") (Or.inl (hw _ m50)) Via.refl e9 (hS.2.2.2.2.2.2.2.2.2.2.2.2.2.2.2.1.ext O0.2) (g := (mkF m 36 #[.val (.ref w4)] [(.ref w4)])) rfl (hb hby d1_36)
  have ne12 : w4 ≠ w5 := (Fld.ne hS.2.2.2.2.2.2.2.2.2.2.2.2.2.2.1 hS.2.2.2.2.2.2.2.2.2.2.2.2.2.2.2.2.2.1 (fun q => absurd (Value.int.inj q) (by decide)))
  obtain ⟨T13, X13, e13, st13⟩ := getS2 X11 hx hZ hown (host := "") (Or.inl (hw _ m51)) Via.refl e11 (hS.2.2.2.2.2.2.2.2.2.2.2.2.2.2.2.2.2.2.2.2.2.2.2.2.2.2.2.2.2.2.2.2.2.1.ext O0.2) (g := (mkF m 43 #[.val (.ref w4)] [(.ref w4)])) rfl (hb hby d1_43)
  have ne14 : w4 ≠ w11 := (Fld.ne hS.2.2.2.2.2.2.2.2.2.2.2.2.2.2.1 hS.2.2.2.2.2.2.2.2.2.2.2.2.2.2.2.2.2.2.2.2.2.2.2.2.2.2.2.2.2.2.2.2.2.2.2.1 (fun q => absurd (Value.int.inj q) (by decide)))
  obtain ⟨fs, hr, hrun, hended, hW, hsame⟩ := X13.leave (v := some (.int (0 : Int32))) (fun h => by rw [Bd.returns] at h; cases h)
  refine ⟨_, _, pre0 _ ?_, hrun, hended, _, _, rfl, ?_, ⟨_, rfl⟩, hW, hsame.mono (by decide) (by decide)⟩
  · show Steps p.tables e below (s₁.setTop (mkF m 0 #[.val (.ref w4)] [])) _
    refine XS.aloadN X0.here hx rfl (hb hby d1_0) rfl rfl ?_
    show Steps p.tables e below (s₁.setTop (mkF m 1 #[.val (.ref w4)] [(.ref w4)])) _
    refine st1 _ ?_
    show Steps p.tables e below (T1.setTop (mkF m 4 #[.val (.ref w4)] [(.ref w6), (.ref w4)])) _
    refine Jvm.RoadKit.acmp (g := (mkF m 4 #[.val (.ref w4)] [(.ref w6), (.ref w4)])) X1 hx rfl rfl rfl (pc0 := 4) (pc' := 7) (same := false) rfl (hb hby d1_4) rfl (decide_eq_false fun q => ne2 (Value.ref.inj q)) (by decide) (by decide) ?_
    show Steps p.tables e below (T1.setTop (mkF m 7 #[.val (.ref w4)] [])) _
    refine XS.aloadN X1.here hx rfl (hb hby d1_7) rfl rfl ?_
    show Steps p.tables e below (T1.setTop (mkF m 8 #[.val (.ref w4)] [(.ref w4)])) _
    refine st3 _ ?_
    show Steps p.tables e below (T3.setTop (mkF m 11 #[.val (.ref w4)] [(.ref w2), (.ref w4)])) _
    refine Jvm.RoadKit.acmp (g := (mkF m 11 #[.val (.ref w4)] [(.ref w2), (.ref w4)])) X3 hx rfl rfl rfl (pc0 := 11) (pc' := 14) (same := false) rfl (hb hby d1_11) rfl (decide_eq_false fun q => ne4 (Value.ref.inj q)) (by decide) (by decide) ?_
    show Steps p.tables e below (T3.setTop (mkF m 14 #[.val (.ref w4)] [])) _
    refine XS.aloadN X3.here hx rfl (hb hby d1_14) rfl rfl ?_
    show Steps p.tables e below (T3.setTop (mkF m 15 #[.val (.ref w4)] [(.ref w4)])) _
    refine st5 _ ?_
    show Steps p.tables e below (T5.setTop (mkF m 18 #[.val (.ref w4)] [(.ref w12), (.ref w4)])) _
    refine Jvm.RoadKit.acmp (g := (mkF m 18 #[.val (.ref w4)] [(.ref w12), (.ref w4)])) X5 hx rfl rfl rfl (pc0 := 18) (pc' := 21) (same := false) rfl (hb hby d1_18) rfl (decide_eq_false fun q => ne6 (Value.ref.inj q)) (by decide) (by decide) ?_
    show Steps p.tables e below (T5.setTop (mkF m 21 #[.val (.ref w4)] [])) _
    refine XS.aloadN X5.here hx rfl (hb hby d1_21) rfl rfl ?_
    show Steps p.tables e below (T5.setTop (mkF m 22 #[.val (.ref w4)] [(.ref w4)])) _
    refine st7 _ ?_
    show Steps p.tables e below (T7.setTop (mkF m 25 #[.val (.ref w4)] [(.ref w1), (.ref w4)])) _
    refine Jvm.RoadKit.acmp (g := (mkF m 25 #[.val (.ref w4)] [(.ref w1), (.ref w4)])) X7 hx rfl rfl rfl (pc0 := 25) (pc' := 28) (same := false) rfl (hb hby d1_25) rfl (decide_eq_false fun q => ne8 (Value.ref.inj q)) (by decide) (by decide) ?_
    show Steps p.tables e below (T7.setTop (mkF m 28 #[.val (.ref w4)] [])) _
    refine XS.aloadN X7.here hx rfl (hb hby d1_28) rfl rfl ?_
    show Steps p.tables e below (T7.setTop (mkF m 29 #[.val (.ref w4)] [(.ref w4)])) _
    refine st9 _ ?_
    show Steps p.tables e below (T9.setTop (mkF m 32 #[.val (.ref w4)] [(.ref w7), (.ref w4)])) _
    refine Jvm.RoadKit.acmp (g := (mkF m 32 #[.val (.ref w4)] [(.ref w7), (.ref w4)])) X9 hx rfl rfl rfl (pc0 := 32) (pc' := 35) (same := false) rfl (hb hby d1_32) rfl (decide_eq_false fun q => ne10 (Value.ref.inj q)) (by decide) (by decide) ?_
    show Steps p.tables e below (T9.setTop (mkF m 35 #[.val (.ref w4)] [])) _
    refine XS.aloadN X9.here hx rfl (hb hby d1_35) rfl rfl ?_
    show Steps p.tables e below (T9.setTop (mkF m 36 #[.val (.ref w4)] [(.ref w4)])) _
    refine st11 _ ?_
    show Steps p.tables e below (T11.setTop (mkF m 39 #[.val (.ref w4)] [(.ref w5), (.ref w4)])) _
    refine Jvm.RoadKit.acmp (g := (mkF m 39 #[.val (.ref w4)] [(.ref w5), (.ref w4)])) X11 hx rfl rfl rfl (pc0 := 39) (pc' := 42) (same := false) rfl (hb hby d1_39) rfl (decide_eq_false fun q => ne12 (Value.ref.inj q)) (by decide) (by decide) ?_
    show Steps p.tables e below (T11.setTop (mkF m 42 #[.val (.ref w4)] [])) _
    refine XS.aloadN X11.here hx rfl (hb hby d1_42) rfl rfl ?_
    show Steps p.tables e below (T11.setTop (mkF m 43 #[.val (.ref w4)] [(.ref w4)])) _
    refine st13 _ ?_
    show Steps p.tables e below (T13.setTop (mkF m 46 #[.val (.ref w4)] [(.ref w11), (.ref w4)])) _
    refine Jvm.RoadKit.acmp (g := (mkF m 46 #[.val (.ref w4)] [(.ref w11), (.ref w4)])) X13 hx rfl rfl rfl (pc0 := 46) (pc' := 53) (same := false) rfl (hb hby d1_46) rfl (decide_eq_false fun q => ne14 (Value.ref.inj q)) (by decide) (by decide) ?_
    show Steps p.tables e below (T13.setTop (mkF m 53 #[.val (.ref w4)] [])) _
    refine XS.iconst X13.here hx rfl (hb hby d1_53) ?_
    show Steps p.tables e below (T13.setTop (mkF m 54 #[.val (.ref w4)] [(.int (0 : Int32))])) _
    exact retN X13 hx (t := .boolean) Bd.returns (by simp) (hb hby d1_54) hr
  · show Qrm4 Z w0 w1 w2 w3 w4 w5 w6 w7 w8 w9 w10 w11 w12 h0 n0 _ T13.heap _
    rw [e13]
    exact ⟨rfl, N0, rfl⟩
def Qrm5 (Z : State) (w0 : Addr) (w1 : Addr) (w2 : Addr) (w3 : Addr) (w4 : Addr) (w5 : Addr) (w6 : Addr) (w7 : Addr) (w8 : Addr) (w9 : Addr) (w10 : Addr) (w11 : Addr) (w12 : Addr) (h0 : Heap) (n0 : Nat) (v : Option Value) (h : Heap) (L : List Loc) : Prop := v = some (.int (1 : Int32)) ∧ Fr n0 L ∧ h = h0
set_option maxRecDepth 65536 in
set_option maxHeartbeats 40000000 in
theorem rm5 (l : Launch) (Z : State) (a0 : Array Value) (hw : ∀ d ∈ tables_1, d.before a0 Z = true) (w0 : Addr) (w1 : Addr) (w2 : Addr) (w3 : Addr) (w4 : Addr) (w5 : Addr) (w6 : Addr) (w7 : Addr) (w8 : Addr) (w9 : Addr) (w10 : Addr) (w11 : Addr) (w12 : Addr) (hS : SF Z w0 w1 w2 w3 w4 w5 w6 w7 w8 w9 w10 w11 w12) (ws : List Jvm.Cond) (h0 : Heap) (n0 : Nat) (O0 : Old Z n0 h0) :
    MetFree l (⟨z0, z3, "()Z"⟩ : MethodName) (head1 (Jvm.Cond.code (⟨z0, z3, "()Z"⟩ : MethodName) prog_7_method_5_code 1 (some .boolean) :: ws) ({ frames := 0, cells := 0, slots := 0, locals := 0 } : Room)) (fun a U => a = #[(.ref w1)] ∧ Z.Warmed39 U.vm ∧ U.heap = h0) (fun _ _ _ _ _ => True) (fun _ U o U' => ∃ v L, o = .returned v ∧ Qrm5 Z w0 w1 w2 w3 w4 w5 w6 w7 w8 w9 w10 w11 w12 h0 n0 v U'.heap L ∧ FrameEnd U o U' L ({ frames := 0, cells := 0, slots := 0, locals := 0 } : Room).cells ({ frames := 0, cells := 0, slots := 0, locals := 0 } : Room).slots) := by
  refine MetFree.of_bodySF (plainFor_of_name pn28) hisR ?_
  intro p e s m args below meth c s₁ Bd hml0 hP hK
  obtain ⟨rfl, hZ, hh⟩ := hP
  have hx := Bd.exec
  have hby := Bd.bytes
  have hml : c.maxLocals = 1 := hml0
  have hown : s.vm.findClass z0 = some m.cls := findClass_of_methodNamed Bd.named
  have hnm := (name_of_methodNamed Bd.named Bd.method).1
  have X0 : Stand p l e ({ frames := 0, cells := 0, slots := 0, locals := 0 } : Room) s m #[(.ref w1)] below meth c s₁ [] 0 0 := Stand.of_body Bd
  have e0 : s₁.heap = h0 := by rw [← hh, Bd.state]; rfl
  have N0 := Fr.nil n0
  have pre0 : ∀ t, Steps p.tables e below (s₁.setTop (mkF m 0 #[.val (.ref w1)] [])) t → Steps p.tables e below (s₁.setTop (entryFrame m #[(.ref w1)] 1)) t := fun t k => castTop (ef27 m w1) k
  obtain ⟨T1, X1, e1, st1⟩ := getS2 X0 hx hZ hown (host := "") (Or.inl (hw _ m37)) Via.refl e0 (hS.2.2.2.2.2.2.2.2.2.2.2.2.2.2.2.2.2.2.1.ext O0.2) (g := (mkF m 1 #[.val (.ref w1)] [(.ref w1)])) rfl (hb hby d1_1)
  have ne2 : w1 ≠ w6 := (Fld.ne hS.2.2.2.2.2.1 hS.2.2.2.2.2.2.2.2.2.2.2.2.2.2.2.2.2.2.2.2.1 (fun q => absurd (Value.int.inj q) (by decide)))
  obtain ⟨T3, X3, e3, st3⟩ := getS2 X1 hx hZ hown (host := "") (Or.inl (hw _ m46)) Via.refl e1 (hS.2.2.2.2.2.2.1.ext O0.2) (g := (mkF m 8 #[.val (.ref w1)] [(.ref w1)])) rfl (hb hby d1_8)
  have ne4 : w1 ≠ w2 := (Fld.ne hS.2.2.2.2.2.1 hS.2.2.2.2.2.2.2.2.1 (fun q => absurd (Value.int.inj q) (by decide)))
  obtain ⟨T5, X5, e5, st5⟩ := getS2 X3 hx hZ hown (host := "") (Or.inl (hw _ m47)) Via.refl e3 (hS.2.2.2.2.2.2.2.2.2.2.2.2.2.2.2.2.2.2.2.2.2.2.2.2.2.2.2.2.2.2.2.2.2.2.2.2.1.ext O0.2) (g := (mkF m 15 #[.val (.ref w1)] [(.ref w1)])) rfl (hb hby d1_15)
  have ne6 : w1 ≠ w12 := (Fld.ne hS.2.2.2.2.2.1 hS.2.2.2.2.2.2.2.2.2.2.2.2.2.2.2.2.2.2.2.2.2.2.2.2.2.2.2.2.2.2.2.2.2.2.2.2.2.2 (fun q => absurd (Value.int.inj q) (by decide)))
  obtain ⟨T7, X7, e7, st7⟩ := getS2 X5 hx hZ hown (host := "") (Or.inl (hw _ m48)) Via.refl e5 (hS.2.2.2.1.ext O0.2) (g := (mkF m 22 #[.val (.ref w1)] [(.ref w1)])) rfl (hb hby d1_22)
  obtain ⟨fs, hr, hrun, hended, hW, hsame⟩ := X7.leave (v := some (.int (1 : Int32))) (fun h => by rw [Bd.returns] at h; cases h)
  refine ⟨_, _, pre0 _ ?_, hrun, hended, _, _, rfl, ?_, ⟨_, rfl⟩, hW, hsame.mono (by decide) (by decide)⟩
  · show Steps p.tables e below (s₁.setTop (mkF m 0 #[.val (.ref w1)] [])) _
    refine XS.aloadN X0.here hx rfl (hb hby d1_0) rfl rfl ?_
    show Steps p.tables e below (s₁.setTop (mkF m 1 #[.val (.ref w1)] [(.ref w1)])) _
    refine st1 _ ?_
    show Steps p.tables e below (T1.setTop (mkF m 4 #[.val (.ref w1)] [(.ref w6), (.ref w1)])) _
    refine Jvm.RoadKit.acmp (g := (mkF m 4 #[.val (.ref w1)] [(.ref w6), (.ref w1)])) X1 hx rfl rfl rfl (pc0 := 4) (pc' := 7) (same := false) rfl (hb hby d1_4) rfl (decide_eq_false fun q => ne2 (Value.ref.inj q)) (by decide) (by decide) ?_
    show Steps p.tables e below (T1.setTop (mkF m 7 #[.val (.ref w1)] [])) _
    refine XS.aloadN X1.here hx rfl (hb hby d1_7) rfl rfl ?_
    show Steps p.tables e below (T1.setTop (mkF m 8 #[.val (.ref w1)] [(.ref w1)])) _
    refine st3 _ ?_
    show Steps p.tables e below (T3.setTop (mkF m 11 #[.val (.ref w1)] [(.ref w2), (.ref w1)])) _
    refine Jvm.RoadKit.acmp (g := (mkF m 11 #[.val (.ref w1)] [(.ref w2), (.ref w1)])) X3 hx rfl rfl rfl (pc0 := 11) (pc' := 14) (same := false) rfl (hb hby d1_11) rfl (decide_eq_false fun q => ne4 (Value.ref.inj q)) (by decide) (by decide) ?_
    show Steps p.tables e below (T3.setTop (mkF m 14 #[.val (.ref w1)] [])) _
    refine XS.aloadN X3.here hx rfl (hb hby d1_14) rfl rfl ?_
    show Steps p.tables e below (T3.setTop (mkF m 15 #[.val (.ref w1)] [(.ref w1)])) _
    refine st5 _ ?_
    show Steps p.tables e below (T5.setTop (mkF m 18 #[.val (.ref w1)] [(.ref w12), (.ref w1)])) _
    refine Jvm.RoadKit.acmp (g := (mkF m 18 #[.val (.ref w1)] [(.ref w12), (.ref w1)])) X5 hx rfl rfl rfl (pc0 := 18) (pc' := 21) (same := false) rfl (hb hby d1_18) rfl (decide_eq_false fun q => ne6 (Value.ref.inj q)) (by decide) (by decide) ?_
    show Steps p.tables e below (T5.setTop (mkF m 21 #[.val (.ref w1)] [])) _
    refine XS.aloadN X5.here hx rfl (hb hby d1_21) rfl rfl ?_
    show Steps p.tables e below (T5.setTop (mkF m 22 #[.val (.ref w1)] [(.ref w1)])) _
    refine st7 _ ?_
    show Steps p.tables e below (T7.setTop (mkF m 25 #[.val (.ref w1)] [(.ref w1), (.ref w1)])) _
    refine Jvm.RoadKit.acmp (g := (mkF m 25 #[.val (.ref w1)] [(.ref w1), (.ref w1)])) X7 hx rfl rfl rfl (pc0 := 25) (pc' := 49) (same := true) rfl (hb hby d1_25) rfl (decide_eq_true rfl) (by decide) (by decide) ?_
    show Steps p.tables e below (T7.setTop (mkF m 49 #[.val (.ref w1)] [])) _
    refine XS.iconst X7.here hx rfl (hb hby d1_49) ?_
    show Steps p.tables e below (T7.setTop (mkF m 50 #[.val (.ref w1)] [(.int (1 : Int32))])) _
    refine XS.goto X7.here hx rfl (pc0 := 50) (pc' := 54) rfl (hb hby d1_50) (by decide) (by decide) ?_
    show Steps p.tables e below (T7.setTop (mkF m 54 #[.val (.ref w1)] [(.int (1 : Int32))])) _
    exact retN X7 hx (t := .boolean) Bd.returns (by simp) (hb hby d1_54) hr
  · show Qrm5 Z w0 w1 w2 w3 w4 w5 w6 w7 w8 w9 w10 w11 w12 h0 n0 _ T7.heap _
    rw [e7]
    exact ⟨rfl, N0, rfl⟩
def Qrm6 (Z : State) (w0 : Addr) (w1 : Addr) (w2 : Addr) (w3 : Addr) (w4 : Addr) (w5 : Addr) (w6 : Addr) (w7 : Addr) (w8 : Addr) (w9 : Addr) (w10 : Addr) (w11 : Addr) (w12 : Addr) (h0 : Heap) (n0 : Nat) (v : Option Value) (h : Heap) (L : List Loc) : Prop := v = some (.int (0 : Int32)) ∧ Fr n0 L ∧ h = h0
set_option maxRecDepth 65536 in
set_option maxHeartbeats 40000000 in
theorem rm6 (l : Launch) (Z : State) (a0 : Array Value) (hw : ∀ d ∈ tables_1, d.before a0 Z = true) (w0 : Addr) (w1 : Addr) (w2 : Addr) (w3 : Addr) (w4 : Addr) (w5 : Addr) (w6 : Addr) (w7 : Addr) (w8 : Addr) (w9 : Addr) (w10 : Addr) (w11 : Addr) (w12 : Addr) (hS : SF Z w0 w1 w2 w3 w4 w5 w6 w7 w8 w9 w10 w11 w12) (ws : List Jvm.Cond) (h0 : Heap) (n0 : Nat) (O0 : Old Z n0 h0) :
    MetFree l (⟨z0, z4, "()Z"⟩ : MethodName) (head1 (Jvm.Cond.code (⟨z0, z4, "()Z"⟩ : MethodName) prog_7_method_4_code 1 (some .boolean) :: ws) ({ frames := 0, cells := 0, slots := 0, locals := 0 } : Room)) (fun a U => a = #[(.ref w1)] ∧ Z.Warmed39 U.vm ∧ U.heap = h0) (fun _ _ _ _ _ => True) (fun _ U o U' => ∃ v L, o = .returned v ∧ Qrm6 Z w0 w1 w2 w3 w4 w5 w6 w7 w8 w9 w10 w11 w12 h0 n0 v U'.heap L ∧ FrameEnd U o U' L ({ frames := 0, cells := 0, slots := 0, locals := 0 } : Room).cells ({ frames := 0, cells := 0, slots := 0, locals := 0 } : Room).slots) := by
  refine MetFree.of_bodySF (plainFor_of_name pn28) hisR ?_
  intro p e s m args below meth c s₁ Bd hml0 hP hK
  obtain ⟨rfl, hZ, hh⟩ := hP
  have hx := Bd.exec
  have hby := Bd.bytes
  have hml : c.maxLocals = 1 := hml0
  have hown : s.vm.findClass z0 = some m.cls := findClass_of_methodNamed Bd.named
  have hnm := (name_of_methodNamed Bd.named Bd.method).1
  have X0 : Stand p l e ({ frames := 0, cells := 0, slots := 0, locals := 0 } : Room) s m #[(.ref w1)] below meth c s₁ [] 0 0 := Stand.of_body Bd
  have e0 : s₁.heap = h0 := by rw [← hh, Bd.state]; rfl
  have N0 := Fr.nil n0
  have pre0 : ∀ t, Steps p.tables e below (s₁.setTop (mkF m 0 #[.val (.ref w1)] [])) t → Steps p.tables e below (s₁.setTop (entryFrame m #[(.ref w1)] 1)) t := fun t k => castTop (ef27 m w1) k
  obtain ⟨T1, X1, e1, st1⟩ := getS2 X0 hx hZ hown (host := "") (Or.inl (hw _ m43)) Via.refl e0 (hS.2.2.2.2.2.2.2.2.2.2.2.2.2.2.2.2.2.2.2.2.2.2.2.2.2.2.2.2.2.2.1.ext O0.2) (g := (mkF m 1 #[.val (.ref w1)] [(.ref w1)])) rfl (hb hby d2_1)
  have ne2 : w1 ≠ w10 := (Fld.ne hS.2.2.2.2.2.1 hS.2.2.2.2.2.2.2.2.2.2.2.2.2.2.2.2.2.2.2.2.2.2.2.2.2.2.2.2.2.2.2.2.1 (fun q => absurd (Value.int.inj q) (by decide)))
  obtain ⟨T3, X3, e3, st3⟩ := getS2 X1 hx hZ hown (host := "") (Or.inl (hw _ m44)) Via.refl e1 (hS.2.2.2.2.2.2.2.2.2.2.2.2.1.ext O0.2) (g := (mkF m 8 #[.val (.ref w1)] [(.ref w1)])) rfl (hb hby d2_8)
  have ne4 : w1 ≠ w4 := (Fld.ne hS.2.2.2.2.2.1 hS.2.2.2.2.2.2.2.2.2.2.2.2.2.2.1 (fun q => absurd (Value.int.inj q) (by decide)))
  obtain ⟨T5, X5, e5, st5⟩ := getS2 X3 hx hZ hown (host := "") (Or.inl (hw _ m45)) Via.refl e3 (hS.2.2.2.2.2.2.2.2.2.2.2.2.2.2.2.2.2.2.2.2.2.2.2.2.2.2.2.1.ext O0.2) (g := (mkF m 15 #[.val (.ref w1)] [(.ref w1)])) rfl (hb hby d2_15)
  have ne6 : w1 ≠ w9 := (Fld.ne hS.2.2.2.2.2.1 hS.2.2.2.2.2.2.2.2.2.2.2.2.2.2.2.2.2.2.2.2.2.2.2.2.2.2.2.2.2.1 (fun q => absurd (Value.int.inj q) (by decide)))
  obtain ⟨fs, hr, hrun, hended, hW, hsame⟩ := X5.leave (v := some (.int (0 : Int32))) (fun h => by rw [Bd.returns] at h; cases h)
  refine ⟨_, _, pre0 _ ?_, hrun, hended, _, _, rfl, ?_, ⟨_, rfl⟩, hW, hsame.mono (by decide) (by decide)⟩
  · show Steps p.tables e below (s₁.setTop (mkF m 0 #[.val (.ref w1)] [])) _
    refine XS.aloadN X0.here hx rfl (hb hby d2_0) rfl rfl ?_
    show Steps p.tables e below (s₁.setTop (mkF m 1 #[.val (.ref w1)] [(.ref w1)])) _
    refine st1 _ ?_
    show Steps p.tables e below (T1.setTop (mkF m 4 #[.val (.ref w1)] [(.ref w10), (.ref w1)])) _
    refine Jvm.RoadKit.acmp (g := (mkF m 4 #[.val (.ref w1)] [(.ref w10), (.ref w1)])) X1 hx rfl rfl rfl (pc0 := 4) (pc' := 7) (same := false) rfl (hb hby d2_4) rfl (decide_eq_false fun q => ne2 (Value.ref.inj q)) (by decide) (by decide) ?_
    show Steps p.tables e below (T1.setTop (mkF m 7 #[.val (.ref w1)] [])) _
    refine XS.aloadN X1.here hx rfl (hb hby d2_7) rfl rfl ?_
    show Steps p.tables e below (T1.setTop (mkF m 8 #[.val (.ref w1)] [(.ref w1)])) _
    refine st3 _ ?_
    show Steps p.tables e below (T3.setTop (mkF m 11 #[.val (.ref w1)] [(.ref w4), (.ref w1)])) _
    refine Jvm.RoadKit.acmp (g := (mkF m 11 #[.val (.ref w1)] [(.ref w4), (.ref w1)])) X3 hx rfl rfl rfl (pc0 := 11) (pc' := 14) (same := false) rfl (hb hby d2_11) rfl (decide_eq_false fun q => ne4 (Value.ref.inj q)) (by decide) (by decide) ?_
    show Steps p.tables e below (T3.setTop (mkF m 14 #[.val (.ref w1)] [])) _
    refine XS.aloadN X3.here hx rfl (hb hby d2_14) rfl rfl ?_
    show Steps p.tables e below (T3.setTop (mkF m 15 #[.val (.ref w1)] [(.ref w1)])) _
    refine st5 _ ?_
    show Steps p.tables e below (T5.setTop (mkF m 18 #[.val (.ref w1)] [(.ref w9), (.ref w1)])) _
    refine Jvm.RoadKit.acmp (g := (mkF m 18 #[.val (.ref w1)] [(.ref w9), (.ref w1)])) X5 hx rfl rfl rfl (pc0 := 18) (pc' := 25) (same := false) rfl (hb hby d2_18) rfl (decide_eq_false fun q => ne6 (Value.ref.inj q)) (by decide) (by decide) ?_
    show Steps p.tables e below (T5.setTop (mkF m 25 #[.val (.ref w1)] [])) _
    refine XS.iconst X5.here hx rfl (hb hby d2_25) ?_
    show Steps p.tables e below (T5.setTop (mkF m 26 #[.val (.ref w1)] [(.int (0 : Int32))])) _
    exact retN X5 hx (t := .boolean) Bd.returns (by simp) (hb hby d2_26) hr
  · show Qrm6 Z w0 w1 w2 w3 w4 w5 w6 w7 w8 w9 w10 w11 w12 h0 n0 _ T5.heap _
    rw [e5]
    exact ⟨rfl, N0, rfl⟩
def Qrm7 (Z : State) (w0 : Addr) (w1 : Addr) (w2 : Addr) (w3 : Addr) (w4 : Addr) (w5 : Addr) (w6 : Addr) (w7 : Addr) (w8 : Addr) (w9 : Addr) (w10 : Addr) (w11 : Addr) (w12 : Addr) (h0 : Heap) (n0 : Nat) (v : Option Value) (h : Heap) (L : List Loc) : Prop := v = some (.int (1 : Int32)) ∧ Fr n0 L ∧ h = h0
set_option maxRecDepth 65536 in
set_option maxHeartbeats 40000000 in
theorem rm7 (l : Launch) (Z : State) (a0 : Array Value) (hw : ∀ d ∈ tables_1, d.before a0 Z = true) (w0 : Addr) (w1 : Addr) (w2 : Addr) (w3 : Addr) (w4 : Addr) (w5 : Addr) (w6 : Addr) (w7 : Addr) (w8 : Addr) (w9 : Addr) (w10 : Addr) (w11 : Addr) (w12 : Addr) (hS : SF Z w0 w1 w2 w3 w4 w5 w6 w7 w8 w9 w10 w11 w12) (ws : List Jvm.Cond) (h0 : Heap) (n0 : Nat) (O0 : Old Z n0 h0) :
    MetFree l (⟨z0, z3, "()Z"⟩ : MethodName) (head1 (Jvm.Cond.code (⟨z0, z3, "()Z"⟩ : MethodName) prog_7_method_5_code 1 (some .boolean) :: ws) ({ frames := 0, cells := 0, slots := 0, locals := 0 } : Room)) (fun a U => a = #[(.ref w7)] ∧ Z.Warmed39 U.vm ∧ U.heap = h0) (fun _ _ _ _ _ => True) (fun _ U o U' => ∃ v L, o = .returned v ∧ Qrm7 Z w0 w1 w2 w3 w4 w5 w6 w7 w8 w9 w10 w11 w12 h0 n0 v U'.heap L ∧ FrameEnd U o U' L ({ frames := 0, cells := 0, slots := 0, locals := 0 } : Room).cells ({ frames := 0, cells := 0, slots := 0, locals := 0 } : Room).slots) := by
  refine MetFree.of_bodySF (plainFor_of_name pn28) hisR ?_
  intro p e s m args below meth c s₁ Bd hml0 hP hK
  obtain ⟨rfl, hZ, hh⟩ := hP
  have hx := Bd.exec
  have hby := Bd.bytes
  have hml : c.maxLocals = 1 := hml0
  have hown : s.vm.findClass z0 = some m.cls := findClass_of_methodNamed Bd.named
  have hnm := (name_of_methodNamed Bd.named Bd.method).1
  have X0 : Stand p l e ({ frames := 0, cells := 0, slots := 0, locals := 0 } : Room) s m #[(.ref w7)] below meth c s₁ [] 0 0 := Stand.of_body Bd
  have e0 : s₁.heap = h0 := by rw [← hh, Bd.state]; rfl
  have N0 := Fr.nil n0
  have pre0 : ∀ t, Steps p.tables e below (s₁.setTop (mkF m 0 #[.val (.ref w7)] [])) t → Steps p.tables e below (s₁.setTop (entryFrame m #[(.ref w7)] 1)) t := fun t k => castTop (ef27 m w7) k
  obtain ⟨T1, X1, e1, st1⟩ := getS2 X0 hx hZ hown (host := "") (Or.inl (hw _ m37)) Via.refl e0 (hS.2.2.2.2.2.2.2.2.2.2.2.2.2.2.2.2.2.2.1.ext O0.2) (g := (mkF m 1 #[.val (.ref w7)] [(.ref w7)])) rfl (hb hby d1_1)
  have ne2 : w7 ≠ w6 := (Fld.ne hS.2.2.2.2.2.2.2.2.2.2.2.2.2.2.2.2.2.2.2.2.2.2.2.1 hS.2.2.2.2.2.2.2.2.2.2.2.2.2.2.2.2.2.2.2.2.1 (fun q => absurd (Value.int.inj q) (by decide)))
  obtain ⟨T3, X3, e3, st3⟩ := getS2 X1 hx hZ hown (host := "") (Or.inl (hw _ m46)) Via.refl e1 (hS.2.2.2.2.2.2.1.ext O0.2) (g := (mkF m 8 #[.val (.ref w7)] [(.ref w7)])) rfl (hb hby d1_8)
  have ne4 : w7 ≠ w2 := (Fld.ne hS.2.2.2.2.2.2.2.2.2.2.2.2.2.2.2.2.2.2.2.2.2.2.2.1 hS.2.2.2.2.2.2.2.2.1 (fun q => absurd (Value.int.inj q) (by decide)))
  obtain ⟨T5, X5, e5, st5⟩ := getS2 X3 hx hZ hown (host := "") (Or.inl (hw _ m47)) Via.refl e3 (hS.2.2.2.2.2.2.2.2.2.2.2.2.2.2.2.2.2.2.2.2.2.2.2.2.2.2.2.2.2.2.2.2.2.2.2.2.1.ext O0.2) (g := (mkF m 15 #[.val (.ref w7)] [(.ref w7)])) rfl (hb hby d1_15)
  have ne6 : w7 ≠ w12 := (Fld.ne hS.2.2.2.2.2.2.2.2.2.2.2.2.2.2.2.2.2.2.2.2.2.2.2.1 hS.2.2.2.2.2.2.2.2.2.2.2.2.2.2.2.2.2.2.2.2.2.2.2.2.2.2.2.2.2.2.2.2.2.2.2.2.2.2 (fun q => absurd (Value.int.inj q) (by decide)))
  obtain ⟨T7, X7, e7, st7⟩ := getS2 X5 hx hZ hown (host := "") (Or.inl (hw _ m48)) Via.refl e5 (hS.2.2.2.1.ext O0.2) (g := (mkF m 22 #[.val (.ref w7)] [(.ref w7)])) rfl (hb hby d1_22)
  have ne8 : w7 ≠ w1 := (Fld.ne hS.2.2.2.2.2.2.2.2.2.2.2.2.2.2.2.2.2.2.2.2.2.2.2.1 hS.2.2.2.2.2.1 (fun q => absurd (Value.int.inj q) (by decide)))
  obtain ⟨T9, X9, e9, st9⟩ := getS2 X7 hx hZ hown (host := "") (Or.inl (hw _ m49)) Via.refl e7 (hS.2.2.2.2.2.2.2.2.2.2.2.2.2.2.2.2.2.2.2.2.2.1.ext O0.2) (g := (mkF m 29 #[.val (.ref w7)] [(.ref w7)])) rfl (hb hby d1_29)
  obtain ⟨fs, hr, hrun, hended, hW, hsame⟩ := X9.leave (v := some (.int (1 : Int32))) (fun h => by rw [Bd.returns] at h; cases h)
  refine ⟨_, _, pre0 _ ?_, hrun, hended, _, _, rfl, ?_, ⟨_, rfl⟩, hW, hsame.mono (by decide) (by decide)⟩
  · show Steps p.tables e below (s₁.setTop (mkF m 0 #[.val (.ref w7)] [])) _
    refine XS.aloadN X0.here hx rfl (hb hby d1_0) rfl rfl ?_
    show Steps p.tables e below (s₁.setTop (mkF m 1 #[.val (.ref w7)] [(.ref w7)])) _
    refine st1 _ ?_
    show Steps p.tables e below (T1.setTop (mkF m 4 #[.val (.ref w7)] [(.ref w6), (.ref w7)])) _
    refine Jvm.RoadKit.acmp (g := (mkF m 4 #[.val (.ref w7)] [(.ref w6), (.ref w7)])) X1 hx rfl rfl rfl (pc0 := 4) (pc' := 7) (same := false) rfl (hb hby d1_4) rfl (decide_eq_false fun q => ne2 (Value.ref.inj q)) (by decide) (by decide) ?_
    show Steps p.tables e below (T1.setTop (mkF m 7 #[.val (.ref w7)] [])) _
    refine XS.aloadN X1.here hx rfl (hb hby d1_7) rfl rfl ?_
    show Steps p.tables e below (T1.setTop (mkF m 8 #[.val (.ref w7)] [(.ref w7)])) _
    refine st3 _ ?_
    show Steps p.tables e below (T3.setTop (mkF m 11 #[.val (.ref w7)] [(.ref w2), (.ref w7)])) _
    refine Jvm.RoadKit.acmp (g := (mkF m 11 #[.val (.ref w7)] [(.ref w2), (.ref w7)])) X3 hx rfl rfl rfl (pc0 := 11) (pc' := 14) (same := false) rfl (hb hby d1_11) rfl (decide_eq_false fun q => ne4 (Value.ref.inj q)) (by decide) (by decide) ?_
    show Steps p.tables e below (T3.setTop (mkF m 14 #[.val (.ref w7)] [])) _
    refine XS.aloadN X3.here hx rfl (hb hby d1_14) rfl rfl ?_
    show Steps p.tables e below (T3.setTop (mkF m 15 #[.val (.ref w7)] [(.ref w7)])) _
    refine st5 _ ?_
    show Steps p.tables e below (T5.setTop (mkF m 18 #[.val (.ref w7)] [(.ref w12), (.ref w7)])) _
    refine Jvm.RoadKit.acmp (g := (mkF m 18 #[.val (.ref w7)] [(.ref w12), (.ref w7)])) X5 hx rfl rfl rfl (pc0 := 18) (pc' := 21) (same := false) rfl (hb hby d1_18) rfl (decide_eq_false fun q => ne6 (Value.ref.inj q)) (by decide) (by decide) ?_
    show Steps p.tables e below (T5.setTop (mkF m 21 #[.val (.ref w7)] [])) _
    refine XS.aloadN X5.here hx rfl (hb hby d1_21) rfl rfl ?_
    show Steps p.tables e below (T5.setTop (mkF m 22 #[.val (.ref w7)] [(.ref w7)])) _
    refine st7 _ ?_
    show Steps p.tables e below (T7.setTop (mkF m 25 #[.val (.ref w7)] [(.ref w1), (.ref w7)])) _
    refine Jvm.RoadKit.acmp (g := (mkF m 25 #[.val (.ref w7)] [(.ref w1), (.ref w7)])) X7 hx rfl rfl rfl (pc0 := 25) (pc' := 28) (same := false) rfl (hb hby d1_25) rfl (decide_eq_false fun q => ne8 (Value.ref.inj q)) (by decide) (by decide) ?_
    show Steps p.tables e below (T7.setTop (mkF m 28 #[.val (.ref w7)] [])) _
    refine XS.aloadN X7.here hx rfl (hb hby d1_28) rfl rfl ?_
    show Steps p.tables e below (T7.setTop (mkF m 29 #[.val (.ref w7)] [(.ref w7)])) _
    refine st9 _ ?_
    show Steps p.tables e below (T9.setTop (mkF m 32 #[.val (.ref w7)] [(.ref w7), (.ref w7)])) _
    refine Jvm.RoadKit.acmp (g := (mkF m 32 #[.val (.ref w7)] [(.ref w7), (.ref w7)])) X9 hx rfl rfl rfl (pc0 := 32) (pc' := 49) (same := true) rfl (hb hby d1_32) rfl (decide_eq_true rfl) (by decide) (by decide) ?_
    show Steps p.tables e below (T9.setTop (mkF m 49 #[.val (.ref w7)] [])) _
    refine XS.iconst X9.here hx rfl (hb hby d1_49) ?_
    show Steps p.tables e below (T9.setTop (mkF m 50 #[.val (.ref w7)] [(.int (1 : Int32))])) _
    refine XS.goto X9.here hx rfl (pc0 := 50) (pc' := 54) rfl (hb hby d1_50) (by decide) (by decide) ?_
    show Steps p.tables e below (T9.setTop (mkF m 54 #[.val (.ref w7)] [(.int (1 : Int32))])) _
    exact retN X9 hx (t := .boolean) Bd.returns (by simp) (hb hby d1_54) hr
  · show Qrm7 Z w0 w1 w2 w3 w4 w5 w6 w7 w8 w9 w10 w11 w12 h0 n0 _ T9.heap _
    rw [e9]
    exact ⟨rfl, N0, rfl⟩
def Qrm8 (Z : State) (w0 : Addr) (w1 : Addr) (w2 : Addr) (w3 : Addr) (w4 : Addr) (w5 : Addr) (w6 : Addr) (w7 : Addr) (w8 : Addr) (w9 : Addr) (w10 : Addr) (w11 : Addr) (w12 : Addr) (h0 : Heap) (n0 : Nat) (v : Option Value) (h : Heap) (L : List Loc) : Prop := v = some (.int (0 : Int32)) ∧ Fr n0 L ∧ h = h0
set_option maxRecDepth 65536 in
set_option maxHeartbeats 40000000 in
theorem rm8 (l : Launch) (Z : State) (a0 : Array Value) (hw : ∀ d ∈ tables_1, d.before a0 Z = true) (w0 : Addr) (w1 : Addr) (w2 : Addr) (w3 : Addr) (w4 : Addr) (w5 : Addr) (w6 : Addr) (w7 : Addr) (w8 : Addr) (w9 : Addr) (w10 : Addr) (w11 : Addr) (w12 : Addr) (hS : SF Z w0 w1 w2 w3 w4 w5 w6 w7 w8 w9 w10 w11 w12) (ws : List Jvm.Cond) (h0 : Heap) (n0 : Nat) (O0 : Old Z n0 h0) :
    MetFree l (⟨z0, z4, "()Z"⟩ : MethodName) (head1 (Jvm.Cond.code (⟨z0, z4, "()Z"⟩ : MethodName) prog_7_method_4_code 1 (some .boolean) :: ws) ({ frames := 0, cells := 0, slots := 0, locals := 0 } : Room)) (fun a U => a = #[(.ref w7)] ∧ Z.Warmed39 U.vm ∧ U.heap = h0) (fun _ _ _ _ _ => True) (fun _ U o U' => ∃ v L, o = .returned v ∧ Qrm8 Z w0 w1 w2 w3 w4 w5 w6 w7 w8 w9 w10 w11 w12 h0 n0 v U'.heap L ∧ FrameEnd U o U' L ({ frames := 0, cells := 0, slots := 0, locals := 0 } : Room).cells ({ frames := 0, cells := 0, slots := 0, locals := 0 } : Room).slots) := by
  refine MetFree.of_bodySF (plainFor_of_name pn28) hisR ?_
  intro p e s m args below meth c s₁ Bd hml0 hP hK
  obtain ⟨rfl, hZ, hh⟩ := hP
  have hx := Bd.exec
  have hby := Bd.bytes
  have hml : c.maxLocals = 1 := hml0
  have hown : s.vm.findClass z0 = some m.cls := findClass_of_methodNamed Bd.named
  have hnm := (name_of_methodNamed Bd.named Bd.method).1
  have X0 : Stand p l e ({ frames := 0, cells := 0, slots := 0, locals := 0 } : Room) s m #[(.ref w7)] below meth c s₁ [] 0 0 := Stand.of_body Bd
  have e0 : s₁.heap = h0 := by rw [← hh, Bd.state]; rfl
  have N0 := Fr.nil n0
  have pre0 : ∀ t, Steps p.tables e below (s₁.setTop (mkF m 0 #[.val (.ref w7)] [])) t → Steps p.tables e below (s₁.setTop (entryFrame m #[(.ref w7)] 1)) t := fun t k => castTop (ef27 m w7) k
  obtain ⟨T1, X1, e1, st1⟩ := getS2 X0 hx hZ hown (host := "") (Or.inl (hw _ m43)) Via.refl e0 (hS.2.2.2.2.2.2.2.2.2.2.2.2.2.2.2.2.2.2.2.2.2.2.2.2.2.2.2.2.2.2.1.ext O0.2) (g := (mkF m 1 #[.val (.ref w7)] [(.ref w7)])) rfl (hb hby d2_1)
  have ne2 : w7 ≠ w10 := (Fld.ne hS.2.2.2.2.2.2.2.2.2.2.2.2.2.2.2.2.2.2.2.2.2.2.2.1 hS.2.2.2.2.2.2.2.2.2.2.2.2.2.2.2.2.2.2.2.2.2.2.2.2.2.2.2.2.2.2.2.2.1 (fun q => absurd (Value.int.inj q) (by decide)))
  obtain ⟨T3, X3, e3, st3⟩ := getS2 X1 hx hZ hown (host := "") (Or.inl (hw _ m44)) Via.refl e1 (hS.2.2.2.2.2.2.2.2.2.2.2.2.1.ext O0.2) (g := (mkF m 8 #[.val (.ref w7)] [(.ref w7)])) rfl (hb hby d2_8)
  have ne4 : w7 ≠ w4 := (Fld.ne hS.2.2.2.2.2.2.2.2.2.2.2.2.2.2.2.2.2.2.2.2.2.2.2.1 hS.2.2.2.2.2.2.2.2.2.2.2.2.2.2.1 (fun q => absurd (Value.int.inj q) (by decide)))
  obtain ⟨T5, X5, e5, st5⟩ := getS2 X3 hx hZ hown (host := "") (Or.inl (hw _ m45)) Via.refl e3 (hS.2.2.2.2.2.2.2.2.2.2.2.2.2.2.2.2.2.2.2.2.2.2.2.2.2.2.2.1.ext O0.2) (g := (mkF m 15 #[.val (.ref w7)] [(.ref w7)])) rfl (hb hby d2_15)
  have ne6 : w7 ≠ w9 := (Fld.ne hS.2.2.2.2.2.2.2.2.2.2.2.2.2.2.2.2.2.2.2.2.2.2.2.1 hS.2.2.2.2.2.2.2.2.2.2.2.2.2.2.2.2.2.2.2.2.2.2.2.2.2.2.2.2.2.1 (fun q => absurd (Value.int.inj q) (by decide)))
  obtain ⟨fs, hr, hrun, hended, hW, hsame⟩ := X5.leave (v := some (.int (0 : Int32))) (fun h => by rw [Bd.returns] at h; cases h)
  refine ⟨_, _, pre0 _ ?_, hrun, hended, _, _, rfl, ?_, ⟨_, rfl⟩, hW, hsame.mono (by decide) (by decide)⟩
  · show Steps p.tables e below (s₁.setTop (mkF m 0 #[.val (.ref w7)] [])) _
    refine XS.aloadN X0.here hx rfl (hb hby d2_0) rfl rfl ?_
    show Steps p.tables e below (s₁.setTop (mkF m 1 #[.val (.ref w7)] [(.ref w7)])) _
    refine st1 _ ?_
    show Steps p.tables e below (T1.setTop (mkF m 4 #[.val (.ref w7)] [(.ref w10), (.ref w7)])) _
    refine Jvm.RoadKit.acmp (g := (mkF m 4 #[.val (.ref w7)] [(.ref w10), (.ref w7)])) X1 hx rfl rfl rfl (pc0 := 4) (pc' := 7) (same := false) rfl (hb hby d2_4) rfl (decide_eq_false fun q => ne2 (Value.ref.inj q)) (by decide) (by decide) ?_
    show Steps p.tables e below (T1.setTop (mkF m 7 #[.val (.ref w7)] [])) _
    refine XS.aloadN X1.here hx rfl (hb hby d2_7) rfl rfl ?_
    show Steps p.tables e below (T1.setTop (mkF m 8 #[.val (.ref w7)] [(.ref w7)])) _
    refine st3 _ ?_
    show Steps p.tables e below (T3.setTop (mkF m 11 #[.val (.ref w7)] [(.ref w4), (.ref w7)])) _
    refine Jvm.RoadKit.acmp (g := (mkF m 11 #[.val (.ref w7)] [(.ref w4), (.ref w7)])) X3 hx rfl rfl rfl (pc0 := 11) (pc' := 14) (same := false) rfl (hb hby d2_11) rfl (decide_eq_false fun q => ne4 (Value.ref.inj q)) (by decide) (by decide) ?_
    show Steps p.tables e below (T3.setTop (mkF m 14 #[.val (.ref w7)] [])) _
    refine XS.aloadN X3.here hx rfl (hb hby d2_14) rfl rfl ?_
    show Steps p.tables e below (T3.setTop (mkF m 15 #[.val (.ref w7)] [(.ref w7)])) _
    refine st5 _ ?_
    show Steps p.tables e below (T5.setTop (mkF m 18 #[.val (.ref w7)] [(.ref w9), (.ref w7)])) _
    refine Jvm.RoadKit.acmp (g := (mkF m 18 #[.val (.ref w7)] [(.ref w9), (.ref w7)])) X5 hx rfl rfl rfl (pc0 := 18) (pc' := 25) (same := false) rfl (hb hby d2_18) rfl (decide_eq_false fun q => ne6 (Value.ref.inj q)) (by decide) (by decide) ?_
    show Steps p.tables e below (T5.setTop (mkF m 25 #[.val (.ref w7)] [])) _
    refine XS.iconst X5.here hx rfl (hb hby d2_25) ?_
    show Steps p.tables e below (T5.setTop (mkF m 26 #[.val (.ref w7)] [(.int (0 : Int32))])) _
    exact retN X5 hx (t := .boolean) Bd.returns (by simp) (hb hby d2_26) hr
  · show Qrm8 Z w0 w1 w2 w3 w4 w5 w6 w7 w8 w9 w10 w11 w12 h0 n0 _ T5.heap _
    rw [e5]
    exact ⟨rfl, N0, rfl⟩
def Qrm9 (Z : State) (w0 : Addr) (w1 : Addr) (w2 : Addr) (w3 : Addr) (w4 : Addr) (w5 : Addr) (w6 : Addr) (w7 : Addr) (w8 : Addr) (w9 : Addr) (w10 : Addr) (w11 : Addr) (w12 : Addr) (h0 : Heap) (n0 : Nat) (v : Option Value) (h : Heap) (L : List Loc) : Prop := v = some (.int (1 : Int32)) ∧ Fr n0 L ∧ h = h0
set_option maxRecDepth 65536 in
set_option maxHeartbeats 40000000 in
theorem rm9 (l : Launch) (Z : State) (a0 : Array Value) (hw : ∀ d ∈ tables_1, d.before a0 Z = true) (w0 : Addr) (w1 : Addr) (w2 : Addr) (w3 : Addr) (w4 : Addr) (w5 : Addr) (w6 : Addr) (w7 : Addr) (w8 : Addr) (w9 : Addr) (w10 : Addr) (w11 : Addr) (w12 : Addr) (hS : SF Z w0 w1 w2 w3 w4 w5 w6 w7 w8 w9 w10 w11 w12) (ws : List Jvm.Cond) (h0 : Heap) (n0 : Nat) (O0 : Old Z n0 h0) :
    MetFree l (⟨z0, z3, "()Z"⟩ : MethodName) (head1 (Jvm.Cond.code (⟨z0, z3, "()Z"⟩ : MethodName) prog_7_method_5_code 1 (some .boolean) :: ws) ({ frames := 0, cells := 0, slots := 0, locals := 0 } : Room)) (fun a U => a = #[(.ref w5)] ∧ Z.Warmed39 U.vm ∧ U.heap = h0) (fun _ _ _ _ _ => True) (fun _ U o U' => ∃ v L, o = .returned v ∧ Qrm9 Z w0 w1 w2 w3 w4 w5 w6 w7 w8 w9 w10 w11 w12 h0 n0 v U'.heap L ∧ FrameEnd U o U' L ({ frames := 0, cells := 0, slots := 0, locals := 0 } : Room).cells ({ frames := 0, cells := 0, slots := 0, locals := 0 } : Room).slots) := by
  refine MetFree.of_bodySF (plainFor_of_name pn28) hisR ?_
  intro p e s m args below meth c s₁ Bd hml0 hP hK
  obtain ⟨rfl, hZ, hh⟩ := hP
  have hx := Bd.exec
  have hby := Bd.bytes
  have hml : c.maxLocals = 1 := hml0
  have hown : s.vm.findClass z0 = some m.cls := findClass_of_methodNamed Bd.named
  have hnm := (name_of_methodNamed Bd.named Bd.method).1
  have X0 : Stand p l e ({ frames := 0, cells := 0, slots := 0, locals := 0 } : Room) s m #[(.ref w5)] below meth c s₁ [] 0 0 := Stand.of_body Bd
  have e0 : s₁.heap = h0 := by rw [← hh, Bd.state]; rfl
  have N0 := Fr.nil n0
  have pre0 : ∀ t, Steps p.tables e below (s₁.setTop (mkF m 0 #[.val (.ref w5)] [])) t → Steps p.tables e below (s₁.setTop (entryFrame m #[(.ref w5)] 1)) t := fun t k => castTop (ef27 m w5) k
  obtain ⟨T1, X1, e1, st1⟩ := getS2 X0 hx hZ hown (host := "") (Or.inl (hw _ m37)) Via.refl e0 (hS.2.2.2.2.2.2.2.2.2.2.2.2.2.2.2.2.2.2.1.ext O0.2) (g := (mkF m 1 #[.val (.ref w5)] [(.ref w5)])) rfl (hb hby d1_1)
  have ne2 : w5 ≠ w6 := (Fld.ne hS.2.2.2.2.2.2.2.2.2.2.2.2.2.2.2.2.2.1 hS.2.2.2.2.2.2.2.2.2.2.2.2.2.2.2.2.2.2.2.2.1 (fun q => absurd (Value.int.inj q) (by decide)))
  obtain ⟨T3, X3, e3, st3⟩ := getS2 X1 hx hZ hown (host := "") (Or.inl (hw _ m46)) Via.refl e1 (hS.2.2.2.2.2.2.1.ext O0.2) (g := (mkF m 8 #[.val (.ref w5)] [(.ref w5)])) rfl (hb hby d1_8)
  have ne4 : w5 ≠ w2 := (Fld.ne hS.2.2.2.2.2.2.2.2.2.2.2.2.2.2.2.2.2.1 hS.2.2.2.2.2.2.2.2.1 (fun q => absurd (Value.int.inj q) (by decide)))
  obtain ⟨T5, X5, e5, st5⟩ := getS2 X3 hx hZ hown (host := "") (Or.inl (hw _ m47)) Via.refl e3 (hS.2.2.2.2.2.2.2.2.2.2.2.2.2.2.2.2.2.2.2.2.2.2.2.2.2.2.2.2.2.2.2.2.2.2.2.2.1.ext O0.2) (g := (mkF m 15 #[.val (.ref w5)] [(.ref w5)])) rfl (hb hby d1_15)
  have ne6 : w5 ≠ w12 := (Fld.ne hS.2.2.2.2.2.2.2.2.2.2.2.2.2.2.2.2.2.1 hS.2.2.2.2.2.2.2.2.2.2.2.2.2.2.2.2.2.2.2.2.2.2.2.2.2.2.2.2.2.2.2.2.2.2.2.2.2.2 (fun q => absurd (Value.int.inj q) (by decide)))
  obtain ⟨T7, X7, e7, st7⟩ := getS2 X5 hx hZ hown (host := "") (Or.inl (hw _ m48)) Via.refl e5 (hS.2.2.2.1.ext O0.2) (g := (mkF m 22 #[.val (.ref w5)] [(.ref w5)])) rfl (hb hby d1_22)
  have ne8 : w5 ≠ w1 := (Fld.ne hS.2.2.2.2.2.2.2.2.2.2.2.2.2.2.2.2.2.1 hS.2.2.2.2.2.1 (fun q => absurd (Value.int.inj q) (by decide)))
  obtain ⟨T9, X9, e9, st9⟩ := getS2 X7 hx hZ hown (host := "") (Or.inl (hw _ m49)) Via.refl e7 (hS.2.2.2.2.2.2.2.2.2.2.2.2.2.2.2.2.2.2.2.2.2.1.ext O0.2) (g := (mkF m 29 #[.val (.ref w5)] [(.ref w5)])) rfl (hb hby d1_29)
  have ne10 : w5 ≠ w7 := (Fld.ne hS.2.2.2.2.2.2.2.2.2.2.2.2.2.2.2.2.2.1 hS.2.2.2.2.2.2.2.2.2.2.2.2.2.2.2.2.2.2.2.2.2.2.2.1 (fun q => absurd (Value.int.inj q) (by decide)))
  obtain ⟨T11, X11, e11, st11⟩ := getS2 X9 hx hZ hown (host := "") (Or.inl (hw _ m50)) Via.refl e9 (hS.2.2.2.2.2.2.2.2.2.2.2.2.2.2.2.1.ext O0.2) (g := (mkF m 36 #[.val (.ref w5)] [(.ref w5)])) rfl (hb hby d1_36)
  obtain ⟨fs, hr, hrun, hended, hW, hsame⟩ := X11.leave (v := some (.int (1 : Int32))) (fun h => by rw [Bd.returns] at h; cases h)
  refine ⟨_, _, pre0 _ ?_, hrun, hended, _, _, rfl, ?_, ⟨_, rfl⟩, hW, hsame.mono (by decide) (by decide)⟩
  · show Steps p.tables e below (s₁.setTop (mkF m 0 #[.val (.ref w5)] [])) _
    refine XS.aloadN X0.here hx rfl (hb hby d1_0) rfl rfl ?_
    show Steps p.tables e below (s₁.setTop (mkF m 1 #[.val (.ref w5)] [(.ref w5)])) _
    refine st1 _ ?_
    show Steps p.tables e below (T1.setTop (mkF m 4 #[.val (.ref w5)] [(.ref w6), (.ref w5)])) _
    refine Jvm.RoadKit.acmp (g := (mkF m 4 #[.val (.ref w5)] [(.ref w6), (.ref w5)])) X1 hx rfl rfl rfl (pc0 := 4) (pc' := 7) (same := false) rfl (hb hby d1_4) rfl (decide_eq_false fun q => ne2 (Value.ref.inj q)) (by decide) (by decide) ?_
    show Steps p.tables e below (T1.setTop (mkF m 7 #[.val (.ref w5)] [])) _
    refine XS.aloadN X1.here hx rfl (hb hby d1_7) rfl rfl ?_
    show Steps p.tables e below (T1.setTop (mkF m 8 #[.val (.ref w5)] [(.ref w5)])) _
    refine st3 _ ?_
    show Steps p.tables e below (T3.setTop (mkF m 11 #[.val (.ref w5)] [(.ref w2), (.ref w5)])) _
    refine Jvm.RoadKit.acmp (g := (mkF m 11 #[.val (.ref w5)] [(.ref w2), (.ref w5)])) X3 hx rfl rfl rfl (pc0 := 11) (pc' := 14) (same := false) rfl (hb hby d1_11) rfl (decide_eq_false fun q => ne4 (Value.ref.inj q)) (by decide) (by decide) ?_
    show Steps p.tables e below (T3.setTop (mkF m 14 #[.val (.ref w5)] [])) _
    refine XS.aloadN X3.here hx rfl (hb hby d1_14) rfl rfl ?_
    show Steps p.tables e below (T3.setTop (mkF m 15 #[.val (.ref w5)] [(.ref w5)])) _
    refine st5 _ ?_
    show Steps p.tables e below (T5.setTop (mkF m 18 #[.val (.ref w5)] [(.ref w12), (.ref w5)])) _
    refine Jvm.RoadKit.acmp (g := (mkF m 18 #[.val (.ref w5)] [(.ref w12), (.ref w5)])) X5 hx rfl rfl rfl (pc0 := 18) (pc' := 21) (same := false) rfl (hb hby d1_18) rfl (decide_eq_false fun q => ne6 (Value.ref.inj q)) (by decide) (by decide) ?_
    show Steps p.tables e below (T5.setTop (mkF m 21 #[.val (.ref w5)] [])) _
    refine XS.aloadN X5.here hx rfl (hb hby d1_21) rfl rfl ?_
    show Steps p.tables e below (T5.setTop (mkF m 22 #[.val (.ref w5)] [(.ref w5)])) _
    refine st7 _ ?_
    show Steps p.tables e below (T7.setTop (mkF m 25 #[.val (.ref w5)] [(.ref w1), (.ref w5)])) _
    refine Jvm.RoadKit.acmp (g := (mkF m 25 #[.val (.ref w5)] [(.ref w1), (.ref w5)])) X7 hx rfl rfl rfl (pc0 := 25) (pc' := 28) (same := false) rfl (hb hby d1_25) rfl (decide_eq_false fun q => ne8 (Value.ref.inj q)) (by decide) (by decide) ?_
    show Steps p.tables e below (T7.setTop (mkF m 28 #[.val (.ref w5)] [])) _
    refine XS.aloadN X7.here hx rfl (hb hby d1_28) rfl rfl ?_
    show Steps p.tables e below (T7.setTop (mkF m 29 #[.val (.ref w5)] [(.ref w5)])) _
    refine st9 _ ?_
    show Steps p.tables e below (T9.setTop (mkF m 32 #[.val (.ref w5)] [(.ref w7), (.ref w5)])) _
    refine Jvm.RoadKit.acmp (g := (mkF m 32 #[.val (.ref w5)] [(.ref w7), (.ref w5)])) X9 hx rfl rfl rfl (pc0 := 32) (pc' := 35) (same := false) rfl (hb hby d1_32) rfl (decide_eq_false fun q => ne10 (Value.ref.inj q)) (by decide) (by decide) ?_
    show Steps p.tables e below (T9.setTop (mkF m 35 #[.val (.ref w5)] [])) _
    refine XS.aloadN X9.here hx rfl (hb hby d1_35) rfl rfl ?_
    show Steps p.tables e below (T9.setTop (mkF m 36 #[.val (.ref w5)] [(.ref w5)])) _
    refine st11 _ ?_
    show Steps p.tables e below (T11.setTop (mkF m 39 #[.val (.ref w5)] [(.ref w5), (.ref w5)])) _
    refine Jvm.RoadKit.acmp (g := (mkF m 39 #[.val (.ref w5)] [(.ref w5), (.ref w5)])) X11 hx rfl rfl rfl (pc0 := 39) (pc' := 49) (same := true) rfl (hb hby d1_39) rfl (decide_eq_true rfl) (by decide) (by decide) ?_
    show Steps p.tables e below (T11.setTop (mkF m 49 #[.val (.ref w5)] [])) _
    refine XS.iconst X11.here hx rfl (hb hby d1_49) ?_
    show Steps p.tables e below (T11.setTop (mkF m 50 #[.val (.ref w5)] [(.int (1 : Int32))])) _
    refine XS.goto X11.here hx rfl (pc0 := 50) (pc' := 54) rfl (hb hby d1_50) (by decide) (by decide) ?_
    show Steps p.tables e below (T11.setTop (mkF m 54 #[.val (.ref w5)] [(.int (1 : Int32))])) _
    exact retN X11 hx (t := .boolean) Bd.returns (by simp) (hb hby d1_54) hr
  · show Qrm9 Z w0 w1 w2 w3 w4 w5 w6 w7 w8 w9 w10 w11 w12 h0 n0 _ T11.heap _
    rw [e11]
    exact ⟨rfl, N0, rfl⟩
def Qrm10 (Z : State) (w0 : Addr) (w1 : Addr) (w2 : Addr) (w3 : Addr) (w4 : Addr) (w5 : Addr) (w6 : Addr) (w7 : Addr) (w8 : Addr) (w9 : Addr) (w10 : Addr) (w11 : Addr) (w12 : Addr) (h0 : Heap) (n0 : Nat) (v : Option Value) (h : Heap) (L : List Loc) : Prop := v = some (.int (0 : Int32)) ∧ Fr n0 L ∧ h = h0
set_option maxRecDepth 65536 in
set_option maxHeartbeats 40000000 in
theorem rm10 (l : Launch) (Z : State) (a0 : Array Value) (hw : ∀ d ∈ tables_1, d.before a0 Z = true) (w0 : Addr) (w1 : Addr) (w2 : Addr) (w3 : Addr) (w4 : Addr) (w5 : Addr) (w6 : Addr) (w7 : Addr) (w8 : Addr) (w9 : Addr) (w10 : Addr) (w11 : Addr) (w12 : Addr) (hS : SF Z w0 w1 w2 w3 w4 w5 w6 w7 w8 w9 w10 w11 w12) (ws : List Jvm.Cond) (h0 : Heap) (n0 : Nat) (O0 : Old Z n0 h0) :
    MetFree l (⟨z0, z4, "()Z"⟩ : MethodName) (head1 (Jvm.Cond.code (⟨z0, z4, "()Z"⟩ : MethodName) prog_7_method_4_code 1 (some .boolean) :: ws) ({ frames := 0, cells := 0, slots := 0, locals := 0 } : Room)) (fun a U => a = #[(.ref w5)] ∧ Z.Warmed39 U.vm ∧ U.heap = h0) (fun _ _ _ _ _ => True) (fun _ U o U' => ∃ v L, o = .returned v ∧ Qrm10 Z w0 w1 w2 w3 w4 w5 w6 w7 w8 w9 w10 w11 w12 h0 n0 v U'.heap L ∧ FrameEnd U o U' L ({ frames := 0, cells := 0, slots := 0, locals := 0 } : Room).cells ({ frames := 0, cells := 0, slots := 0, locals := 0 } : Room).slots) := by
  refine MetFree.of_bodySF (plainFor_of_name pn28) hisR ?_
  intro p e s m args below meth c s₁ Bd hml0 hP hK
  obtain ⟨rfl, hZ, hh⟩ := hP
  have hx := Bd.exec
  have hby := Bd.bytes
  have hml : c.maxLocals = 1 := hml0
  have hown : s.vm.findClass z0 = some m.cls := findClass_of_methodNamed Bd.named
  have hnm := (name_of_methodNamed Bd.named Bd.method).1
  have X0 : Stand p l e ({ frames := 0, cells := 0, slots := 0, locals := 0 } : Room) s m #[(.ref w5)] below meth c s₁ [] 0 0 := Stand.of_body Bd
  have e0 : s₁.heap = h0 := by rw [← hh, Bd.state]; rfl
  have N0 := Fr.nil n0
  have pre0 : ∀ t, Steps p.tables e below (s₁.setTop (mkF m 0 #[.val (.ref w5)] [])) t → Steps p.tables e below (s₁.setTop (entryFrame m #[(.ref w5)] 1)) t := fun t k => castTop (ef27 m w5) k
  obtain ⟨T1, X1, e1, st1⟩ := getS2 X0 hx hZ hown (host := "") (Or.inl (hw _ m43)) Via.refl e0 (hS.2.2.2.2.2.2.2.2.2.2.2.2.2.2.2.2.2.2.2.2.2.2.2.2.2.2.2.2.2.2.1.ext O0.2) (g := (mkF m 1 #[.val (.ref w5)] [(.ref w5)])) rfl (hb hby d2_1)
  have ne2 : w5 ≠ w10 := (Fld.ne hS.2.2.2.2.2.2.2.2.2.2.2.2.2.2.2.2.2.1 hS.2.2.2.2.2.2.2.2.2.2.2.2.2.2.2.2.2.2.2.2.2.2.2.2.2.2.2.2.2.2.2.2.1 (fun q => absurd (Value.int.inj q) (by decide)))
  obtain ⟨T3, X3, e3, st3⟩ := getS2 X1 hx hZ hown (host := "") (Or.inl (hw _ m44)) Via.refl e1 (hS.2.2.2.2.2.2.2.2.2.2.2.2.1.ext O0.2) (g := (mkF m 8 #[.val (.ref w5)] [(.ref w5)])) rfl (hb hby d2_8)
  have ne4 : w5 ≠ w4 := (Fld.ne hS.2.2.2.2.2.2.2.2.2.2.2.2.2.2.2.2.2.1 hS.2.2.2.2.2.2.2.2.2.2.2.2.2.2.1 (fun q => absurd (Value.int.inj q) (by decide)))
  obtain ⟨T5, X5, e5, st5⟩ := getS2 X3 hx hZ hown (host := "") (Or.inl (hw _ m45)) Via.refl e3 (hS.2.2.2.2.2.2.2.2.2.2.2.2.2.2.2.2.2.2.2.2.2.2.2.2.2.2.2.1.ext O0.2) (g := (mkF m 15 #[.val (.ref w5)] [(.ref w5)])) rfl (hb hby d2_15)
  have ne6 : w5 ≠ w9 := (Fld.ne hS.2.2.2.2.2.2.2.2.2.2.2.2.2.2.2.2.2.1 hS.2.2.2.2.2.2.2.2.2.2.2.2.2.2.2.2.2.2.2.2.2.2.2.2.2.2.2.2.2.1 (fun q => absurd (Value.int.inj q) (by decide)))
  obtain ⟨fs, hr, hrun, hended, hW, hsame⟩ := X5.leave (v := some (.int (0 : Int32))) (fun h => by rw [Bd.returns] at h; cases h)
  refine ⟨_, _, pre0 _ ?_, hrun, hended, _, _, rfl, ?_, ⟨_, rfl⟩, hW, hsame.mono (by decide) (by decide)⟩
  · show Steps p.tables e below (s₁.setTop (mkF m 0 #[.val (.ref w5)] [])) _
    refine XS.aloadN X0.here hx rfl (hb hby d2_0) rfl rfl ?_
    show Steps p.tables e below (s₁.setTop (mkF m 1 #[.val (.ref w5)] [(.ref w5)])) _
    refine st1 _ ?_
    show Steps p.tables e below (T1.setTop (mkF m 4 #[.val (.ref w5)] [(.ref w10), (.ref w5)])) _
    refine Jvm.RoadKit.acmp (g := (mkF m 4 #[.val (.ref w5)] [(.ref w10), (.ref w5)])) X1 hx rfl rfl rfl (pc0 := 4) (pc' := 7) (same := false) rfl (hb hby d2_4) rfl (decide_eq_false fun q => ne2 (Value.ref.inj q)) (by decide) (by decide) ?_
    show Steps p.tables e below (T1.setTop (mkF m 7 #[.val (.ref w5)] [])) _
    refine XS.aloadN X1.here hx rfl (hb hby d2_7) rfl rfl ?_
    show Steps p.tables e below (T1.setTop (mkF m 8 #[.val (.ref w5)] [(.ref w5)])) _
    refine st3 _ ?_
    show Steps p.tables e below (T3.setTop (mkF m 11 #[.val (.ref w5)] [(.ref w4), (.ref w5)])) _
    refine Jvm.RoadKit.acmp (g := (mkF m 11 #[.val (.ref w5)] [(.ref w4), (.ref w5)])) X3 hx rfl rfl rfl (pc0 := 11) (pc' := 14) (same := false) rfl (hb hby d2_11) rfl (decide_eq_false fun q => ne4 (Value.ref.inj q)) (by decide) (by decide) ?_
    show Steps p.tables e below (T3.setTop (mkF m 14 #[.val (.ref w5)] [])) _
    refine XS.aloadN X3.here hx rfl (hb hby d2_14) rfl rfl ?_
    show Steps p.tables e below (T3.setTop (mkF m 15 #[.val (.ref w5)] [(.ref w5)])) _
    refine st5 _ ?_
    show Steps p.tables e below (T5.setTop (mkF m 18 #[.val (.ref w5)] [(.ref w9), (.ref w5)])) _
    refine Jvm.RoadKit.acmp (g := (mkF m 18 #[.val (.ref w5)] [(.ref w9), (.ref w5)])) X5 hx rfl rfl rfl (pc0 := 18) (pc' := 25) (same := false) rfl (hb hby d2_18) rfl (decide_eq_false fun q => ne6 (Value.ref.inj q)) (by decide) (by decide) ?_
    show Steps p.tables e below (T5.setTop (mkF m 25 #[.val (.ref w5)] [])) _
    refine XS.iconst X5.here hx rfl (hb hby d2_25) ?_
    show Steps p.tables e below (T5.setTop (mkF m 26 #[.val (.ref w5)] [(.int (0 : Int32))])) _
    exact retN X5 hx (t := .boolean) Bd.returns (by simp) (hb hby d2_26) hr
  · show Qrm10 Z w0 w1 w2 w3 w4 w5 w6 w7 w8 w9 w10 w11 w12 h0 n0 _ T5.heap _
    rw [e5]
    exact ⟨rfl, N0, rfl⟩
def Qrm11 (Z : State) (w0 : Addr) (w1 : Addr) (w2 : Addr) (w3 : Addr) (w4 : Addr) (w5 : Addr) (w6 : Addr) (w7 : Addr) (w8 : Addr) (w9 : Addr) (w10 : Addr) (w11 : Addr) (w12 : Addr) (h0 : Heap) (n0 : Nat) (v : Option Value) (h : Heap) (L : List Loc) : Prop := v = some (.int (1 : Int32)) ∧ Fr n0 L ∧ h = h0
set_option maxRecDepth 65536 in
set_option maxHeartbeats 40000000 in
theorem rm11 (l : Launch) (Z : State) (a0 : Array Value) (hw : ∀ d ∈ tables_1, d.before a0 Z = true) (w0 : Addr) (w1 : Addr) (w2 : Addr) (w3 : Addr) (w4 : Addr) (w5 : Addr) (w6 : Addr) (w7 : Addr) (w8 : Addr) (w9 : Addr) (w10 : Addr) (w11 : Addr) (w12 : Addr) (hS : SF Z w0 w1 w2 w3 w4 w5 w6 w7 w8 w9 w10 w11 w12) (ws : List Jvm.Cond) (h0 : Heap) (n0 : Nat) (O0 : Old Z n0 h0) :
    MetFree l (⟨z0, z3, "()Z"⟩ : MethodName) (head1 (Jvm.Cond.code (⟨z0, z3, "()Z"⟩ : MethodName) prog_7_method_5_code 1 (some .boolean) :: ws) ({ frames := 0, cells := 0, slots := 0, locals := 0 } : Room)) (fun a U => a = #[(.ref w11)] ∧ Z.Warmed39 U.vm ∧ U.heap = h0) (fun _ _ _ _ _ => True) (fun _ U o U' => ∃ v L, o = .returned v ∧ Qrm11 Z w0 w1 w2 w3 w4 w5 w6 w7 w8 w9 w10 w11 w12 h0 n0 v U'.heap L ∧ FrameEnd U o U' L ({ frames := 0, cells := 0, slots := 0, locals := 0 } : Room).cells ({ frames := 0, cells := 0, slots := 0, locals := 0 } : Room).slots) := by
  refine MetFree.of_bodySF (plainFor_of_name pn28) hisR ?_
  intro p e s m args below meth c s₁ Bd hml0 hP hK
  obtain ⟨rfl, hZ, hh⟩ := hP
  have hx := Bd.exec
  have hby := Bd.bytes
  have hml : c.maxLocals = 1 := hml0
  have hown : s.vm.findClass z0 = some m.cls := findClass_of_methodNamed Bd.named
  have hnm := (name_of_methodNamed Bd.named Bd.method).1
  have X0 : Stand p l e ({ frames := 0, cells := 0, slots := 0, locals := 0 } : Room) s m #[(.ref w11)] below meth c s₁ [] 0 0 := Stand.of_body Bd
  have e0 : s₁.heap = h0 := by rw [← hh, Bd.state]; rfl
  have N0 := Fr.nil n0
  have pre0 : ∀ t, Steps p.tables e below (s₁.setTop (mkF m 0 #[.val (.ref w11)] [])) t → Steps p.tables e below (s₁.setTop (entryFrame m #[(.ref w11)] 1)) t := fun t k => castTop (ef27 m w11) k
  obtain ⟨T1, X1, e1, st1⟩ := getS2 X0 hx hZ hown (host := "") (Or.inl (hw _ m37)) Via.refl e0 (hS.2.2.2.2.2.2.2.2.2.2.2.2.2.2.2.2.2.2.1.ext O0.2) (g := (mkF m 1 #[.val (.ref w11)] [(.ref w11)])) rfl (hb hby d1_1)
  have ne2 : w11 ≠ w6 := (Fld.ne hS.2.2.2.2.2.2.2.2.2.2.2.2.2.2.2.2.2.2.2.2.2.2.2.2.2.2.2.2.2.2.2.2.2.2.2.1 hS.2.2.2.2.2.2.2.2.2.2.2.2.2.2.2.2.2.2.2.2.1 (fun q => absurd (Value.int.inj q) (by decide)))
  obtain ⟨T3, X3, e3, st3⟩ := getS2 X1 hx hZ hown (host := "") (Or.inl (hw _ m46)) Via.refl e1 (hS.2.2.2.2.2.2.1.ext O0.2) (g := (mkF m 8 #[.val (.ref w11)] [(.ref w11)])) rfl (hb hby d1_8)
  have ne4 : w11 ≠ w2 := (Fld.ne hS.2.2.2.2.2.2.2.2.2.2.2.2.2.2.2.2.2.2.2.2.2.2.2.2.2.2.2.2.2.2.2.2.2.2.2.1 hS.2.2.2.2.2.2.2.2.1 (fun q => absurd (Value.int.inj q) (by decide)))
  obtain ⟨T5, X5, e5, st5⟩ := getS2 X3 hx hZ hown (host := "") (Or.inl (hw _ m47)) Via.refl e3 (hS.2.2.2.2.2.2.2.2.2.2.2.2.2.2.2.2.2.2.2.2.2.2.2.2.2.2.2.2.2.2.2.2.2.2.2.2.1.ext O0.2) (g := (mkF m 15 #[.val (.ref w11)] [(.ref w11)])) rfl (hb hby d1_15)
  have ne6 : w11 ≠ w12 := (Fld.ne hS.2.2.2.2.2.2.2.2.2.2.2.2.2.2.2.2.2.2.2.2.2.2.2.2.2.2.2.2.2.2.2.2.2.2.2.1 hS.2.2.2.2.2.2.2.2.2.2.2.2.2.2.2.2.2.2.2.2.2.2.2.2.2.2.2.2.2.2.2.2.2.2.2.2.2.2 (fun q => absurd (Value.int.inj q) (by decide)))
  obtain ⟨T7, X7, e7, st7⟩ := getS2 X5 hx hZ hown (host := "") (Or.inl (hw _ m48)) Via.refl e5 (hS.2.2.2.1.ext O0.2) (g := (mkF m 22 #[.val (.ref w11)] [(.ref w11)])) rfl (hb hby d1_22)
  have ne8 : w11 ≠ w1 := (Fld.ne hS.2.2.2.2.2.2.2.2.2.2.2.2.2.2.2.2.2.2.2.2.2.2.2.2.2.2.2.2.2.2.2.2.2.2.2.1 hS.2.2.2.2.2.1 (fun q => absurd (Value.int.inj q) (by decide)))
  obtain ⟨T9, X9, e9, st9⟩ := getS2 X7 hx hZ hown (host := "") (Or.inl (hw _ m49)) Via.refl e7 (hS.2.2.2.2.2.2.2.2.2.2.2.2.2.2.2.2.2.2.2.2.2.1.ext O0.2) (g := (mkF m 29 #[.val (.ref w11)] [(.ref w11)])) rfl (hb hby d1_29)
  have ne10 : w11 ≠ w7 := (Fld.ne hS.2.2.2.2.2.2.2.2.2.2.2.2.2.2.2.2.2.2.2.2.2.2.2.2.2.2.2.2.2.2.2.2.2.2.2.1 hS.2.2.2.2.2.2.2.2.2.2.2.2.2.2.2.2.2.2.2.2.2.2.2.1 (fun q => absurd (Value.int.inj q) (by decide)))
  obtain ⟨T11, X11, e11, st11⟩ := getS2 X9 hx hZ hown (host := "") (Or.inl (hw _ m50)) Via.refl e9 (hS.2.2.2.2.2.2.2.2.2.2.2.2.2.2.2.1.ext O0.2) (g := (mkF m 36 #[.val (.ref w11)] [(.ref w11)])) rfl (hb hby d1_36)
  have ne12 : w11 ≠ w5 := (Fld.ne hS.2.2.2.2.2.2.2.2.2.2.2.2.2.2.2.2.2.2.2.2.2.2.2.2.2.2.2.2.2.2.2.2.2.2.2.1 hS.2.2.2.2.2.2.2.2.2.2.2.2.2.2.2.2.2.1 (fun q => absurd (Value.int.inj q) (by decide)))
  obtain ⟨T13, X13, e13, st13⟩ := getS2 X11 hx hZ hown (host := "") (Or.inl (hw _ m51)) Via.refl e11 (hS.2.2.2.2.2.2.2.2.2.2.2.2.2.2.2.2.2.2.2.2.2.2.2.2.2.2.2.2.2.2.2.2.2.1.ext O0.2) (g := (mkF m 43 #[.val (.ref w11)] [(.ref w11)])) rfl (hb hby d1_43)
  obtain ⟨fs, hr, hrun, hended, hW, hsame⟩ := X13.leave (v := some (.int (1 : Int32))) (fun h => by rw [Bd.returns] at h; cases h)
  refine ⟨_, _, pre0 _ ?_, hrun, hended, _, _, rfl, ?_, ⟨_, rfl⟩, hW, hsame.mono (by decide) (by decide)⟩
  · show Steps p.tables e below (s₁.setTop (mkF m 0 #[.val (.ref w11)] [])) _
    refine XS.aloadN X0.here hx rfl (hb hby d1_0) rfl rfl ?_
    show Steps p.tables e below (s₁.setTop (mkF m 1 #[.val (.ref w11)] [(.ref w11)])) _
    refine st1 _ ?_
    show Steps p.tables e below (T1.setTop (mkF m 4 #[.val (.ref w11)] [(.ref w6), (.ref w11)])) _
    refine Jvm.RoadKit.acmp (g := (mkF m 4 #[.val (.ref w11)] [(.ref w6), (.ref w11)])) X1 hx rfl rfl rfl (pc0 := 4) (pc' := 7) (same := false) rfl (hb hby d1_4) rfl (decide_eq_false fun q => ne2 (Value.ref.inj q)) (by decide) (by decide) ?_
    show Steps p.tables e below (T1.setTop (mkF m 7 #[.val (.ref w11)] [])) _
    refine XS.aloadN X1.here hx rfl (hb hby d1_7) rfl rfl ?_
    show Steps p.tables e below (T1.setTop (mkF m 8 #[.val (.ref w11)] [(.ref w11)])) _
    refine st3 _ ?_
    show Steps p.tables e below (T3.setTop (mkF m 11 #[.val (.ref w11)] [(.ref w2), (.ref w11)])) _
    refine Jvm.RoadKit.acmp (g := (mkF m 11 #[.val (.ref w11)] [(.ref w2), (.ref w11)])) X3 hx rfl rfl rfl (pc0 := 11) (pc' := 14) (same := false) rfl (hb hby d1_11) rfl (decide_eq_false fun q => ne4 (Value.ref.inj q)) (by decide) (by decide) ?_
    show Steps p.tables e below (T3.setTop (mkF m 14 #[.val (.ref w11)] [])) _
    refine XS.aloadN X3.here hx rfl (hb hby d1_14) rfl rfl ?_
    show Steps p.tables e below (T3.setTop (mkF m 15 #[.val (.ref w11)] [(.ref w11)])) _
    refine st5 _ ?_
    show Steps p.tables e below (T5.setTop (mkF m 18 #[.val (.ref w11)] [(.ref w12), (.ref w11)])) _
    refine Jvm.RoadKit.acmp (g := (mkF m 18 #[.val (.ref w11)] [(.ref w12), (.ref w11)])) X5 hx rfl rfl rfl (pc0 := 18) (pc' := 21) (same := false) rfl (hb hby d1_18) rfl (decide_eq_false fun q => ne6 (Value.ref.inj q)) (by decide) (by decide) ?_
    show Steps p.tables e below (T5.setTop (mkF m 21 #[.val (.ref w11)] [])) _
    refine XS.aloadN X5.here hx rfl (hb hby d1_21) rfl rfl ?_
    show Steps p.tables e below (T5.setTop (mkF m 22 #[.val (.ref w11)] [(.ref w11)])) _
    refine st7 _ ?_
    show Steps p.tables e below (T7.setTop (mkF m 25 #[.val (.ref w11)] [(.ref w1), (.ref w11)])) _
    refine Jvm.RoadKit.acmp (g := (mkF m 25 #[.val (.ref w11)] [(.ref w1), (.ref w11)])) X7 hx rfl rfl rfl (pc0 := 25) (pc' := 28) (same := false) rfl (hb hby d1_25) rfl (decide_eq_false fun q => ne8 (Value.ref.inj q)) (by decide) (by decide) ?_
    show Steps p.tables e below (T7.setTop (mkF m 28 #[.val (.ref w11)] [])) _
    refine XS.aloadN X7.here hx rfl (hb hby d1_28) rfl rfl ?_
    show Steps p.tables e below (T7.setTop (mkF m 29 #[.val (.ref w11)] [(.ref w11)])) _
    refine st9 _ ?_
    show Steps p.tables e below (T9.setTop (mkF m 32 #[.val (.ref w11)] [(.ref w7), (.ref w11)])) _
    refine Jvm.RoadKit.acmp (g := (mkF m 32 #[.val (.ref w11)] [(.ref w7), (.ref w11)])) X9 hx rfl rfl rfl (pc0 := 32) (pc' := 35) (same := false) rfl (hb hby d1_32) rfl (decide_eq_false fun q => ne10 (Value.ref.inj q)) (by decide) (by decide) ?_
    show Steps p.tables e below (T9.setTop (mkF m 35 #[.val (.ref w11)] [])) _
    refine XS.aloadN X9.here hx rfl (hb hby d1_35) rfl rfl ?_
    show Steps p.tables e below (T9.setTop (mkF m 36 #[.val (.ref w11)] [(.ref w11)])) _
    refine st11 _ ?_
    show Steps p.tables e below (T11.setTop (mkF m 39 #[.val (.ref w11)] [(.ref w5), (.ref w11)])) _
    refine Jvm.RoadKit.acmp (g := (mkF m 39 #[.val (.ref w11)] [(.ref w5), (.ref w11)])) X11 hx rfl rfl rfl (pc0 := 39) (pc' := 42) (same := false) rfl (hb hby d1_39) rfl (decide_eq_false fun q => ne12 (Value.ref.inj q)) (by decide) (by decide) ?_
    show Steps p.tables e below (T11.setTop (mkF m 42 #[.val (.ref w11)] [])) _
    refine XS.aloadN X11.here hx rfl (hb hby d1_42) rfl rfl ?_
    show Steps p.tables e below (T11.setTop (mkF m 43 #[.val (.ref w11)] [(.ref w11)])) _
    refine st13 _ ?_
    show Steps p.tables e below (T13.setTop (mkF m 46 #[.val (.ref w11)] [(.ref w11), (.ref w11)])) _
    refine Jvm.RoadKit.acmp (g := (mkF m 46 #[.val (.ref w11)] [(.ref w11), (.ref w11)])) X13 hx rfl rfl rfl (pc0 := 46) (pc' := 49) (same := true) rfl (hb hby d1_46) rfl (decide_eq_true rfl) (by decide) (by decide) ?_
    show Steps p.tables e below (T13.setTop (mkF m 49 #[.val (.ref w11)] [])) _
    refine XS.iconst X13.here hx rfl (hb hby d1_49) ?_
    show Steps p.tables e below (T13.setTop (mkF m 50 #[.val (.ref w11)] [(.int (1 : Int32))])) _
    refine XS.goto X13.here hx rfl (pc0 := 50) (pc' := 54) rfl (hb hby d1_50) (by decide) (by decide) ?_
    show Steps p.tables e below (T13.setTop (mkF m 54 #[.val (.ref w11)] [(.int (1 : Int32))])) _
    exact retN X13 hx (t := .boolean) Bd.returns (by simp) (hb hby d1_54) hr
  · show Qrm11 Z w0 w1 w2 w3 w4 w5 w6 w7 w8 w9 w10 w11 w12 h0 n0 _ T13.heap _
    rw [e13]
    exact ⟨rfl, N0, rfl⟩
def Qrm12 (Z : State) (w0 : Addr) (w1 : Addr) (w2 : Addr) (w3 : Addr) (w4 : Addr) (w5 : Addr) (w6 : Addr) (w7 : Addr) (w8 : Addr) (w9 : Addr) (w10 : Addr) (w11 : Addr) (w12 : Addr) (h0 : Heap) (n0 : Nat) (v : Option Value) (h : Heap) (L : List Loc) : Prop := v = some (.int (0 : Int32)) ∧ Fr n0 L ∧ h = h0
set_option maxRecDepth 65536 in
set_option maxHeartbeats 40000000 in
theorem rm12 (l : Launch) (Z : State) (a0 : Array Value) (hw : ∀ d ∈ tables_1, d.before a0 Z = true) (w0 : Addr) (w1 : Addr) (w2 : Addr) (w3 : Addr) (w4 : Addr) (w5 : Addr) (w6 : Addr) (w7 : Addr) (w8 : Addr) (w9 : Addr) (w10 : Addr) (w11 : Addr) (w12 : Addr) (hS : SF Z w0 w1 w2 w3 w4 w5 w6 w7 w8 w9 w10 w11 w12) (ws : List Jvm.Cond) (h0 : Heap) (n0 : Nat) (O0 : Old Z n0 h0) :
    MetFree l (⟨z0, z4, "()Z"⟩ : MethodName) (head1 (Jvm.Cond.code (⟨z0, z4, "()Z"⟩ : MethodName) prog_7_method_4_code 1 (some .boolean) :: ws) ({ frames := 0, cells := 0, slots := 0, locals := 0 } : Room)) (fun a U => a = #[(.ref w11)] ∧ Z.Warmed39 U.vm ∧ U.heap = h0) (fun _ _ _ _ _ => True) (fun _ U o U' => ∃ v L, o = .returned v ∧ Qrm12 Z w0 w1 w2 w3 w4 w5 w6 w7 w8 w9 w10 w11 w12 h0 n0 v U'.heap L ∧ FrameEnd U o U' L ({ frames := 0, cells := 0, slots := 0, locals := 0 } : Room).cells ({ frames := 0, cells := 0, slots := 0, locals := 0 } : Room).slots) := by
  refine MetFree.of_bodySF (plainFor_of_name pn28) hisR ?_
  intro p e s m args below meth c s₁ Bd hml0 hP hK
  obtain ⟨rfl, hZ, hh⟩ := hP
  have hx := Bd.exec
  have hby := Bd.bytes
  have hml : c.maxLocals = 1 := hml0
  have hown : s.vm.findClass z0 = some m.cls := findClass_of_methodNamed Bd.named
  have hnm := (name_of_methodNamed Bd.named Bd.method).1
  have X0 : Stand p l e ({ frames := 0, cells := 0, slots := 0, locals := 0 } : Room) s m #[(.ref w11)] below meth c s₁ [] 0 0 := Stand.of_body Bd
  have e0 : s₁.heap = h0 := by rw [← hh, Bd.state]; rfl
  have N0 := Fr.nil n0
  have pre0 : ∀ t, Steps p.tables e below (s₁.setTop (mkF m 0 #[.val (.ref w11)] [])) t → Steps p.tables e below (s₁.setTop (entryFrame m #[(.ref w11)] 1)) t := fun t k => castTop (ef27 m w11) k
  obtain ⟨T1, X1, e1, st1⟩ := getS2 X0 hx hZ hown (host := "") (Or.inl (hw _ m43)) Via.refl e0 (hS.2.2.2.2.2.2.2.2.2.2.2.2.2.2.2.2.2.2.2.2.2.2.2.2.2.2.2.2.2.2.1.ext O0.2) (g := (mkF m 1 #[.val (.ref w11)] [(.ref w11)])) rfl (hb hby d2_1)
  have ne2 : w11 ≠ w10 := (Fld.ne hS.2.2.2.2.2.2.2.2.2.2.2.2.2.2.2.2.2.2.2.2.2.2.2.2.2.2.2.2.2.2.2.2.2.2.2.1 hS.2.2.2.2.2.2.2.2.2.2.2.2.2.2.2.2.2.2.2.2.2.2.2.2.2.2.2.2.2.2.2.2.1 (fun q => absurd (Value.int.inj q) (by decide)))
  obtain ⟨T3, X3, e3, st3⟩ := getS2 X1 hx hZ hown (host := "") (Or.inl (hw _ m44)) Via.refl e1 (hS.2.2.2.2.2.2.2.2.2.2.2.2.1.ext O0.2) (g := (mkF m 8 #[.val (.ref w11)] [(.ref w11)])) rfl (hb hby d2_8)
  have ne4 : w11 ≠ w4 := (Fld.ne hS.2.2.2.2.2.2.2.2.2.2.2.2.2.2.2.2.2.2.2.2.2.2.2.2.2.2.2.2.2.2.2.2.2.2.2.1 hS.2.2.2.2.2.2.2.2.2.2.2.2.2.2.1 (fun q => absurd (Value.int.inj q) (by decide)))
  obtain ⟨T5, X5, e5, st5⟩ := getS2 X3 hx hZ hown (host := "") (Or.inl (hw _ m45)) Via.refl e3 (hS.2.2.2.2.2.2.2.2.2.2.2.2.2.2.2.2.2.2.2.2.2.2.2.2.2.2.2.1.ext O0.2) (g := (mkF m 15 #[.val (.ref w11)] [(.ref w11)])) rfl (hb hby d2_15)
  have ne6 : w11 ≠ w9 := (Fld.ne hS.2.2.2.2.2.2.2.2.2.2.2.2.2.2.2.2.2.2.2.2.2.2.2.2.2.2.2.2.2.2.2.2.2.2.2.1 hS.2.2.2.2.2.2.2.2.2.2.2.2.2.2.2.2.2.2.2.2.2.2.2.2.2.2.2.2.2.1 (fun q => absurd (Value.int.inj q) (by decide)))
  obtain ⟨fs, hr, hrun, hended, hW, hsame⟩ := X5.leave (v := some (.int (0 : Int32))) (fun h => by rw [Bd.returns] at h; cases h)
  refine ⟨_, _, pre0 _ ?_, hrun, hended, _, _, rfl, ?_, ⟨_, rfl⟩, hW, hsame.mono (by decide) (by decide)⟩
  · show Steps p.tables e below (s₁.setTop (mkF m 0 #[.val (.ref w11)] [])) _
    refine XS.aloadN X0.here hx rfl (hb hby d2_0) rfl rfl ?_
    show Steps p.tables e below (s₁.setTop (mkF m 1 #[.val (.ref w11)] [(.ref w11)])) _
    refine st1 _ ?_
    show Steps p.tables e below (T1.setTop (mkF m 4 #[.val (.ref w11)] [(.ref w10), (.ref w11)])) _
    refine Jvm.RoadKit.acmp (g := (mkF m 4 #[.val (.ref w11)] [(.ref w10), (.ref w11)])) X1 hx rfl rfl rfl (pc0 := 4) (pc' := 7) (same := false) rfl (hb hby d2_4) rfl (decide_eq_false fun q => ne2 (Value.ref.inj q)) (by decide) (by decide) ?_
    show Steps p.tables e below (T1.setTop (mkF m 7 #[.val (.ref w11)] [])) _
    refine XS.aloadN X1.here hx rfl (hb hby d2_7) rfl rfl ?_
    show Steps p.tables e below (T1.setTop (mkF m 8 #[.val (.ref w11)] [(.ref w11)])) _
    refine st3 _ ?_
    show Steps p.tables e below (T3.setTop (mkF m 11 #[.val (.ref w11)] [(.ref w4), (.ref w11)])) _
    refine Jvm.RoadKit.acmp (g := (mkF m 11 #[.val (.ref w11)] [(.ref w4), (.ref w11)])) X3 hx rfl rfl rfl (pc0 := 11) (pc' := 14) (same := false) rfl (hb hby d2_11) rfl (decide_eq_false fun q => ne4 (Value.ref.inj q)) (by decide) (by decide) ?_
    show Steps p.tables e below (T3.setTop (mkF m 14 #[.val (.ref w11)] [])) _
    refine XS.aloadN X3.here hx rfl (hb hby d2_14) rfl rfl ?_
    show Steps p.tables e below (T3.setTop (mkF m 15 #[.val (.ref w11)] [(.ref w11)])) _
    refine st5 _ ?_
    show Steps p.tables e below (T5.setTop (mkF m 18 #[.val (.ref w11)] [(.ref w9), (.ref w11)])) _
    refine Jvm.RoadKit.acmp (g := (mkF m 18 #[.val (.ref w11)] [(.ref w9), (.ref w11)])) X5 hx rfl rfl rfl (pc0 := 18) (pc' := 25) (same := false) rfl (hb hby d2_18) rfl (decide_eq_false fun q => ne6 (Value.ref.inj q)) (by decide) (by decide) ?_
    show Steps p.tables e below (T5.setTop (mkF m 25 #[.val (.ref w11)] [])) _
    refine XS.iconst X5.here hx rfl (hb hby d2_25) ?_
    show Steps p.tables e below (T5.setTop (mkF m 26 #[.val (.ref w11)] [(.int (0 : Int32))])) _
    exact retN X5 hx (t := .boolean) Bd.returns (by simp) (hb hby d2_26) hr
  · show Qrm12 Z w0 w1 w2 w3 w4 w5 w6 w7 w8 w9 w10 w11 w12 h0 n0 _ T5.heap _
    rw [e5]
    exact ⟨rfl, N0, rfl⟩
def Qrm13 (Z : State) (w0 : Addr) (w1 : Addr) (w2 : Addr) (w3 : Addr) (w4 : Addr) (w5 : Addr) (w6 : Addr) (w7 : Addr) (w8 : Addr) (w9 : Addr) (w10 : Addr) (w11 : Addr) (w12 : Addr) (h0 : Heap) (n0 : Nat) (v : Option Value) (h : Heap) (L : List Loc) : Prop := v = some (.int (1 : Int32)) ∧ Fr n0 L ∧ h = h0
set_option maxRecDepth 65536 in
set_option maxHeartbeats 40000000 in
theorem rm13 (l : Launch) (Z : State) (a0 : Array Value) (hw : ∀ d ∈ tables_1, d.before a0 Z = true) (w0 : Addr) (w1 : Addr) (w2 : Addr) (w3 : Addr) (w4 : Addr) (w5 : Addr) (w6 : Addr) (w7 : Addr) (w8 : Addr) (w9 : Addr) (w10 : Addr) (w11 : Addr) (w12 : Addr) (hS : SF Z w0 w1 w2 w3 w4 w5 w6 w7 w8 w9 w10 w11 w12) (ws : List Jvm.Cond) (h0 : Heap) (n0 : Nat) (O0 : Old Z n0 h0) :
    MetFree l (⟨z0, z3, "()Z"⟩ : MethodName) (head1 (Jvm.Cond.code (⟨z0, z3, "()Z"⟩ : MethodName) prog_7_method_5_code 1 (some .boolean) :: ws) ({ frames := 0, cells := 0, slots := 0, locals := 0 } : Room)) (fun a U => a = #[(.ref w2)] ∧ Z.Warmed39 U.vm ∧ U.heap = h0) (fun _ _ _ _ _ => True) (fun _ U o U' => ∃ v L, o = .returned v ∧ Qrm13 Z w0 w1 w2 w3 w4 w5 w6 w7 w8 w9 w10 w11 w12 h0 n0 v U'.heap L ∧ FrameEnd U o U' L ({ frames := 0, cells := 0, slots := 0, locals := 0 } : Room).cells ({ frames := 0, cells := 0, slots := 0, locals := 0 } : Room).slots) := by
  refine MetFree.of_bodySF (plainFor_of_name pn28) hisR ?_
  intro p e s m args below meth c s₁ Bd hml0 hP hK
  obtain ⟨rfl, hZ, hh⟩ := hP
  have hx := Bd.exec
  have hby := Bd.bytes
  have hml : c.maxLocals = 1 := hml0
  have hown : s.vm.findClass z0 = some m.cls := findClass_of_methodNamed Bd.named
  have hnm := (name_of_methodNamed Bd.named Bd.method).1
  have X0 : Stand p l e ({ frames := 0, cells := 0, slots := 0, locals := 0 } : Room) s m #[(.ref w2)] below meth c s₁ [] 0 0 := Stand.of_body Bd
  have e0 : s₁.heap = h0 := by rw [← hh, Bd.state]; rfl
  have N0 := Fr.nil n0
  have pre0 : ∀ t, Steps p.tables e below (s₁.setTop (mkF m 0 #[.val (.ref w2)] [])) t → Steps p.tables e below (s₁.setTop (entryFrame m #[(.ref w2)] 1)) t := fun t k => castTop (ef27 m w2) k
  obtain ⟨T1, X1, e1, st1⟩ := getS2 X0 hx hZ hown (host := "") (Or.inl (hw _ m37)) Via.refl e0 (hS.2.2.2.2.2.2.2.2.2.2.2.2.2.2.2.2.2.2.1.ext O0.2) (g := (mkF m 1 #[.val (.ref w2)] [(.ref w2)])) rfl (hb hby d1_1)
  have ne2 : w2 ≠ w6 := (Fld.ne hS.2.2.2.2.2.2.2.2.1 hS.2.2.2.2.2.2.2.2.2.2.2.2.2.2.2.2.2.2.2.2.1 (fun q => absurd (Value.int.inj q) (by decide)))
  obtain ⟨T3, X3, e3, st3⟩ := getS2 X1 hx hZ hown (host := "") (Or.inl (hw _ m46)) Via.refl e1 (hS.2.2.2.2.2.2.1.ext O0.2) (g := (mkF m 8 #[.val (.ref w2)] [(.ref w2)])) rfl (hb hby d1_8)
  obtain ⟨fs, hr, hrun, hended, hW, hsame⟩ := X3.leave (v := some (.int (1 : Int32))) (fun h => by rw [Bd.returns] at h; cases h)
  refine ⟨_, _, pre0 _ ?_, hrun, hended, _, _, rfl, ?_, ⟨_, rfl⟩, hW, hsame.mono (by decide) (by decide)⟩
  · show Steps p.tables e below (s₁.setTop (mkF m 0 #[.val (.ref w2)] [])) _
    refine XS.aloadN X0.here hx rfl (hb hby d1_0) rfl rfl ?_
    show Steps p.tables e below (s₁.setTop (mkF m 1 #[.val (.ref w2)] [(.ref w2)])) _
    refine st1 _ ?_
    show Steps p.tables e below (T1.setTop (mkF m 4 #[.val (.ref w2)] [(.ref w6), (.ref w2)])) _
    refine Jvm.RoadKit.acmp (g := (mkF m 4 #[.val (.ref w2)] [(.ref w6), (.ref w2)])) X1 hx rfl rfl rfl (pc0 := 4) (pc' := 7) (same := false) rfl (hb hby d1_4) rfl (decide_eq_false fun q => ne2 (Value.ref.inj q)) (by decide) (by decide) ?_
    show Steps p.tables e below (T1.setTop (mkF m 7 #[.val (.ref w2)] [])) _
    refine XS.aloadN X1.here hx rfl (hb hby d1_7) rfl rfl ?_
    show Steps p.tables e below (T1.setTop (mkF m 8 #[.val (.ref w2)] [(.ref w2)])) _
    refine st3 _ ?_
    show Steps p.tables e below (T3.setTop (mkF m 11 #[.val (.ref w2)] [(.ref w2), (.ref w2)])) _
    refine Jvm.RoadKit.acmp (g := (mkF m 11 #[.val (.ref w2)] [(.ref w2), (.ref w2)])) X3 hx rfl rfl rfl (pc0 := 11) (pc' := 49) (same := true) rfl (hb hby d1_11) rfl (decide_eq_true rfl) (by decide) (by decide) ?_
    show Steps p.tables e below (T3.setTop (mkF m 49 #[.val (.ref w2)] [])) _
    refine XS.iconst X3.here hx rfl (hb hby d1_49) ?_
    show Steps p.tables e below (T3.setTop (mkF m 50 #[.val (.ref w2)] [(.int (1 : Int32))])) _
    refine XS.goto X3.here hx rfl (pc0 := 50) (pc' := 54) rfl (hb hby d1_50) (by decide) (by decide) ?_
    show Steps p.tables e below (T3.setTop (mkF m 54 #[.val (.ref w2)] [(.int (1 : Int32))])) _
    exact retN X3 hx (t := .boolean) Bd.returns (by simp) (hb hby d1_54) hr
  · show Qrm13 Z w0 w1 w2 w3 w4 w5 w6 w7 w8 w9 w10 w11 w12 h0 n0 _ T3.heap _
    rw [e3]
    exact ⟨rfl, N0, rfl⟩
def Qrm14 (Z : State) (w0 : Addr) (w1 : Addr) (w2 : Addr) (w3 : Addr) (w4 : Addr) (w5 : Addr) (w6 : Addr) (w7 : Addr) (w8 : Addr) (w9 : Addr) (w10 : Addr) (w11 : Addr) (w12 : Addr) (h0 : Heap) (n0 : Nat) (v : Option Value) (h : Heap) (L : List Loc) : Prop := v = some (.int (0 : Int32)) ∧ Fr n0 L ∧ h = h0
set_option maxRecDepth 65536 in
set_option maxHeartbeats 40000000 in
theorem rm14 (l : Launch) (Z : State) (a0 : Array Value) (hw : ∀ d ∈ tables_1, d.before a0 Z = true) (w0 : Addr) (w1 : Addr) (w2 : Addr) (w3 : Addr) (w4 : Addr) (w5 : Addr) (w6 : Addr) (w7 : Addr) (w8 : Addr) (w9 : Addr) (w10 : Addr) (w11 : Addr) (w12 : Addr) (hS : SF Z w0 w1 w2 w3 w4 w5 w6 w7 w8 w9 w10 w11 w12) (ws : List Jvm.Cond) (h0 : Heap) (n0 : Nat) (O0 : Old Z n0 h0) :
    MetFree l (⟨z0, z4, "()Z"⟩ : MethodName) (head1 (Jvm.Cond.code (⟨z0, z4, "()Z"⟩ : MethodName) prog_7_method_4_code 1 (some .boolean) :: ws) ({ frames := 0, cells := 0, slots := 0, locals := 0 } : Room)) (fun a U => a = #[(.ref w2)] ∧ Z.Warmed39 U.vm ∧ U.heap = h0) (fun _ _ _ _ _ => True) (fun _ U o U' => ∃ v L, o = .returned v ∧ Qrm14 Z w0 w1 w2 w3 w4 w5 w6 w7 w8 w9 w10 w11 w12 h0 n0 v U'.heap L ∧ FrameEnd U o U' L ({ frames := 0, cells := 0, slots := 0, locals := 0 } : Room).cells ({ frames := 0, cells := 0, slots := 0, locals := 0 } : Room).slots) := by
  refine MetFree.of_bodySF (plainFor_of_name pn28) hisR ?_
  intro p e s m args below meth c s₁ Bd hml0 hP hK
  obtain ⟨rfl, hZ, hh⟩ := hP
  have hx := Bd.exec
  have hby := Bd.bytes
  have hml : c.maxLocals = 1 := hml0
  have hown : s.vm.findClass z0 = some m.cls := findClass_of_methodNamed Bd.named
  have hnm := (name_of_methodNamed Bd.named Bd.method).1
  have X0 : Stand p l e ({ frames := 0, cells := 0, slots := 0, locals := 0 } : Room) s m #[(.ref w2)] below meth c s₁ [] 0 0 := Stand.of_body Bd
  have e0 : s₁.heap = h0 := by rw [← hh, Bd.state]; rfl
  have N0 := Fr.nil n0
  have pre0 : ∀ t, Steps p.tables e below (s₁.setTop (mkF m 0 #[.val (.ref w2)] [])) t → Steps p.tables e below (s₁.setTop (entryFrame m #[(.ref w2)] 1)) t := fun t k => castTop (ef27 m w2) k
  obtain ⟨T1, X1, e1, st1⟩ := getS2 X0 hx hZ hown (host := "") (Or.inl (hw _ m43)) Via.refl e0 (hS.2.2.2.2.2.2.2.2.2.2.2.2.2.2.2.2.2.2.2.2.2.2.2.2.2.2.2.2.2.2.1.ext O0.2) (g := (mkF m 1 #[.val (.ref w2)] [(.ref w2)])) rfl (hb hby d2_1)
  have ne2 : w2 ≠ w10 := (Fld.ne hS.2.2.2.2.2.2.2.2.1 hS.2.2.2.2.2.2.2.2.2.2.2.2.2.2.2.2.2.2.2.2.2.2.2.2.2.2.2.2.2.2.2.2.1 (fun q => absurd (Value.int.inj q) (by decide)))
  obtain ⟨T3, X3, e3, st3⟩ := getS2 X1 hx hZ hown (host := "") (Or.inl (hw _ m44)) Via.refl e1 (hS.2.2.2.2.2.2.2.2.2.2.2.2.1.ext O0.2) (g := (mkF m 8 #[.val (.ref w2)] [(.ref w2)])) rfl (hb hby d2_8)
  have ne4 : w2 ≠ w4 := (Fld.ne hS.2.2.2.2.2.2.2.2.1 hS.2.2.2.2.2.2.2.2.2.2.2.2.2.2.1 (fun q => absurd (Value.int.inj q) (by decide)))
  obtain ⟨T5, X5, e5, st5⟩ := getS2 X3 hx hZ hown (host := "") (Or.inl (hw _ m45)) Via.refl e3 (hS.2.2.2.2.2.2.2.2.2.2.2.2.2.2.2.2.2.2.2.2.2.2.2.2.2.2.2.1.ext O0.2) (g := (mkF m 15 #[.val (.ref w2)] [(.ref w2)])) rfl (hb hby d2_15)
  have ne6 : w2 ≠ w9 := (Fld.ne hS.2.2.2.2.2.2.2.2.1 hS.2.2.2.2.2.2.2.2.2.2.2.2.2.2.2.2.2.2.2.2.2.2.2.2.2.2.2.2.2.1 (fun q => absurd (Value.int.inj q) (by decide)))
  obtain ⟨fs, hr, hrun, hended, hW, hsame⟩ := X5.leave (v := some (.int (0 : Int32))) (fun h => by rw [Bd.returns] at h; cases h)
  refine ⟨_, _, pre0 _ ?_, hrun, hended, _, _, rfl, ?_, ⟨_, rfl⟩, hW, hsame.mono (by decide) (by decide)⟩
  · show Steps p.tables e below (s₁.setTop (mkF m 0 #[.val (.ref w2)] [])) _
    refine XS.aloadN X0.here hx rfl (hb hby d2_0) rfl rfl ?_
    show Steps p.tables e below (s₁.setTop (mkF m 1 #[.val (.ref w2)] [(.ref w2)])) _
    refine st1 _ ?_
    show Steps p.tables e below (T1.setTop (mkF m 4 #[.val (.ref w2)] [(.ref w10), (.ref w2)])) _
    refine Jvm.RoadKit.acmp (g := (mkF m 4 #[.val (.ref w2)] [(.ref w10), (.ref w2)])) X1 hx rfl rfl rfl (pc0 := 4) (pc' := 7) (same := false) rfl (hb hby d2_4) rfl (decide_eq_false fun q => ne2 (Value.ref.inj q)) (by decide) (by decide) ?_
    show Steps p.tables e below (T1.setTop (mkF m 7 #[.val (.ref w2)] [])) _
    refine XS.aloadN X1.here hx rfl (hb hby d2_7) rfl rfl ?_
    show Steps p.tables e below (T1.setTop (mkF m 8 #[.val (.ref w2)] [(.ref w2)])) _
    refine st3 _ ?_
    show Steps p.tables e below (T3.setTop (mkF m 11 #[.val (.ref w2)] [(.ref w4), (.ref w2)])) _
    refine Jvm.RoadKit.acmp (g := (mkF m 11 #[.val (.ref w2)] [(.ref w4), (.ref w2)])) X3 hx rfl rfl rfl (pc0 := 11) (pc' := 14) (same := false) rfl (hb hby d2_11) rfl (decide_eq_false fun q => ne4 (Value.ref.inj q)) (by decide) (by decide) ?_
    show Steps p.tables e below (T3.setTop (mkF m 14 #[.val (.ref w2)] [])) _
    refine XS.aloadN X3.here hx rfl (hb hby d2_14) rfl rfl ?_
    show Steps p.tables e below (T3.setTop (mkF m 15 #[.val (.ref w2)] [(.ref w2)])) _
    refine st5 _ ?_
    show Steps p.tables e below (T5.setTop (mkF m 18 #[.val (.ref w2)] [(.ref w9), (.ref w2)])) _
    refine Jvm.RoadKit.acmp (g := (mkF m 18 #[.val (.ref w2)] [(.ref w9), (.ref w2)])) X5 hx rfl rfl rfl (pc0 := 18) (pc' := 25) (same := false) rfl (hb hby d2_18) rfl (decide_eq_false fun q => ne6 (Value.ref.inj q)) (by decide) (by decide) ?_
    show Steps p.tables e below (T5.setTop (mkF m 25 #[.val (.ref w2)] [])) _
    refine XS.iconst X5.here hx rfl (hb hby d2_25) ?_
    show Steps p.tables e below (T5.setTop (mkF m 26 #[.val (.ref w2)] [(.int (0 : Int32))])) _
    exact retN X5 hx (t := .boolean) Bd.returns (by simp) (hb hby d2_26) hr
  · show Qrm14 Z w0 w1 w2 w3 w4 w5 w6 w7 w8 w9 w10 w11 w12 h0 n0 _ T5.heap _
    rw [e5]
    exact ⟨rfl, N0, rfl⟩
def Qrm15 (Z : State) (w0 : Addr) (w1 : Addr) (w2 : Addr) (w3 : Addr) (w4 : Addr) (w5 : Addr) (w6 : Addr) (w7 : Addr) (w8 : Addr) (w9 : Addr) (w10 : Addr) (w11 : Addr) (w12 : Addr) (h0 : Heap) (n0 : Nat) (v : Option Value) (h : Heap) (L : List Loc) : Prop := v = some (.int (0 : Int32)) ∧ Fr n0 L ∧ h = h0
set_option maxRecDepth 65536 in
set_option maxHeartbeats 40000000 in
theorem rm15 (l : Launch) (Z : State) (a0 : Array Value) (hw : ∀ d ∈ tables_1, d.before a0 Z = true) (w0 : Addr) (w1 : Addr) (w2 : Addr) (w3 : Addr) (w4 : Addr) (w5 : Addr) (w6 : Addr) (w7 : Addr) (w8 : Addr) (w9 : Addr) (w10 : Addr) (w11 : Addr) (w12 : Addr) (hS : SF Z w0 w1 w2 w3 w4 w5 w6 w7 w8 w9 w10 w11 w12) (ws : List Jvm.Cond) (h0 : Heap) (n0 : Nat) (O0 : Old Z n0 h0) :
    MetFree l (⟨z0, z3, "()Z"⟩ : MethodName) (head1 (Jvm.Cond.code (⟨z0, z3, "()Z"⟩ : MethodName) prog_7_method_5_code 1 (some .boolean) :: ws) ({ frames := 0, cells := 0, slots := 0, locals := 0 } : Room)) (fun a U => a = #[(.ref w3)] ∧ Z.Warmed39 U.vm ∧ U.heap = h0) (fun _ _ _ _ _ => True) (fun _ U o U' => ∃ v L, o = .returned v ∧ Qrm15 Z w0 w1 w2 w3 w4 w5 w6 w7 w8 w9 w10 w11 w12 h0 n0 v U'.heap L ∧ FrameEnd U o U' L ({ frames := 0, cells := 0, slots := 0, locals := 0 } : Room).cells ({ frames := 0, cells := 0, slots := 0, locals := 0 } : Room).slots) := by
  refine MetFree.of_bodySF (plainFor_of_name pn28) hisR ?_
  intro p e s m args below meth c s₁ Bd hml0 hP hK
  obtain ⟨rfl, hZ, hh⟩ := hP
  have hx := Bd.exec
  have hby := Bd.bytes
  have hml : c.maxLocals = 1 := hml0
  have hown : s.vm.findClass z0 = some m.cls := findClass_of_methodNamed Bd.named
  have hnm := (name_of_methodNamed Bd.named Bd.method).1
  have X0 : Stand p l e ({ frames := 0, cells := 0, slots := 0, locals := 0 } : Room) s m #[(.ref w3)] below meth c s₁ [] 0 0 := Stand.of_body Bd
  have e0 : s₁.heap = h0 := by rw [← hh, Bd.state]; rfl
  have N0 := Fr.nil n0
  have pre0 : ∀ t, Steps p.tables e below (s₁.setTop (mkF m 0 #[.val (.ref w3)] [])) t → Steps p.tables e below (s₁.setTop (entryFrame m #[(.ref w3)] 1)) t := fun t k => castTop (ef27 m w3) k
  obtain ⟨T1, X1, e1, st1⟩ := getS2 X0 hx hZ hown (host := "") (Or.inl (hw _ m37)) Via.refl e0 (hS.2.2.2.2.2.2.2.2.2.2.2.2.2.2.2.2.2.2.1.ext O0.2) (g := (mkF m 1 #[.val (.ref w3)] [(.ref w3)])) rfl (hb hby d1_1)
  have ne2 : w3 ≠ w6 := (Fld.ne hS.2.2.2.2.2.2.2.2.2.2.2.1 hS.2.2.2.2.2.2.2.2.2.2.2.2.2.2.2.2.2.2.2.2.1 (fun q => absurd (Value.int.inj q) (by decide)))
  obtain ⟨T3, X3, e3, st3⟩ := getS2 X1 hx hZ hown (host := "") (Or.inl (hw _ m46)) Via.refl e1 (hS.2.2.2.2.2.2.1.ext O0.2) (g := (mkF m 8 #[.val (.ref w3)] [(.ref w3)])) rfl (hb hby d1_8)
  have ne4 : w3 ≠ w2 := (Fld.ne hS.2.2.2.2.2.2.2.2.2.2.2.1 hS.2.2.2.2.2.2.2.2.1 (fun q => absurd (Value.int.inj q) (by decide)))
  obtain ⟨T5, X5, e5, st5⟩ := getS2 X3 hx hZ hown (host := "") (Or.inl (hw _ m47)) Via.refl e3 (hS.2.2.2.2.2.2.2.2.2.2.2.2.2.2.2.2.2.2.2.2.2.2.2.2.2.2.2.2.2.2.2.2.2.2.2.2.1.ext O0.2) (g := (mkF m 15 #[.val (.ref w3)] [(.ref w3)])) rfl (hb hby d1_15)
  have ne6 : w3 ≠ w12 := (Fld.ne hS.2.2.2.2.2.2.2.2.2.2.2.1 hS.2.2.2.2.2.2.2.2.2.2.2.2.2.2.2.2.2.2.2.2.2.2.2.2.2.2.2.2.2.2.2.2.2.2.2.2.2.2 (fun q => absurd (Value.int.inj q) (by decide)))
  obtain ⟨T7, X7, e7, st7⟩ := getS2 X5 hx hZ hown (host := "") (Or.inl (hw _ m48)) Via.refl e5 (hS.2.2.2.1.ext O0.2) (g := (mkF m 22 #[.val (.ref w3)] [(.ref w3)])) rfl (hb hby d1_22)
  have ne8 : w3 ≠ w1 := (Fld.ne hS.2.2.2.2.2.2.2.2.2.2.2.1 hS.2.2.2.2.2.1 (fun q => absurd (Value.int.inj q) (by decide)))
  obtain ⟨T9, X9, e9, st9⟩ := getS2 X7 hx hZ hown (host := "") (Or.inl (hw _ m49)) Via.refl e7 (hS.2.2.2.2.2.2.2.2.2.2.2.2.2.2.2.2.2.2.2.2.2.1.ext O0.2) (g := (mkF m 29 #[.val (.ref w3)] [(.ref w3)])) rfl (hb hby d1_29)
  have ne10 : w3 ≠ w7 := (Fld.ne hS.2.2.2.2.2.2.2.2.2.2.2.1 hS.2.2.2.2.2.2.2.2.2.2.2.2.2.2.2.2.2.2.2.2.2.2.2.1 (fun q => absurd (Value.int.inj q) (by decide)))
  obtain ⟨T11, X11, e11, st11⟩ := getS2 X9 hx hZ hown (host := "") (Or.inl (hw _ m50)) Via.refl e9 (hS.2.2.2.2.2.2.2.2.2.2.2.2.2.2.2.1.ext O0.2) (g := (mkF m 36 #[.val (.ref w3)] [(.ref w3)])) rfl (hb hby d1_36)
  have ne12 : w3 ≠ w5 := (Fld.ne hS.2.2.2.2.2.2.2.2.2.2.2.1 hS.2.2.2.2.2.2.2.2.2.2.2.2.2.2.2.2.2.1 (fun q => absurd (Value.int.inj q) (by decide)))
  obtain ⟨T13, X13, e13, st13⟩ := getS2 X11 hx hZ hown (host := "") (Or.inl (hw _ m51)) Via.refl e11 (hS.2.2.2.2.2.2.2.2.2.2.2.2.2.2.2.2.2.2.2.2.2.2.2.2.2.2.2.2.2.2.2.2.2.1.ext O0.2) (g := (mkF m 43 #[.val (.ref w3)] [(.ref w3)])) rfl (hb hby d1_43)
  have ne14 : w3 ≠ w11 := (Fld.ne hS.2.2.2.2.2.2.2.2.2.2.2.1 hS.2.2.2.2.2.2.2.2.2.2.2.2.2.2.2.2.2.2.2.2.2.2.2.2.2.2.2.2.2.2.2.2.2.2.2.1 (fun q => absurd (Value.int.inj q) (by decide)))
  obtain ⟨fs, hr, hrun, hended, hW, hsame⟩ := X13.leave (v := some (.int (0 : Int32))) (fun h => by rw [Bd.returns] at h; cases h)
  refine ⟨_, _, pre0 _ ?_, hrun, hended, _, _, rfl, ?_, ⟨_, rfl⟩, hW, hsame.mono (by decide) (by decide)⟩
  · show Steps p.tables e below (s₁.setTop (mkF m 0 #[.val (.ref w3)] [])) _
    refine XS.aloadN X0.here hx rfl (hb hby d1_0) rfl rfl ?_
    show Steps p.tables e below (s₁.setTop (mkF m 1 #[.val (.ref w3)] [(.ref w3)])) _
    refine st1 _ ?_
    show Steps p.tables e below (T1.setTop (mkF m 4 #[.val (.ref w3)] [(.ref w6), (.ref w3)])) _
    refine Jvm.RoadKit.acmp (g := (mkF m 4 #[.val (.ref w3)] [(.ref w6), (.ref w3)])) X1 hx rfl rfl rfl (pc0 := 4) (pc' := 7) (same := false) rfl (hb hby d1_4) rfl (decide_eq_false fun q => ne2 (Value.ref.inj q)) (by decide) (by decide) ?_
    show Steps p.tables e below (T1.setTop (mkF m 7 #[.val (.ref w3)] [])) _
    refine XS.aloadN X1.here hx rfl (hb hby d1_7) rfl rfl ?_
    show Steps p.tables e below (T1.setTop (mkF m 8 #[.val (.ref w3)] [(.ref w3)])) _
    refine st3 _ ?_
    show Steps p.tables e below (T3.setTop (mkF m 11 #[.val (.ref w3)] [(.ref w2), (.ref w3)])) _
    refine Jvm.RoadKit.acmp (g := (mkF m 11 #[.val (.ref w3)] [(.ref w2), (.ref w3)])) X3 hx rfl rfl rfl (pc0 := 11) (pc' := 14) (same := false) rfl (hb hby d1_11) rfl (decide_eq_false fun q => ne4 (Value.ref.inj q)) (by decide) (by decide) ?_
    show Steps p.tables e below (T3.setTop (mkF m 14 #[.val (.ref w3)] [])) _
    refine XS.aloadN X3.here hx rfl (hb hby d1_14) rfl rfl ?_
    show Steps p.tables e below (T3.setTop (mkF m 15 #[.val (.ref w3)] [(.ref w3)])) _
    refine st5 _ ?_
    show Steps p.tables e below (T5.setTop (mkF m 18 #[.val (.ref w3)] [(.ref w12), (.ref w3)])) _
    refine Jvm.RoadKit.acmp (g := (mkF m 18 #[.val (.ref w3)] [(.ref w12), (.ref w3)])) X5 hx rfl rfl rfl (pc0 := 18) (pc' := 21) (same := false) rfl (hb hby d1_18) rfl (decide_eq_false fun q => ne6 (Value.ref.inj q)) (by decide) (by decide) ?_
    show Steps p.tables e below (T5.setTop (mkF m 21 #[.val (.ref w3)] [])) _
    refine XS.aloadN X5.here hx rfl (hb hby d1_21) rfl rfl ?_
    show Steps p.tables e below (T5.setTop (mkF m 22 #[.val (.ref w3)] [(.ref w3)])) _
    refine st7 _ ?_
    show Steps p.tables e below (T7.setTop (mkF m 25 #[.val (.ref w3)] [(.ref w1), (.ref w3)])) _
    refine Jvm.RoadKit.acmp (g := (mkF m 25 #[.val (.ref w3)] [(.ref w1), (.ref w3)])) X7 hx rfl rfl rfl (pc0 := 25) (pc' := 28) (same := false) rfl (hb hby d1_25) rfl (decide_eq_false fun q => ne8 (Value.ref.inj q)) (by decide) (by decide) ?_
    show Steps p.tables e below (T7.setTop (mkF m 28 #[.val (.ref w3)] [])) _
    refine XS.aloadN X7.here hx rfl (hb hby d1_28) rfl rfl ?_
    show Steps p.tables e below (T7.setTop (mkF m 29 #[.val (.ref w3)] [(.ref w3)])) _
    refine st9 _ ?_
    show Steps p.tables e below (T9.setTop (mkF m 32 #[.val (.ref w3)] [(.ref w7), (.ref w3)])) _
    refine Jvm.RoadKit.acmp (g := (mkF m 32 #[.val (.ref w3)] [(.ref w7), (.ref w3)])) X9 hx rfl rfl rfl (pc0 := 32) (pc' := 35) (same := false) rfl (hb hby d1_32) rfl (decide_eq_false fun q => ne10 (Value.ref.inj q)) (by decide) (by decide) ?_
    show Steps p.tables e below (T9.setTop (mkF m 35 #[.val (.ref w3)] [])) _
    refine XS.aloadN X9.here hx rfl (hb hby d1_35) rfl rfl ?_
    show Steps p.tables e below (T9.setTop (mkF m 36 #[.val (.ref w3)] [(.ref w3)])) _
    refine st11 _ ?_
    show Steps p.tables e below (T11.setTop (mkF m 39 #[.val (.ref w3)] [(.ref w5), (.ref w3)])) _
    refine Jvm.RoadKit.acmp (g := (mkF m 39 #[.val (.ref w3)] [(.ref w5), (.ref w3)])) X11 hx rfl rfl rfl (pc0 := 39) (pc' := 42) (same := false) rfl (hb hby d1_39) rfl (decide_eq_false fun q => ne12 (Value.ref.inj q)) (by decide) (by decide) ?_
    show Steps p.tables e below (T11.setTop (mkF m 42 #[.val (.ref w3)] [])) _
    refine XS.aloadN X11.here hx rfl (hb hby d1_42) rfl rfl ?_
    show Steps p.tables e below (T11.setTop (mkF m 43 #[.val (.ref w3)] [(.ref w3)])) _
    refine st13 _ ?_
    show Steps p.tables e below (T13.setTop (mkF m 46 #[.val (.ref w3)] [(.ref w11), (.ref w3)])) _
    refine Jvm.RoadKit.acmp (g := (mkF m 46 #[.val (.ref w3)] [(.ref w11), (.ref w3)])) X13 hx rfl rfl rfl (pc0 := 46) (pc' := 53) (same := false) rfl (hb hby d1_46) rfl (decide_eq_false fun q => ne14 (Value.ref.inj q)) (by decide) (by decide) ?_
    show Steps p.tables e below (T13.setTop (mkF m 53 #[.val (.ref w3)] [])) _
    refine XS.iconst X13.here hx rfl (hb hby d1_53) ?_
    show Steps p.tables e below (T13.setTop (mkF m 54 #[.val (.ref w3)] [(.int (0 : Int32))])) _
    exact retN X13 hx (t := .boolean) Bd.returns (by simp) (hb hby d1_54) hr
  · show Qrm15 Z w0 w1 w2 w3 w4 w5 w6 w7 w8 w9 w10 w11 w12 h0 n0 _ T13.heap _
    rw [e13]
    exact ⟨rfl, N0, rfl⟩
def Qrm16 (Z : State) (w0 : Addr) (w1 : Addr) (w2 : Addr) (w3 : Addr) (w4 : Addr) (w5 : Addr) (w6 : Addr) (w7 : Addr) (w8 : Addr) (w9 : Addr) (w10 : Addr) (w11 : Addr) (w12 : Addr) (h0 : Heap) (n0 : Nat) (v : Option Value) (h : Heap) (L : List Loc) : Prop := v = some (.int (0 : Int32)) ∧ Fr n0 L ∧ h = h0
set_option maxRecDepth 65536 in
set_option maxHeartbeats 40000000 in
theorem rm16 (l : Launch) (Z : State) (a0 : Array Value) (hw : ∀ d ∈ tables_1, d.before a0 Z = true) (w0 : Addr) (w1 : Addr) (w2 : Addr) (w3 : Addr) (w4 : Addr) (w5 : Addr) (w6 : Addr) (w7 : Addr) (w8 : Addr) (w9 : Addr) (w10 : Addr) (w11 : Addr) (w12 : Addr) (hS : SF Z w0 w1 w2 w3 w4 w5 w6 w7 w8 w9 w10 w11 w12) (ws : List Jvm.Cond) (h0 : Heap) (n0 : Nat) (O0 : Old Z n0 h0) :
    MetFree l (⟨z0, z3, "()Z"⟩ : MethodName) (head1 (Jvm.Cond.code (⟨z0, z3, "()Z"⟩ : MethodName) prog_7_method_5_code 1 (some .boolean) :: ws) ({ frames := 0, cells := 0, slots := 0, locals := 0 } : Room)) (fun a U => a = #[(.ref w0)] ∧ Z.Warmed39 U.vm ∧ U.heap = h0) (fun _ _ _ _ _ => True) (fun _ U o U' => ∃ v L, o = .returned v ∧ Qrm16 Z w0 w1 w2 w3 w4 w5 w6 w7 w8 w9 w10 w11 w12 h0 n0 v U'.heap L ∧ FrameEnd U o U' L ({ frames := 0, cells := 0, slots := 0, locals := 0 } : Room).cells ({ frames := 0, cells := 0, slots := 0, locals := 0 } : Room).slots) := by
  refine MetFree.of_bodySF (plainFor_of_name pn28) hisR ?_
  intro p e s m args below meth c s₁ Bd hml0 hP hK
  obtain ⟨rfl, hZ, hh⟩ := hP
  have hx := Bd.exec
  have hby := Bd.bytes
  have hml : c.maxLocals = 1 := hml0
  have hown : s.vm.findClass z0 = some m.cls := findClass_of_methodNamed Bd.named
  have hnm := (name_of_methodNamed Bd.named Bd.method).1
  have X0 : Stand p l e ({ frames := 0, cells := 0, slots := 0, locals := 0 } : Room) s m #[(.ref w0)] below meth c s₁ [] 0 0 := Stand.of_body Bd
  have e0 : s₁.heap = h0 := by rw [← hh, Bd.state]; rfl
  have N0 := Fr.nil n0
  have pre0 : ∀ t, Steps p.tables e below (s₁.setTop (mkF m 0 #[.val (.ref w0)] [])) t → Steps p.tables e below (s₁.setTop (entryFrame m #[(.ref w0)] 1)) t := fun t k => castTop (ef27 m w0) k
  obtain ⟨T1, X1, e1, st1⟩ := getS2 X0 hx hZ hown (host := "") (Or.inl (hw _ m37)) Via.refl e0 (hS.2.2.2.2.2.2.2.2.2.2.2.2.2.2.2.2.2.2.1.ext O0.2) (g := (mkF m 1 #[.val (.ref w0)] [(.ref w0)])) rfl (hb hby d1_1)
  have ne2 : w0 ≠ w6 := (Fld.ne hS.2.2.1 hS.2.2.2.2.2.2.2.2.2.2.2.2.2.2.2.2.2.2.2.2.1 (fun q => absurd (Value.int.inj q) (by decide)))
  obtain ⟨T3, X3, e3, st3⟩ := getS2 X1 hx hZ hown (host := "") (Or.inl (hw _ m46)) Via.refl e1 (hS.2.2.2.2.2.2.1.ext O0.2) (g := (mkF m 8 #[.val (.ref w0)] [(.ref w0)])) rfl (hb hby d1_8)
  have ne4 : w0 ≠ w2 := (Fld.ne hS.2.2.1 hS.2.2.2.2.2.2.2.2.1 (fun q => absurd (Value.int.inj q) (by decide)))
  obtain ⟨T5, X5, e5, st5⟩ := getS2 X3 hx hZ hown (host := "") (Or.inl (hw _ m47)) Via.refl e3 (hS.2.2.2.2.2.2.2.2.2.2.2.2.2.2.2.2.2.2.2.2.2.2.2.2.2.2.2.2.2.2.2.2.2.2.2.2.1.ext O0.2) (g := (mkF m 15 #[.val (.ref w0)] [(.ref w0)])) rfl (hb hby d1_15)
  have ne6 : w0 ≠ w12 := (Fld.ne hS.2.2.1 hS.2.2.2.2.2.2.2.2.2.2.2.2.2.2.2.2.2.2.2.2.2.2.2.2.2.2.2.2.2.2.2.2.2.2.2.2.2.2 (fun q => absurd (Value.int.inj q) (by decide)))
  obtain ⟨T7, X7, e7, st7⟩ := getS2 X5 hx hZ hown (host := "") (Or.inl (hw _ m48)) Via.refl e5 (hS.2.2.2.1.ext O0.2) (g := (mkF m 22 #[.val (.ref w0)] [(.ref w0)])) rfl (hb hby d1_22)
  have ne8 : w0 ≠ w1 := (Fld.ne hS.2.2.1 hS.2.2.2.2.2.1 (fun q => absurd (Value.int.inj q) (by decide)))
  obtain ⟨T9, X9, e9, st9⟩ := getS2 X7 hx hZ hown (host := "") (Or.inl (hw _ m49)) Via.refl e7 (hS.2.2.2.2.2.2.2.2.2.2.2.2.2.2.2.2.2.2.2.2.2.1.ext O0.2) (g := (mkF m 29 #[.val (.ref w0)] [(.ref w0)])) rfl (hb hby d1_29)
  have ne10 : w0 ≠ w7 := (Fld.ne hS.2.2.1 hS.2.2.2.2.2.2.2.2.2.2.2.2.2.2.2.2.2.2.2.2.2.2.2.1 (fun q => absurd (Value.int.inj q) (by decide)))
  obtain ⟨T11, X11, e11, st11⟩ := getS2 X9 hx hZ hown (host := "") (Or.inl (hw _ m50)) Via.refl e9 (hS.2.2.2.2.2.2.2.2.2.2.2.2.2.2.2.1.ext O0.2) (g := (mkF m 36 #[.val (.ref w0)] [(.ref w0)])) rfl (hb hby d1_36)
  have ne12 : w0 ≠ w5 := (Fld.ne hS.2.2.1 hS.2.2.2.2.2.2.2.2.2.2.2.2.2.2.2.2.2.1 (fun q => absurd (Value.int.inj q) (by decide)))
  obtain ⟨T13, X13, e13, st13⟩ := getS2 X11 hx hZ hown (host := "") (Or.inl (hw _ m51)) Via.refl e11 (hS.2.2.2.2.2.2.2.2.2.2.2.2.2.2.2.2.2.2.2.2.2.2.2.2.2.2.2.2.2.2.2.2.2.1.ext O0.2) (g := (mkF m 43 #[.val (.ref w0)] [(.ref w0)])) rfl (hb hby d1_43)
  have ne14 : w0 ≠ w11 := (Fld.ne hS.2.2.1 hS.2.2.2.2.2.2.2.2.2.2.2.2.2.2.2.2.2.2.2.2.2.2.2.2.2.2.2.2.2.2.2.2.2.2.2.1 (fun q => absurd (Value.int.inj q) (by decide)))
  obtain ⟨fs, hr, hrun, hended, hW, hsame⟩ := X13.leave (v := some (.int (0 : Int32))) (fun h => by rw [Bd.returns] at h; cases h)
  refine ⟨_, _, pre0 _ ?_, hrun, hended, _, _, rfl, ?_, ⟨_, rfl⟩, hW, hsame.mono (by decide) (by decide)⟩
  · show Steps p.tables e below (s₁.setTop (mkF m 0 #[.val (.ref w0)] [])) _
    refine XS.aloadN X0.here hx rfl (hb hby d1_0) rfl rfl ?_
    show Steps p.tables e below (s₁.setTop (mkF m 1 #[.val (.ref w0)] [(.ref w0)])) _
    refine st1 _ ?_
    show Steps p.tables e below (T1.setTop (mkF m 4 #[.val (.ref w0)] [(.ref w6), (.ref w0)])) _
    refine Jvm.RoadKit.acmp (g := (mkF m 4 #[.val (.ref w0)] [(.ref w6), (.ref w0)])) X1 hx rfl rfl rfl (pc0 := 4) (pc' := 7) (same := false) rfl (hb hby d1_4) rfl (decide_eq_false fun q => ne2 (Value.ref.inj q)) (by decide) (by decide) ?_
    show Steps p.tables e below (T1.setTop (mkF m 7 #[.val (.ref w0)] [])) _
    refine XS.aloadN X1.here hx rfl (hb hby d1_7) rfl rfl ?_
    show Steps p.tables e below (T1.setTop (mkF m 8 #[.val (.ref w0)] [(.ref w0)])) _
    refine st3 _ ?_
    show Steps p.tables e below (T3.setTop (mkF m 11 #[.val (.ref w0)] [(.ref w2), (.ref w0)])) _
    refine Jvm.RoadKit.acmp (g := (mkF m 11 #[.val (.ref w0)] [(.ref w2), (.ref w0)])) X3 hx rfl rfl rfl (pc0 := 11) (pc' := 14) (same := false) rfl (hb hby d1_11) rfl (decide_eq_false fun q => ne4 (Value.ref.inj q)) (by decide) (by decide) ?_
    show Steps p.tables e below (T3.setTop (mkF m 14 #[.val (.ref w0)] [])) _
    refine XS.aloadN X3.here hx rfl (hb hby d1_14) rfl rfl ?_
    show Steps p.tables e below (T3.setTop (mkF m 15 #[.val (.ref w0)] [(.ref w0)])) _
    refine st5 _ ?_
    show Steps p.tables e below (T5.setTop (mkF m 18 #[.val (.ref w0)] [(.ref w12), (.ref w0)])) _
    refine Jvm.RoadKit.acmp (g := (mkF m 18 #[.val (.ref w0)] [(.ref w12), (.ref w0)])) X5 hx rfl rfl rfl (pc0 := 18) (pc' := 21) (same := false) rfl (hb hby d1_18) rfl (decide_eq_false fun q => ne6 (Value.ref.inj q)) (by decide) (by decide) ?_
    show Steps p.tables e below (T5.setTop (mkF m 21 #[.val (.ref w0)] [])) _
    refine XS.aloadN X5.here hx rfl (hb hby d1_21) rfl rfl ?_
    show Steps p.tables e below (T5.setTop (mkF m 22 #[.val (.ref w0)] [(.ref w0)])) _
    refine st7 _ ?_
    show Steps p.tables e below (T7.setTop (mkF m 25 #[.val (.ref w0)] [(.ref w1), (.ref w0)])) _
    refine Jvm.RoadKit.acmp (g := (mkF m 25 #[.val (.ref w0)] [(.ref w1), (.ref w0)])) X7 hx rfl rfl rfl (pc0 := 25) (pc' := 28) (same := false) rfl (hb hby d1_25) rfl (decide_eq_false fun q => ne8 (Value.ref.inj q)) (by decide) (by decide) ?_
    show Steps p.tables e below (T7.setTop (mkF m 28 #[.val (.ref w0)] [])) _
    refine XS.aloadN X7.here hx rfl (hb hby d1_28) rfl rfl ?_
    show Steps p.tables e below (T7.setTop (mkF m 29 #[.val (.ref w0)] [(.ref w0)])) _
    refine st9 _ ?_
    show Steps p.tables e below (T9.setTop (mkF m 32 #[.val (.ref w0)] [(.ref w7), (.ref w0)])) _
    refine Jvm.RoadKit.acmp (g := (mkF m 32 #[.val (.ref w0)] [(.ref w7), (.ref w0)])) X9 hx rfl rfl rfl (pc0 := 32) (pc' := 35) (same := false) rfl (hb hby d1_32) rfl (decide_eq_false fun q => ne10 (Value.ref.inj q)) (by decide) (by decide) ?_
    show Steps p.tables e below (T9.setTop (mkF m 35 #[.val (.ref w0)] [])) _
    refine XS.aloadN X9.here hx rfl (hb hby d1_35) rfl rfl ?_
    show Steps p.tables e below (T9.setTop (mkF m 36 #[.val (.ref w0)] [(.ref w0)])) _
    refine st11 _ ?_
    show Steps p.tables e below (T11.setTop (mkF m 39 #[.val (.ref w0)] [(.ref w5), (.ref w0)])) _
    refine Jvm.RoadKit.acmp (g := (mkF m 39 #[.val (.ref w0)] [(.ref w5), (.ref w0)])) X11 hx rfl rfl rfl (pc0 := 39) (pc' := 42) (same := false) rfl (hb hby d1_39) rfl (decide_eq_false fun q => ne12 (Value.ref.inj q)) (by decide) (by decide) ?_
    show Steps p.tables e below (T11.setTop (mkF m 42 #[.val (.ref w0)] [])) _
    refine XS.aloadN X11.here hx rfl (hb hby d1_42) rfl rfl ?_
    show Steps p.tables e below (T11.setTop (mkF m 43 #[.val (.ref w0)] [(.ref w0)])) _
    refine st13 _ ?_
    show Steps p.tables e below (T13.setTop (mkF m 46 #[.val (.ref w0)] [(.ref w11), (.ref w0)])) _
    refine Jvm.RoadKit.acmp (g := (mkF m 46 #[.val (.ref w0)] [(.ref w11), (.ref w0)])) X13 hx rfl rfl rfl (pc0 := 46) (pc' := 53) (same := false) rfl (hb hby d1_46) rfl (decide_eq_false fun q => ne14 (Value.ref.inj q)) (by decide) (by decide) ?_
    show Steps p.tables e below (T13.setTop (mkF m 53 #[.val (.ref w0)] [])) _
    refine XS.iconst X13.here hx rfl (hb hby d1_53) ?_
    show Steps p.tables e below (T13.setTop (mkF m 54 #[.val (.ref w0)] [(.int (0 : Int32))])) _
    exact retN X13 hx (t := .boolean) Bd.returns (by simp) (hb hby d1_54) hr
  · show Qrm16 Z w0 w1 w2 w3 w4 w5 w6 w7 w8 w9 w10 w11 w12 h0 n0 _ T13.heap _
    rw [e13]
    exact ⟨rfl, N0, rfl⟩
def Qrm17 (Z : State) (w0 : Addr) (w1 : Addr) (w2 : Addr) (w3 : Addr) (w4 : Addr) (w5 : Addr) (w6 : Addr) (w7 : Addr) (w8 : Addr) (w9 : Addr) (w10 : Addr) (w11 : Addr) (w12 : Addr) (h0 : Heap) (n0 : Nat) (v : Option Value) (h : Heap) (L : List Loc) : Prop := v = some (.int (0 : Int32)) ∧ Fr n0 L ∧ h = h0
set_option maxRecDepth 65536 in
set_option maxHeartbeats 40000000 in
theorem rm17 (l : Launch) (Z : State) (a0 : Array Value) (hw : ∀ d ∈ tables_1, d.before a0 Z = true) (w0 : Addr) (w1 : Addr) (w2 : Addr) (w3 : Addr) (w4 : Addr) (w5 : Addr) (w6 : Addr) (w7 : Addr) (w8 : Addr) (w9 : Addr) (w10 : Addr) (w11 : Addr) (w12 : Addr) (hS : SF Z w0 w1 w2 w3 w4 w5 w6 w7 w8 w9 w10 w11 w12) (ws : List Jvm.Cond) (h0 : Heap) (n0 : Nat) (O0 : Old Z n0 h0) :
    MetFree l (⟨z0, z3, "()Z"⟩ : MethodName) (head1 (Jvm.Cond.code (⟨z0, z3, "()Z"⟩ : MethodName) prog_7_method_5_code 1 (some .boolean) :: ws) ({ frames := 0, cells := 0, slots := 0, locals := 0 } : Room)) (fun a U => a = #[(.ref w8)] ∧ Z.Warmed39 U.vm ∧ U.heap = h0) (fun _ _ _ _ _ => True) (fun _ U o U' => ∃ v L, o = .returned v ∧ Qrm17 Z w0 w1 w2 w3 w4 w5 w6 w7 w8 w9 w10 w11 w12 h0 n0 v U'.heap L ∧ FrameEnd U o U' L ({ frames := 0, cells := 0, slots := 0, locals := 0 } : Room).cells ({ frames := 0, cells := 0, slots := 0, locals := 0 } : Room).slots) := by
  refine MetFree.of_bodySF (plainFor_of_name pn28) hisR ?_
  intro p e s m args below meth c s₁ Bd hml0 hP hK
  obtain ⟨rfl, hZ, hh⟩ := hP
  have hx := Bd.exec
  have hby := Bd.bytes
  have hml : c.maxLocals = 1 := hml0
  have hown : s.vm.findClass z0 = some m.cls := findClass_of_methodNamed Bd.named
  have hnm := (name_of_methodNamed Bd.named Bd.method).1
  have X0 : Stand p l e ({ frames := 0, cells := 0, slots := 0, locals := 0 } : Room) s m #[(.ref w8)] below meth c s₁ [] 0 0 := Stand.of_body Bd
  have e0 : s₁.heap = h0 := by rw [← hh, Bd.state]; rfl
  have N0 := Fr.nil n0
  have pre0 : ∀ t, Steps p.tables e below (s₁.setTop (mkF m 0 #[.val (.ref w8)] [])) t → Steps p.tables e below (s₁.setTop (entryFrame m #[(.ref w8)] 1)) t := fun t k => castTop (ef27 m w8) k
  obtain ⟨T1, X1, e1, st1⟩ := getS2 X0 hx hZ hown (host := "") (Or.inl (hw _ m37)) Via.refl e0 (hS.2.2.2.2.2.2.2.2.2.2.2.2.2.2.2.2.2.2.1.ext O0.2) (g := (mkF m 1 #[.val (.ref w8)] [(.ref w8)])) rfl (hb hby d1_1)
  have ne2 : w8 ≠ w6 := (Fld.ne hS.2.2.2.2.2.2.2.2.2.2.2.2.2.2.2.2.2.2.2.2.2.2.2.2.2.2.1 hS.2.2.2.2.2.2.2.2.2.2.2.2.2.2.2.2.2.2.2.2.1 (fun q => absurd (Value.int.inj q) (by decide)))
  obtain ⟨T3, X3, e3, st3⟩ := getS2 X1 hx hZ hown (host := "") (Or.inl (hw _ m46)) Via.refl e1 (hS.2.2.2.2.2.2.1.ext O0.2) (g := (mkF m 8 #[.val (.ref w8)] [(.ref w8)])) rfl (hb hby d1_8)
  have ne4 : w8 ≠ w2 := (Fld.ne hS.2.2.2.2.2.2.2.2.2.2.2.2.2.2.2.2.2.2.2.2.2.2.2.2.2.2.1 hS.2.2.2.2.2.2.2.2.1 (fun q => absurd (Value.int.inj q) (by decide)))
  obtain ⟨T5, X5, e5, st5⟩ := getS2 X3 hx hZ hown (host := "") (Or.inl (hw _ m47)) Via.refl e3 (hS.2.2.2.2.2.2.2.2.2.2.2.2.2.2.2.2.2.2.2.2.2.2.2.2.2.2.2.2.2.2.2.2.2.2.2.2.1.ext O0.2) (g := (mkF m 15 #[.val (.ref w8)] [(.ref w8)])) rfl (hb hby d1_15)
  have ne6 : w8 ≠ w12 := (Fld.ne hS.2.2.2.2.2.2.2.2.2.2.2.2.2.2.2.2.2.2.2.2.2.2.2.2.2.2.1 hS.2.2.2.2.2.2.2.2.2.2.2.2.2.2.2.2.2.2.2.2.2.2.2.2.2.2.2.2.2.2.2.2.2.2.2.2.2.2 (fun q => absurd (Value.int.inj q) (by decide)))
  obtain ⟨T7, X7, e7, st7⟩ := getS2 X5 hx hZ hown (host := "") (Or.inl (hw _ m48)) Via.refl e5 (hS.2.2.2.1.ext O0.2) (g := (mkF m 22 #[.val (.ref w8)] [(.ref w8)])) rfl (hb hby d1_22)
  have ne8 : w8 ≠ w1 := (Fld.ne hS.2.2.2.2.2.2.2.2.2.2.2.2.2.2.2.2.2.2.2.2.2.2.2.2.2.2.1 hS.2.2.2.2.2.1 (fun q => absurd (Value.int.inj q) (by decide)))
  obtain ⟨T9, X9, e9, st9⟩ := getS2 X7 hx hZ hown (host := "") (Or.inl (hw _ m49)) Via.refl e7 (hS.2.2.2.2.2.2.2.2.2.2.2.2.2.2.2.2.2.2.2.2.2.1.ext O0.2) (g := (mkF m 29 #[.val (.ref w8)] [(.ref w8)])) rfl (hb hby d1_29)
  have ne10 : w8 ≠ w7 := (Fld.ne hS.2.2.2.2.2.2.2.2.2.2.2.2.2.2.2.2.2.2.2.2.2.2.2.2.2.2.1 hS.2.2.2.2.2.2.2.2.2.2.2.2.2.2.2.2.2.2.2.2.2.2.2.1 (fun q => absurd (Value.int.inj q) (by decide)))
  obtain ⟨T11, X11, e11, st11⟩ := getS2 X9 hx hZ hown (host := "") (Or.inl (hw _ m50)) Via.refl e9 (hS.2.2.2.2.2.2.2.2.2.2.2.2.2.2.2.1.ext O0.2) (g := (mkF m 36 #[.val (.ref w8)] [(.ref w8)])) rfl (hb hby d1_36)
  have ne12 : w8 ≠ w5 := (Fld.ne hS.2.2.2.2.2.2.2.2.2.2.2.2.2.2.2.2.2.2.2.2.2.2.2.2.2.2.1 hS.2.2.2.2.2.2.2.2.2.2.2.2.2.2.2.2.2.1 (fun q => absurd (Value.int.inj q) (by decide)))
  obtain ⟨T13, X13, e13, st13⟩ := getS2 X11 hx hZ hown (host := "") (Or.inl (hw _ m51)) Via.refl e11 (hS.2.2.2.2.2.2.2.2.2.2.2.2.2.2.2.2.2.2.2.2.2.2.2.2.2.2.2.2.2.2.2.2.2.1.ext O0.2) (g := (mkF m 43 #[.val (.ref w8)] [(.ref w8)])) rfl (hb hby d1_43)
  have ne14 : w8 ≠ w11 := (Fld.ne hS.2.2.2.2.2.2.2.2.2.2.2.2.2.2.2.2.2.2.2.2.2.2.2.2.2.2.1 hS.2.2.2.2.2.2.2.2.2.2.2.2.2.2.2.2.2.2.2.2.2.2.2.2.2.2.2.2.2.2.2.2.2.2.2.1 (fun q => absurd (Value.int.inj q) (by decide)))
  obtain ⟨fs, hr, hrun, hended, hW, hsame⟩ := X13.leave (v := some (.int (0 : Int32))) (fun h => by rw [Bd.returns] at h; cases h)
  refine ⟨_, _, pre0 _ ?_, hrun, hended, _, _, rfl, ?_, ⟨_, rfl⟩, hW, hsame.mono (by decide) (by decide)⟩
  · show Steps p.tables e below (s₁.setTop (mkF m 0 #[.val (.ref w8)] [])) _
    refine XS.aloadN X0.here hx rfl (hb hby d1_0) rfl rfl ?_
    show Steps p.tables e below (s₁.setTop (mkF m 1 #[.val (.ref w8)] [(.ref w8)])) _
    refine st1 _ ?_
    show Steps p.tables e below (T1.setTop (mkF m 4 #[.val (.ref w8)] [(.ref w6), (.ref w8)])) _
    refine Jvm.RoadKit.acmp (g := (mkF m 4 #[.val (.ref w8)] [(.ref w6), (.ref w8)])) X1 hx rfl rfl rfl (pc0 := 4) (pc' := 7) (same := false) rfl (hb hby d1_4) rfl (decide_eq_false fun q => ne2 (Value.ref.inj q)) (by decide) (by decide) ?_
    show Steps p.tables e below (T1.setTop (mkF m 7 #[.val (.ref w8)] [])) _
    refine XS.aloadN X1.here hx rfl (hb hby d1_7) rfl rfl ?_
    show Steps p.tables e below (T1.setTop (mkF m 8 #[.val (.ref w8)] [(.ref w8)])) _
    refine st3 _ ?_
    show Steps p.tables e below (T3.setTop (mkF m 11 #[.val (.ref w8)] [(.ref w2), (.ref w8)])) _
    refine Jvm.RoadKit.acmp (g := (mkF m 11 #[.val (.ref w8)] [(.ref w2), (.ref w8)])) X3 hx rfl rfl rfl (pc0 := 11) (pc' := 14) (same := false) rfl (hb hby d1_11) rfl (decide_eq_false fun q => ne4 (Value.ref.inj q)) (by decide) (by decide) ?_
    show Steps p.tables e below (T3.setTop (mkF m 14 #[.val (.ref w8)] [])) _
    refine XS.aloadN X3.here hx rfl (hb hby d1_14) rfl rfl ?_
    show Steps p.tables e below (T3.setTop (mkF m 15 #[.val (.ref w8)] [(.ref w8)])) _
    refine st5 _ ?_
    show Steps p.tables e below (T5.setTop (mkF m 18 #[.val (.ref w8)] [(.ref w12), (.ref w8)])) _
    refine Jvm.RoadKit.acmp (g := (mkF m 18 #[.val (.ref w8)] [(.ref w12), (.ref w8)])) X5 hx rfl rfl rfl (pc0 := 18) (pc' := 21) (same := false) rfl (hb hby d1_18) rfl (decide_eq_false fun q => ne6 (Value.ref.inj q)) (by decide) (by decide) ?_
    show Steps p.tables e below (T5.setTop (mkF m 21 #[.val (.ref w8)] [])) _
    refine XS.aloadN X5.here hx rfl (hb hby d1_21) rfl rfl ?_
    show Steps p.tables e below (T5.setTop (mkF m 22 #[.val (.ref w8)] [(.ref w8)])) _
    refine st7 _ ?_
    show Steps p.tables e below (T7.setTop (mkF m 25 #[.val (.ref w8)] [(.ref w1), (.ref w8)])) _
    refine Jvm.RoadKit.acmp (g := (mkF m 25 #[.val (.ref w8)] [(.ref w1), (.ref w8)])) X7 hx rfl rfl rfl (pc0 := 25) (pc' := 28) (same := false) rfl (hb hby d1_25) rfl (decide_eq_false fun q => ne8 (Value.ref.inj q)) (by decide) (by decide) ?_
    show Steps p.tables e below (T7.setTop (mkF m 28 #[.val (.ref w8)] [])) _
    refine XS.aloadN X7.here hx rfl (hb hby d1_28) rfl rfl ?_
    show Steps p.tables e below (T7.setTop (mkF m 29 #[.val (.ref w8)] [(.ref w8)])) _
    refine st9 _ ?_
    show Steps p.tables e below (T9.setTop (mkF m 32 #[.val (.ref w8)] [(.ref w7), (.ref w8)])) _
    refine Jvm.RoadKit.acmp (g := (mkF m 32 #[.val (.ref w8)] [(.ref w7), (.ref w8)])) X9 hx rfl rfl rfl (pc0 := 32) (pc' := 35) (same := false) rfl (hb hby d1_32) rfl (decide_eq_false fun q => ne10 (Value.ref.inj q)) (by decide) (by decide) ?_
    show Steps p.tables e below (T9.setTop (mkF m 35 #[.val (.ref w8)] [])) _
    refine XS.aloadN X9.here hx rfl (hb hby d1_35) rfl rfl ?_
    show Steps p.tables e below (T9.setTop (mkF m 36 #[.val (.ref w8)] [(.ref w8)])) _
    refine st11 _ ?_
    show Steps p.tables e below (T11.setTop (mkF m 39 #[.val (.ref w8)] [(.ref w5), (.ref w8)])) _
    refine Jvm.RoadKit.acmp (g := (mkF m 39 #[.val (.ref w8)] [(.ref w5), (.ref w8)])) X11 hx rfl rfl rfl (pc0 := 39) (pc' := 42) (same := false) rfl (hb hby d1_39) rfl (decide_eq_false fun q => ne12 (Value.ref.inj q)) (by decide) (by decide) ?_
    show Steps p.tables e below (T11.setTop (mkF m 42 #[.val (.ref w8)] [])) _
    refine XS.aloadN X11.here hx rfl (hb hby d1_42) rfl rfl ?_
    show Steps p.tables e below (T11.setTop (mkF m 43 #[.val (.ref w8)] [(.ref w8)])) _
    refine st13 _ ?_
    show Steps p.tables e below (T13.setTop (mkF m 46 #[.val (.ref w8)] [(.ref w11), (.ref w8)])) _
    refine Jvm.RoadKit.acmp (g := (mkF m 46 #[.val (.ref w8)] [(.ref w11), (.ref w8)])) X13 hx rfl rfl rfl (pc0 := 46) (pc' := 53) (same := false) rfl (hb hby d1_46) rfl (decide_eq_false fun q => ne14 (Value.ref.inj q)) (by decide) (by decide) ?_
    show Steps p.tables e below (T13.setTop (mkF m 53 #[.val (.ref w8)] [])) _
    refine XS.iconst X13.here hx rfl (hb hby d1_53) ?_
    show Steps p.tables e below (T13.setTop (mkF m 54 #[.val (.ref w8)] [(.int (0 : Int32))])) _
    exact retN X13 hx (t := .boolean) Bd.returns (by simp) (hb hby d1_54) hr
  · show Qrm17 Z w0 w1 w2 w3 w4 w5 w6 w7 w8 w9 w10 w11 w12 h0 n0 _ T13.heap _
    rw [e13]
    exact ⟨rfl, N0, rfl⟩
def Qrm18 (Z : State) (w0 : Addr) (w1 : Addr) (w2 : Addr) (w3 : Addr) (w4 : Addr) (w5 : Addr) (w6 : Addr) (w7 : Addr) (w8 : Addr) (w9 : Addr) (w10 : Addr) (w11 : Addr) (w12 : Addr) (h0 : Heap) (n0 : Nat) (v : Option Value) (h : Heap) (L : List Loc) : Prop := v = some (.int (1 : Int32)) ∧ Fr n0 L ∧ h = h0
set_option maxRecDepth 65536 in
set_option maxHeartbeats 40000000 in
theorem rm18 (l : Launch) (Z : State) (a0 : Array Value) (hw : ∀ d ∈ tables_1, d.before a0 Z = true) (w0 : Addr) (w1 : Addr) (w2 : Addr) (w3 : Addr) (w4 : Addr) (w5 : Addr) (w6 : Addr) (w7 : Addr) (w8 : Addr) (w9 : Addr) (w10 : Addr) (w11 : Addr) (w12 : Addr) (hS : SF Z w0 w1 w2 w3 w4 w5 w6 w7 w8 w9 w10 w11 w12) (ws : List Jvm.Cond) (h0 : Heap) (n0 : Nat) (O0 : Old Z n0 h0) :
    MetFree l (⟨z0, z3, "()Z"⟩ : MethodName) (head1 (Jvm.Cond.code (⟨z0, z3, "()Z"⟩ : MethodName) prog_7_method_5_code 1 (some .boolean) :: ws) ({ frames := 0, cells := 0, slots := 0, locals := 0 } : Room)) (fun a U => a = #[(.ref w12)] ∧ Z.Warmed39 U.vm ∧ U.heap = h0) (fun _ _ _ _ _ => True) (fun _ U o U' => ∃ v L, o = .returned v ∧ Qrm18 Z w0 w1 w2 w3 w4 w5 w6 w7 w8 w9 w10 w11 w12 h0 n0 v U'.heap L ∧ FrameEnd U o U' L ({ frames := 0, cells := 0, slots := 0, locals := 0 } : Room).cells ({ frames := 0, cells := 0, slots := 0, locals := 0 } : Room).slots) := by
  refine MetFree.of_bodySF (plainFor_of_name pn28) hisR ?_
  intro p e s m args below meth c s₁ Bd hml0 hP hK
  obtain ⟨rfl, hZ, hh⟩ := hP
  have hx := Bd.exec
  have hby := Bd.bytes
  have hml : c.maxLocals = 1 := hml0
  have hown : s.vm.findClass z0 = some m.cls := findClass_of_methodNamed Bd.named
  have hnm := (name_of_methodNamed Bd.named Bd.method).1
  have X0 : Stand p l e ({ frames := 0, cells := 0, slots := 0, locals := 0 } : Room) s m #[(.ref w12)] below meth c s₁ [] 0 0 := Stand.of_body Bd
  have e0 : s₁.heap = h0 := by rw [← hh, Bd.state]; rfl
  have N0 := Fr.nil n0
  have pre0 : ∀ t, Steps p.tables e below (s₁.setTop (mkF m 0 #[.val (.ref w12)] [])) t → Steps p.tables e below (s₁.setTop (entryFrame m #[(.ref w12)] 1)) t := fun t k => castTop (ef27 m w12) k
  obtain ⟨T1, X1, e1, st1⟩ := getS2 X0 hx hZ hown (host := "") (Or.inl (hw _ m37)) Via.refl e0 (hS.2.2.2.2.2.2.2.2.2.2.2.2.2.2.2.2.2.2.1.ext O0.2) (g := (mkF m 1 #[.val (.ref w12)] [(.ref w12)])) rfl (hb hby d1_1)
  have ne2 : w12 ≠ w6 := (Fld.ne hS.2.2.2.2.2.2.2.2.2.2.2.2.2.2.2.2.2.2.2.2.2.2.2.2.2.2.2.2.2.2.2.2.2.2.2.2.2.2 hS.2.2.2.2.2.2.2.2.2.2.2.2.2.2.2.2.2.2.2.2.1 (fun q => absurd (Value.int.inj q) (by decide)))
  obtain ⟨T3, X3, e3, st3⟩ := getS2 X1 hx hZ hown (host := "") (Or.inl (hw _ m46)) Via.refl e1 (hS.2.2.2.2.2.2.1.ext O0.2) (g := (mkF m 8 #[.val (.ref w12)] [(.ref w12)])) rfl (hb hby d1_8)
  have ne4 : w12 ≠ w2 := (Fld.ne hS.2.2.2.2.2.2.2.2.2.2.2.2.2.2.2.2.2.2.2.2.2.2.2.2.2.2.2.2.2.2.2.2.2.2.2.2.2.2 hS.2.2.2.2.2.2.2.2.1 (fun q => absurd (Value.int.inj q) (by decide)))
  obtain ⟨T5, X5, e5, st5⟩ := getS2 X3 hx hZ hown (host := "") (Or.inl (hw _ m47)) Via.refl e3 (hS.2.2.2.2.2.2.2.2.2.2.2.2.2.2.2.2.2.2.2.2.2.2.2.2.2.2.2.2.2.2.2.2.2.2.2.2.1.ext O0.2) (g := (mkF m 15 #[.val (.ref w12)] [(.ref w12)])) rfl (hb hby d1_15)
  obtain ⟨fs, hr, hrun, hended, hW, hsame⟩ := X5.leave (v := some (.int (1 : Int32))) (fun h => by rw [Bd.returns] at h; cases h)
  refine ⟨_, _, pre0 _ ?_, hrun, hended, _, _, rfl, ?_, ⟨_, rfl⟩, hW, hsame.mono (by decide) (by decide)⟩
  · show Steps p.tables e below (s₁.setTop (mkF m 0 #[.val (.ref w12)] [])) _
    refine XS.aloadN X0.here hx rfl (hb hby d1_0) rfl rfl ?_
    show Steps p.tables e below (s₁.setTop (mkF m 1 #[.val (.ref w12)] [(.ref w12)])) _
    refine st1 _ ?_
    show Steps p.tables e below (T1.setTop (mkF m 4 #[.val (.ref w12)] [(.ref w6), (.ref w12)])) _
    refine Jvm.RoadKit.acmp (g := (mkF m 4 #[.val (.ref w12)] [(.ref w6), (.ref w12)])) X1 hx rfl rfl rfl (pc0 := 4) (pc' := 7) (same := false) rfl (hb hby d1_4) rfl (decide_eq_false fun q => ne2 (Value.ref.inj q)) (by decide) (by decide) ?_
    show Steps p.tables e below (T1.setTop (mkF m 7 #[.val (.ref w12)] [])) _
    refine XS.aloadN X1.here hx rfl (hb hby d1_7) rfl rfl ?_
    show Steps p.tables e below (T1.setTop (mkF m 8 #[.val (.ref w12)] [(.ref w12)])) _
    refine st3 _ ?_
    show Steps p.tables e below (T3.setTop (mkF m 11 #[.val (.ref w12)] [(.ref w2), (.ref w12)])) _
    refine Jvm.RoadKit.acmp (g := (mkF m 11 #[.val (.ref w12)] [(.ref w2), (.ref w12)])) X3 hx rfl rfl rfl (pc0 := 11) (pc' := 14) (same := false) rfl (hb hby d1_11) rfl (decide_eq_false fun q => ne4 (Value.ref.inj q)) (by decide) (by decide) ?_
    show Steps p.tables e below (T3.setTop (mkF m 14 #[.val (.ref w12)] [])) _
    refine XS.aloadN X3.here hx rfl (hb hby d1_14) rfl rfl ?_
    show Steps p.tables e below (T3.setTop (mkF m 15 #[.val (.ref w12)] [(.ref w12)])) _
    refine st5 _ ?_
    show Steps p.tables e below (T5.setTop (mkF m 18 #[.val (.ref w12)] [(.ref w12), (.ref w12)])) _
    refine Jvm.RoadKit.acmp (g := (mkF m 18 #[.val (.ref w12)] [(.ref w12), (.ref w12)])) X5 hx rfl rfl rfl (pc0 := 18) (pc' := 49) (same := true) rfl (hb hby d1_18) rfl (decide_eq_true rfl) (by decide) (by decide) ?_
    show Steps p.tables e below (T5.setTop (mkF m 49 #[.val (.ref w12)] [])) _
    refine XS.iconst X5.here hx rfl (hb hby d1_49) ?_
    show Steps p.tables e below (T5.setTop (mkF m 50 #[.val (.ref w12)] [(.int (1 : Int32))])) _
    refine XS.goto X5.here hx rfl (pc0 := 50) (pc' := 54) rfl (hb hby d1_50) (by decide) (by decide) ?_
    show Steps p.tables e below (T5.setTop (mkF m 54 #[.val (.ref w12)] [(.int (1 : Int32))])) _
    exact retN X5 hx (t := .boolean) Bd.returns (by simp) (hb hby d1_54) hr
  · show Qrm18 Z w0 w1 w2 w3 w4 w5 w6 w7 w8 w9 w10 w11 w12 h0 n0 _ T5.heap _
    rw [e5]
    exact ⟨rfl, N0, rfl⟩
def Qrm19 (Z : State) (w0 : Addr) (w1 : Addr) (w2 : Addr) (w3 : Addr) (w4 : Addr) (w5 : Addr) (w6 : Addr) (w7 : Addr) (w8 : Addr) (w9 : Addr) (w10 : Addr) (w11 : Addr) (w12 : Addr) (h0 : Heap) (n0 : Nat) (v : Option Value) (h : Heap) (L : List Loc) : Prop := v = some (.int (0 : Int32)) ∧ Fr n0 L ∧ h = h0
set_option maxRecDepth 65536 in
set_option maxHeartbeats 40000000 in
theorem rm19 (l : Launch) (Z : State) (a0 : Array Value) (hw : ∀ d ∈ tables_1, d.before a0 Z = true) (w0 : Addr) (w1 : Addr) (w2 : Addr) (w3 : Addr) (w4 : Addr) (w5 : Addr) (w6 : Addr) (w7 : Addr) (w8 : Addr) (w9 : Addr) (w10 : Addr) (w11 : Addr) (w12 : Addr) (hS : SF Z w0 w1 w2 w3 w4 w5 w6 w7 w8 w9 w10 w11 w12) (ws : List Jvm.Cond) (h0 : Heap) (n0 : Nat) (O0 : Old Z n0 h0) :
    MetFree l (⟨z0, z4, "()Z"⟩ : MethodName) (head1 (Jvm.Cond.code (⟨z0, z4, "()Z"⟩ : MethodName) prog_7_method_4_code 1 (some .boolean) :: ws) ({ frames := 0, cells := 0, slots := 0, locals := 0 } : Room)) (fun a U => a = #[(.ref w12)] ∧ Z.Warmed39 U.vm ∧ U.heap = h0) (fun _ _ _ _ _ => True) (fun _ U o U' => ∃ v L, o = .returned v ∧ Qrm19 Z w0 w1 w2 w3 w4 w5 w6 w7 w8 w9 w10 w11 w12 h0 n0 v U'.heap L ∧ FrameEnd U o U' L ({ frames := 0, cells := 0, slots := 0, locals := 0 } : Room).cells ({ frames := 0, cells := 0, slots := 0, locals := 0 } : Room).slots) := by
  refine MetFree.of_bodySF (plainFor_of_name pn28) hisR ?_
  intro p e s m args below meth c s₁ Bd hml0 hP hK
  obtain ⟨rfl, hZ, hh⟩ := hP
  have hx := Bd.exec
  have hby := Bd.bytes
  have hml : c.maxLocals = 1 := hml0
  have hown : s.vm.findClass z0 = some m.cls := findClass_of_methodNamed Bd.named
  have hnm := (name_of_methodNamed Bd.named Bd.method).1
  have X0 : Stand p l e ({ frames := 0, cells := 0, slots := 0, locals := 0 } : Room) s m #[(.ref w12)] below meth c s₁ [] 0 0 := Stand.of_body Bd
  have e0 : s₁.heap = h0 := by rw [← hh, Bd.state]; rfl
  have N0 := Fr.nil n0
  have pre0 : ∀ t, Steps p.tables e below (s₁.setTop (mkF m 0 #[.val (.ref w12)] [])) t → Steps p.tables e below (s₁.setTop (entryFrame m #[(.ref w12)] 1)) t := fun t k => castTop (ef27 m w12) k
  obtain ⟨T1, X1, e1, st1⟩ := getS2 X0 hx hZ hown (host := "") (Or.inl (hw _ m43)) Via.refl e0 (hS.2.2.2.2.2.2.2.2.2.2.2.2.2.2.2.2.2.2.2.2.2.2.2.2.2.2.2.2.2.2.1.ext O0.2) (g := (mkF m 1 #[.val (.ref w12)] [(.ref w12)])) rfl (hb hby d2_1)
  have ne2 : w12 ≠ w10 := (Fld.ne hS.2.2.2.2.2.2.2.2.2.2.2.2.2.2.2.2.2.2.2.2.2.2.2.2.2.2.2.2.2.2.2.2.2.2.2.2.2.2 hS.2.2.2.2.2.2.2.2.2.2.2.2.2.2.2.2.2.2.2.2.2.2.2.2.2.2.2.2.2.2.2.2.1 (fun q => absurd (Value.int.inj q) (by decide)))
  obtain ⟨T3, X3, e3, st3⟩ := getS2 X1 hx hZ hown (host := "") (Or.inl (hw _ m44)) Via.refl e1 (hS.2.2.2.2.2.2.2.2.2.2.2.2.1.ext O0.2) (g := (mkF m 8 #[.val (.ref w12)] [(.ref w12)])) rfl (hb hby d2_8)
  have ne4 : w12 ≠ w4 := (Fld.ne hS.2.2.2.2.2.2.2.2.2.2.2.2.2.2.2.2.2.2.2.2.2.2.2.2.2.2.2.2.2.2.2.2.2.2.2.2.2.2 hS.2.2.2.2.2.2.2.2.2.2.2.2.2.2.1 (fun q => absurd (Value.int.inj q) (by decide)))
  obtain ⟨T5, X5, e5, st5⟩ := getS2 X3 hx hZ hown (host := "") (Or.inl (hw _ m45)) Via.refl e3 (hS.2.2.2.2.2.2.2.2.2.2.2.2.2.2.2.2.2.2.2.2.2.2.2.2.2.2.2.1.ext O0.2) (g := (mkF m 15 #[.val (.ref w12)] [(.ref w12)])) rfl (hb hby d2_15)
  have ne6 : w12 ≠ w9 := (Fld.ne hS.2.2.2.2.2.2.2.2.2.2.2.2.2.2.2.2.2.2.2.2.2.2.2.2.2.2.2.2.2.2.2.2.2.2.2.2.2.2 hS.2.2.2.2.2.2.2.2.2.2.2.2.2.2.2.2.2.2.2.2.2.2.2.2.2.2.2.2.2.1 (fun q => absurd (Value.int.inj q) (by decide)))
  obtain ⟨fs, hr, hrun, hended, hW, hsame⟩ := X5.leave (v := some (.int (0 : Int32))) (fun h => by rw [Bd.returns] at h; cases h)
  refine ⟨_, _, pre0 _ ?_, hrun, hended, _, _, rfl, ?_, ⟨_, rfl⟩, hW, hsame.mono (by decide) (by decide)⟩
  · show Steps p.tables e below (s₁.setTop (mkF m 0 #[.val (.ref w12)] [])) _
    refine XS.aloadN X0.here hx rfl (hb hby d2_0) rfl rfl ?_
    show Steps p.tables e below (s₁.setTop (mkF m 1 #[.val (.ref w12)] [(.ref w12)])) _
    refine st1 _ ?_
    show Steps p.tables e below (T1.setTop (mkF m 4 #[.val (.ref w12)] [(.ref w10), (.ref w12)])) _
    refine Jvm.RoadKit.acmp (g := (mkF m 4 #[.val (.ref w12)] [(.ref w10), (.ref w12)])) X1 hx rfl rfl rfl (pc0 := 4) (pc' := 7) (same := false) rfl (hb hby d2_4) rfl (decide_eq_false fun q => ne2 (Value.ref.inj q)) (by decide) (by decide) ?_
    show Steps p.tables e below (T1.setTop (mkF m 7 #[.val (.ref w12)] [])) _
    refine XS.aloadN X1.here hx rfl (hb hby d2_7) rfl rfl ?_
    show Steps p.tables e below (T1.setTop (mkF m 8 #[.val (.ref w12)] [(.ref w12)])) _
    refine st3 _ ?_
    show Steps p.tables e below (T3.setTop (mkF m 11 #[.val (.ref w12)] [(.ref w4), (.ref w12)])) _
    refine Jvm.RoadKit.acmp (g := (mkF m 11 #[.val (.ref w12)] [(.ref w4), (.ref w12)])) X3 hx rfl rfl rfl (pc0 := 11) (pc' := 14) (same := false) rfl (hb hby d2_11) rfl (decide_eq_false fun q => ne4 (Value.ref.inj q)) (by decide) (by decide) ?_
    show Steps p.tables e below (T3.setTop (mkF m 14 #[.val (.ref w12)] [])) _
    refine XS.aloadN X3.here hx rfl (hb hby d2_14) rfl rfl ?_
    show Steps p.tables e below (T3.setTop (mkF m 15 #[.val (.ref w12)] [(.ref w12)])) _
    refine st5 _ ?_
    show Steps p.tables e below (T5.setTop (mkF m 18 #[.val (.ref w12)] [(.ref w9), (.ref w12)])) _
    refine Jvm.RoadKit.acmp (g := (mkF m 18 #[.val (.ref w12)] [(.ref w9), (.ref w12)])) X5 hx rfl rfl rfl (pc0 := 18) (pc' := 25) (same := false) rfl (hb hby d2_18) rfl (decide_eq_false fun q => ne6 (Value.ref.inj q)) (by decide) (by decide) ?_
    show Steps p.tables e below (T5.setTop (mkF m 25 #[.val (.ref w12)] [])) _
    refine XS.iconst X5.here hx rfl (hb hby d2_25) ?_
    show Steps p.tables e below (T5.setTop (mkF m 26 #[.val (.ref w12)] [(.int (0 : Int32))])) _
    exact retN X5 hx (t := .boolean) Bd.returns (by simp) (hb hby d2_26) hr
  · show Qrm19 Z w0 w1 w2 w3 w4 w5 w6 w7 w8 w9 w10 w11 w12 h0 n0 _ T5.heap _
    rw [e5]
    exact ⟨rfl, N0, rfl⟩
def Qrm20 (Z : State) (w0 : Addr) (w1 : Addr) (w2 : Addr) (w3 : Addr) (w4 : Addr) (w5 : Addr) (w6 : Addr) (w7 : Addr) (w8 : Addr) (w9 : Addr) (w10 : Addr) (w11 : Addr) (w12 : Addr) (h0 : Heap) (n0 : Nat) (v : Option Value) (h : Heap) (L : List Loc) : Prop := v = some (.int (0 : Int32)) ∧ Fr n0 L ∧ h = h0
set_option maxRecDepth 65536 in
set_option maxHeartbeats 40000000 in
theorem rm20 (l : Launch) (Z : State) (a0 : Array Value) (hw : ∀ d ∈ tables_1, d.before a0 Z = true) (w0 : Addr) (w1 : Addr) (w2 : Addr) (w3 : Addr) (w4 : Addr) (w5 : Addr) (w6 : Addr) (w7 : Addr) (w8 : Addr) (w9 : Addr) (w10 : Addr) (w11 : Addr) (w12 : Addr) (hS : SF Z w0 w1 w2 w3 w4 w5 w6 w7 w8 w9 w10 w11 w12) (ws : List Jvm.Cond) (h0 : Heap) (n0 : Nat) (O0 : Old Z n0 h0) :
    MetFree l (⟨z0, z3, "()Z"⟩ : MethodName) (head1 (Jvm.Cond.code (⟨z0, z3, "()Z"⟩ : MethodName) prog_7_method_5_code 1 (some .boolean) :: ws) ({ frames := 0, cells := 0, slots := 0, locals := 0 } : Room)) (fun a U => a = #[(.ref w9)] ∧ Z.Warmed39 U.vm ∧ U.heap = h0) (fun _ _ _ _ _ => True) (fun _ U o U' => ∃ v L, o = .returned v ∧ Qrm20 Z w0 w1 w2 w3 w4 w5 w6 w7 w8 w9 w10 w11 w12 h0 n0 v U'.heap L ∧ FrameEnd U o U' L ({ frames := 0, cells := 0, slots := 0, locals := 0 } : Room).cells ({ frames := 0, cells := 0, slots := 0, locals := 0 } : Room).slots) := by
  refine MetFree.of_bodySF (plainFor_of_name pn28) hisR ?_
  intro p e s m args below meth c s₁ Bd hml0 hP hK
  obtain ⟨rfl, hZ, hh⟩ := hP
  have hx := Bd.exec
  have hby := Bd.bytes
  have hml : c.maxLocals = 1 := hml0
  have hown : s.vm.findClass z0 = some m.cls := findClass_of_methodNamed Bd.named
  have hnm := (name_of_methodNamed Bd.named Bd.method).1
  have X0 : Stand p l e ({ frames := 0, cells := 0, slots := 0, locals := 0 } : Room) s m #[(.ref w9)] below meth c s₁ [] 0 0 := Stand.of_body Bd
  have e0 : s₁.heap = h0 := by rw [← hh, Bd.state]; rfl
  have N0 := Fr.nil n0
  have pre0 : ∀ t, Steps p.tables e below (s₁.setTop (mkF m 0 #[.val (.ref w9)] [])) t → Steps p.tables e below (s₁.setTop (entryFrame m #[(.ref w9)] 1)) t := fun t k => castTop (ef27 m w9) k
  obtain ⟨T1, X1, e1, st1⟩ := getS2 X0 hx hZ hown (host := "") (Or.inl (hw _ m37)) Via.refl e0 (hS.2.2.2.2.2.2.2.2.2.2.2.2.2.2.2.2.2.2.1.ext O0.2) (g := (mkF m 1 #[.val (.ref w9)] [(.ref w9)])) rfl (hb hby d1_1)
  have ne2 : w9 ≠ w6 := (Fld.ne hS.2.2.2.2.2.2.2.2.2.2.2.2.2.2.2.2.2.2.2.2.2.2.2.2.2.2.2.2.2.1 hS.2.2.2.2.2.2.2.2.2.2.2.2.2.2.2.2.2.2.2.2.1 (fun q => absurd (Value.int.inj q) (by decide)))
  obtain ⟨T3, X3, e3, st3⟩ := getS2 X1 hx hZ hown (host := "") (Or.inl (hw _ m46)) Via.refl e1 (hS.2.2.2.2.2.2.1.ext O0.2) (g := (mkF m 8 #[.val (.ref w9)] [(.ref w9)])) rfl (hb hby d1_8)
  have ne4 : w9 ≠ w2 := (Fld.ne hS.2.2.2.2.2.2.2.2.2.2.2.2.2.2.2.2.2.2.2.2.2.2.2.2.2.2.2.2.2.1 hS.2.2.2.2.2.2.2.2.1 (fun q => absurd (Value.int.inj q) (by decide)))
  obtain ⟨T5, X5, e5, st5⟩ := getS2 X3 hx hZ hown (host := "") (Or.inl (hw _ m47)) Via.refl e3 (hS.2.2.2.2.2.2.2.2.2.2.2.2.2.2.2.2.2.2.2.2.2.2.2.2.2.2.2.2.2.2.2.2.2.2.2.2.1.ext O0.2) (g := (mkF m 15 #[.val (.ref w9)] [(.ref w9)])) rfl (hb hby d1_15)
  have ne6 : w9 ≠ w12 := (Fld.ne hS.2.2.2.2.2.2.2.2.2.2.2.2.2.2.2.2.2.2.2.2.2.2.2.2.2.2.2.2.2.1 hS.2.2.2.2.2.2.2.2.2.2.2.2.2.2.2.2.2.2.2.2.2.2.2.2.2.2.2.2.2.2.2.2.2.2.2.2.2.2 (fun q => absurd (Value.int.inj q) (by decide)))
  obtain ⟨T7, X7, e7, st7⟩ := getS2 X5 hx hZ hown (host := "") (Or.inl (hw _ m48)) Via.refl e5 (hS.2.2.2.1.ext O0.2) (g := (mkF m 22 #[.val (.ref w9)] [(.ref w9)])) rfl (hb hby d1_22)
  have ne8 : w9 ≠ w1 := (Fld.ne hS.2.2.2.2.2.2.2.2.2.2.2.2.2.2.2.2.2.2.2.2.2.2.2.2.2.2.2.2.2.1 hS.2.2.2.2.2.1 (fun q => absurd (Value.int.inj q) (by decide)))
  obtain ⟨T9, X9, e9, st9⟩ := getS2 X7 hx hZ hown (host := "") (Or.inl (hw _ m49)) Via.refl e7 (hS.2.2.2.2.2.2.2.2.2.2.2.2.2.2.2.2.2.2.2.2.2.1.ext O0.2) (g := (mkF m 29 #[.val (.ref w9)] [(.ref w9)])) rfl (hb hby d1_29)
  have ne10 : w9 ≠ w7 := (Fld.ne hS.2.2.2.2.2.2.2.2.2.2.2.2.2.2.2.2.2.2.2.2.2.2.2.2.2.2.2.2.2.1 hS.2.2.2.2.2.2.2.2.2.2.2.2.2.2.2.2.2.2.2.2.2.2.2.1 (fun q => absurd (Value.int.inj q) (by decide)))
  obtain ⟨T11, X11, e11, st11⟩ := getS2 X9 hx hZ hown (host := "") (Or.inl (hw _ m50)) Via.refl e9 (hS.2.2.2.2.2.2.2.2.2.2.2.2.2.2.2.1.ext O0.2) (g := (mkF m 36 #[.val (.ref w9)] [(.ref w9)])) rfl (hb hby d1_36)
  have ne12 : w9 ≠ w5 := (Fld.ne hS.2.2.2.2.2.2.2.2.2.2.2.2.2.2.2.2.2.2.2.2.2.2.2.2.2.2.2.2.2.1 hS.2.2.2.2.2.2.2.2.2.2.2.2.2.2.2.2.2.1 (fun q => absurd (Value.int.inj q) (by decide)))
  obtain ⟨T13, X13, e13, st13⟩ := getS2 X11 hx hZ hown (host := "") (Or.inl (hw _ m51)) Via.refl e11 (hS.2.2.2.2.2.2.2.2.2.2.2.2.2.2.2.2.2.2.2.2.2.2.2.2.2.2.2.2.2.2.2.2.2.1.ext O0.2) (g := (mkF m 43 #[.val (.ref w9)] [(.ref w9)])) rfl (hb hby d1_43)
  have ne14 : w9 ≠ w11 := (Fld.ne hS.2.2.2.2.2.2.2.2.2.2.2.2.2.2.2.2.2.2.2.2.2.2.2.2.2.2.2.2.2.1 hS.2.2.2.2.2.2.2.2.2.2.2.2.2.2.2.2.2.2.2.2.2.2.2.2.2.2.2.2.2.2.2.2.2.2.2.1 (fun q => absurd (Value.int.inj q) (by decide)))
  obtain ⟨fs, hr, hrun, hended, hW, hsame⟩ := X13.leave (v := some (.int (0 : Int32))) (fun h => by rw [Bd.returns] at h; cases h)
  refine ⟨_, _, pre0 _ ?_, hrun, hended, _, _, rfl, ?_, ⟨_, rfl⟩, hW, hsame.mono (by decide) (by decide)⟩
  · show Steps p.tables e below (s₁.setTop (mkF m 0 #[.val (.ref w9)] [])) _
    refine XS.aloadN X0.here hx rfl (hb hby d1_0) rfl rfl ?_
    show Steps p.tables e below (s₁.setTop (mkF m 1 #[.val (.ref w9)] [(.ref w9)])) _
    refine st1 _ ?_
    show Steps p.tables e below (T1.setTop (mkF m 4 #[.val (.ref w9)] [(.ref w6), (.ref w9)])) _
    refine Jvm.RoadKit.acmp (g := (mkF m 4 #[.val (.ref w9)] [(.ref w6), (.ref w9)])) X1 hx rfl rfl rfl (pc0 := 4) (pc' := 7) (same := false) rfl (hb hby d1_4) rfl (decide_eq_false fun q => ne2 (Value.ref.inj q)) (by decide) (by decide) ?_
    show Steps p.tables e below (T1.setTop (mkF m 7 #[.val (.ref w9)] [])) _
    refine XS.aloadN X1.here hx rfl (hb hby d1_7) rfl rfl ?_
    show Steps p.tables e below (T1.setTop (mkF m 8 #[.val (.ref w9)] [(.ref w9)])) _
    refine st3 _ ?_
    show Steps p.tables e below (T3.setTop (mkF m 11 #[.val (.ref w9)] [(.ref w2), (.ref w9)])) _
    refine Jvm.RoadKit.acmp (g := (mkF m 11 #[.val (.ref w9)] [(.ref w2), (.ref w9)])) X3 hx rfl rfl rfl (pc0 := 11) (pc' := 14) (same := false) rfl (hb hby d1_11) rfl (decide_eq_false fun q => ne4 (Value.ref.inj q)) (by decide) (by decide) ?_
    show Steps p.tables e below (T3.setTop (mkF m 14 #[.val (.ref w9)] [])) _
    refine XS.aloadN X3.here hx rfl (hb hby d1_14) rfl rfl ?_
    show Steps p.tables e below (T3.setTop (mkF m 15 #[.val (.ref w9)] [(.ref w9)])) _
    refine st5 _ ?_
    show Steps p.tables e below (T5.setTop (mkF m 18 #[.val (.ref w9)] [(.ref w12), (.ref w9)])) _
    refine Jvm.RoadKit.acmp (g := (mkF m 18 #[.val (.ref w9)] [(.ref w12), (.ref w9)])) X5 hx rfl rfl rfl (pc0 := 18) (pc' := 21) (same := false) rfl (hb hby d1_18) rfl (decide_eq_false fun q => ne6 (Value.ref.inj q)) (by decide) (by decide) ?_
    show Steps p.tables e below (T5.setTop (mkF m 21 #[.val (.ref w9)] [])) _
    refine XS.aloadN X5.here hx rfl (hb hby d1_21) rfl rfl ?_
    show Steps p.tables e below (T5.setTop (mkF m 22 #[.val (.ref w9)] [(.ref w9)])) _
    refine st7 _ ?_
    show Steps p.tables e below (T7.setTop (mkF m 25 #[.val (.ref w9)] [(.ref w1), (.ref w9)])) _
    refine Jvm.RoadKit.acmp (g := (mkF m 25 #[.val (.ref w9)] [(.ref w1), (.ref w9)])) X7 hx rfl rfl rfl (pc0 := 25) (pc' := 28) (same := false) rfl (hb hby d1_25) rfl (decide_eq_false fun q => ne8 (Value.ref.inj q)) (by decide) (by decide) ?_
    show Steps p.tables e below (T7.setTop (mkF m 28 #[.val (.ref w9)] [])) _
    refine XS.aloadN X7.here hx rfl (hb hby d1_28) rfl rfl ?_
    show Steps p.tables e below (T7.setTop (mkF m 29 #[.val (.ref w9)] [(.ref w9)])) _
    refine st9 _ ?_
    show Steps p.tables e below (T9.setTop (mkF m 32 #[.val (.ref w9)] [(.ref w7), (.ref w9)])) _
    refine Jvm.RoadKit.acmp (g := (mkF m 32 #[.val (.ref w9)] [(.ref w7), (.ref w9)])) X9 hx rfl rfl rfl (pc0 := 32) (pc' := 35) (same := false) rfl (hb hby d1_32) rfl (decide_eq_false fun q => ne10 (Value.ref.inj q)) (by decide) (by decide) ?_
    show Steps p.tables e below (T9.setTop (mkF m 35 #[.val (.ref w9)] [])) _
    refine XS.aloadN X9.here hx rfl (hb hby d1_35) rfl rfl ?_
    show Steps p.tables e below (T9.setTop (mkF m 36 #[.val (.ref w9)] [(.ref w9)])) _
    refine st11 _ ?_
    show Steps p.tables e below (T11.setTop (mkF m 39 #[.val (.ref w9)] [(.ref w5), (.ref w9)])) _
    refine Jvm.RoadKit.acmp (g := (mkF m 39 #[.val (.ref w9)] [(.ref w5), (.ref w9)])) X11 hx rfl rfl rfl (pc0 := 39) (pc' := 42) (same := false) rfl (hb hby d1_39) rfl (decide_eq_false fun q => ne12 (Value.ref.inj q)) (by decide) (by decide) ?_
    show Steps p.tables e below (T11.setTop (mkF m 42 #[.val (.ref w9)] [])) _
    refine XS.aloadN X11.here hx rfl (hb hby d1_42) rfl rfl ?_
    show Steps p.tables e below (T11.setTop (mkF m 43 #[.val (.ref w9)] [(.ref w9)])) _
    refine st13 _ ?_
    show Steps p.tables e below (T13.setTop (mkF m 46 #[.val (.ref w9)] [(.ref w11), (.ref w9)])) _
    refine Jvm.RoadKit.acmp (g := (mkF m 46 #[.val (.ref w9)] [(.ref w11), (.ref w9)])) X13 hx rfl rfl rfl (pc0 := 46) (pc' := 53) (same := false) rfl (hb hby d1_46) rfl (decide_eq_false fun q => ne14 (Value.ref.inj q)) (by decide) (by decide) ?_
    show Steps p.tables e below (T13.setTop (mkF m 53 #[.val (.ref w9)] [])) _
    refine XS.iconst X13.here hx rfl (hb hby d1_53) ?_
    show Steps p.tables e below (T13.setTop (mkF m 54 #[.val (.ref w9)] [(.int (0 : Int32))])) _
    exact retN X13 hx (t := .boolean) Bd.returns (by simp) (hb hby d1_54) hr
  · show Qrm20 Z w0 w1 w2 w3 w4 w5 w6 w7 w8 w9 w10 w11 w12 h0 n0 _ T13.heap _
    rw [e13]
    exact ⟨rfl, N0, rfl⟩
def QL (n0 : Nat) (v : Option Value) (h : Heap) (L : List Loc) : Prop := v = some (.int (1 : Int32)) ∧ Fr n0 L
set_option maxRecDepth 65536 in
set_option maxHeartbeats 40000000 in
theorem rm0 (l : Launch) (Z : State) (a0 : Array Value) (hw : ∀ d ∈ tables_1, d.before a0 Z = true) (w0 : Addr) (w1 : Addr) (w2 : Addr) (w3 : Addr) (w4 : Addr) (w5 : Addr) (w6 : Addr) (w7 : Addr) (w8 : Addr) (w9 : Addr) (w10 : Addr) (w11 : Addr) (w12 : Addr) (hS : SF Z w0 w1 w2 w3 w4 w5 w6 w7 w8 w9 w10 w11 w12) (ws : List Jvm.Cond) (i0 : Int32) (h0 : Heap) (n0 : Nat) (O0 : Old Z n0 h0) :
    MetFree l x (head1 (Jvm.Cond.code x code maxLocals ret :: ws) room_1) (fun a U => a = #[(.int i0)] ∧ Z.Warmed39 U.vm ∧ U.heap = h0) (fun _ _ _ _ _ => True) (fun _ U o U' => ∃ v L, o = .returned v ∧ QL n0 v U'.heap L ∧ FrameEnd U o U' L room_1.cells room_1.slots) := by
  refine MetFree.of_bodySF (plainFor_of_name pn54) hisR ?_
  intro p e s m args below meth c s₁ Bd hml0 hP hK
  obtain ⟨rfl, hZ, hh⟩ := hP
  have hx := Bd.exec
  have hby := Bd.bytes
  have hml : c.maxLocals = 6 := hml0
  have hown : s.vm.findClass z2 = some m.cls := findClass_of_methodNamed Bd.named
  have hnm := (name_of_methodNamed Bd.named Bd.method).1
  have X0 : Stand p l e room_1 s m #[(.int i0)] below meth c s₁ [] 0 0 := Stand.of_body Bd
  have e0 : s₁.heap = h0 := by rw [← hh, Bd.state]; rfl
  have N0 := Fr.nil n0
  have pre0 : ∀ t, Steps p.tables e below (s₁.setTop (mkF m 0 #[.val (.int i0), .unset, .unset, .unset, .unset, .unset] [])) t → Steps p.tables e below (s₁.setTop (entryFrame m #[(.int i0)] maxLocals)) t := fun t k => castTop (ef53 m i0) k
  obtain ⟨T1, h1, k1, X1, e1, E1, A1, O'1, st1⟩ := newR X0 hx hZ hown (hw _ m0) (hw _ m1) e0 (g := (mkF m 2 #[.val (.int i0), .unset, .unset, .unset, .unset, .unset] [(.int (13 : Int32))])) rfl (hb hby at_2) rfl (by decide) (cap := 13) (by decide) (by decide) (by decide) (by decide)
  obtain ⟨b1, g1⟩ : ∃ z, z = h0.size := ⟨_, rfl⟩
  rw [← g1] at A1 st1
  have O1 : Old Z n0 h1 := O0.ext E1
  have K1 : Keep h0 h1 [] := (Keep.refl h0 []).ext E1
  have V1 : Arv Z h1 b1 k1 (.object z0) (13 : Int32) [.null, .null, .null, .null, .null, .null, .null, .null, .null, .null, .null, .null, .null] .null := (Arv.new A1 (by decide)).pad (pad_rep [] .null 13)
  obtain ⟨T2, X2, e2, st2⟩ := getS2 X1 hx hZ hown (host := "") (Or.inl (hw _ m2)) Via.refl e1 (hS.2.2.2.2.2.2.2.2.2.2.2.2.2.2.2.2.2.2.1.ext O1.2) (g := (mkF m 7 #[.val (.int i0), .unset, .unset, .unset, .unset, .unset] [(.int (0 : Int32)), (.ref b1), (.ref b1)])) rfl (hb hby at_7)
  have Vo_3 := V1
  obtain ⟨cl_3, Ar_3, q_3, Sz_3, Ng_3, Hs_3, Gt_3⟩ := Vo_3
  have hin4 : ¬ ((0 : Int32) < 0 ∨ cl_3.slots.size ≤ ((0 : Int32)).toNatClampNeg) := inb_of Sz_3 ⟨by decide, by decide⟩
  obtain ⟨T5, h5, X5, e5, W5, st5⟩ := stR X2 hx hZ e2 Ar_3 (j := (0 : Int32)) hin4 rfl (Sto.ofV Ar_3 q_3 O'1 (Ins.self (hS.2.2.2.2.2.2.2.2.2.2.2.2.2.2.2.2.2.2.2.1.ext O1.2))) (g := (mkF m 10 #[.val (.int i0), .unset, .unset, .unset, .unset, .unset] [(.ref w6), (.int (0 : Int32)), (.ref b1), (.ref b1)])) rfl rfl (hb hby at_10)
  have O5 : Old Z n0 h5 := O1.wr W5 (Nat.le_trans (own_old_le O0) (Nat.le_of_eq g1.symm))
  have K5 : Keep h0 h5 [] := K1.wr W5 (Or.inr (Nat.le_trans (Keep.refl h0 []).1 (Nat.le_of_eq g1.symm)))
  have N5 := Fr.snoc X5 N0 (Nat.le_trans (own_old_le O0) (Nat.le_of_eq g1.symm))
  have V5 : Arv Z h5 b1 k1 (.object z0) (13 : Int32) [(.ref w6), .null, .null, .null, .null, .null, .null, .null, .null, .null, .null, .null, .null] .null := Arv.set Ar_3 q_3 Sz_3 Ng_3 Hs_3 Gt_3 rfl W5 0 rfl (Nat.le_of_ble_eq_true rfl)
  obtain ⟨T6, X6, e6, st6⟩ := getS2 X5 hx hZ hown (host := "") (Or.inl (hw _ m6)) Via.refl e5 (hS.2.2.2.2.2.2.2.2.2.2.2.2.2.2.2.2.2.2.2.2.2.2.2.2.2.2.2.2.2.2.1.ext O5.2) (g := (mkF m 13 #[.val (.int i0), .unset, .unset, .unset, .unset, .unset] [(.int (1 : Int32)), (.ref b1), (.ref b1)])) rfl (hb hby at_13)
  have Vo_7 := V5
  obtain ⟨cl_7, Ar_7, q_7, Sz_7, Ng_7, Hs_7, Gt_7⟩ := Vo_7
  have hin8 : ¬ ((1 : Int32) < 0 ∨ cl_7.slots.size ≤ ((1 : Int32)).toNatClampNeg) := inb_of Sz_7 ⟨by decide, by decide⟩
  obtain ⟨T9, h9, X9, e9, W9, st9⟩ := stR X6 hx hZ e6 Ar_7 (j := (1 : Int32)) hin8 rfl (Sto.ofV Ar_7 q_7 O'1 (Ins.self (hS.2.2.2.2.2.2.2.2.2.2.2.2.2.2.2.2.2.2.2.2.2.2.2.2.2.2.2.2.2.2.2.1.ext O5.2))) (g := (mkF m 16 #[.val (.int i0), .unset, .unset, .unset, .unset, .unset] [(.ref w10), (.int (1 : Int32)), (.ref b1), (.ref b1)])) rfl rfl (hb hby at_16)
  have O9 : Old Z n0 h9 := O5.wr W9 (Nat.le_trans (own_old_le O0) (Nat.le_of_eq g1.symm))
  have K9 : Keep h0 h9 [] := K5.wr W9 (Or.inr (Nat.le_trans (Keep.refl h0 []).1 (Nat.le_of_eq g1.symm)))
  have N9 := Fr.snoc X9 N5 (Nat.le_trans (own_old_le O0) (Nat.le_of_eq g1.symm))
  have V9 : Arv Z h9 b1 k1 (.object z0) (13 : Int32) [(.ref w6), (.ref w10), .null, .null, .null, .null, .null, .null, .null, .null, .null, .null, .null] .null := Arv.set Ar_7 q_7 Sz_7 Ng_7 Hs_7 Gt_7 rfl W9 1 rfl (Nat.le_of_ble_eq_true rfl)
  obtain ⟨T10, X10, e10, st10⟩ := getS2 X9 hx hZ hown (host := "") (Or.inl (hw _ m8)) Via.refl e9 (hS.2.2.2.2.2.2.2.2.2.2.2.2.1.ext O9.2) (g := (mkF m 19 #[.val (.int i0), .unset, .unset, .unset, .unset, .unset] [(.int (2 : Int32)), (.ref b1), (.ref b1)])) rfl (hb hby at_19)
  have Vo_11 := V9
  obtain ⟨cl_11, Ar_11, q_11, Sz_11, Ng_11, Hs_11, Gt_11⟩ := Vo_11
  have hin12 : ¬ ((2 : Int32) < 0 ∨ cl_11.slots.size ≤ ((2 : Int32)).toNatClampNeg) := inb_of Sz_11 ⟨by decide, by decide⟩
  obtain ⟨T13, h13, X13, e13, W13, st13⟩ := stR X10 hx hZ e10 Ar_11 (j := (2 : Int32)) hin12 rfl (Sto.ofV Ar_11 q_11 O'1 (Ins.self (hS.2.2.2.2.2.2.2.2.2.2.2.2.2.1.ext O9.2))) (g := (mkF m 22 #[.val (.int i0), .unset, .unset, .unset, .unset, .unset] [(.ref w4), (.int (2 : Int32)), (.ref b1), (.ref b1)])) rfl rfl (hb hby at_22)
  have O13 : Old Z n0 h13 := O9.wr W13 (Nat.le_trans (own_old_le O0) (Nat.le_of_eq g1.symm))
  have K13 : Keep h0 h13 [] := K9.wr W13 (Or.inr (Nat.le_trans (Keep.refl h0 []).1 (Nat.le_of_eq g1.symm)))
  have N13 := Fr.snoc X13 N9 (Nat.le_trans (own_old_le O0) (Nat.le_of_eq g1.symm))
  have V13 : Arv Z h13 b1 k1 (.object z0) (13 : Int32) [(.ref w6), (.ref w10), (.ref w4), .null, .null, .null, .null, .null, .null, .null, .null, .null, .null] .null := Arv.set Ar_11 q_11 Sz_11 Ng_11 Hs_11 Gt_11 rfl W13 2 rfl (Nat.le_of_ble_eq_true rfl)
  obtain ⟨T14, X14, e14, st14⟩ := getS2 X13 hx hZ hown (host := "") (Or.inl (hw _ m10)) Via.refl e13 (hS.2.2.2.1.ext O13.2) (g := (mkF m 25 #[.val (.int i0), .unset, .unset, .unset, .unset, .unset] [(.int (3 : Int32)), (.ref b1), (.ref b1)])) rfl (hb hby at_25)
  have Vo_15 := V13
  obtain ⟨cl_15, Ar_15, q_15, Sz_15, Ng_15, Hs_15, Gt_15⟩ := Vo_15
  have hin16 : ¬ ((3 : Int32) < 0 ∨ cl_15.slots.size ≤ ((3 : Int32)).toNatClampNeg) := inb_of Sz_15 ⟨by decide, by decide⟩
  obtain ⟨T17, h17, X17, e17, W17, st17⟩ := stR X14 hx hZ e14 Ar_15 (j := (3 : Int32)) hin16 rfl (Sto.ofV Ar_15 q_15 O'1 (Ins.self (hS.2.2.2.2.1.ext O13.2))) (g := (mkF m 28 #[.val (.int i0), .unset, .unset, .unset, .unset, .unset] [(.ref w1), (.int (3 : Int32)), (.ref b1), (.ref b1)])) rfl rfl (hb hby at_28)
  have O17 : Old Z n0 h17 := O13.wr W17 (Nat.le_trans (own_old_le O0) (Nat.le_of_eq g1.symm))
  have K17 : Keep h0 h17 [] := K13.wr W17 (Or.inr (Nat.le_trans (Keep.refl h0 []).1 (Nat.le_of_eq g1.symm)))
  have N17 := Fr.snoc X17 N13 (Nat.le_trans (own_old_le O0) (Nat.le_of_eq g1.symm))
  have V17 : Arv Z h17 b1 k1 (.object z0) (13 : Int32) [(.ref w6), (.ref w10), (.ref w4), (.ref w1), .null, .null, .null, .null, .null, .null, .null, .null, .null] .null := Arv.set Ar_15 q_15 Sz_15 Ng_15 Hs_15 Gt_15 rfl W17 3 rfl (Nat.le_of_ble_eq_true rfl)
  obtain ⟨T18, X18, e18, st18⟩ := getS2 X17 hx hZ hown (host := "") (Or.inl (hw _ m12)) Via.refl e17 (hS.2.2.2.2.2.2.2.2.2.2.2.2.2.2.2.2.2.2.2.2.2.1.ext O17.2) (g := (mkF m 31 #[.val (.int i0), .unset, .unset, .unset, .unset, .unset] [(.int (4 : Int32)), (.ref b1), (.ref b1)])) rfl (hb hby at_31)
  have Vo_19 := V17
  obtain ⟨cl_19, Ar_19, q_19, Sz_19, Ng_19, Hs_19, Gt_19⟩ := Vo_19
  have hin20 : ¬ ((4 : Int32) < 0 ∨ cl_19.slots.size ≤ ((4 : Int32)).toNatClampNeg) := inb_of Sz_19 ⟨by decide, by decide⟩
  obtain ⟨T21, h21, X21, e21, W21, st21⟩ := stR X18 hx hZ e18 Ar_19 (j := (4 : Int32)) hin20 rfl (Sto.ofV Ar_19 q_19 O'1 (Ins.self (hS.2.2.2.2.2.2.2.2.2.2.2.2.2.2.2.2.2.2.2.2.2.2.1.ext O17.2))) (g := (mkF m 34 #[.val (.int i0), .unset, .unset, .unset, .unset, .unset] [(.ref w7), (.int (4 : Int32)), (.ref b1), (.ref b1)])) rfl rfl (hb hby at_34)
  have O21 : Old Z n0 h21 := O17.wr W21 (Nat.le_trans (own_old_le O0) (Nat.le_of_eq g1.symm))
  have K21 : Keep h0 h21 [] := K17.wr W21 (Or.inr (Nat.le_trans (Keep.refl h0 []).1 (Nat.le_of_eq g1.symm)))
  have N21 := Fr.snoc X21 N17 (Nat.le_trans (own_old_le O0) (Nat.le_of_eq g1.symm))
  have V21 : Arv Z h21 b1 k1 (.object z0) (13 : Int32) [(.ref w6), (.ref w10), (.ref w4), (.ref w1), (.ref w7), .null, .null, .null, .null, .null, .null, .null, .null] .null := Arv.set Ar_19 q_19 Sz_19 Ng_19 Hs_19 Gt_19 rfl W21 4 rfl (Nat.le_of_ble_eq_true rfl)
  obtain ⟨T22, X22, e22, st22⟩ := getS2 X21 hx hZ hown (host := "") (Or.inl (hw _ m14)) Via.refl e21 (hS.2.2.2.2.2.2.2.2.2.2.2.2.2.2.2.1.ext O21.2) (g := (mkF m 37 #[.val (.int i0), .unset, .unset, .unset, .unset, .unset] [(.int (5 : Int32)), (.ref b1), (.ref b1)])) rfl (hb hby at_37)
  have Vo_23 := V21
  obtain ⟨cl_23, Ar_23, q_23, Sz_23, Ng_23, Hs_23, Gt_23⟩ := Vo_23
  have hin24 : ¬ ((5 : Int32) < 0 ∨ cl_23.slots.size ≤ ((5 : Int32)).toNatClampNeg) := inb_of Sz_23 ⟨by decide, by decide⟩
  obtain ⟨T25, h25, X25, e25, W25, st25⟩ := stR X22 hx hZ e22 Ar_23 (j := (5 : Int32)) hin24 rfl (Sto.ofV Ar_23 q_23 O'1 (Ins.self (hS.2.2.2.2.2.2.2.2.2.2.2.2.2.2.2.2.1.ext O21.2))) (g := (mkF m 40 #[.val (.int i0), .unset, .unset, .unset, .unset, .unset] [(.ref w5), (.int (5 : Int32)), (.ref b1), (.ref b1)])) rfl rfl (hb hby at_40)
  have O25 : Old Z n0 h25 := O21.wr W25 (Nat.le_trans (own_old_le O0) (Nat.le_of_eq g1.symm))
  have K25 : Keep h0 h25 [] := K21.wr W25 (Or.inr (Nat.le_trans (Keep.refl h0 []).1 (Nat.le_of_eq g1.symm)))
  have N25 := Fr.snoc X25 N21 (Nat.le_trans (own_old_le O0) (Nat.le_of_eq g1.symm))
  have V25 : Arv Z h25 b1 k1 (.object z0) (13 : Int32) [(.ref w6), (.ref w10), (.ref w4), (.ref w1), (.ref w7), (.ref w5), .null, .null, .null, .null, .null, .null, .null] .null := Arv.set Ar_23 q_23 Sz_23 Ng_23 Hs_23 Gt_23 rfl W25 5 rfl (Nat.le_of_ble_eq_true rfl)
  obtain ⟨T26, X26, e26, st26⟩ := getS2 X25 hx hZ hown (host := "") (Or.inl (hw _ m16)) Via.refl e25 (hS.2.2.2.2.2.2.2.2.2.2.2.2.2.2.2.2.2.2.2.2.2.2.2.2.2.2.2.2.2.2.2.2.2.1.ext O25.2) (g := (mkF m 44 #[.val (.int i0), .unset, .unset, .unset, .unset, .unset] [(.int (6 : Int32)), (.ref b1), (.ref b1)])) rfl (hb hby at_44)
  have Vo_27 := V25
  obtain ⟨cl_27, Ar_27, q_27, Sz_27, Ng_27, Hs_27, Gt_27⟩ := Vo_27
  have hin28 : ¬ ((6 : Int32) < 0 ∨ cl_27.slots.size ≤ ((6 : Int32)).toNatClampNeg) := inb_of Sz_27 ⟨by decide, by decide⟩
  obtain ⟨T29, h29, X29, e29, W29, st29⟩ := stR X26 hx hZ e26 Ar_27 (j := (6 : Int32)) hin28 rfl (Sto.ofV Ar_27 q_27 O'1 (Ins.self (hS.2.2.2.2.2.2.2.2.2.2.2.2.2.2.2.2.2.2.2.2.2.2.2.2.2.2.2.2.2.2.2.2.2.2.1.ext O25.2))) (g := (mkF m 47 #[.val (.int i0), .unset, .unset, .unset, .unset, .unset] [(.ref w11), (.int (6 : Int32)), (.ref b1), (.ref b1)])) rfl rfl (hb hby at_47)
  have O29 : Old Z n0 h29 := O25.wr W29 (Nat.le_trans (own_old_le O0) (Nat.le_of_eq g1.symm))
  have K29 : Keep h0 h29 [] := K25.wr W29 (Or.inr (Nat.le_trans (Keep.refl h0 []).1 (Nat.le_of_eq g1.symm)))
  have N29 := Fr.snoc X29 N25 (Nat.le_trans (own_old_le O0) (Nat.le_of_eq g1.symm))
  have V29 : Arv Z h29 b1 k1 (.object z0) (13 : Int32) [(.ref w6), (.ref w10), (.ref w4), (.ref w1), (.ref w7), (.ref w5), (.ref w11), .null, .null, .null, .null, .null, .null] .null := Arv.set Ar_27 q_27 Sz_27 Ng_27 Hs_27 Gt_27 rfl W29 6 rfl (Nat.le_of_ble_eq_true rfl)
  obtain ⟨T30, X30, e30, st30⟩ := getS2 X29 hx hZ hown (host := "") (Or.inl (hw _ m18)) Via.refl e29 (hS.2.2.2.2.2.2.1.ext O29.2) (g := (mkF m 51 #[.val (.int i0), .unset, .unset, .unset, .unset, .unset] [(.int (7 : Int32)), (.ref b1), (.ref b1)])) rfl (hb hby at_51)
  have Vo_31 := V29
  obtain ⟨cl_31, Ar_31, q_31, Sz_31, Ng_31, Hs_31, Gt_31⟩ := Vo_31
  have hin32 : ¬ ((7 : Int32) < 0 ∨ cl_31.slots.size ≤ ((7 : Int32)).toNatClampNeg) := inb_of Sz_31 ⟨by decide, by decide⟩
  obtain ⟨T33, h33, X33, e33, W33, st33⟩ := stR X30 hx hZ e30 Ar_31 (j := (7 : Int32)) hin32 rfl (Sto.ofV Ar_31 q_31 O'1 (Ins.self (hS.2.2.2.2.2.2.2.1.ext O29.2))) (g := (mkF m 54 #[.val (.int i0), .unset, .unset, .unset, .unset, .unset] [(.ref w2), (.int (7 : Int32)), (.ref b1), (.ref b1)])) rfl rfl (hb hby at_54)
  have O33 : Old Z n0 h33 := O29.wr W33 (Nat.le_trans (own_old_le O0) (Nat.le_of_eq g1.symm))
  have K33 : Keep h0 h33 [] := K29.wr W33 (Or.inr (Nat.le_trans (Keep.refl h0 []).1 (Nat.le_of_eq g1.symm)))
  have N33 := Fr.snoc X33 N29 (Nat.le_trans (own_old_le O0) (Nat.le_of_eq g1.symm))
  have V33 : Arv Z h33 b1 k1 (.object z0) (13 : Int32) [(.ref w6), (.ref w10), (.ref w4), (.ref w1), (.ref w7), (.ref w5), (.ref w11), (.ref w2), .null, .null, .null, .null, .null] .null := Arv.set Ar_31 q_31 Sz_31 Ng_31 Hs_31 Gt_31 rfl W33 7 rfl (Nat.le_of_ble_eq_true rfl)
  obtain ⟨T34, X34, e34, st34⟩ := getS2 X33 hx hZ hown (host := "") (Or.inl (hw _ m20)) Via.refl e33 (hS.2.2.2.2.2.2.2.2.2.1.ext O33.2) (g := (mkF m 58 #[.val (.int i0), .unset, .unset, .unset, .unset, .unset] [(.int (8 : Int32)), (.ref b1), (.ref b1)])) rfl (hb hby at_58)
  have Vo_35 := V33
  obtain ⟨cl_35, Ar_35, q_35, Sz_35, Ng_35, Hs_35, Gt_35⟩ := Vo_35
  have hin36 : ¬ ((8 : Int32) < 0 ∨ cl_35.slots.size ≤ ((8 : Int32)).toNatClampNeg) := inb_of Sz_35 ⟨by decide, by decide⟩
  obtain ⟨T37, h37, X37, e37, W37, st37⟩ := stR X34 hx hZ e34 Ar_35 (j := (8 : Int32)) hin36 rfl (Sto.ofV Ar_35 q_35 O'1 (Ins.self (hS.2.2.2.2.2.2.2.2.2.2.1.ext O33.2))) (g := (mkF m 61 #[.val (.int i0), .unset, .unset, .unset, .unset, .unset] [(.ref w3), (.int (8 : Int32)), (.ref b1), (.ref b1)])) rfl rfl (hb hby at_61)
  have O37 : Old Z n0 h37 := O33.wr W37 (Nat.le_trans (own_old_le O0) (Nat.le_of_eq g1.symm))
  have K37 : Keep h0 h37 [] := K33.wr W37 (Or.inr (Nat.le_trans (Keep.refl h0 []).1 (Nat.le_of_eq g1.symm)))
  have N37 := Fr.snoc X37 N33 (Nat.le_trans (own_old_le O0) (Nat.le_of_eq g1.symm))
  have V37 : Arv Z h37 b1 k1 (.object z0) (13 : Int32) [(.ref w6), (.ref w10), (.ref w4), (.ref w1), (.ref w7), (.ref w5), (.ref w11), (.ref w2), (.ref w3), .null, .null, .null, .null] .null := Arv.set Ar_35 q_35 Sz_35 Ng_35 Hs_35 Gt_35 rfl W37 8 rfl (Nat.le_of_ble_eq_true rfl)
  obtain ⟨T38, X38, e38, st38⟩ := getS2 X37 hx hZ hown (host := "") (Or.inl (hw _ m22)) Via.refl e37 (hS.1.ext O37.2) (g := (mkF m 65 #[.val (.int i0), .unset, .unset, .unset, .unset, .unset] [(.int (9 : Int32)), (.ref b1), (.ref b1)])) rfl (hb hby at_65)
  have Vo_39 := V37
  obtain ⟨cl_39, Ar_39, q_39, Sz_39, Ng_39, Hs_39, Gt_39⟩ := Vo_39
  have hin40 : ¬ ((9 : Int32) < 0 ∨ cl_39.slots.size ≤ ((9 : Int32)).toNatClampNeg) := inb_of Sz_39 ⟨by decide, by decide⟩
  obtain ⟨T41, h41, X41, e41, W41, st41⟩ := stR X38 hx hZ e38 Ar_39 (j := (9 : Int32)) hin40 rfl (Sto.ofV Ar_39 q_39 O'1 (Ins.self (hS.2.1.ext O37.2))) (g := (mkF m 68 #[.val (.int i0), .unset, .unset, .unset, .unset, .unset] [(.ref w0), (.int (9 : Int32)), (.ref b1), (.ref b1)])) rfl rfl (hb hby at_68)
  have O41 : Old Z n0 h41 := O37.wr W41 (Nat.le_trans (own_old_le O0) (Nat.le_of_eq g1.symm))
  have K41 : Keep h0 h41 [] := K37.wr W41 (Or.inr (Nat.le_trans (Keep.refl h0 []).1 (Nat.le_of_eq g1.symm)))
  have N41 := Fr.snoc X41 N37 (Nat.le_trans (own_old_le O0) (Nat.le_of_eq g1.symm))
  have V41 : Arv Z h41 b1 k1 (.object z0) (13 : Int32) [(.ref w6), (.ref w10), (.ref w4), (.ref w1), (.ref w7), (.ref w5), (.ref w11), (.ref w2), (.ref w3), (.ref w0), .null, .null, .null] .null := Arv.set Ar_39 q_39 Sz_39 Ng_39 Hs_39 Gt_39 rfl W41 9 rfl (Nat.le_of_ble_eq_true rfl)
  obtain ⟨T42, X42, e42, st42⟩ := getS2 X41 hx hZ hown (host := "") (Or.inl (hw _ m24)) Via.refl e41 (hS.2.2.2.2.2.2.2.2.2.2.2.2.2.2.2.2.2.2.2.2.2.2.2.2.1.ext O41.2) (g := (mkF m 72 #[.val (.int i0), .unset, .unset, .unset, .unset, .unset] [(.int (10 : Int32)), (.ref b1), (.ref b1)])) rfl (hb hby at_72)
  have Vo_43 := V41
  obtain ⟨cl_43, Ar_43, q_43, Sz_43, Ng_43, Hs_43, Gt_43⟩ := Vo_43
  have hin44 : ¬ ((10 : Int32) < 0 ∨ cl_43.slots.size ≤ ((10 : Int32)).toNatClampNeg) := inb_of Sz_43 ⟨by decide, by decide⟩
  obtain ⟨T45, h45, X45, e45, W45, st45⟩ := stR X42 hx hZ e42 Ar_43 (j := (10 : Int32)) hin44 rfl (Sto.ofV Ar_43 q_43 O'1 (Ins.self (hS.2.2.2.2.2.2.2.2.2.2.2.2.2.2.2.2.2.2.2.2.2.2.2.2.2.1.ext O41.2))) (g := (mkF m 75 #[.val (.int i0), .unset, .unset, .unset, .unset, .unset] [(.ref w8), (.int (10 : Int32)), (.ref b1), (.ref b1)])) rfl rfl (hb hby at_75)
  have O45 : Old Z n0 h45 := O41.wr W45 (Nat.le_trans (own_old_le O0) (Nat.le_of_eq g1.symm))
  have K45 : Keep h0 h45 [] := K41.wr W45 (Or.inr (Nat.le_trans (Keep.refl h0 []).1 (Nat.le_of_eq g1.symm)))
  have N45 := Fr.snoc X45 N41 (Nat.le_trans (own_old_le O0) (Nat.le_of_eq g1.symm))
  have V45 : Arv Z h45 b1 k1 (.object z0) (13 : Int32) [(.ref w6), (.ref w10), (.ref w4), (.ref w1), (.ref w7), (.ref w5), (.ref w11), (.ref w2), (.ref w3), (.ref w0), (.ref w8), .null, .null] .null := Arv.set Ar_43 q_43 Sz_43 Ng_43 Hs_43 Gt_43 rfl W45 10 rfl (Nat.le_of_ble_eq_true rfl)
  obtain ⟨T46, X46, e46, st46⟩ := getS2 X45 hx hZ hown (host := "") (Or.inl (hw _ m26)) Via.refl e45 (hS.2.2.2.2.2.2.2.2.2.2.2.2.2.2.2.2.2.2.2.2.2.2.2.2.2.2.2.2.2.2.2.2.2.2.2.2.1.ext O45.2) (g := (mkF m 79 #[.val (.int i0), .unset, .unset, .unset, .unset, .unset] [(.int (11 : Int32)), (.ref b1), (.ref b1)])) rfl (hb hby at_79)
  have Vo_47 := V45
  obtain ⟨cl_47, Ar_47, q_47, Sz_47, Ng_47, Hs_47, Gt_47⟩ := Vo_47
  have hin48 : ¬ ((11 : Int32) < 0 ∨ cl_47.slots.size ≤ ((11 : Int32)).toNatClampNeg) := inb_of Sz_47 ⟨by decide, by decide⟩
  obtain ⟨T49, h49, X49, e49, W49, st49⟩ := stR X46 hx hZ e46 Ar_47 (j := (11 : Int32)) hin48 rfl (Sto.ofV Ar_47 q_47 O'1 (Ins.self (hS.2.2.2.2.2.2.2.2.2.2.2.2.2.2.2.2.2.2.2.2.2.2.2.2.2.2.2.2.2.2.2.2.2.2.2.2.2.1.ext O45.2))) (g := (mkF m 82 #[.val (.int i0), .unset, .unset, .unset, .unset, .unset] [(.ref w12), (.int (11 : Int32)), (.ref b1), (.ref b1)])) rfl rfl (hb hby at_82)
  have O49 : Old Z n0 h49 := O45.wr W49 (Nat.le_trans (own_old_le O0) (Nat.le_of_eq g1.symm))
  have K49 : Keep h0 h49 [] := K45.wr W49 (Or.inr (Nat.le_trans (Keep.refl h0 []).1 (Nat.le_of_eq g1.symm)))
  have N49 := Fr.snoc X49 N45 (Nat.le_trans (own_old_le O0) (Nat.le_of_eq g1.symm))
  have V49 : Arv Z h49 b1 k1 (.object z0) (13 : Int32) [(.ref w6), (.ref w10), (.ref w4), (.ref w1), (.ref w7), (.ref w5), (.ref w11), (.ref w2), (.ref w3), (.ref w0), (.ref w8), (.ref w12), .null] .null := Arv.set Ar_47 q_47 Sz_47 Ng_47 Hs_47 Gt_47 rfl W49 11 rfl (Nat.le_of_ble_eq_true rfl)
  obtain ⟨T50, X50, e50, st50⟩ := getS2 X49 hx hZ hown (host := "") (Or.inl (hw _ m28)) Via.refl e49 (hS.2.2.2.2.2.2.2.2.2.2.2.2.2.2.2.2.2.2.2.2.2.2.2.2.2.2.2.1.ext O49.2) (g := (mkF m 86 #[.val (.int i0), .unset, .unset, .unset, .unset, .unset] [(.int (12 : Int32)), (.ref b1), (.ref b1)])) rfl (hb hby at_86)
  have Vo_51 := V49
  obtain ⟨cl_51, Ar_51, q_51, Sz_51, Ng_51, Hs_51, Gt_51⟩ := Vo_51
  have hin52 : ¬ ((12 : Int32) < 0 ∨ cl_51.slots.size ≤ ((12 : Int32)).toNatClampNeg) := inb_of Sz_51 ⟨by decide, by decide⟩
  obtain ⟨T53, h53, X53, e53, W53, st53⟩ := stR X50 hx hZ e50 Ar_51 (j := (12 : Int32)) hin52 rfl (Sto.ofV Ar_51 q_51 O'1 (Ins.self (hS.2.2.2.2.2.2.2.2.2.2.2.2.2.2.2.2.2.2.2.2.2.2.2.2.2.2.2.2.1.ext O49.2))) (g := (mkF m 89 #[.val (.int i0), .unset, .unset, .unset, .unset, .unset] [(.ref w9), (.int (12 : Int32)), (.ref b1), (.ref b1)])) rfl rfl (hb hby at_89)
  have O53 : Old Z n0 h53 := O49.wr W53 (Nat.le_trans (own_old_le O0) (Nat.le_of_eq g1.symm))
  have K53 : Keep h0 h53 [] := K49.wr W53 (Or.inr (Nat.le_trans (Keep.refl h0 []).1 (Nat.le_of_eq g1.symm)))
  have N53 := Fr.snoc X53 N49 (Nat.le_trans (own_old_le O0) (Nat.le_of_eq g1.symm))
  have V53 : Arv Z h53 b1 k1 (.object z0) (13 : Int32) [(.ref w6), (.ref w10), (.ref w4), (.ref w1), (.ref w7), (.ref w5), (.ref w11), (.ref w2), (.ref w3), (.ref w0), (.ref w8), (.ref w12), (.ref w9)] .null := Arv.set Ar_51 q_51 Sz_51 Ng_51 Hs_51 Gt_51 rfl W53 12 rfl (Nat.le_of_ble_eq_true rfl)
  obtain ⟨T54, h54, k54, X54, e54, E54, A54, st54⟩ := newP (aty := .boolean) X53 hx hZ (hw _ m30) e53 (g := (mkF m 93 #[.val (.int i0), .val (.ref b1), .unset, .unset, .unset, .unset] [(.int (13 : Int32))])) rfl (hb hby at_93) rfl (by decide) (cap := 13) (by decide) (by decide) (by decide) (by decide)
  obtain ⟨b54, g54⟩ : ∃ z, z = h53.size := ⟨_, rfl⟩
  rw [← g54] at A54 st54
  have O54 : Old Z n0 h54 := O53.ext E54
  have K54 : Keep h0 h54 [] := K53.ext E54
  have V54 : Arv Z h54 b54 k54 .boolean (13 : Int32) [(.int (0 : Int32)), (.int (0 : Int32)), (.int (0 : Int32)), (.int (0 : Int32)), (.int (0 : Int32)), (.int (0 : Int32)), (.int (0 : Int32)), (.int (0 : Int32)), (.int (0 : Int32)), (.int (0 : Int32)), (.int (0 : Int32)), (.int (0 : Int32)), (.int (0 : Int32))] (.int (0 : Int32)) := (Arv.new A54 (by decide)).pad (pad_rep [] (.int (0 : Int32)) 13)
  have Vo_55 := V54
  obtain ⟨cl_55, Ar_55, q_55, Sz_55, Ng_55, Hs_55, Gt_55⟩ := Vo_55
  have hin56 : ¬ ((0 : Int32) < 0 ∨ cl_55.slots.size ≤ ((0 : Int32)).toNatClampNeg) := inb_of Sz_55 ⟨by decide, by decide⟩
  obtain ⟨T57, h57, X57, e57, W57, st57⟩ := stZ X54 hx hZ e54 Ar_55 (j := (0 : Int32)) hin56 (g := (mkF m 98 #[.val (.int i0), .val (.ref b1), .unset, .unset, .unset, .unset] [(.int (1 : Int32)), (.int (0 : Int32)), (.ref b54), (.ref b54)])) rfl rfl (hb hby at_98)
  have O57 : Old Z n0 h57 := O54.wr W57 (Nat.le_trans (own_old_le O53) (Nat.le_of_eq g54.symm))
  have K57 : Keep h0 h57 [] := K54.wr W57 (Or.inr (Nat.le_trans K53.1 (Nat.le_of_eq g54.symm)))
  have N57 := Fr.snoc X57 N53 (Nat.le_trans (own_old_le O53) (Nat.le_of_eq g54.symm))
  have V57 : Arv Z h57 b54 k54 .boolean (13 : Int32) [(.int (1 : Int32)), (.int (0 : Int32)), (.int (0 : Int32)), (.int (0 : Int32)), (.int (0 : Int32)), (.int (0 : Int32)), (.int (0 : Int32)), (.int (0 : Int32)), (.int (0 : Int32)), (.int (0 : Int32)), (.int (0 : Int32)), (.int (0 : Int32)), (.int (0 : Int32))] (.int (0 : Int32)) := Arv.set Ar_55 q_55 Sz_55 Ng_55 Hs_55 Gt_55 (fits_nar_bool _) W57 0 rfl (Nat.le_of_ble_eq_true rfl)
  have Vo_58 := V57
  obtain ⟨cl_58, Ar_58, q_58, Sz_58, Ng_58, Hs_58, Gt_58⟩ := Vo_58
  have hin59 : ¬ ((1 : Int32) < 0 ∨ cl_58.slots.size ≤ ((1 : Int32)).toNatClampNeg) := inb_of Sz_58 ⟨by decide, by decide⟩
  obtain ⟨T60, h60, X60, e60, W60, st60⟩ := stZ X57 hx hZ e57 Ar_58 (j := (1 : Int32)) hin59 (g := (mkF m 102 #[.val (.int i0), .val (.ref b1), .unset, .unset, .unset, .unset] [(.int (0 : Int32)), (.int (1 : Int32)), (.ref b54), (.ref b54)])) rfl rfl (hb hby at_102)
  have O60 : Old Z n0 h60 := O57.wr W60 (Nat.le_trans (own_old_le O53) (Nat.le_of_eq g54.symm))
  have K60 : Keep h0 h60 [] := K57.wr W60 (Or.inr (Nat.le_trans K53.1 (Nat.le_of_eq g54.symm)))
  have N60 := Fr.snoc X60 N57 (Nat.le_trans (own_old_le O53) (Nat.le_of_eq g54.symm))
  have V60 : Arv Z h60 b54 k54 .boolean (13 : Int32) [(.int (1 : Int32)), (.int (0 : Int32)), (.int (0 : Int32)), (.int (0 : Int32)), (.int (0 : Int32)), (.int (0 : Int32)), (.int (0 : Int32)), (.int (0 : Int32)), (.int (0 : Int32)), (.int (0 : Int32)), (.int (0 : Int32)), (.int (0 : Int32)), (.int (0 : Int32))] (.int (0 : Int32)) := Arv.set Ar_58 q_58 Sz_58 Ng_58 Hs_58 Gt_58 (fits_nar_bool _) W60 1 rfl (Nat.le_of_ble_eq_true rfl)
  have Vo_61 := V60
  obtain ⟨cl_61, Ar_61, q_61, Sz_61, Ng_61, Hs_61, Gt_61⟩ := Vo_61
  have hin62 : ¬ ((2 : Int32) < 0 ∨ cl_61.slots.size ≤ ((2 : Int32)).toNatClampNeg) := inb_of Sz_61 ⟨by decide, by decide⟩
  obtain ⟨T63, h63, X63, e63, W63, st63⟩ := stZ X60 hx hZ e60 Ar_61 (j := (2 : Int32)) hin62 (g := (mkF m 106 #[.val (.int i0), .val (.ref b1), .unset, .unset, .unset, .unset] [(.int (0 : Int32)), (.int (2 : Int32)), (.ref b54), (.ref b54)])) rfl rfl (hb hby at_106)
  have O63 : Old Z n0 h63 := O60.wr W63 (Nat.le_trans (own_old_le O53) (Nat.le_of_eq g54.symm))
  have K63 : Keep h0 h63 [] := K60.wr W63 (Or.inr (Nat.le_trans K53.1 (Nat.le_of_eq g54.symm)))
  have N63 := Fr.snoc X63 N60 (Nat.le_trans (own_old_le O53) (Nat.le_of_eq g54.symm))
  have V63 : Arv Z h63 b54 k54 .boolean (13 : Int32) [(.int (1 : Int32)), (.int (0 : Int32)), (.int (0 : Int32)), (.int (0 : Int32)), (.int (0 : Int32)), (.int (0 : Int32)), (.int (0 : Int32)), (.int (0 : Int32)), (.int (0 : Int32)), (.int (0 : Int32)), (.int (0 : Int32)), (.int (0 : Int32)), (.int (0 : Int32))] (.int (0 : Int32)) := Arv.set Ar_61 q_61 Sz_61 Ng_61 Hs_61 Gt_61 (fits_nar_bool _) W63 2 rfl (Nat.le_of_ble_eq_true rfl)
  have Vo_64 := V63
  obtain ⟨cl_64, Ar_64, q_64, Sz_64, Ng_64, Hs_64, Gt_64⟩ := Vo_64
  have hin65 : ¬ ((3 : Int32) < 0 ∨ cl_64.slots.size ≤ ((3 : Int32)).toNatClampNeg) := inb_of Sz_64 ⟨by decide, by decide⟩
  obtain ⟨T66, h66, X66, e66, W66, st66⟩ := stZ X63 hx hZ e63 Ar_64 (j := (3 : Int32)) hin65 (g := (mkF m 110 #[.val (.int i0), .val (.ref b1), .unset, .unset, .unset, .unset] [(.int (1 : Int32)), (.int (3 : Int32)), (.ref b54), (.ref b54)])) rfl rfl (hb hby at_110)
  have O66 : Old Z n0 h66 := O63.wr W66 (Nat.le_trans (own_old_le O53) (Nat.le_of_eq g54.symm))
  have K66 : Keep h0 h66 [] := K63.wr W66 (Or.inr (Nat.le_trans K53.1 (Nat.le_of_eq g54.symm)))
  have N66 := Fr.snoc X66 N63 (Nat.le_trans (own_old_le O53) (Nat.le_of_eq g54.symm))
  have V66 : Arv Z h66 b54 k54 .boolean (13 : Int32) [(.int (1 : Int32)), (.int (0 : Int32)), (.int (0 : Int32)), (.int (1 : Int32)), (.int (0 : Int32)), (.int (0 : Int32)), (.int (0 : Int32)), (.int (0 : Int32)), (.int (0 : Int32)), (.int (0 : Int32)), (.int (0 : Int32)), (.int (0 : Int32)), (.int (0 : Int32))] (.int (0 : Int32)) := Arv.set Ar_64 q_64 Sz_64 Ng_64 Hs_64 Gt_64 (fits_nar_bool _) W66 3 rfl (Nat.le_of_ble_eq_true rfl)
  have Vo_67 := V66
  obtain ⟨cl_67, Ar_67, q_67, Sz_67, Ng_67, Hs_67, Gt_67⟩ := Vo_67
  have hin68 : ¬ ((4 : Int32) < 0 ∨ cl_67.slots.size ≤ ((4 : Int32)).toNatClampNeg) := inb_of Sz_67 ⟨by decide, by decide⟩
  obtain ⟨T69, h69, X69, e69, W69, st69⟩ := stZ X66 hx hZ e66 Ar_67 (j := (4 : Int32)) hin68 (g := (mkF m 114 #[.val (.int i0), .val (.ref b1), .unset, .unset, .unset, .unset] [(.int (1 : Int32)), (.int (4 : Int32)), (.ref b54), (.ref b54)])) rfl rfl (hb hby at_114)
  have O69 : Old Z n0 h69 := O66.wr W69 (Nat.le_trans (own_old_le O53) (Nat.le_of_eq g54.symm))
  have K69 : Keep h0 h69 [] := K66.wr W69 (Or.inr (Nat.le_trans K53.1 (Nat.le_of_eq g54.symm)))
  have N69 := Fr.snoc X69 N66 (Nat.le_trans (own_old_le O53) (Nat.le_of_eq g54.symm))
  have V69 : Arv Z h69 b54 k54 .boolean (13 : Int32) [(.int (1 : Int32)), (.int (0 : Int32)), (.int (0 : Int32)), (.int (1 : Int32)), (.int (1 : Int32)), (.int (0 : Int32)), (.int (0 : Int32)), (.int (0 : Int32)), (.int (0 : Int32)), (.int (0 : Int32)), (.int (0 : Int32)), (.int (0 : Int32)), (.int (0 : Int32))] (.int (0 : Int32)) := Arv.set Ar_67 q_67 Sz_67 Ng_67 Hs_67 Gt_67 (fits_nar_bool _) W69 4 rfl (Nat.le_of_ble_eq_true rfl)
  have Vo_70 := V69
  obtain ⟨cl_70, Ar_70, q_70, Sz_70, Ng_70, Hs_70, Gt_70⟩ := Vo_70
  have hin71 : ¬ ((5 : Int32) < 0 ∨ cl_70.slots.size ≤ ((5 : Int32)).toNatClampNeg) := inb_of Sz_70 ⟨by decide, by decide⟩
  obtain ⟨T72, h72, X72, e72, W72, st72⟩ := stZ X69 hx hZ e69 Ar_70 (j := (5 : Int32)) hin71 (g := (mkF m 118 #[.val (.int i0), .val (.ref b1), .unset, .unset, .unset, .unset] [(.int (1 : Int32)), (.int (5 : Int32)), (.ref b54), (.ref b54)])) rfl rfl (hb hby at_118)
  have O72 : Old Z n0 h72 := O69.wr W72 (Nat.le_trans (own_old_le O53) (Nat.le_of_eq g54.symm))
  have K72 : Keep h0 h72 [] := K69.wr W72 (Or.inr (Nat.le_trans K53.1 (Nat.le_of_eq g54.symm)))
  have N72 := Fr.snoc X72 N69 (Nat.le_trans (own_old_le O53) (Nat.le_of_eq g54.symm))
  have V72 : Arv Z h72 b54 k54 .boolean (13 : Int32) [(.int (1 : Int32)), (.int (0 : Int32)), (.int (0 : Int32)), (.int (1 : Int32)), (.int (1 : Int32)), (.int (1 : Int32)), (.int (0 : Int32)), (.int (0 : Int32)), (.int (0 : Int32)), (.int (0 : Int32)), (.int (0 : Int32)), (.int (0 : Int32)), (.int (0 : Int32))] (.int (0 : Int32)) := Arv.set Ar_70 q_70 Sz_70 Ng_70 Hs_70 Gt_70 (fits_nar_bool _) W72 5 rfl (Nat.le_of_ble_eq_true rfl)
  have Vo_73 := V72
  obtain ⟨cl_73, Ar_73, q_73, Sz_73, Ng_73, Hs_73, Gt_73⟩ := Vo_73
  have hin74 : ¬ ((6 : Int32) < 0 ∨ cl_73.slots.size ≤ ((6 : Int32)).toNatClampNeg) := inb_of Sz_73 ⟨by decide, by decide⟩
  obtain ⟨T75, h75, X75, e75, W75, st75⟩ := stZ X72 hx hZ e72 Ar_73 (j := (6 : Int32)) hin74 (g := (mkF m 123 #[.val (.int i0), .val (.ref b1), .unset, .unset, .unset, .unset] [(.int (1 : Int32)), (.int (6 : Int32)), (.ref b54), (.ref b54)])) rfl rfl (hb hby at_123)
  have O75 : Old Z n0 h75 := O72.wr W75 (Nat.le_trans (own_old_le O53) (Nat.le_of_eq g54.symm))
  have K75 : Keep h0 h75 [] := K72.wr W75 (Or.inr (Nat.le_trans K53.1 (Nat.le_of_eq g54.symm)))
  have N75 := Fr.snoc X75 N72 (Nat.le_trans (own_old_le O53) (Nat.le_of_eq g54.symm))
  have V75 : Arv Z h75 b54 k54 .boolean (13 : Int32) [(.int (1 : Int32)), (.int (0 : Int32)), (.int (0 : Int32)), (.int (1 : Int32)), (.int (1 : Int32)), (.int (1 : Int32)), (.int (1 : Int32)), (.int (0 : Int32)), (.int (0 : Int32)), (.int (0 : Int32)), (.int (0 : Int32)), (.int (0 : Int32)), (.int (0 : Int32))] (.int (0 : Int32)) := Arv.set Ar_73 q_73 Sz_73 Ng_73 Hs_73 Gt_73 (fits_nar_bool _) W75 6 rfl (Nat.le_of_ble_eq_true rfl)
  have Vo_76 := V75
  obtain ⟨cl_76, Ar_76, q_76, Sz_76, Ng_76, Hs_76, Gt_76⟩ := Vo_76
  have hin77 : ¬ ((7 : Int32) < 0 ∨ cl_76.slots.size ≤ ((7 : Int32)).toNatClampNeg) := inb_of Sz_76 ⟨by decide, by decide⟩
  obtain ⟨T78, h78, X78, e78, W78, st78⟩ := stZ X75 hx hZ e75 Ar_76 (j := (7 : Int32)) hin77 (g := (mkF m 128 #[.val (.int i0), .val (.ref b1), .unset, .unset, .unset, .unset] [(.int (1 : Int32)), (.int (7 : Int32)), (.ref b54), (.ref b54)])) rfl rfl (hb hby at_128)
  have O78 : Old Z n0 h78 := O75.wr W78 (Nat.le_trans (own_old_le O53) (Nat.le_of_eq g54.symm))
  have K78 : Keep h0 h78 [] := K75.wr W78 (Or.inr (Nat.le_trans K53.1 (Nat.le_of_eq g54.symm)))
  have N78 := Fr.snoc X78 N75 (Nat.le_trans (own_old_le O53) (Nat.le_of_eq g54.symm))
  have V78 : Arv Z h78 b54 k54 .boolean (13 : Int32) [(.int (1 : Int32)), (.int (0 : Int32)), (.int (0 : Int32)), (.int (1 : Int32)), (.int (1 : Int32)), (.int (1 : Int32)), (.int (1 : Int32)), (.int (1 : Int32)), (.int (0 : Int32)), (.int (0 : Int32)), (.int (0 : Int32)), (.int (0 : Int32)), (.int (0 : Int32))] (.int (0 : Int32)) := Arv.set Ar_76 q_76 Sz_76 Ng_76 Hs_76 Gt_76 (fits_nar_bool _) W78 7 rfl (Nat.le_of_ble_eq_true rfl)
  have Vo_79 := V78
  obtain ⟨cl_79, Ar_79, q_79, Sz_79, Ng_79, Hs_79, Gt_79⟩ := Vo_79
  have hin80 : ¬ ((8 : Int32) < 0 ∨ cl_79.slots.size ≤ ((8 : Int32)).toNatClampNeg) := inb_of Sz_79 ⟨by decide, by decide⟩
  obtain ⟨T81, h81, X81, e81, W81, st81⟩ := stZ X78 hx hZ e78 Ar_79 (j := (8 : Int32)) hin80 (g := (mkF m 133 #[.val (.int i0), .val (.ref b1), .unset, .unset, .unset, .unset] [(.int (0 : Int32)), (.int (8 : Int32)), (.ref b54), (.ref b54)])) rfl rfl (hb hby at_133)
  have O81 : Old Z n0 h81 := O78.wr W81 (Nat.le_trans (own_old_le O53) (Nat.le_of_eq g54.symm))
  have K81 : Keep h0 h81 [] := K78.wr W81 (Or.inr (Nat.le_trans K53.1 (Nat.le_of_eq g54.symm)))
  have N81 := Fr.snoc X81 N78 (Nat.le_trans (own_old_le O53) (Nat.le_of_eq g54.symm))
  have V81 : Arv Z h81 b54 k54 .boolean (13 : Int32) [(.int (1 : Int32)), (.int (0 : Int32)), (.int (0 : Int32)), (.int (1 : Int32)), (.int (1 : Int32)), (.int (1 : Int32)), (.int (1 : Int32)), (.int (1 : Int32)), (.int (0 : Int32)), (.int (0 : Int32)), (.int (0 : Int32)), (.int (0 : Int32)), (.int (0 : Int32))] (.int (0 : Int32)) := Arv.set Ar_79 q_79 Sz_79 Ng_79 Hs_79 Gt_79 (fits_nar_bool _) W81 8 rfl (Nat.le_of_ble_eq_true rfl)
  have Vo_82 := V81
  obtain ⟨cl_82, Ar_82, q_82, Sz_82, Ng_82, Hs_82, Gt_82⟩ := Vo_82
  have hin83 : ¬ ((9 : Int32) < 0 ∨ cl_82.slots.size ≤ ((9 : Int32)).toNatClampNeg) := inb_of Sz_82 ⟨by decide, by decide⟩
  obtain ⟨T84, h84, X84, e84, W84, st84⟩ := stZ X81 hx hZ e81 Ar_82 (j := (9 : Int32)) hin83 (g := (mkF m 138 #[.val (.int i0), .val (.ref b1), .unset, .unset, .unset, .unset] [(.int (0 : Int32)), (.int (9 : Int32)), (.ref b54), (.ref b54)])) rfl rfl (hb hby at_138)
  have O84 : Old Z n0 h84 := O81.wr W84 (Nat.le_trans (own_old_le O53) (Nat.le_of_eq g54.symm))
  have K84 : Keep h0 h84 [] := K81.wr W84 (Or.inr (Nat.le_trans K53.1 (Nat.le_of_eq g54.symm)))
  have N84 := Fr.snoc X84 N81 (Nat.le_trans (own_old_le O53) (Nat.le_of_eq g54.symm))
  have V84 : Arv Z h84 b54 k54 .boolean (13 : Int32) [(.int (1 : Int32)), (.int (0 : Int32)), (.int (0 : Int32)), (.int (1 : Int32)), (.int (1 : Int32)), (.int (1 : Int32)), (.int (1 : Int32)), (.int (1 : Int32)), (.int (0 : Int32)), (.int (0 : Int32)), (.int (0 : Int32)), (.int (0 : Int32)), (.int (0 : Int32))] (.int (0 : Int32)) := Arv.set Ar_82 q_82 Sz_82 Ng_82 Hs_82 Gt_82 (fits_nar_bool _) W84 9 rfl (Nat.le_of_ble_eq_true rfl)
  have Vo_85 := V84
  obtain ⟨cl_85, Ar_85, q_85, Sz_85, Ng_85, Hs_85, Gt_85⟩ := Vo_85
  have hin86 : ¬ ((10 : Int32) < 0 ∨ cl_85.slots.size ≤ ((10 : Int32)).toNatClampNeg) := inb_of Sz_85 ⟨by decide, by decide⟩
  obtain ⟨T87, h87, X87, e87, W87, st87⟩ := stZ X84 hx hZ e84 Ar_85 (j := (10 : Int32)) hin86 (g := (mkF m 143 #[.val (.int i0), .val (.ref b1), .unset, .unset, .unset, .unset] [(.int (0 : Int32)), (.int (10 : Int32)), (.ref b54), (.ref b54)])) rfl rfl (hb hby at_143)
  have O87 : Old Z n0 h87 := O84.wr W87 (Nat.le_trans (own_old_le O53) (Nat.le_of_eq g54.symm))
  have K87 : Keep h0 h87 [] := K84.wr W87 (Or.inr (Nat.le_trans K53.1 (Nat.le_of_eq g54.symm)))
  have N87 := Fr.snoc X87 N84 (Nat.le_trans (own_old_le O53) (Nat.le_of_eq g54.symm))
  have V87 : Arv Z h87 b54 k54 .boolean (13 : Int32) [(.int (1 : Int32)), (.int (0 : Int32)), (.int (0 : Int32)), (.int (1 : Int32)), (.int (1 : Int32)), (.int (1 : Int32)), (.int (1 : Int32)), (.int (1 : Int32)), (.int (0 : Int32)), (.int (0 : Int32)), (.int (0 : Int32)), (.int (0 : Int32)), (.int (0 : Int32))] (.int (0 : Int32)) := Arv.set Ar_85 q_85 Sz_85 Ng_85 Hs_85 Gt_85 (fits_nar_bool _) W87 10 rfl (Nat.le_of_ble_eq_true rfl)
  have Vo_88 := V87
  obtain ⟨cl_88, Ar_88, q_88, Sz_88, Ng_88, Hs_88, Gt_88⟩ := Vo_88
  have hin89 : ¬ ((11 : Int32) < 0 ∨ cl_88.slots.size ≤ ((11 : Int32)).toNatClampNeg) := inb_of Sz_88 ⟨by decide, by decide⟩
  obtain ⟨T90, h90, X90, e90, W90, st90⟩ := stZ X87 hx hZ e87 Ar_88 (j := (11 : Int32)) hin89 (g := (mkF m 148 #[.val (.int i0), .val (.ref b1), .unset, .unset, .unset, .unset] [(.int (1 : Int32)), (.int (11 : Int32)), (.ref b54), (.ref b54)])) rfl rfl (hb hby at_148)
  have O90 : Old Z n0 h90 := O87.wr W90 (Nat.le_trans (own_old_le O53) (Nat.le_of_eq g54.symm))
  have K90 : Keep h0 h90 [] := K87.wr W90 (Or.inr (Nat.le_trans K53.1 (Nat.le_of_eq g54.symm)))
  have N90 := Fr.snoc X90 N87 (Nat.le_trans (own_old_le O53) (Nat.le_of_eq g54.symm))
  have V90 : Arv Z h90 b54 k54 .boolean (13 : Int32) [(.int (1 : Int32)), (.int (0 : Int32)), (.int (0 : Int32)), (.int (1 : Int32)), (.int (1 : Int32)), (.int (1 : Int32)), (.int (1 : Int32)), (.int (1 : Int32)), (.int (0 : Int32)), (.int (0 : Int32)), (.int (0 : Int32)), (.int (1 : Int32)), (.int (0 : Int32))] (.int (0 : Int32)) := Arv.set Ar_88 q_88 Sz_88 Ng_88 Hs_88 Gt_88 (fits_nar_bool _) W90 11 rfl (Nat.le_of_ble_eq_true rfl)
  have Vo_91 := V90
  obtain ⟨cl_91, Ar_91, q_91, Sz_91, Ng_91, Hs_91, Gt_91⟩ := Vo_91
  have hin92 : ¬ ((12 : Int32) < 0 ∨ cl_91.slots.size ≤ ((12 : Int32)).toNatClampNeg) := inb_of Sz_91 ⟨by decide, by decide⟩
  obtain ⟨T93, h93, X93, e93, W93, st93⟩ := stZ X90 hx hZ e90 Ar_91 (j := (12 : Int32)) hin92 (g := (mkF m 153 #[.val (.int i0), .val (.ref b1), .unset, .unset, .unset, .unset] [(.int (0 : Int32)), (.int (12 : Int32)), (.ref b54), (.ref b54)])) rfl rfl (hb hby at_153)
  have O93 : Old Z n0 h93 := O90.wr W93 (Nat.le_trans (own_old_le O53) (Nat.le_of_eq g54.symm))
  have K93 : Keep h0 h93 [] := K90.wr W93 (Or.inr (Nat.le_trans K53.1 (Nat.le_of_eq g54.symm)))
  have N93 := Fr.snoc X93 N90 (Nat.le_trans (own_old_le O53) (Nat.le_of_eq g54.symm))
  have V93 : Arv Z h93 b54 k54 .boolean (13 : Int32) [(.int (1 : Int32)), (.int (0 : Int32)), (.int (0 : Int32)), (.int (1 : Int32)), (.int (1 : Int32)), (.int (1 : Int32)), (.int (1 : Int32)), (.int (1 : Int32)), (.int (0 : Int32)), (.int (0 : Int32)), (.int (0 : Int32)), (.int (1 : Int32)), (.int (0 : Int32))] (.int (0 : Int32)) := Arv.set Ar_91 q_91 Sz_91 Ng_91 Hs_91 Gt_91 (fits_nar_bool _) W93 12 rfl (Nat.le_of_ble_eq_true rfl)
  have pre1 : ∀ t, Steps p.tables e below (T93.setTop (mkF m 161 #[.val (.int i0), .val (.ref b1), .val (.ref b54), .unset, .unset, .unset] [(.int (13 : Int32)), (.int (i0 &&& (2147483647 : Int32)))])) t → Steps p.tables e below (s₁.setTop (entryFrame m #[(.int i0)] maxLocals)) t := fun t kt => pre0 _ (by
      show Steps p.tables e below (s₁.setTop (mkF m 0 #[.val (.int i0), .unset, .unset, .unset, .unset, .unset] [])) _
      refine XS.bipush X0.here hx rfl (hb hby at_0) ?_
      show Steps p.tables e below (s₁.setTop (mkF m 2 #[.val (.int i0), .unset, .unset, .unset, .unset, .unset] [(.int (13 : Int32))])) _
      refine st1 _ ?_
      show Steps p.tables e below (T1.setTop (mkF m 5 #[.val (.int i0), .unset, .unset, .unset, .unset, .unset] [(.ref b1)])) _
      refine XS.dup X1.here hx rfl (hb hby at_5) rfl rfl ?_
      show Steps p.tables e below (T1.setTop (mkF m 6 #[.val (.int i0), .unset, .unset, .unset, .unset, .unset] [(.ref b1), (.ref b1)])) _
      refine XS.iconst X1.here hx rfl (hb hby at_6) ?_
      show Steps p.tables e below (T1.setTop (mkF m 7 #[.val (.int i0), .unset, .unset, .unset, .unset, .unset] [(.int (0 : Int32)), (.ref b1), (.ref b1)])) _
      refine st2 _ ?_
      show Steps p.tables e below (T2.setTop (mkF m 10 #[.val (.int i0), .unset, .unset, .unset, .unset, .unset] [(.ref w6), (.int (0 : Int32)), (.ref b1), (.ref b1)])) _
      refine st5 _ ?_
      show Steps p.tables e below (T5.setTop (mkF m 11 #[.val (.int i0), .unset, .unset, .unset, .unset, .unset] [(.ref b1)])) _
      refine XS.dup X5.here hx rfl (hb hby at_11) rfl rfl ?_
      show Steps p.tables e below (T5.setTop (mkF m 12 #[.val (.int i0), .unset, .unset, .unset, .unset, .unset] [(.ref b1), (.ref b1)])) _
      refine XS.iconst X5.here hx rfl (hb hby at_12) ?_
      show Steps p.tables e below (T5.setTop (mkF m 13 #[.val (.int i0), .unset, .unset, .unset, .unset, .unset] [(.int (1 : Int32)), (.ref b1), (.ref b1)])) _
      refine st6 _ ?_
      show Steps p.tables e below (T6.setTop (mkF m 16 #[.val (.int i0), .unset, .unset, .unset, .unset, .unset] [(.ref w10), (.int (1 : Int32)), (.ref b1), (.ref b1)])) _
      refine st9 _ ?_
      show Steps p.tables e below (T9.setTop (mkF m 17 #[.val (.int i0), .unset, .unset, .unset, .unset, .unset] [(.ref b1)])) _
      refine XS.dup X9.here hx rfl (hb hby at_17) rfl rfl ?_
      show Steps p.tables e below (T9.setTop (mkF m 18 #[.val (.int i0), .unset, .unset, .unset, .unset, .unset] [(.ref b1), (.ref b1)])) _
      refine XS.iconst X9.here hx rfl (hb hby at_18) ?_
      show Steps p.tables e below (T9.setTop (mkF m 19 #[.val (.int i0), .unset, .unset, .unset, .unset, .unset] [(.int (2 : Int32)), (.ref b1), (.ref b1)])) _
      refine st10 _ ?_
      show Steps p.tables e below (T10.setTop (mkF m 22 #[.val (.int i0), .unset, .unset, .unset, .unset, .unset] [(.ref w4), (.int (2 : Int32)), (.ref b1), (.ref b1)])) _
      refine st13 _ ?_
      show Steps p.tables e below (T13.setTop (mkF m 23 #[.val (.int i0), .unset, .unset, .unset, .unset, .unset] [(.ref b1)])) _
      refine XS.dup X13.here hx rfl (hb hby at_23) rfl rfl ?_
      show Steps p.tables e below (T13.setTop (mkF m 24 #[.val (.int i0), .unset, .unset, .unset, .unset, .unset] [(.ref b1), (.ref b1)])) _
      refine XS.iconst X13.here hx rfl (hb hby at_24) ?_
      show Steps p.tables e below (T13.setTop (mkF m 25 #[.val (.int i0), .unset, .unset, .unset, .unset, .unset] [(.int (3 : Int32)), (.ref b1), (.ref b1)])) _
      refine st14 _ ?_
      show Steps p.tables e below (T14.setTop (mkF m 28 #[.val (.int i0), .unset, .unset, .unset, .unset, .unset] [(.ref w1), (.int (3 : Int32)), (.ref b1), (.ref b1)])) _
      refine st17 _ ?_
      show Steps p.tables e below (T17.setTop (mkF m 29 #[.val (.int i0), .unset, .unset, .unset, .unset, .unset] [(.ref b1)])) _
      refine XS.dup X17.here hx rfl (hb hby at_29) rfl rfl ?_
      show Steps p.tables e below (T17.setTop (mkF m 30 #[.val (.int i0), .unset, .unset, .unset, .unset, .unset] [(.ref b1), (.ref b1)])) _
      refine XS.iconst X17.here hx rfl (hb hby at_30) ?_
      show Steps p.tables e below (T17.setTop (mkF m 31 #[.val (.int i0), .unset, .unset, .unset, .unset, .unset] [(.int (4 : Int32)), (.ref b1), (.ref b1)])) _
      refine st18 _ ?_
      show Steps p.tables e below (T18.setTop (mkF m 34 #[.val (.int i0), .unset, .unset, .unset, .unset, .unset] [(.ref w7), (.int (4 : Int32)), (.ref b1), (.ref b1)])) _
      refine st21 _ ?_
      show Steps p.tables e below (T21.setTop (mkF m 35 #[.val (.int i0), .unset, .unset, .unset, .unset, .unset] [(.ref b1)])) _
      refine XS.dup X21.here hx rfl (hb hby at_35) rfl rfl ?_
      show Steps p.tables e below (T21.setTop (mkF m 36 #[.val (.int i0), .unset, .unset, .unset, .unset, .unset] [(.ref b1), (.ref b1)])) _
      refine XS.iconst X21.here hx rfl (hb hby at_36) ?_
      show Steps p.tables e below (T21.setTop (mkF m 37 #[.val (.int i0), .unset, .unset, .unset, .unset, .unset] [(.int (5 : Int32)), (.ref b1), (.ref b1)])) _
      refine st22 _ ?_
      show Steps p.tables e below (T22.setTop (mkF m 40 #[.val (.int i0), .unset, .unset, .unset, .unset, .unset] [(.ref w5), (.int (5 : Int32)), (.ref b1), (.ref b1)])) _
      refine st25 _ ?_
      show Steps p.tables e below (T25.setTop (mkF m 41 #[.val (.int i0), .unset, .unset, .unset, .unset, .unset] [(.ref b1)])) _
      refine XS.dup X25.here hx rfl (hb hby at_41) rfl rfl ?_
      show Steps p.tables e below (T25.setTop (mkF m 42 #[.val (.int i0), .unset, .unset, .unset, .unset, .unset] [(.ref b1), (.ref b1)])) _
      refine XS.bipush X25.here hx rfl (hb hby at_42) ?_
      show Steps p.tables e below (T25.setTop (mkF m 44 #[.val (.int i0), .unset, .unset, .unset, .unset, .unset] [(.int (6 : Int32)), (.ref b1), (.ref b1)])) _
      refine st26 _ ?_
      show Steps p.tables e below (T26.setTop (mkF m 47 #[.val (.int i0), .unset, .unset, .unset, .unset, .unset] [(.ref w11), (.int (6 : Int32)), (.ref b1), (.ref b1)])) _
      refine st29 _ ?_
      show Steps p.tables e below (T29.setTop (mkF m 48 #[.val (.int i0), .unset, .unset, .unset, .unset, .unset] [(.ref b1)])) _
      refine XS.dup X29.here hx rfl (hb hby at_48) rfl rfl ?_
      show Steps p.tables e below (T29.setTop (mkF m 49 #[.val (.int i0), .unset, .unset, .unset, .unset, .unset] [(.ref b1), (.ref b1)])) _
      refine XS.bipush X29.here hx rfl (hb hby at_49) ?_
      show Steps p.tables e below (T29.setTop (mkF m 51 #[.val (.int i0), .unset, .unset, .unset, .unset, .unset] [(.int (7 : Int32)), (.ref b1), (.ref b1)])) _
      refine st30 _ ?_
      show Steps p.tables e below (T30.setTop (mkF m 54 #[.val (.int i0), .unset, .unset, .unset, .unset, .unset] [(.ref w2), (.int (7 : Int32)), (.ref b1), (.ref b1)])) _
      refine st33 _ ?_
      show Steps p.tables e below (T33.setTop (mkF m 55 #[.val (.int i0), .unset, .unset, .unset, .unset, .unset] [(.ref b1)])) _
      refine XS.dup X33.here hx rfl (hb hby at_55) rfl rfl ?_
      show Steps p.tables e below (T33.setTop (mkF m 56 #[.val (.int i0), .unset, .unset, .unset, .unset, .unset] [(.ref b1), (.ref b1)])) _
      refine XS.bipush X33.here hx rfl (hb hby at_56) ?_
      show Steps p.tables e below (T33.setTop (mkF m 58 #[.val (.int i0), .unset, .unset, .unset, .unset, .unset] [(.int (8 : Int32)), (.ref b1), (.ref b1)])) _
      refine st34 _ ?_
      show Steps p.tables e below (T34.setTop (mkF m 61 #[.val (.int i0), .unset, .unset, .unset, .unset, .unset] [(.ref w3), (.int (8 : Int32)), (.ref b1), (.ref b1)])) _
      refine st37 _ ?_
      show Steps p.tables e below (T37.setTop (mkF m 62 #[.val (.int i0), .unset, .unset, .unset, .unset, .unset] [(.ref b1)])) _
      refine XS.dup X37.here hx rfl (hb hby at_62) rfl rfl ?_
      show Steps p.tables e below (T37.setTop (mkF m 63 #[.val (.int i0), .unset, .unset, .unset, .unset, .unset] [(.ref b1), (.ref b1)])) _
      refine XS.bipush X37.here hx rfl (hb hby at_63) ?_
      show Steps p.tables e below (T37.setTop (mkF m 65 #[.val (.int i0), .unset, .unset, .unset, .unset, .unset] [(.int (9 : Int32)), (.ref b1), (.ref b1)])) _
      refine st38 _ ?_
      show Steps p.tables e below (T38.setTop (mkF m 68 #[.val (.int i0), .unset, .unset, .unset, .unset, .unset] [(.ref w0), (.int (9 : Int32)), (.ref b1), (.ref b1)])) _
      refine st41 _ ?_
      show Steps p.tables e below (T41.setTop (mkF m 69 #[.val (.int i0), .unset, .unset, .unset, .unset, .unset] [(.ref b1)])) _
      refine XS.dup X41.here hx rfl (hb hby at_69) rfl rfl ?_
      show Steps p.tables e below (T41.setTop (mkF m 70 #[.val (.int i0), .unset, .unset, .unset, .unset, .unset] [(.ref b1), (.ref b1)])) _
      refine XS.bipush X41.here hx rfl (hb hby at_70) ?_
      show Steps p.tables e below (T41.setTop (mkF m 72 #[.val (.int i0), .unset, .unset, .unset, .unset, .unset] [(.int (10 : Int32)), (.ref b1), (.ref b1)])) _
      refine st42 _ ?_
      show Steps p.tables e below (T42.setTop (mkF m 75 #[.val (.int i0), .unset, .unset, .unset, .unset, .unset] [(.ref w8), (.int (10 : Int32)), (.ref b1), (.ref b1)])) _
      refine st45 _ ?_
      show Steps p.tables e below (T45.setTop (mkF m 76 #[.val (.int i0), .unset, .unset, .unset, .unset, .unset] [(.ref b1)])) _
      refine XS.dup X45.here hx rfl (hb hby at_76) rfl rfl ?_
      show Steps p.tables e below (T45.setTop (mkF m 77 #[.val (.int i0), .unset, .unset, .unset, .unset, .unset] [(.ref b1), (.ref b1)])) _
      refine XS.bipush X45.here hx rfl (hb hby at_77) ?_
      show Steps p.tables e below (T45.setTop (mkF m 79 #[.val (.int i0), .unset, .unset, .unset, .unset, .unset] [(.int (11 : Int32)), (.ref b1), (.ref b1)])) _
      refine st46 _ ?_
      show Steps p.tables e below (T46.setTop (mkF m 82 #[.val (.int i0), .unset, .unset, .unset, .unset, .unset] [(.ref w12), (.int (11 : Int32)), (.ref b1), (.ref b1)])) _
      refine st49 _ ?_
      show Steps p.tables e below (T49.setTop (mkF m 83 #[.val (.int i0), .unset, .unset, .unset, .unset, .unset] [(.ref b1)])) _
      refine XS.dup X49.here hx rfl (hb hby at_83) rfl rfl ?_
      show Steps p.tables e below (T49.setTop (mkF m 84 #[.val (.int i0), .unset, .unset, .unset, .unset, .unset] [(.ref b1), (.ref b1)])) _
      refine XS.bipush X49.here hx rfl (hb hby at_84) ?_
      show Steps p.tables e below (T49.setTop (mkF m 86 #[.val (.int i0), .unset, .unset, .unset, .unset, .unset] [(.int (12 : Int32)), (.ref b1), (.ref b1)])) _
      refine st50 _ ?_
      show Steps p.tables e below (T50.setTop (mkF m 89 #[.val (.int i0), .unset, .unset, .unset, .unset, .unset] [(.ref w9), (.int (12 : Int32)), (.ref b1), (.ref b1)])) _
      refine st53 _ ?_
      show Steps p.tables e below (T53.setTop (mkF m 90 #[.val (.int i0), .unset, .unset, .unset, .unset, .unset] [(.ref b1)])) _
      refine XS.astoreN X53.here hx rfl (hb hby at_90) rfl rfl (l' := #[.val (.int i0), .val (.ref b1), .unset, .unset, .unset, .unset]) rfl ?_
      show Steps p.tables e below (T53.setTop (mkF m 91 #[.val (.int i0), .val (.ref b1), .unset, .unset, .unset, .unset] [])) _
      refine XS.bipush X53.here hx rfl (hb hby at_91) ?_
      show Steps p.tables e below (T53.setTop (mkF m 93 #[.val (.int i0), .val (.ref b1), .unset, .unset, .unset, .unset] [(.int (13 : Int32))])) _
      refine st54 _ ?_
      show Steps p.tables e below (T54.setTop (mkF m 95 #[.val (.int i0), .val (.ref b1), .unset, .unset, .unset, .unset] [(.ref b54)])) _
      refine XS.dup X54.here hx rfl (hb hby at_95) rfl rfl ?_
      show Steps p.tables e below (T54.setTop (mkF m 96 #[.val (.int i0), .val (.ref b1), .unset, .unset, .unset, .unset] [(.ref b54), (.ref b54)])) _
      refine XS.iconst X54.here hx rfl (hb hby at_96) ?_
      show Steps p.tables e below (T54.setTop (mkF m 97 #[.val (.int i0), .val (.ref b1), .unset, .unset, .unset, .unset] [(.int (0 : Int32)), (.ref b54), (.ref b54)])) _
      refine XS.iconst X54.here hx rfl (hb hby at_97) ?_
      show Steps p.tables e below (T54.setTop (mkF m 98 #[.val (.int i0), .val (.ref b1), .unset, .unset, .unset, .unset] [(.int (1 : Int32)), (.int (0 : Int32)), (.ref b54), (.ref b54)])) _
      refine st57 _ ?_
      show Steps p.tables e below (T57.setTop (mkF m 99 #[.val (.int i0), .val (.ref b1), .unset, .unset, .unset, .unset] [(.ref b54)])) _
      refine XS.dup X57.here hx rfl (hb hby at_99) rfl rfl ?_
      show Steps p.tables e below (T57.setTop (mkF m 100 #[.val (.int i0), .val (.ref b1), .unset, .unset, .unset, .unset] [(.ref b54), (.ref b54)])) _
      refine XS.iconst X57.here hx rfl (hb hby at_100) ?_
      show Steps p.tables e below (T57.setTop (mkF m 101 #[.val (.int i0), .val (.ref b1), .unset, .unset, .unset, .unset] [(.int (1 : Int32)), (.ref b54), (.ref b54)])) _
      refine XS.iconst X57.here hx rfl (hb hby at_101) ?_
      show Steps p.tables e below (T57.setTop (mkF m 102 #[.val (.int i0), .val (.ref b1), .unset, .unset, .unset, .unset] [(.int (0 : Int32)), (.int (1 : Int32)), (.ref b54), (.ref b54)])) _
      refine st60 _ ?_
      show Steps p.tables e below (T60.setTop (mkF m 103 #[.val (.int i0), .val (.ref b1), .unset, .unset, .unset, .unset] [(.ref b54)])) _
      refine XS.dup X60.here hx rfl (hb hby at_103) rfl rfl ?_
      show Steps p.tables e below (T60.setTop (mkF m 104 #[.val (.int i0), .val (.ref b1), .unset, .unset, .unset, .unset] [(.ref b54), (.ref b54)])) _
      refine XS.iconst X60.here hx rfl (hb hby at_104) ?_
      show Steps p.tables e below (T60.setTop (mkF m 105 #[.val (.int i0), .val (.ref b1), .unset, .unset, .unset, .unset] [(.int (2 : Int32)), (.ref b54), (.ref b54)])) _
      refine XS.iconst X60.here hx rfl (hb hby at_105) ?_
      show Steps p.tables e below (T60.setTop (mkF m 106 #[.val (.int i0), .val (.ref b1), .unset, .unset, .unset, .unset] [(.int (0 : Int32)), (.int (2 : Int32)), (.ref b54), (.ref b54)])) _
      refine st63 _ ?_
      show Steps p.tables e below (T63.setTop (mkF m 107 #[.val (.int i0), .val (.ref b1), .unset, .unset, .unset, .unset] [(.ref b54)])) _
      refine XS.dup X63.here hx rfl (hb hby at_107) rfl rfl ?_
      show Steps p.tables e below (T63.setTop (mkF m 108 #[.val (.int i0), .val (.ref b1), .unset, .unset, .unset, .unset] [(.ref b54), (.ref b54)])) _
      refine XS.iconst X63.here hx rfl (hb hby at_108) ?_
      show Steps p.tables e below (T63.setTop (mkF m 109 #[.val (.int i0), .val (.ref b1), .unset, .unset, .unset, .unset] [(.int (3 : Int32)), (.ref b54), (.ref b54)])) _
      refine XS.iconst X63.here hx rfl (hb hby at_109) ?_
      show Steps p.tables e below (T63.setTop (mkF m 110 #[.val (.int i0), .val (.ref b1), .unset, .unset, .unset, .unset] [(.int (1 : Int32)), (.int (3 : Int32)), (.ref b54), (.ref b54)])) _
      refine st66 _ ?_
      show Steps p.tables e below (T66.setTop (mkF m 111 #[.val (.int i0), .val (.ref b1), .unset, .unset, .unset, .unset] [(.ref b54)])) _
      refine XS.dup X66.here hx rfl (hb hby at_111) rfl rfl ?_
      show Steps p.tables e below (T66.setTop (mkF m 112 #[.val (.int i0), .val (.ref b1), .unset, .unset, .unset, .unset] [(.ref b54), (.ref b54)])) _
      refine XS.iconst X66.here hx rfl (hb hby at_112) ?_
      show Steps p.tables e below (T66.setTop (mkF m 113 #[.val (.int i0), .val (.ref b1), .unset, .unset, .unset, .unset] [(.int (4 : Int32)), (.ref b54), (.ref b54)])) _
      refine XS.iconst X66.here hx rfl (hb hby at_113) ?_
      show Steps p.tables e below (T66.setTop (mkF m 114 #[.val (.int i0), .val (.ref b1), .unset, .unset, .unset, .unset] [(.int (1 : Int32)), (.int (4 : Int32)), (.ref b54), (.ref b54)])) _
      refine st69 _ ?_
      show Steps p.tables e below (T69.setTop (mkF m 115 #[.val (.int i0), .val (.ref b1), .unset, .unset, .unset, .unset] [(.ref b54)])) _
      refine XS.dup X69.here hx rfl (hb hby at_115) rfl rfl ?_
      show Steps p.tables e below (T69.setTop (mkF m 116 #[.val (.int i0), .val (.ref b1), .unset, .unset, .unset, .unset] [(.ref b54), (.ref b54)])) _
      refine XS.iconst X69.here hx rfl (hb hby at_116) ?_
      show Steps p.tables e below (T69.setTop (mkF m 117 #[.val (.int i0), .val (.ref b1), .unset, .unset, .unset, .unset] [(.int (5 : Int32)), (.ref b54), (.ref b54)])) _
      refine XS.iconst X69.here hx rfl (hb hby at_117) ?_
      show Steps p.tables e below (T69.setTop (mkF m 118 #[.val (.int i0), .val (.ref b1), .unset, .unset, .unset, .unset] [(.int (1 : Int32)), (.int (5 : Int32)), (.ref b54), (.ref b54)])) _
      refine st72 _ ?_
      show Steps p.tables e below (T72.setTop (mkF m 119 #[.val (.int i0), .val (.ref b1), .unset, .unset, .unset, .unset] [(.ref b54)])) _
      refine XS.dup X72.here hx rfl (hb hby at_119) rfl rfl ?_
      show Steps p.tables e below (T72.setTop (mkF m 120 #[.val (.int i0), .val (.ref b1), .unset, .unset, .unset, .unset] [(.ref b54), (.ref b54)])) _
      refine XS.bipush X72.here hx rfl (hb hby at_120) ?_
      show Steps p.tables e below (T72.setTop (mkF m 122 #[.val (.int i0), .val (.ref b1), .unset, .unset, .unset, .unset] [(.int (6 : Int32)), (.ref b54), (.ref b54)])) _
      refine XS.iconst X72.here hx rfl (hb hby at_122) ?_
      show Steps p.tables e below (T72.setTop (mkF m 123 #[.val (.int i0), .val (.ref b1), .unset, .unset, .unset, .unset] [(.int (1 : Int32)), (.int (6 : Int32)), (.ref b54), (.ref b54)])) _
      refine st75 _ ?_
      show Steps p.tables e below (T75.setTop (mkF m 124 #[.val (.int i0), .val (.ref b1), .unset, .unset, .unset, .unset] [(.ref b54)])) _
      refine XS.dup X75.here hx rfl (hb hby at_124) rfl rfl ?_
      show Steps p.tables e below (T75.setTop (mkF m 125 #[.val (.int i0), .val (.ref b1), .unset, .unset, .unset, .unset] [(.ref b54), (.ref b54)])) _
      refine XS.bipush X75.here hx rfl (hb hby at_125) ?_
      show Steps p.tables e below (T75.setTop (mkF m 127 #[.val (.int i0), .val (.ref b1), .unset, .unset, .unset, .unset] [(.int (7 : Int32)), (.ref b54), (.ref b54)])) _
      refine XS.iconst X75.here hx rfl (hb hby at_127) ?_
      show Steps p.tables e below (T75.setTop (mkF m 128 #[.val (.int i0), .val (.ref b1), .unset, .unset, .unset, .unset] [(.int (1 : Int32)), (.int (7 : Int32)), (.ref b54), (.ref b54)])) _
      refine st78 _ ?_
      show Steps p.tables e below (T78.setTop (mkF m 129 #[.val (.int i0), .val (.ref b1), .unset, .unset, .unset, .unset] [(.ref b54)])) _
      refine XS.dup X78.here hx rfl (hb hby at_129) rfl rfl ?_
      show Steps p.tables e below (T78.setTop (mkF m 130 #[.val (.int i0), .val (.ref b1), .unset, .unset, .unset, .unset] [(.ref b54), (.ref b54)])) _
      refine XS.bipush X78.here hx rfl (hb hby at_130) ?_
      show Steps p.tables e below (T78.setTop (mkF m 132 #[.val (.int i0), .val (.ref b1), .unset, .unset, .unset, .unset] [(.int (8 : Int32)), (.ref b54), (.ref b54)])) _
      refine XS.iconst X78.here hx rfl (hb hby at_132) ?_
      show Steps p.tables e below (T78.setTop (mkF m 133 #[.val (.int i0), .val (.ref b1), .unset, .unset, .unset, .unset] [(.int (0 : Int32)), (.int (8 : Int32)), (.ref b54), (.ref b54)])) _
      refine st81 _ ?_
      show Steps p.tables e below (T81.setTop (mkF m 134 #[.val (.int i0), .val (.ref b1), .unset, .unset, .unset, .unset] [(.ref b54)])) _
      refine XS.dup X81.here hx rfl (hb hby at_134) rfl rfl ?_
      show Steps p.tables e below (T81.setTop (mkF m 135 #[.val (.int i0), .val (.ref b1), .unset, .unset, .unset, .unset] [(.ref b54), (.ref b54)])) _
      refine XS.bipush X81.here hx rfl (hb hby at_135) ?_
      show Steps p.tables e below (T81.setTop (mkF m 137 #[.val (.int i0), .val (.ref b1), .unset, .unset, .unset, .unset] [(.int (9 : Int32)), (.ref b54), (.ref b54)])) _
      refine XS.iconst X81.here hx rfl (hb hby at_137) ?_
      show Steps p.tables e below (T81.setTop (mkF m 138 #[.val (.int i0), .val (.ref b1), .unset, .unset, .unset, .unset] [(.int (0 : Int32)), (.int (9 : Int32)), (.ref b54), (.ref b54)])) _
      refine st84 _ ?_
      show Steps p.tables e below (T84.setTop (mkF m 139 #[.val (.int i0), .val (.ref b1), .unset, .unset, .unset, .unset] [(.ref b54)])) _
      refine XS.dup X84.here hx rfl (hb hby at_139) rfl rfl ?_
      show Steps p.tables e below (T84.setTop (mkF m 140 #[.val (.int i0), .val (.ref b1), .unset, .unset, .unset, .unset] [(.ref b54), (.ref b54)])) _
      refine XS.bipush X84.here hx rfl (hb hby at_140) ?_
      show Steps p.tables e below (T84.setTop (mkF m 142 #[.val (.int i0), .val (.ref b1), .unset, .unset, .unset, .unset] [(.int (10 : Int32)), (.ref b54), (.ref b54)])) _
      refine XS.iconst X84.here hx rfl (hb hby at_142) ?_
      show Steps p.tables e below (T84.setTop (mkF m 143 #[.val (.int i0), .val (.ref b1), .unset, .unset, .unset, .unset] [(.int (0 : Int32)), (.int (10 : Int32)), (.ref b54), (.ref b54)])) _
      refine st87 _ ?_
      show Steps p.tables e below (T87.setTop (mkF m 144 #[.val (.int i0), .val (.ref b1), .unset, .unset, .unset, .unset] [(.ref b54)])) _
      refine XS.dup X87.here hx rfl (hb hby at_144) rfl rfl ?_
      show Steps p.tables e below (T87.setTop (mkF m 145 #[.val (.int i0), .val (.ref b1), .unset, .unset, .unset, .unset] [(.ref b54), (.ref b54)])) _
      refine XS.bipush X87.here hx rfl (hb hby at_145) ?_
      show Steps p.tables e below (T87.setTop (mkF m 147 #[.val (.int i0), .val (.ref b1), .unset, .unset, .unset, .unset] [(.int (11 : Int32)), (.ref b54), (.ref b54)])) _
      refine XS.iconst X87.here hx rfl (hb hby at_147) ?_
      show Steps p.tables e below (T87.setTop (mkF m 148 #[.val (.int i0), .val (.ref b1), .unset, .unset, .unset, .unset] [(.int (1 : Int32)), (.int (11 : Int32)), (.ref b54), (.ref b54)])) _
      refine st90 _ ?_
      show Steps p.tables e below (T90.setTop (mkF m 149 #[.val (.int i0), .val (.ref b1), .unset, .unset, .unset, .unset] [(.ref b54)])) _
      refine XS.dup X90.here hx rfl (hb hby at_149) rfl rfl ?_
      show Steps p.tables e below (T90.setTop (mkF m 150 #[.val (.int i0), .val (.ref b1), .unset, .unset, .unset, .unset] [(.ref b54), (.ref b54)])) _
      refine XS.bipush X90.here hx rfl (hb hby at_150) ?_
      show Steps p.tables e below (T90.setTop (mkF m 152 #[.val (.int i0), .val (.ref b1), .unset, .unset, .unset, .unset] [(.int (12 : Int32)), (.ref b54), (.ref b54)])) _
      refine XS.iconst X90.here hx rfl (hb hby at_152) ?_
      show Steps p.tables e below (T90.setTop (mkF m 153 #[.val (.int i0), .val (.ref b1), .unset, .unset, .unset, .unset] [(.int (0 : Int32)), (.int (12 : Int32)), (.ref b54), (.ref b54)])) _
      refine st93 _ ?_
      show Steps p.tables e below (T93.setTop (mkF m 154 #[.val (.int i0), .val (.ref b1), .unset, .unset, .unset, .unset] [(.ref b54)])) _
      refine XS.astoreN X93.here hx rfl (hb hby at_154) rfl rfl (l' := #[.val (.int i0), .val (.ref b1), .val (.ref b54), .unset, .unset, .unset]) rfl ?_
      show Steps p.tables e below (T93.setTop (mkF m 155 #[.val (.int i0), .val (.ref b1), .val (.ref b54), .unset, .unset, .unset] [])) _
      refine XS.iloadN X93.here hx rfl (hb hby at_155) rfl ?_
      show Steps p.tables e below (T93.setTop (mkF m 156 #[.val (.int i0), .val (.ref b1), .val (.ref b54), .unset, .unset, .unset] [(.int i0)])) _
      refine X93.ldcInt hx hown (mvT hZ (hw _ m31)) (g := (mkF m 156 #[.val (.int i0), .val (.ref b1), .val (.ref b54), .unset, .unset, .unset] [(.int i0)])) rfl (hb hby at_156) _ ?_
      show Steps p.tables e below (T93.setTop (mkF m 158 #[.val (.int i0), .val (.ref b1), .val (.ref b54), .unset, .unset, .unset] [(.int (2147483647 : Int32)), (.int i0)])) _
      refine XS.iand X93.here hx rfl (hb hby at_158) rfl ?_
      show Steps p.tables e below (T93.setTop (mkF m 159 #[.val (.int i0), .val (.ref b1), .val (.ref b54), .unset, .unset, .unset] [(.int (i0 &&& (2147483647 : Int32)))])) _
      refine XS.bipush X93.here hx rfl (hb hby at_159) ?_
      exact kt)
  rcases en_17 ((i0 &&& (2147483647 : Int32)) % (13 : Int32)) (by have q0 := (own_rem (i0 &&& (2147483647 : Int32)) (13 : Int32) 13 (by decide) (own_mask i0 (2147483647 : Int32) (by decide) : 0 ≤ ((i0 &&& (2147483647 : Int32))).toInt ∧ ((i0 &&& (2147483647 : Int32))).toInt ≤ 2147483647) (by decide) : 0 ≤ (((i0 &&& (2147483647 : Int32)) % (13 : Int32))).toInt ∧ (((i0 &&& (2147483647 : Int32)) % (13 : Int32))).toInt ≤ 12); omega) with hp0 | hp0 | hp0 | hp0 | hp0 | hp0 | hp0 | hp0 | hp0 | hp0 | hp0 | hp0 | hp0
  · have ne94 : b1 ≠ b54 := (Nat.ne_of_lt (Nat.lt_of_lt_of_le (Nat.lt_of_lt_of_le V1.lt (Nat.le_trans (Nat.le_trans (Nat.le_trans (Nat.le_trans (Nat.le_trans (Nat.le_trans (Nat.le_trans (Nat.le_trans (Nat.le_trans (Nat.le_trans (Nat.le_trans (Nat.le_trans (Nat.le_of_eq W5.size.symm) (Nat.le_of_eq W9.size.symm)) (Nat.le_of_eq W13.size.symm)) (Nat.le_of_eq W17.size.symm)) (Nat.le_of_eq W21.size.symm)) (Nat.le_of_eq W25.size.symm)) (Nat.le_of_eq W29.size.symm)) (Nat.le_of_eq W33.size.symm)) (Nat.le_of_eq W37.size.symm)) (Nat.le_of_eq W41.size.symm)) (Nat.le_of_eq W45.size.symm)) (Nat.le_of_eq W49.size.symm)) (Nat.le_of_eq W53.size.symm))) (Nat.le_of_eq g54.symm)))
    have f95 : Arv Z h93 b1 k1 (.object z0) (13 : Int32) [(.ref w6), (.ref w10), (.ref w4), (.ref w1), (.ref w7), (.ref w5), (.ref w11), (.ref w2), (.ref w3), (.ref w0), (.ref w8), (.ref w12), (.ref w9)] .null := ((((((((((((((V53.ext E54).other W57 ne94).other W60 ne94).other W63 ne94).other W66 ne94).other W69 ne94).other W72 ne94).other W75 ne94).other W78 ne94).other W81 ne94).other W84 ne94).other W87 ne94).other W90 ne94).other W93 ne94)
    have Vo_96 := f95
    obtain ⟨cl_96, Ar_96, q_96, Sz_96, Ng_96, Hs_96, Gt_96⟩ := Vo_96
    have hin97 : ¬ ((0 : Int32) < 0 ∨ cl_96.slots.size ≤ ((0 : Int32)).toNatClampNeg) := inb_of Sz_96 ⟨by decide, by decide⟩
    obtain ⟨_, T98, L98, hQ98, X98, st98⟩ := own_virtual X93 hx hZ (W := 0) hown (hw _ m32) (hw _ m33) (notFace_of_selects (args := #[]) (mvT hZ (hw _ m35))) (hw _ m35) (hw _ m34) (hw _ m3) (hw _ m36) (by decide) (rm1 l Z a0 hw w0 w1 w2 w3 w4 w5 w6 w7 w8 w9 w10 w11 w12 hS [] h93 n0 O93) e93 (hS.2.2.2.2.2.2.2.2.2.2.2.2.2.2.2.2.2.2.2.1.ext O93.2) (g := (mkF m 170 #[.val (.int i0), .val (.ref b1), .val (.ref b54), .val (.int (0 : Int32)), .val (.ref w6), .unset] [(.ref w6)])) rfl (by rw [hml]; rfl) (argsL := []) (rest := []) (lenOf pd31 rfl) rfl rfl (by show 2 * 0 + _ ≤ _; exact Nat.le_of_eq rfl) (hb hby at_170) (by decide) (by decide) (by decide) (by decide)
    obtain ⟨rfl, N98q, e98⟩ := hQ98
    have N98 := Fr.app N93 N98q
    have e98' : T98.heap = h93 := e98
    have Vo_99 := V93
    obtain ⟨cl_99, Ar_99, q_99, Sz_99, Ng_99, Hs_99, Gt_99⟩ := Vo_99
    have hin100 : ¬ ((0 : Int32) < 0 ∨ cl_99.slots.size ≤ ((0 : Int32)).toNatClampNeg) := inb_of Sz_99 ⟨by decide, by decide⟩
    obtain ⟨_, T101, L101, hQ101, X101, st101⟩ := own_virtual X98 hx hZ (W := 0) hown (hw _ m38) (hw _ m39) (notFace_of_selects (args := #[]) (mvT hZ (hw _ m41))) (hw _ m41) (hw _ m40) (hw _ m3) (hw _ m42) (by decide) (rm2 l Z a0 hw w0 w1 w2 w3 w4 w5 w6 w7 w8 w9 w10 w11 w12 hS [] h93 n0 O93) e98' (hS.2.2.2.2.2.2.2.2.2.2.2.2.2.2.2.2.2.2.2.1.ext O93.2) (g := (mkF m 190 #[.val (.int i0), .val (.ref b1), .val (.ref b54), .val (.int (0 : Int32)), .val (.ref w6), .val (.int (1 : Int32))] [(.ref w6)])) rfl (by rw [hml]; rfl) (argsL := []) (rest := []) (lenOf pd31 rfl) rfl rfl (by show 2 * 0 + _ ≤ _; exact Nat.le_of_eq rfl) (hb hby at_190) (by decide) (by decide) (by decide) (by decide)
    obtain ⟨rfl, N101q, e101⟩ := hQ101
    have N101 := Fr.app N98 N101q
    have e101' : T101.heap = h93 := e101
    obtain ⟨fs, hr, hrun, hended, hW, hsame⟩ := X101.leave (v := some (.int (1 : Int32))) (fun h => by rw [Bd.returns] at h; cases h)
    refine ⟨_, _, pre1 _ ?_, hrun, hended, _, _, rfl, ?_, ⟨_, rfl⟩, hW, hsame.mono (by decide) (by decide)⟩
    · show Steps p.tables e below (T93.setTop (mkF m 161 #[.val (.int i0), .val (.ref b1), .val (.ref b54), .unset, .unset, .unset] [(.int (13 : Int32)), (.int (i0 &&& (2147483647 : Int32)))])) _
      refine own_irem X93 hx rfl (hb hby at_161) rfl (by decide : ¬ ((13 : Int32) = (0 : Int32))) hp0 ?_
      show Steps p.tables e below (T93.setTop (mkF m 162 #[.val (.int i0), .val (.ref b1), .val (.ref b54), .unset, .unset, .unset] [(.int (0 : Int32))])) _
      refine XS.istoreN X93.here hx rfl (hb hby at_162) rfl (l' := #[.val (.int i0), .val (.ref b1), .val (.ref b54), .val (.int (0 : Int32)), .unset, .unset]) rfl ?_
      show Steps p.tables e below (T93.setTop (mkF m 163 #[.val (.int i0), .val (.ref b1), .val (.ref b54), .val (.int (0 : Int32)), .unset, .unset] [])) _
      refine XS.aloadN X93.here hx rfl (hb hby at_163) rfl rfl ?_
      show Steps p.tables e below (T93.setTop (mkF m 164 #[.val (.int i0), .val (.ref b1), .val (.ref b54), .val (.int (0 : Int32)), .unset, .unset] [(.ref b1)])) _
      refine XS.iloadN X93.here hx rfl (hb hby at_164) rfl ?_
      show Steps p.tables e below (T93.setTop (mkF m 165 #[.val (.int i0), .val (.ref b1), .val (.ref b54), .val (.int (0 : Int32)), .unset, .unset] [(.int (0 : Int32)), (.ref b1)])) _
      refine X93.aaload hx (j := (0 : Int32)) (v := (.ref w6)) (by rw [e93]; exact Ar_96.1) (State.isArrayOf_alike hZ.alike Ar_96.2.1) rfl Ar_96.2.2 hin97 (Hs_96.at hin97 rfl) (g := (mkF m 165 #[.val (.int i0), .val (.ref b1), .val (.ref b54), .val (.int (0 : Int32)), .unset, .unset] [(.int (0 : Int32)), (.ref b1)])) rfl rfl (hb hby at_165) _ ?_
      show Steps p.tables e below (T93.setTop (mkF m 166 #[.val (.int i0), .val (.ref b1), .val (.ref b54), .val (.int (0 : Int32)), .unset, .unset] [(.ref w6)])) _
      refine XS.astore X93.here hx rfl (hb hby at_166) rfl rfl (l' := #[.val (.int i0), .val (.ref b1), .val (.ref b54), .val (.int (0 : Int32)), .val (.ref w6), .unset]) rfl ?_
      show Steps p.tables e below (T93.setTop (mkF m 168 #[.val (.int i0), .val (.ref b1), .val (.ref b54), .val (.int (0 : Int32)), .val (.ref w6), .unset] [])) _
      refine XS.aload X93.here hx rfl (hb hby at_168) rfl rfl ?_
      show Steps p.tables e below (T93.setTop (mkF m 170 #[.val (.int i0), .val (.ref b1), .val (.ref b54), .val (.int (0 : Int32)), .val (.ref w6), .unset] [(.ref w6)])) _
      refine st98 _ ?_
      show Steps p.tables e below (T98.setTop (mkF m 173 #[.val (.int i0), .val (.ref b1), .val (.ref b54), .val (.int (0 : Int32)), .val (.ref w6), .unset] [(.int (1 : Int32))])) _
      refine XS.istore X98.here hx rfl (hb hby at_173) rfl (l' := #[.val (.int i0), .val (.ref b1), .val (.ref b54), .val (.int (0 : Int32)), .val (.ref w6), .val (.int (1 : Int32))]) rfl ?_
      show Steps p.tables e below (T98.setTop (mkF m 175 #[.val (.int i0), .val (.ref b1), .val (.ref b54), .val (.int (0 : Int32)), .val (.ref w6), .val (.int (1 : Int32))] [])) _
      refine XS.iload X98.here hx rfl (hb hby at_175) rfl ?_
      show Steps p.tables e below (T98.setTop (mkF m 177 #[.val (.int i0), .val (.ref b1), .val (.ref b54), .val (.int (0 : Int32)), .val (.ref w6), .val (.int (1 : Int32))] [(.int (1 : Int32))])) _
      refine XS.aloadN X98.here hx rfl (hb hby at_177) rfl rfl ?_
      show Steps p.tables e below (T98.setTop (mkF m 178 #[.val (.int i0), .val (.ref b1), .val (.ref b54), .val (.int (0 : Int32)), .val (.ref w6), .val (.int (1 : Int32))] [(.ref b54), (.int (1 : Int32))])) _
      refine XS.iloadN X98.here hx rfl (hb hby at_178) rfl ?_
      show Steps p.tables e below (T98.setTop (mkF m 179 #[.val (.int i0), .val (.ref b1), .val (.ref b54), .val (.int (0 : Int32)), .val (.ref w6), .val (.int (1 : Int32))] [(.int (0 : Int32)), (.ref b54), (.int (1 : Int32))])) _
      refine X98.baloadBooleans hx (j := (0 : Int32)) (v := (.int (1 : Int32))) (by rw [e98']; exact Ar_99.1) (State.isArrayOf_alike hZ.alike Ar_99.2.1) Ar_99.2.2 hin100 (Hs_99.at hin100 rfl) (g := (mkF m 179 #[.val (.int i0), .val (.ref b1), .val (.ref b54), .val (.int (0 : Int32)), .val (.ref w6), .val (.int (1 : Int32))] [(.int (0 : Int32)), (.ref b54), (.int (1 : Int32))])) rfl rfl (hb hby at_179) _ ?_
      show Steps p.tables e below (T98.setTop (mkF m 180 #[.val (.int i0), .val (.ref b1), .val (.ref b54), .val (.int (0 : Int32)), .val (.ref w6), .val (.int (1 : Int32))] [(.int (1 : Int32)), (.int (1 : Int32))])) _
      refine XS.icmpNo X98.here hx rfl (hb hby at_180) rfl (teq (by decide : (1 : Int32) = (1 : Int32))).2 ?_
      show Steps p.tables e below (T98.setTop (mkF m 183 #[.val (.int i0), .val (.ref b1), .val (.ref b54), .val (.int (0 : Int32)), .val (.ref w6), .val (.int (1 : Int32))] [])) _
      refine XS.iload X98.here hx rfl (hb hby at_183) rfl ?_
      show Steps p.tables e below (T98.setTop (mkF m 185 #[.val (.int i0), .val (.ref b1), .val (.ref b54), .val (.int (0 : Int32)), .val (.ref w6), .val (.int (1 : Int32))] [(.int (1 : Int32))])) _
      refine XS.ifNo X98.here hx rfl (hb hby at_185) rfl ((if0 _ _).trans (feq (by decide : ¬ ((1 : Int32) = (0 : Int32)))).1) ?_
      show Steps p.tables e below (T98.setTop (mkF m 188 #[.val (.int i0), .val (.ref b1), .val (.ref b54), .val (.int (0 : Int32)), .val (.ref w6), .val (.int (1 : Int32))] [])) _
      refine XS.aload X98.here hx rfl (hb hby at_188) rfl rfl ?_
      show Steps p.tables e below (T98.setTop (mkF m 190 #[.val (.int i0), .val (.ref b1), .val (.ref b54), .val (.int (0 : Int32)), .val (.ref w6), .val (.int (1 : Int32))] [(.ref w6)])) _
      refine st101 _ ?_
      show Steps p.tables e below (T101.setTop (mkF m 193 #[.val (.int i0), .val (.ref b1), .val (.ref b54), .val (.int (0 : Int32)), .val (.ref w6), .val (.int (1 : Int32))] [(.int (0 : Int32))])) _
      refine XS.ifNo X101.here hx rfl (hb hby at_193) rfl ((if0 _ _).trans (teq (by decide : (0 : Int32) = (0 : Int32))).2) ?_
      show Steps p.tables e below (T101.setTop (mkF m 196 #[.val (.int i0), .val (.ref b1), .val (.ref b54), .val (.int (0 : Int32)), .val (.ref w6), .val (.int (1 : Int32))] [])) _
      refine XS.iconst X101.here hx rfl (hb hby at_196) ?_
      show Steps p.tables e below (T101.setTop (mkF m 197 #[.val (.int i0), .val (.ref b1), .val (.ref b54), .val (.int (0 : Int32)), .val (.ref w6), .val (.int (1 : Int32))] [(.int (1 : Int32))])) _
      refine XS.goto X101.here hx rfl (pc0 := 197) (pc' := 201) rfl (hb hby at_197) (by decide) (by decide) ?_
      show Steps p.tables e below (T101.setTop (mkF m 201 #[.val (.int i0), .val (.ref b1), .val (.ref b54), .val (.int (0 : Int32)), .val (.ref w6), .val (.int (1 : Int32))] [(.int (1 : Int32))])) _
      exact retN X101 hx (t := .boolean) Bd.returns (by simp) (hb hby at_201) hr
    · show QL n0 _ T101.heap _
      exact ⟨rfl, N101⟩
  · have ne94 : b1 ≠ b54 := (Nat.ne_of_lt (Nat.lt_of_lt_of_le (Nat.lt_of_lt_of_le V1.lt (Nat.le_trans (Nat.le_trans (Nat.le_trans (Nat.le_trans (Nat.le_trans (Nat.le_trans (Nat.le_trans (Nat.le_trans (Nat.le_trans (Nat.le_trans (Nat.le_trans (Nat.le_trans (Nat.le_of_eq W5.size.symm) (Nat.le_of_eq W9.size.symm)) (Nat.le_of_eq W13.size.symm)) (Nat.le_of_eq W17.size.symm)) (Nat.le_of_eq W21.size.symm)) (Nat.le_of_eq W25.size.symm)) (Nat.le_of_eq W29.size.symm)) (Nat.le_of_eq W33.size.symm)) (Nat.le_of_eq W37.size.symm)) (Nat.le_of_eq W41.size.symm)) (Nat.le_of_eq W45.size.symm)) (Nat.le_of_eq W49.size.symm)) (Nat.le_of_eq W53.size.symm))) (Nat.le_of_eq g54.symm)))
    have f95 : Arv Z h93 b1 k1 (.object z0) (13 : Int32) [(.ref w6), (.ref w10), (.ref w4), (.ref w1), (.ref w7), (.ref w5), (.ref w11), (.ref w2), (.ref w3), (.ref w0), (.ref w8), (.ref w12), (.ref w9)] .null := ((((((((((((((V53.ext E54).other W57 ne94).other W60 ne94).other W63 ne94).other W66 ne94).other W69 ne94).other W72 ne94).other W75 ne94).other W78 ne94).other W81 ne94).other W84 ne94).other W87 ne94).other W90 ne94).other W93 ne94)
    have Vo_96 := f95
    obtain ⟨cl_96, Ar_96, q_96, Sz_96, Ng_96, Hs_96, Gt_96⟩ := Vo_96
    have hin97 : ¬ ((1 : Int32) < 0 ∨ cl_96.slots.size ≤ ((1 : Int32)).toNatClampNeg) := inb_of Sz_96 ⟨by decide, by decide⟩
    obtain ⟨_, T98, L98, hQ98, X98, st98⟩ := own_virtual X93 hx hZ (W := 0) hown (hw _ m32) (hw _ m33) (notFace_of_selects (args := #[]) (mvT hZ (hw _ m35))) (hw _ m35) (hw _ m34) (hw _ m3) (hw _ m36) (by decide) (rm3 l Z a0 hw w0 w1 w2 w3 w4 w5 w6 w7 w8 w9 w10 w11 w12 hS [] h93 n0 O93) e93 (hS.2.2.2.2.2.2.2.2.2.2.2.2.2.2.2.2.2.2.2.2.2.2.2.2.2.2.2.2.2.2.2.1.ext O93.2) (g := (mkF m 170 #[.val (.int i0), .val (.ref b1), .val (.ref b54), .val (.int (1 : Int32)), .val (.ref w10), .unset] [(.ref w10)])) rfl (by rw [hml]; rfl) (argsL := []) (rest := []) (lenOf pd31 rfl) rfl rfl (by show 2 * 0 + _ ≤ _; exact Nat.le_of_eq rfl) (hb hby at_170) (by decide) (by decide) (by decide) (by decide)
    obtain ⟨rfl, N98q, e98⟩ := hQ98
    have N98 := Fr.app N93 N98q
    have e98' : T98.heap = h93 := e98
    have Vo_99 := V93
    obtain ⟨cl_99, Ar_99, q_99, Sz_99, Ng_99, Hs_99, Gt_99⟩ := Vo_99
    have hin100 : ¬ ((1 : Int32) < 0 ∨ cl_99.slots.size ≤ ((1 : Int32)).toNatClampNeg) := inb_of Sz_99 ⟨by decide, by decide⟩
    obtain ⟨fs, hr, hrun, hended, hW, hsame⟩ := X98.leave (v := some (.int (1 : Int32))) (fun h => by rw [Bd.returns] at h; cases h)
    refine ⟨_, _, pre1 _ ?_, hrun, hended, _, _, rfl, ?_, ⟨_, rfl⟩, hW, hsame.mono (by decide) (by decide)⟩
    · show Steps p.tables e below (T93.setTop (mkF m 161 #[.val (.int i0), .val (.ref b1), .val (.ref b54), .unset, .unset, .unset] [(.int (13 : Int32)), (.int (i0 &&& (2147483647 : Int32)))])) _
      refine own_irem X93 hx rfl (hb hby at_161) rfl (by decide : ¬ ((13 : Int32) = (0 : Int32))) hp0 ?_
      show Steps p.tables e below (T93.setTop (mkF m 162 #[.val (.int i0), .val (.ref b1), .val (.ref b54), .unset, .unset, .unset] [(.int (1 : Int32))])) _
      refine XS.istoreN X93.here hx rfl (hb hby at_162) rfl (l' := #[.val (.int i0), .val (.ref b1), .val (.ref b54), .val (.int (1 : Int32)), .unset, .unset]) rfl ?_
      show Steps p.tables e below (T93.setTop (mkF m 163 #[.val (.int i0), .val (.ref b1), .val (.ref b54), .val (.int (1 : Int32)), .unset, .unset] [])) _
      refine XS.aloadN X93.here hx rfl (hb hby at_163) rfl rfl ?_
      show Steps p.tables e below (T93.setTop (mkF m 164 #[.val (.int i0), .val (.ref b1), .val (.ref b54), .val (.int (1 : Int32)), .unset, .unset] [(.ref b1)])) _
      refine XS.iloadN X93.here hx rfl (hb hby at_164) rfl ?_
      show Steps p.tables e below (T93.setTop (mkF m 165 #[.val (.int i0), .val (.ref b1), .val (.ref b54), .val (.int (1 : Int32)), .unset, .unset] [(.int (1 : Int32)), (.ref b1)])) _
      refine X93.aaload hx (j := (1 : Int32)) (v := (.ref w10)) (by rw [e93]; exact Ar_96.1) (State.isArrayOf_alike hZ.alike Ar_96.2.1) rfl Ar_96.2.2 hin97 (Hs_96.at hin97 rfl) (g := (mkF m 165 #[.val (.int i0), .val (.ref b1), .val (.ref b54), .val (.int (1 : Int32)), .unset, .unset] [(.int (1 : Int32)), (.ref b1)])) rfl rfl (hb hby at_165) _ ?_
      show Steps p.tables e below (T93.setTop (mkF m 166 #[.val (.int i0), .val (.ref b1), .val (.ref b54), .val (.int (1 : Int32)), .unset, .unset] [(.ref w10)])) _
      refine XS.astore X93.here hx rfl (hb hby at_166) rfl rfl (l' := #[.val (.int i0), .val (.ref b1), .val (.ref b54), .val (.int (1 : Int32)), .val (.ref w10), .unset]) rfl ?_
      show Steps p.tables e below (T93.setTop (mkF m 168 #[.val (.int i0), .val (.ref b1), .val (.ref b54), .val (.int (1 : Int32)), .val (.ref w10), .unset] [])) _
      refine XS.aload X93.here hx rfl (hb hby at_168) rfl rfl ?_
      show Steps p.tables e below (T93.setTop (mkF m 170 #[.val (.int i0), .val (.ref b1), .val (.ref b54), .val (.int (1 : Int32)), .val (.ref w10), .unset] [(.ref w10)])) _
      refine st98 _ ?_
      show Steps p.tables e below (T98.setTop (mkF m 173 #[.val (.int i0), .val (.ref b1), .val (.ref b54), .val (.int (1 : Int32)), .val (.ref w10), .unset] [(.int (0 : Int32))])) _
      refine XS.istore X98.here hx rfl (hb hby at_173) rfl (l' := #[.val (.int i0), .val (.ref b1), .val (.ref b54), .val (.int (1 : Int32)), .val (.ref w10), .val (.int (0 : Int32))]) rfl ?_
      show Steps p.tables e below (T98.setTop (mkF m 175 #[.val (.int i0), .val (.ref b1), .val (.ref b54), .val (.int (1 : Int32)), .val (.ref w10), .val (.int (0 : Int32))] [])) _
      refine XS.iload X98.here hx rfl (hb hby at_175) rfl ?_
      show Steps p.tables e below (T98.setTop (mkF m 177 #[.val (.int i0), .val (.ref b1), .val (.ref b54), .val (.int (1 : Int32)), .val (.ref w10), .val (.int (0 : Int32))] [(.int (0 : Int32))])) _
      refine XS.aloadN X98.here hx rfl (hb hby at_177) rfl rfl ?_
      show Steps p.tables e below (T98.setTop (mkF m 178 #[.val (.int i0), .val (.ref b1), .val (.ref b54), .val (.int (1 : Int32)), .val (.ref w10), .val (.int (0 : Int32))] [(.ref b54), (.int (0 : Int32))])) _
      refine XS.iloadN X98.here hx rfl (hb hby at_178) rfl ?_
      show Steps p.tables e below (T98.setTop (mkF m 179 #[.val (.int i0), .val (.ref b1), .val (.ref b54), .val (.int (1 : Int32)), .val (.ref w10), .val (.int (0 : Int32))] [(.int (1 : Int32)), (.ref b54), (.int (0 : Int32))])) _
      refine X98.baloadBooleans hx (j := (1 : Int32)) (v := (.int (0 : Int32))) (by rw [e98']; exact Ar_99.1) (State.isArrayOf_alike hZ.alike Ar_99.2.1) Ar_99.2.2 hin100 (Hs_99.at hin100 rfl) (g := (mkF m 179 #[.val (.int i0), .val (.ref b1), .val (.ref b54), .val (.int (1 : Int32)), .val (.ref w10), .val (.int (0 : Int32))] [(.int (1 : Int32)), (.ref b54), (.int (0 : Int32))])) rfl rfl (hb hby at_179) _ ?_
      show Steps p.tables e below (T98.setTop (mkF m 180 #[.val (.int i0), .val (.ref b1), .val (.ref b54), .val (.int (1 : Int32)), .val (.ref w10), .val (.int (0 : Int32))] [(.int (0 : Int32)), (.int (0 : Int32))])) _
      refine XS.icmpNo X98.here hx rfl (hb hby at_180) rfl (teq (by decide : (0 : Int32) = (0 : Int32))).2 ?_
      show Steps p.tables e below (T98.setTop (mkF m 183 #[.val (.int i0), .val (.ref b1), .val (.ref b54), .val (.int (1 : Int32)), .val (.ref w10), .val (.int (0 : Int32))] [])) _
      refine XS.iload X98.here hx rfl (hb hby at_183) rfl ?_
      show Steps p.tables e below (T98.setTop (mkF m 185 #[.val (.int i0), .val (.ref b1), .val (.ref b54), .val (.int (1 : Int32)), .val (.ref w10), .val (.int (0 : Int32))] [(.int (0 : Int32))])) _
      refine XS.ifYes X98.here hx rfl (pc0 := 185) (pc' := 196) rfl (hb hby at_185) rfl ((if0 _ _).trans (teq (by decide : (0 : Int32) = (0 : Int32))).1) (by decide) (by decide) ?_
      show Steps p.tables e below (T98.setTop (mkF m 196 #[.val (.int i0), .val (.ref b1), .val (.ref b54), .val (.int (1 : Int32)), .val (.ref w10), .val (.int (0 : Int32))] [])) _
      refine XS.iconst X98.here hx rfl (hb hby at_196) ?_
      show Steps p.tables e below (T98.setTop (mkF m 197 #[.val (.int i0), .val (.ref b1), .val (.ref b54), .val (.int (1 : Int32)), .val (.ref w10), .val (.int (0 : Int32))] [(.int (1 : Int32))])) _
      refine XS.goto X98.here hx rfl (pc0 := 197) (pc' := 201) rfl (hb hby at_197) (by decide) (by decide) ?_
      show Steps p.tables e below (T98.setTop (mkF m 201 #[.val (.int i0), .val (.ref b1), .val (.ref b54), .val (.int (1 : Int32)), .val (.ref w10), .val (.int (0 : Int32))] [(.int (1 : Int32))])) _
      exact retN X98 hx (t := .boolean) Bd.returns (by simp) (hb hby at_201) hr
    · show QL n0 _ T98.heap _
      exact ⟨rfl, N98⟩
  · have ne94 : b1 ≠ b54 := (Nat.ne_of_lt (Nat.lt_of_lt_of_le (Nat.lt_of_lt_of_le V1.lt (Nat.le_trans (Nat.le_trans (Nat.le_trans (Nat.le_trans (Nat.le_trans (Nat.le_trans (Nat.le_trans (Nat.le_trans (Nat.le_trans (Nat.le_trans (Nat.le_trans (Nat.le_trans (Nat.le_of_eq W5.size.symm) (Nat.le_of_eq W9.size.symm)) (Nat.le_of_eq W13.size.symm)) (Nat.le_of_eq W17.size.symm)) (Nat.le_of_eq W21.size.symm)) (Nat.le_of_eq W25.size.symm)) (Nat.le_of_eq W29.size.symm)) (Nat.le_of_eq W33.size.symm)) (Nat.le_of_eq W37.size.symm)) (Nat.le_of_eq W41.size.symm)) (Nat.le_of_eq W45.size.symm)) (Nat.le_of_eq W49.size.symm)) (Nat.le_of_eq W53.size.symm))) (Nat.le_of_eq g54.symm)))
    have f95 : Arv Z h93 b1 k1 (.object z0) (13 : Int32) [(.ref w6), (.ref w10), (.ref w4), (.ref w1), (.ref w7), (.ref w5), (.ref w11), (.ref w2), (.ref w3), (.ref w0), (.ref w8), (.ref w12), (.ref w9)] .null := ((((((((((((((V53.ext E54).other W57 ne94).other W60 ne94).other W63 ne94).other W66 ne94).other W69 ne94).other W72 ne94).other W75 ne94).other W78 ne94).other W81 ne94).other W84 ne94).other W87 ne94).other W90 ne94).other W93 ne94)
    have Vo_96 := f95
    obtain ⟨cl_96, Ar_96, q_96, Sz_96, Ng_96, Hs_96, Gt_96⟩ := Vo_96
    have hin97 : ¬ ((2 : Int32) < 0 ∨ cl_96.slots.size ≤ ((2 : Int32)).toNatClampNeg) := inb_of Sz_96 ⟨by decide, by decide⟩
    obtain ⟨_, T98, L98, hQ98, X98, st98⟩ := own_virtual X93 hx hZ (W := 0) hown (hw _ m32) (hw _ m33) (notFace_of_selects (args := #[]) (mvT hZ (hw _ m35))) (hw _ m35) (hw _ m34) (hw _ m3) (hw _ m36) (by decide) (rm4 l Z a0 hw w0 w1 w2 w3 w4 w5 w6 w7 w8 w9 w10 w11 w12 hS [] h93 n0 O93) e93 (hS.2.2.2.2.2.2.2.2.2.2.2.2.2.1.ext O93.2) (g := (mkF m 170 #[.val (.int i0), .val (.ref b1), .val (.ref b54), .val (.int (2 : Int32)), .val (.ref w4), .unset] [(.ref w4)])) rfl (by rw [hml]; rfl) (argsL := []) (rest := []) (lenOf pd31 rfl) rfl rfl (by show 2 * 0 + _ ≤ _; exact Nat.le_of_eq rfl) (hb hby at_170) (by decide) (by decide) (by decide) (by decide)
    obtain ⟨rfl, N98q, e98⟩ := hQ98
    have N98 := Fr.app N93 N98q
    have e98' : T98.heap = h93 := e98
    have Vo_99 := V93
    obtain ⟨cl_99, Ar_99, q_99, Sz_99, Ng_99, Hs_99, Gt_99⟩ := Vo_99
    have hin100 : ¬ ((2 : Int32) < 0 ∨ cl_99.slots.size ≤ ((2 : Int32)).toNatClampNeg) := inb_of Sz_99 ⟨by decide, by decide⟩
    obtain ⟨fs, hr, hrun, hended, hW, hsame⟩ := X98.leave (v := some (.int (1 : Int32))) (fun h => by rw [Bd.returns] at h; cases h)
    refine ⟨_, _, pre1 _ ?_, hrun, hended, _, _, rfl, ?_, ⟨_, rfl⟩, hW, hsame.mono (by decide) (by decide)⟩
    · show Steps p.tables e below (T93.setTop (mkF m 161 #[.val (.int i0), .val (.ref b1), .val (.ref b54), .unset, .unset, .unset] [(.int (13 : Int32)), (.int (i0 &&& (2147483647 : Int32)))])) _
      refine own_irem X93 hx rfl (hb hby at_161) rfl (by decide : ¬ ((13 : Int32) = (0 : Int32))) hp0 ?_
      show Steps p.tables e below (T93.setTop (mkF m 162 #[.val (.int i0), .val (.ref b1), .val (.ref b54), .unset, .unset, .unset] [(.int (2 : Int32))])) _
      refine XS.istoreN X93.here hx rfl (hb hby at_162) rfl (l' := #[.val (.int i0), .val (.ref b1), .val (.ref b54), .val (.int (2 : Int32)), .unset, .unset]) rfl ?_
      show Steps p.tables e below (T93.setTop (mkF m 163 #[.val (.int i0), .val (.ref b1), .val (.ref b54), .val (.int (2 : Int32)), .unset, .unset] [])) _
      refine XS.aloadN X93.here hx rfl (hb hby at_163) rfl rfl ?_
      show Steps p.tables e below (T93.setTop (mkF m 164 #[.val (.int i0), .val (.ref b1), .val (.ref b54), .val (.int (2 : Int32)), .unset, .unset] [(.ref b1)])) _
      refine XS.iloadN X93.here hx rfl (hb hby at_164) rfl ?_
      show Steps p.tables e below (T93.setTop (mkF m 165 #[.val (.int i0), .val (.ref b1), .val (.ref b54), .val (.int (2 : Int32)), .unset, .unset] [(.int (2 : Int32)), (.ref b1)])) _
      refine X93.aaload hx (j := (2 : Int32)) (v := (.ref w4)) (by rw [e93]; exact Ar_96.1) (State.isArrayOf_alike hZ.alike Ar_96.2.1) rfl Ar_96.2.2 hin97 (Hs_96.at hin97 rfl) (g := (mkF m 165 #[.val (.int i0), .val (.ref b1), .val (.ref b54), .val (.int (2 : Int32)), .unset, .unset] [(.int (2 : Int32)), (.ref b1)])) rfl rfl (hb hby at_165) _ ?_
      show Steps p.tables e below (T93.setTop (mkF m 166 #[.val (.int i0), .val (.ref b1), .val (.ref b54), .val (.int (2 : Int32)), .unset, .unset] [(.ref w4)])) _
      refine XS.astore X93.here hx rfl (hb hby at_166) rfl rfl (l' := #[.val (.int i0), .val (.ref b1), .val (.ref b54), .val (.int (2 : Int32)), .val (.ref w4), .unset]) rfl ?_
      show Steps p.tables e below (T93.setTop (mkF m 168 #[.val (.int i0), .val (.ref b1), .val (.ref b54), .val (.int (2 : Int32)), .val (.ref w4), .unset] [])) _
      refine XS.aload X93.here hx rfl (hb hby at_168) rfl rfl ?_
      show Steps p.tables e below (T93.setTop (mkF m 170 #[.val (.int i0), .val (.ref b1), .val (.ref b54), .val (.int (2 : Int32)), .val (.ref w4), .unset] [(.ref w4)])) _
      refine st98 _ ?_
      show Steps p.tables e below (T98.setTop (mkF m 173 #[.val (.int i0), .val (.ref b1), .val (.ref b54), .val (.int (2 : Int32)), .val (.ref w4), .unset] [(.int (0 : Int32))])) _
      refine XS.istore X98.here hx rfl (hb hby at_173) rfl (l' := #[.val (.int i0), .val (.ref b1), .val (.ref b54), .val (.int (2 : Int32)), .val (.ref w4), .val (.int (0 : Int32))]) rfl ?_
      show Steps p.tables e below (T98.setTop (mkF m 175 #[.val (.int i0), .val (.ref b1), .val (.ref b54), .val (.int (2 : Int32)), .val (.ref w4), .val (.int (0 : Int32))] [])) _
      refine XS.iload X98.here hx rfl (hb hby at_175) rfl ?_
      show Steps p.tables e below (T98.setTop (mkF m 177 #[.val (.int i0), .val (.ref b1), .val (.ref b54), .val (.int (2 : Int32)), .val (.ref w4), .val (.int (0 : Int32))] [(.int (0 : Int32))])) _
      refine XS.aloadN X98.here hx rfl (hb hby at_177) rfl rfl ?_
      show Steps p.tables e below (T98.setTop (mkF m 178 #[.val (.int i0), .val (.ref b1), .val (.ref b54), .val (.int (2 : Int32)), .val (.ref w4), .val (.int (0 : Int32))] [(.ref b54), (.int (0 : Int32))])) _
      refine XS.iloadN X98.here hx rfl (hb hby at_178) rfl ?_
      show Steps p.tables e below (T98.setTop (mkF m 179 #[.val (.int i0), .val (.ref b1), .val (.ref b54), .val (.int (2 : Int32)), .val (.ref w4), .val (.int (0 : Int32))] [(.int (2 : Int32)), (.ref b54), (.int (0 : Int32))])) _
      refine X98.baloadBooleans hx (j := (2 : Int32)) (v := (.int (0 : Int32))) (by rw [e98']; exact Ar_99.1) (State.isArrayOf_alike hZ.alike Ar_99.2.1) Ar_99.2.2 hin100 (Hs_99.at hin100 rfl) (g := (mkF m 179 #[.val (.int i0), .val (.ref b1), .val (.ref b54), .val (.int (2 : Int32)), .val (.ref w4), .val (.int (0 : Int32))] [(.int (2 : Int32)), (.ref b54), (.int (0 : Int32))])) rfl rfl (hb hby at_179) _ ?_
      show Steps p.tables e below (T98.setTop (mkF m 180 #[.val (.int i0), .val (.ref b1), .val (.ref b54), .val (.int (2 : Int32)), .val (.ref w4), .val (.int (0 : Int32))] [(.int (0 : Int32)), (.int (0 : Int32))])) _
      refine XS.icmpNo X98.here hx rfl (hb hby at_180) rfl (teq (by decide : (0 : Int32) = (0 : Int32))).2 ?_
      show Steps p.tables e below (T98.setTop (mkF m 183 #[.val (.int i0), .val (.ref b1), .val (.ref b54), .val (.int (2 : Int32)), .val (.ref w4), .val (.int (0 : Int32))] [])) _
      refine XS.iload X98.here hx rfl (hb hby at_183) rfl ?_
      show Steps p.tables e below (T98.setTop (mkF m 185 #[.val (.int i0), .val (.ref b1), .val (.ref b54), .val (.int (2 : Int32)), .val (.ref w4), .val (.int (0 : Int32))] [(.int (0 : Int32))])) _
      refine XS.ifYes X98.here hx rfl (pc0 := 185) (pc' := 196) rfl (hb hby at_185) rfl ((if0 _ _).trans (teq (by decide : (0 : Int32) = (0 : Int32))).1) (by decide) (by decide) ?_
      show Steps p.tables e below (T98.setTop (mkF m 196 #[.val (.int i0), .val (.ref b1), .val (.ref b54), .val (.int (2 : Int32)), .val (.ref w4), .val (.int (0 : Int32))] [])) _
      refine XS.iconst X98.here hx rfl (hb hby at_196) ?_
      show Steps p.tables e below (T98.setTop (mkF m 197 #[.val (.int i0), .val (.ref b1), .val (.ref b54), .val (.int (2 : Int32)), .val (.ref w4), .val (.int (0 : Int32))] [(.int (1 : Int32))])) _
      refine XS.goto X98.here hx rfl (pc0 := 197) (pc' := 201) rfl (hb hby at_197) (by decide) (by decide) ?_
      show Steps p.tables e below (T98.setTop (mkF m 201 #[.val (.int i0), .val (.ref b1), .val (.ref b54), .val (.int (2 : Int32)), .val (.ref w4), .val (.int (0 : Int32))] [(.int (1 : Int32))])) _
      exact retN X98 hx (t := .boolean) Bd.returns (by simp) (hb hby at_201) hr
    · show QL n0 _ T98.heap _
      exact ⟨rfl, N98⟩
  · have ne94 : b1 ≠ b54 := (Nat.ne_of_lt (Nat.lt_of_lt_of_le (Nat.lt_of_lt_of_le V1.lt (Nat.le_trans (Nat.le_trans (Nat.le_trans (Nat.le_trans (Nat.le_trans (Nat.le_trans (Nat.le_trans (Nat.le_trans (Nat.le_trans (Nat.le_trans (Nat.le_trans (Nat.le_trans (Nat.le_of_eq W5.size.symm) (Nat.le_of_eq W9.size.symm)) (Nat.le_of_eq W13.size.symm)) (Nat.le_of_eq W17.size.symm)) (Nat.le_of_eq W21.size.symm)) (Nat.le_of_eq W25.size.symm)) (Nat.le_of_eq W29.size.symm)) (Nat.le_of_eq W33.size.symm)) (Nat.le_of_eq W37.size.symm)) (Nat.le_of_eq W41.size.symm)) (Nat.le_of_eq W45.size.symm)) (Nat.le_of_eq W49.size.symm)) (Nat.le_of_eq W53.size.symm))) (Nat.le_of_eq g54.symm)))
    have f95 : Arv Z h93 b1 k1 (.object z0) (13 : Int32) [(.ref w6), (.ref w10), (.ref w4), (.ref w1), (.ref w7), (.ref w5), (.ref w11), (.ref w2), (.ref w3), (.ref w0), (.ref w8), (.ref w12), (.ref w9)] .null := ((((((((((((((V53.ext E54).other W57 ne94).other W60 ne94).other W63 ne94).other W66 ne94).other W69 ne94).other W72 ne94).other W75 ne94).other W78 ne94).other W81 ne94).other W84 ne94).other W87 ne94).other W90 ne94).other W93 ne94)
    have Vo_96 := f95
    obtain ⟨cl_96, Ar_96, q_96, Sz_96, Ng_96, Hs_96, Gt_96⟩ := Vo_96
    have hin97 : ¬ ((3 : Int32) < 0 ∨ cl_96.slots.size ≤ ((3 : Int32)).toNatClampNeg) := inb_of Sz_96 ⟨by decide, by decide⟩
    obtain ⟨_, T98, L98, hQ98, X98, st98⟩ := own_virtual X93 hx hZ (W := 0) hown (hw _ m32) (hw _ m33) (notFace_of_selects (args := #[]) (mvT hZ (hw _ m35))) (hw _ m35) (hw _ m34) (hw _ m3) (hw _ m36) (by decide) (rm5 l Z a0 hw w0 w1 w2 w3 w4 w5 w6 w7 w8 w9 w10 w11 w12 hS [] h93 n0 O93) e93 (hS.2.2.2.2.1.ext O93.2) (g := (mkF m 170 #[.val (.int i0), .val (.ref b1), .val (.ref b54), .val (.int (3 : Int32)), .val (.ref w1), .unset] [(.ref w1)])) rfl (by rw [hml]; rfl) (argsL := []) (rest := []) (lenOf pd31 rfl) rfl rfl (by show 2 * 0 + _ ≤ _; exact Nat.le_of_eq rfl) (hb hby at_170) (by decide) (by decide) (by decide) (by decide)
    obtain ⟨rfl, N98q, e98⟩ := hQ98
    have N98 := Fr.app N93 N98q
    have e98' : T98.heap = h93 := e98
    have Vo_99 := V93
    obtain ⟨cl_99, Ar_99, q_99, Sz_99, Ng_99, Hs_99, Gt_99⟩ := Vo_99
    have hin100 : ¬ ((3 : Int32) < 0 ∨ cl_99.slots.size ≤ ((3 : Int32)).toNatClampNeg) := inb_of Sz_99 ⟨by decide, by decide⟩
    obtain ⟨_, T101, L101, hQ101, X101, st101⟩ := own_virtual X98 hx hZ (W := 0) hown (hw _ m38) (hw _ m39) (notFace_of_selects (args := #[]) (mvT hZ (hw _ m41))) (hw _ m41) (hw _ m40) (hw _ m3) (hw _ m42) (by decide) (rm6 l Z a0 hw w0 w1 w2 w3 w4 w5 w6 w7 w8 w9 w10 w11 w12 hS [] h93 n0 O93) e98' (hS.2.2.2.2.1.ext O93.2) (g := (mkF m 190 #[.val (.int i0), .val (.ref b1), .val (.ref b54), .val (.int (3 : Int32)), .val (.ref w1), .val (.int (1 : Int32))] [(.ref w1)])) rfl (by rw [hml]; rfl) (argsL := []) (rest := []) (lenOf pd31 rfl) rfl rfl (by show 2 * 0 + _ ≤ _; exact Nat.le_of_eq rfl) (hb hby at_190) (by decide) (by decide) (by decide) (by decide)
    obtain ⟨rfl, N101q, e101⟩ := hQ101
    have N101 := Fr.app N98 N101q
    have e101' : T101.heap = h93 := e101
    obtain ⟨fs, hr, hrun, hended, hW, hsame⟩ := X101.leave (v := some (.int (1 : Int32))) (fun h => by rw [Bd.returns] at h; cases h)
    refine ⟨_, _, pre1 _ ?_, hrun, hended, _, _, rfl, ?_, ⟨_, rfl⟩, hW, hsame.mono (by decide) (by decide)⟩
    · show Steps p.tables e below (T93.setTop (mkF m 161 #[.val (.int i0), .val (.ref b1), .val (.ref b54), .unset, .unset, .unset] [(.int (13 : Int32)), (.int (i0 &&& (2147483647 : Int32)))])) _
      refine own_irem X93 hx rfl (hb hby at_161) rfl (by decide : ¬ ((13 : Int32) = (0 : Int32))) hp0 ?_
      show Steps p.tables e below (T93.setTop (mkF m 162 #[.val (.int i0), .val (.ref b1), .val (.ref b54), .unset, .unset, .unset] [(.int (3 : Int32))])) _
      refine XS.istoreN X93.here hx rfl (hb hby at_162) rfl (l' := #[.val (.int i0), .val (.ref b1), .val (.ref b54), .val (.int (3 : Int32)), .unset, .unset]) rfl ?_
      show Steps p.tables e below (T93.setTop (mkF m 163 #[.val (.int i0), .val (.ref b1), .val (.ref b54), .val (.int (3 : Int32)), .unset, .unset] [])) _
      refine XS.aloadN X93.here hx rfl (hb hby at_163) rfl rfl ?_
      show Steps p.tables e below (T93.setTop (mkF m 164 #[.val (.int i0), .val (.ref b1), .val (.ref b54), .val (.int (3 : Int32)), .unset, .unset] [(.ref b1)])) _
      refine XS.iloadN X93.here hx rfl (hb hby at_164) rfl ?_
      show Steps p.tables e below (T93.setTop (mkF m 165 #[.val (.int i0), .val (.ref b1), .val (.ref b54), .val (.int (3 : Int32)), .unset, .unset] [(.int (3 : Int32)), (.ref b1)])) _
      refine X93.aaload hx (j := (3 : Int32)) (v := (.ref w1)) (by rw [e93]; exact Ar_96.1) (State.isArrayOf_alike hZ.alike Ar_96.2.1) rfl Ar_96.2.2 hin97 (Hs_96.at hin97 rfl) (g := (mkF m 165 #[.val (.int i0), .val (.ref b1), .val (.ref b54), .val (.int (3 : Int32)), .unset, .unset] [(.int (3 : Int32)), (.ref b1)])) rfl rfl (hb hby at_165) _ ?_
      show Steps p.tables e below (T93.setTop (mkF m 166 #[.val (.int i0), .val (.ref b1), .val (.ref b54), .val (.int (3 : Int32)), .unset, .unset] [(.ref w1)])) _
      refine XS.astore X93.here hx rfl (hb hby at_166) rfl rfl (l' := #[.val (.int i0), .val (.ref b1), .val (.ref b54), .val (.int (3 : Int32)), .val (.ref w1), .unset]) rfl ?_
      show Steps p.tables e below (T93.setTop (mkF m 168 #[.val (.int i0), .val (.ref b1), .val (.ref b54), .val (.int (3 : Int32)), .val (.ref w1), .unset] [])) _
      refine XS.aload X93.here hx rfl (hb hby at_168) rfl rfl ?_
      show Steps p.tables e below (T93.setTop (mkF m 170 #[.val (.int i0), .val (.ref b1), .val (.ref b54), .val (.int (3 : Int32)), .val (.ref w1), .unset] [(.ref w1)])) _
      refine st98 _ ?_
      show Steps p.tables e below (T98.setTop (mkF m 173 #[.val (.int i0), .val (.ref b1), .val (.ref b54), .val (.int (3 : Int32)), .val (.ref w1), .unset] [(.int (1 : Int32))])) _
      refine XS.istore X98.here hx rfl (hb hby at_173) rfl (l' := #[.val (.int i0), .val (.ref b1), .val (.ref b54), .val (.int (3 : Int32)), .val (.ref w1), .val (.int (1 : Int32))]) rfl ?_
      show Steps p.tables e below (T98.setTop (mkF m 175 #[.val (.int i0), .val (.ref b1), .val (.ref b54), .val (.int (3 : Int32)), .val (.ref w1), .val (.int (1 : Int32))] [])) _
      refine XS.iload X98.here hx rfl (hb hby at_175) rfl ?_
      show Steps p.tables e below (T98.setTop (mkF m 177 #[.val (.int i0), .val (.ref b1), .val (.ref b54), .val (.int (3 : Int32)), .val (.ref w1), .val (.int (1 : Int32))] [(.int (1 : Int32))])) _
      refine XS.aloadN X98.here hx rfl (hb hby at_177) rfl rfl ?_
      show Steps p.tables e below (T98.setTop (mkF m 178 #[.val (.int i0), .val (.ref b1), .val (.ref b54), .val (.int (3 : Int32)), .val (.ref w1), .val (.int (1 : Int32))] [(.ref b54), (.int (1 : Int32))])) _
      refine XS.iloadN X98.here hx rfl (hb hby at_178) rfl ?_
      show Steps p.tables e below (T98.setTop (mkF m 179 #[.val (.int i0), .val (.ref b1), .val (.ref b54), .val (.int (3 : Int32)), .val (.ref w1), .val (.int (1 : Int32))] [(.int (3 : Int32)), (.ref b54), (.int (1 : Int32))])) _
      refine X98.baloadBooleans hx (j := (3 : Int32)) (v := (.int (1 : Int32))) (by rw [e98']; exact Ar_99.1) (State.isArrayOf_alike hZ.alike Ar_99.2.1) Ar_99.2.2 hin100 (Hs_99.at hin100 rfl) (g := (mkF m 179 #[.val (.int i0), .val (.ref b1), .val (.ref b54), .val (.int (3 : Int32)), .val (.ref w1), .val (.int (1 : Int32))] [(.int (3 : Int32)), (.ref b54), (.int (1 : Int32))])) rfl rfl (hb hby at_179) _ ?_
      show Steps p.tables e below (T98.setTop (mkF m 180 #[.val (.int i0), .val (.ref b1), .val (.ref b54), .val (.int (3 : Int32)), .val (.ref w1), .val (.int (1 : Int32))] [(.int (1 : Int32)), (.int (1 : Int32))])) _
      refine XS.icmpNo X98.here hx rfl (hb hby at_180) rfl (teq (by decide : (1 : Int32) = (1 : Int32))).2 ?_
      show Steps p.tables e below (T98.setTop (mkF m 183 #[.val (.int i0), .val (.ref b1), .val (.ref b54), .val (.int (3 : Int32)), .val (.ref w1), .val (.int (1 : Int32))] [])) _
      refine XS.iload X98.here hx rfl (hb hby at_183) rfl ?_
      show Steps p.tables e below (T98.setTop (mkF m 185 #[.val (.int i0), .val (.ref b1), .val (.ref b54), .val (.int (3 : Int32)), .val (.ref w1), .val (.int (1 : Int32))] [(.int (1 : Int32))])) _
      refine XS.ifNo X98.here hx rfl (hb hby at_185) rfl ((if0 _ _).trans (feq (by decide : ¬ ((1 : Int32) = (0 : Int32)))).1) ?_
      show Steps p.tables e below (T98.setTop (mkF m 188 #[.val (.int i0), .val (.ref b1), .val (.ref b54), .val (.int (3 : Int32)), .val (.ref w1), .val (.int (1 : Int32))] [])) _
      refine XS.aload X98.here hx rfl (hb hby at_188) rfl rfl ?_
      show Steps p.tables e below (T98.setTop (mkF m 190 #[.val (.int i0), .val (.ref b1), .val (.ref b54), .val (.int (3 : Int32)), .val (.ref w1), .val (.int (1 : Int32))] [(.ref w1)])) _
      refine st101 _ ?_
      show Steps p.tables e below (T101.setTop (mkF m 193 #[.val (.int i0), .val (.ref b1), .val (.ref b54), .val (.int (3 : Int32)), .val (.ref w1), .val (.int (1 : Int32))] [(.int (0 : Int32))])) _
      refine XS.ifNo X101.here hx rfl (hb hby at_193) rfl ((if0 _ _).trans (teq (by decide : (0 : Int32) = (0 : Int32))).2) ?_
      show Steps p.tables e below (T101.setTop (mkF m 196 #[.val (.int i0), .val (.ref b1), .val (.ref b54), .val (.int (3 : Int32)), .val (.ref w1), .val (.int (1 : Int32))] [])) _
      refine XS.iconst X101.here hx rfl (hb hby at_196) ?_
      show Steps p.tables e below (T101.setTop (mkF m 197 #[.val (.int i0), .val (.ref b1), .val (.ref b54), .val (.int (3 : Int32)), .val (.ref w1), .val (.int (1 : Int32))] [(.int (1 : Int32))])) _
      refine XS.goto X101.here hx rfl (pc0 := 197) (pc' := 201) rfl (hb hby at_197) (by decide) (by decide) ?_
      show Steps p.tables e below (T101.setTop (mkF m 201 #[.val (.int i0), .val (.ref b1), .val (.ref b54), .val (.int (3 : Int32)), .val (.ref w1), .val (.int (1 : Int32))] [(.int (1 : Int32))])) _
      exact retN X101 hx (t := .boolean) Bd.returns (by simp) (hb hby at_201) hr
    · show QL n0 _ T101.heap _
      exact ⟨rfl, N101⟩
  · have ne94 : b1 ≠ b54 := (Nat.ne_of_lt (Nat.lt_of_lt_of_le (Nat.lt_of_lt_of_le V1.lt (Nat.le_trans (Nat.le_trans (Nat.le_trans (Nat.le_trans (Nat.le_trans (Nat.le_trans (Nat.le_trans (Nat.le_trans (Nat.le_trans (Nat.le_trans (Nat.le_trans (Nat.le_trans (Nat.le_of_eq W5.size.symm) (Nat.le_of_eq W9.size.symm)) (Nat.le_of_eq W13.size.symm)) (Nat.le_of_eq W17.size.symm)) (Nat.le_of_eq W21.size.symm)) (Nat.le_of_eq W25.size.symm)) (Nat.le_of_eq W29.size.symm)) (Nat.le_of_eq W33.size.symm)) (Nat.le_of_eq W37.size.symm)) (Nat.le_of_eq W41.size.symm)) (Nat.le_of_eq W45.size.symm)) (Nat.le_of_eq W49.size.symm)) (Nat.le_of_eq W53.size.symm))) (Nat.le_of_eq g54.symm)))
    have f95 : Arv Z h93 b1 k1 (.object z0) (13 : Int32) [(.ref w6), (.ref w10), (.ref w4), (.ref w1), (.ref w7), (.ref w5), (.ref w11), (.ref w2), (.ref w3), (.ref w0), (.ref w8), (.ref w12), (.ref w9)] .null := ((((((((((((((V53.ext E54).other W57 ne94).other W60 ne94).other W63 ne94).other W66 ne94).other W69 ne94).other W72 ne94).other W75 ne94).other W78 ne94).other W81 ne94).other W84 ne94).other W87 ne94).other W90 ne94).other W93 ne94)
    have Vo_96 := f95
    obtain ⟨cl_96, Ar_96, q_96, Sz_96, Ng_96, Hs_96, Gt_96⟩ := Vo_96
    have hin97 : ¬ ((4 : Int32) < 0 ∨ cl_96.slots.size ≤ ((4 : Int32)).toNatClampNeg) := inb_of Sz_96 ⟨by decide, by decide⟩
    obtain ⟨_, T98, L98, hQ98, X98, st98⟩ := own_virtual X93 hx hZ (W := 0) hown (hw _ m32) (hw _ m33) (notFace_of_selects (args := #[]) (mvT hZ (hw _ m35))) (hw _ m35) (hw _ m34) (hw _ m3) (hw _ m36) (by decide) (rm7 l Z a0 hw w0 w1 w2 w3 w4 w5 w6 w7 w8 w9 w10 w11 w12 hS [] h93 n0 O93) e93 (hS.2.2.2.2.2.2.2.2.2.2.2.2.2.2.2.2.2.2.2.2.2.2.1.ext O93.2) (g := (mkF m 170 #[.val (.int i0), .val (.ref b1), .val (.ref b54), .val (.int (4 : Int32)), .val (.ref w7), .unset] [(.ref w7)])) rfl (by rw [hml]; rfl) (argsL := []) (rest := []) (lenOf pd31 rfl) rfl rfl (by show 2 * 0 + _ ≤ _; exact Nat.le_of_eq rfl) (hb hby at_170) (by decide) (by decide) (by decide) (by decide)
    obtain ⟨rfl, N98q, e98⟩ := hQ98
    have N98 := Fr.app N93 N98q
    have e98' : T98.heap = h93 := e98
    have Vo_99 := V93
    obtain ⟨cl_99, Ar_99, q_99, Sz_99, Ng_99, Hs_99, Gt_99⟩ := Vo_99
    have hin100 : ¬ ((4 : Int32) < 0 ∨ cl_99.slots.size ≤ ((4 : Int32)).toNatClampNeg) := inb_of Sz_99 ⟨by decide, by decide⟩
    obtain ⟨_, T101, L101, hQ101, X101, st101⟩ := own_virtual X98 hx hZ (W := 0) hown (hw _ m38) (hw _ m39) (notFace_of_selects (args := #[]) (mvT hZ (hw _ m41))) (hw _ m41) (hw _ m40) (hw _ m3) (hw _ m42) (by decide) (rm8 l Z a0 hw w0 w1 w2 w3 w4 w5 w6 w7 w8 w9 w10 w11 w12 hS [] h93 n0 O93) e98' (hS.2.2.2.2.2.2.2.2.2.2.2.2.2.2.2.2.2.2.2.2.2.2.1.ext O93.2) (g := (mkF m 190 #[.val (.int i0), .val (.ref b1), .val (.ref b54), .val (.int (4 : Int32)), .val (.ref w7), .val (.int (1 : Int32))] [(.ref w7)])) rfl (by rw [hml]; rfl) (argsL := []) (rest := []) (lenOf pd31 rfl) rfl rfl (by show 2 * 0 + _ ≤ _; exact Nat.le_of_eq rfl) (hb hby at_190) (by decide) (by decide) (by decide) (by decide)
    obtain ⟨rfl, N101q, e101⟩ := hQ101
    have N101 := Fr.app N98 N101q
    have e101' : T101.heap = h93 := e101
    obtain ⟨fs, hr, hrun, hended, hW, hsame⟩ := X101.leave (v := some (.int (1 : Int32))) (fun h => by rw [Bd.returns] at h; cases h)
    refine ⟨_, _, pre1 _ ?_, hrun, hended, _, _, rfl, ?_, ⟨_, rfl⟩, hW, hsame.mono (by decide) (by decide)⟩
    · show Steps p.tables e below (T93.setTop (mkF m 161 #[.val (.int i0), .val (.ref b1), .val (.ref b54), .unset, .unset, .unset] [(.int (13 : Int32)), (.int (i0 &&& (2147483647 : Int32)))])) _
      refine own_irem X93 hx rfl (hb hby at_161) rfl (by decide : ¬ ((13 : Int32) = (0 : Int32))) hp0 ?_
      show Steps p.tables e below (T93.setTop (mkF m 162 #[.val (.int i0), .val (.ref b1), .val (.ref b54), .unset, .unset, .unset] [(.int (4 : Int32))])) _
      refine XS.istoreN X93.here hx rfl (hb hby at_162) rfl (l' := #[.val (.int i0), .val (.ref b1), .val (.ref b54), .val (.int (4 : Int32)), .unset, .unset]) rfl ?_
      show Steps p.tables e below (T93.setTop (mkF m 163 #[.val (.int i0), .val (.ref b1), .val (.ref b54), .val (.int (4 : Int32)), .unset, .unset] [])) _
      refine XS.aloadN X93.here hx rfl (hb hby at_163) rfl rfl ?_
      show Steps p.tables e below (T93.setTop (mkF m 164 #[.val (.int i0), .val (.ref b1), .val (.ref b54), .val (.int (4 : Int32)), .unset, .unset] [(.ref b1)])) _
      refine XS.iloadN X93.here hx rfl (hb hby at_164) rfl ?_
      show Steps p.tables e below (T93.setTop (mkF m 165 #[.val (.int i0), .val (.ref b1), .val (.ref b54), .val (.int (4 : Int32)), .unset, .unset] [(.int (4 : Int32)), (.ref b1)])) _
      refine X93.aaload hx (j := (4 : Int32)) (v := (.ref w7)) (by rw [e93]; exact Ar_96.1) (State.isArrayOf_alike hZ.alike Ar_96.2.1) rfl Ar_96.2.2 hin97 (Hs_96.at hin97 rfl) (g := (mkF m 165 #[.val (.int i0), .val (.ref b1), .val (.ref b54), .val (.int (4 : Int32)), .unset, .unset] [(.int (4 : Int32)), (.ref b1)])) rfl rfl (hb hby at_165) _ ?_
      show Steps p.tables e below (T93.setTop (mkF m 166 #[.val (.int i0), .val (.ref b1), .val (.ref b54), .val (.int (4 : Int32)), .unset, .unset] [(.ref w7)])) _
      refine XS.astore X93.here hx rfl (hb hby at_166) rfl rfl (l' := #[.val (.int i0), .val (.ref b1), .val (.ref b54), .val (.int (4 : Int32)), .val (.ref w7), .unset]) rfl ?_
      show Steps p.tables e below (T93.setTop (mkF m 168 #[.val (.int i0), .val (.ref b1), .val (.ref b54), .val (.int (4 : Int32)), .val (.ref w7), .unset] [])) _
      refine XS.aload X93.here hx rfl (hb hby at_168) rfl rfl ?_
      show Steps p.tables e below (T93.setTop (mkF m 170 #[.val (.int i0), .val (.ref b1), .val (.ref b54), .val (.int (4 : Int32)), .val (.ref w7), .unset] [(.ref w7)])) _
      refine st98 _ ?_
      show Steps p.tables e below (T98.setTop (mkF m 173 #[.val (.int i0), .val (.ref b1), .val (.ref b54), .val (.int (4 : Int32)), .val (.ref w7), .unset] [(.int (1 : Int32))])) _
      refine XS.istore X98.here hx rfl (hb hby at_173) rfl (l' := #[.val (.int i0), .val (.ref b1), .val (.ref b54), .val (.int (4 : Int32)), .val (.ref w7), .val (.int (1 : Int32))]) rfl ?_
      show Steps p.tables e below (T98.setTop (mkF m 175 #[.val (.int i0), .val (.ref b1), .val (.ref b54), .val (.int (4 : Int32)), .val (.ref w7), .val (.int (1 : Int32))] [])) _
      refine XS.iload X98.here hx rfl (hb hby at_175) rfl ?_
      show Steps p.tables e below (T98.setTop (mkF m 177 #[.val (.int i0), .val (.ref b1), .val (.ref b54), .val (.int (4 : Int32)), .val (.ref w7), .val (.int (1 : Int32))] [(.int (1 : Int32))])) _
      refine XS.aloadN X98.here hx rfl (hb hby at_177) rfl rfl ?_
      show Steps p.tables e below (T98.setTop (mkF m 178 #[.val (.int i0), .val (.ref b1), .val (.ref b54), .val (.int (4 : Int32)), .val (.ref w7), .val (.int (1 : Int32))] [(.ref b54), (.int (1 : Int32))])) _
      refine XS.iloadN X98.here hx rfl (hb hby at_178) rfl ?_
      show Steps p.tables e below (T98.setTop (mkF m 179 #[.val (.int i0), .val (.ref b1), .val (.ref b54), .val (.int (4 : Int32)), .val (.ref w7), .val (.int (1 : Int32))] [(.int (4 : Int32)), (.ref b54), (.int (1 : Int32))])) _
      refine X98.baloadBooleans hx (j := (4 : Int32)) (v := (.int (1 : Int32))) (by rw [e98']; exact Ar_99.1) (State.isArrayOf_alike hZ.alike Ar_99.2.1) Ar_99.2.2 hin100 (Hs_99.at hin100 rfl) (g := (mkF m 179 #[.val (.int i0), .val (.ref b1), .val (.ref b54), .val (.int (4 : Int32)), .val (.ref w7), .val (.int (1 : Int32))] [(.int (4 : Int32)), (.ref b54), (.int (1 : Int32))])) rfl rfl (hb hby at_179) _ ?_
      show Steps p.tables e below (T98.setTop (mkF m 180 #[.val (.int i0), .val (.ref b1), .val (.ref b54), .val (.int (4 : Int32)), .val (.ref w7), .val (.int (1 : Int32))] [(.int (1 : Int32)), (.int (1 : Int32))])) _
      refine XS.icmpNo X98.here hx rfl (hb hby at_180) rfl (teq (by decide : (1 : Int32) = (1 : Int32))).2 ?_
      show Steps p.tables e below (T98.setTop (mkF m 183 #[.val (.int i0), .val (.ref b1), .val (.ref b54), .val (.int (4 : Int32)), .val (.ref w7), .val (.int (1 : Int32))] [])) _
      refine XS.iload X98.here hx rfl (hb hby at_183) rfl ?_
      show Steps p.tables e below (T98.setTop (mkF m 185 #[.val (.int i0), .val (.ref b1), .val (.ref b54), .val (.int (4 : Int32)), .val (.ref w7), .val (.int (1 : Int32))] [(.int (1 : Int32))])) _
      refine XS.ifNo X98.here hx rfl (hb hby at_185) rfl ((if0 _ _).trans (feq (by decide : ¬ ((1 : Int32) = (0 : Int32)))).1) ?_
      show Steps p.tables e below (T98.setTop (mkF m 188 #[.val (.int i0), .val (.ref b1), .val (.ref b54), .val (.int (4 : Int32)), .val (.ref w7), .val (.int (1 : Int32))] [])) _
      refine XS.aload X98.here hx rfl (hb hby at_188) rfl rfl ?_
      show Steps p.tables e below (T98.setTop (mkF m 190 #[.val (.int i0), .val (.ref b1), .val (.ref b54), .val (.int (4 : Int32)), .val (.ref w7), .val (.int (1 : Int32))] [(.ref w7)])) _
      refine st101 _ ?_
      show Steps p.tables e below (T101.setTop (mkF m 193 #[.val (.int i0), .val (.ref b1), .val (.ref b54), .val (.int (4 : Int32)), .val (.ref w7), .val (.int (1 : Int32))] [(.int (0 : Int32))])) _
      refine XS.ifNo X101.here hx rfl (hb hby at_193) rfl ((if0 _ _).trans (teq (by decide : (0 : Int32) = (0 : Int32))).2) ?_
      show Steps p.tables e below (T101.setTop (mkF m 196 #[.val (.int i0), .val (.ref b1), .val (.ref b54), .val (.int (4 : Int32)), .val (.ref w7), .val (.int (1 : Int32))] [])) _
      refine XS.iconst X101.here hx rfl (hb hby at_196) ?_
      show Steps p.tables e below (T101.setTop (mkF m 197 #[.val (.int i0), .val (.ref b1), .val (.ref b54), .val (.int (4 : Int32)), .val (.ref w7), .val (.int (1 : Int32))] [(.int (1 : Int32))])) _
      refine XS.goto X101.here hx rfl (pc0 := 197) (pc' := 201) rfl (hb hby at_197) (by decide) (by decide) ?_
      show Steps p.tables e below (T101.setTop (mkF m 201 #[.val (.int i0), .val (.ref b1), .val (.ref b54), .val (.int (4 : Int32)), .val (.ref w7), .val (.int (1 : Int32))] [(.int (1 : Int32))])) _
      exact retN X101 hx (t := .boolean) Bd.returns (by simp) (hb hby at_201) hr
    · show QL n0 _ T101.heap _
      exact ⟨rfl, N101⟩
  · have ne94 : b1 ≠ b54 := (Nat.ne_of_lt (Nat.lt_of_lt_of_le (Nat.lt_of_lt_of_le V1.lt (Nat.le_trans (Nat.le_trans (Nat.le_trans (Nat.le_trans (Nat.le_trans (Nat.le_trans (Nat.le_trans (Nat.le_trans (Nat.le_trans (Nat.le_trans (Nat.le_trans (Nat.le_trans (Nat.le_of_eq W5.size.symm) (Nat.le_of_eq W9.size.symm)) (Nat.le_of_eq W13.size.symm)) (Nat.le_of_eq W17.size.symm)) (Nat.le_of_eq W21.size.symm)) (Nat.le_of_eq W25.size.symm)) (Nat.le_of_eq W29.size.symm)) (Nat.le_of_eq W33.size.symm)) (Nat.le_of_eq W37.size.symm)) (Nat.le_of_eq W41.size.symm)) (Nat.le_of_eq W45.size.symm)) (Nat.le_of_eq W49.size.symm)) (Nat.le_of_eq W53.size.symm))) (Nat.le_of_eq g54.symm)))
    have f95 : Arv Z h93 b1 k1 (.object z0) (13 : Int32) [(.ref w6), (.ref w10), (.ref w4), (.ref w1), (.ref w7), (.ref w5), (.ref w11), (.ref w2), (.ref w3), (.ref w0), (.ref w8), (.ref w12), (.ref w9)] .null := ((((((((((((((V53.ext E54).other W57 ne94).other W60 ne94).other W63 ne94).other W66 ne94).other W69 ne94).other W72 ne94).other W75 ne94).other W78 ne94).other W81 ne94).other W84 ne94).other W87 ne94).other W90 ne94).other W93 ne94)
    have Vo_96 := f95
    obtain ⟨cl_96, Ar_96, q_96, Sz_96, Ng_96, Hs_96, Gt_96⟩ := Vo_96
    have hin97 : ¬ ((5 : Int32) < 0 ∨ cl_96.slots.size ≤ ((5 : Int32)).toNatClampNeg) := inb_of Sz_96 ⟨by decide, by decide⟩
    obtain ⟨_, T98, L98, hQ98, X98, st98⟩ := own_virtual X93 hx hZ (W := 0) hown (hw _ m32) (hw _ m33) (notFace_of_selects (args := #[]) (mvT hZ (hw _ m35))) (hw _ m35) (hw _ m34) (hw _ m3) (hw _ m36) (by decide) (rm9 l Z a0 hw w0 w1 w2 w3 w4 w5 w6 w7 w8 w9 w10 w11 w12 hS [] h93 n0 O93) e93 (hS.2.2.2.2.2.2.2.2.2.2.2.2.2.2.2.2.1.ext O93.2) (g := (mkF m 170 #[.val (.int i0), .val (.ref b1), .val (.ref b54), .val (.int (5 : Int32)), .val (.ref w5), .unset] [(.ref w5)])) rfl (by rw [hml]; rfl) (argsL := []) (rest := []) (lenOf pd31 rfl) rfl rfl (by show 2 * 0 + _ ≤ _; exact Nat.le_of_eq rfl) (hb hby at_170) (by decide) (by decide) (by decide) (by decide)
    obtain ⟨rfl, N98q, e98⟩ := hQ98
    have N98 := Fr.app N93 N98q
    have e98' : T98.heap = h93 := e98
    have Vo_99 := V93
    obtain ⟨cl_99, Ar_99, q_99, Sz_99, Ng_99, Hs_99, Gt_99⟩ := Vo_99
    have hin100 : ¬ ((5 : Int32) < 0 ∨ cl_99.slots.size ≤ ((5 : Int32)).toNatClampNeg) := inb_of Sz_99 ⟨by decide, by decide⟩
    obtain ⟨_, T101, L101, hQ101, X101, st101⟩ := own_virtual X98 hx hZ (W := 0) hown (hw _ m38) (hw _ m39) (notFace_of_selects (args := #[]) (mvT hZ (hw _ m41))) (hw _ m41) (hw _ m40) (hw _ m3) (hw _ m42) (by decide) (rm10 l Z a0 hw w0 w1 w2 w3 w4 w5 w6 w7 w8 w9 w10 w11 w12 hS [] h93 n0 O93) e98' (hS.2.2.2.2.2.2.2.2.2.2.2.2.2.2.2.2.1.ext O93.2) (g := (mkF m 190 #[.val (.int i0), .val (.ref b1), .val (.ref b54), .val (.int (5 : Int32)), .val (.ref w5), .val (.int (1 : Int32))] [(.ref w5)])) rfl (by rw [hml]; rfl) (argsL := []) (rest := []) (lenOf pd31 rfl) rfl rfl (by show 2 * 0 + _ ≤ _; exact Nat.le_of_eq rfl) (hb hby at_190) (by decide) (by decide) (by decide) (by decide)
    obtain ⟨rfl, N101q, e101⟩ := hQ101
    have N101 := Fr.app N98 N101q
    have e101' : T101.heap = h93 := e101
    obtain ⟨fs, hr, hrun, hended, hW, hsame⟩ := X101.leave (v := some (.int (1 : Int32))) (fun h => by rw [Bd.returns] at h; cases h)
    refine ⟨_, _, pre1 _ ?_, hrun, hended, _, _, rfl, ?_, ⟨_, rfl⟩, hW, hsame.mono (by decide) (by decide)⟩
    · show Steps p.tables e below (T93.setTop (mkF m 161 #[.val (.int i0), .val (.ref b1), .val (.ref b54), .unset, .unset, .unset] [(.int (13 : Int32)), (.int (i0 &&& (2147483647 : Int32)))])) _
      refine own_irem X93 hx rfl (hb hby at_161) rfl (by decide : ¬ ((13 : Int32) = (0 : Int32))) hp0 ?_
      show Steps p.tables e below (T93.setTop (mkF m 162 #[.val (.int i0), .val (.ref b1), .val (.ref b54), .unset, .unset, .unset] [(.int (5 : Int32))])) _
      refine XS.istoreN X93.here hx rfl (hb hby at_162) rfl (l' := #[.val (.int i0), .val (.ref b1), .val (.ref b54), .val (.int (5 : Int32)), .unset, .unset]) rfl ?_
      show Steps p.tables e below (T93.setTop (mkF m 163 #[.val (.int i0), .val (.ref b1), .val (.ref b54), .val (.int (5 : Int32)), .unset, .unset] [])) _
      refine XS.aloadN X93.here hx rfl (hb hby at_163) rfl rfl ?_
      show Steps p.tables e below (T93.setTop (mkF m 164 #[.val (.int i0), .val (.ref b1), .val (.ref b54), .val (.int (5 : Int32)), .unset, .unset] [(.ref b1)])) _
      refine XS.iloadN X93.here hx rfl (hb hby at_164) rfl ?_
      show Steps p.tables e below (T93.setTop (mkF m 165 #[.val (.int i0), .val (.ref b1), .val (.ref b54), .val (.int (5 : Int32)), .unset, .unset] [(.int (5 : Int32)), (.ref b1)])) _
      refine X93.aaload hx (j := (5 : Int32)) (v := (.ref w5)) (by rw [e93]; exact Ar_96.1) (State.isArrayOf_alike hZ.alike Ar_96.2.1) rfl Ar_96.2.2 hin97 (Hs_96.at hin97 rfl) (g := (mkF m 165 #[.val (.int i0), .val (.ref b1), .val (.ref b54), .val (.int (5 : Int32)), .unset, .unset] [(.int (5 : Int32)), (.ref b1)])) rfl rfl (hb hby at_165) _ ?_
      show Steps p.tables e below (T93.setTop (mkF m 166 #[.val (.int i0), .val (.ref b1), .val (.ref b54), .val (.int (5 : Int32)), .unset, .unset] [(.ref w5)])) _
      refine XS.astore X93.here hx rfl (hb hby at_166) rfl rfl (l' := #[.val (.int i0), .val (.ref b1), .val (.ref b54), .val (.int (5 : Int32)), .val (.ref w5), .unset]) rfl ?_
      show Steps p.tables e below (T93.setTop (mkF m 168 #[.val (.int i0), .val (.ref b1), .val (.ref b54), .val (.int (5 : Int32)), .val (.ref w5), .unset] [])) _
      refine XS.aload X93.here hx rfl (hb hby at_168) rfl rfl ?_
      show Steps p.tables e below (T93.setTop (mkF m 170 #[.val (.int i0), .val (.ref b1), .val (.ref b54), .val (.int (5 : Int32)), .val (.ref w5), .unset] [(.ref w5)])) _
      refine st98 _ ?_
      show Steps p.tables e below (T98.setTop (mkF m 173 #[.val (.int i0), .val (.ref b1), .val (.ref b54), .val (.int (5 : Int32)), .val (.ref w5), .unset] [(.int (1 : Int32))])) _
      refine XS.istore X98.here hx rfl (hb hby at_173) rfl (l' := #[.val (.int i0), .val (.ref b1), .val (.ref b54), .val (.int (5 : Int32)), .val (.ref w5), .val (.int (1 : Int32))]) rfl ?_
      show Steps p.tables e below (T98.setTop (mkF m 175 #[.val (.int i0), .val (.ref b1), .val (.ref b54), .val (.int (5 : Int32)), .val (.ref w5), .val (.int (1 : Int32))] [])) _
      refine XS.iload X98.here hx rfl (hb hby at_175) rfl ?_
      show Steps p.tables e below (T98.setTop (mkF m 177 #[.val (.int i0), .val (.ref b1), .val (.ref b54), .val (.int (5 : Int32)), .val (.ref w5), .val (.int (1 : Int32))] [(.int (1 : Int32))])) _
      refine XS.aloadN X98.here hx rfl (hb hby at_177) rfl rfl ?_
      show Steps p.tables e below (T98.setTop (mkF m 178 #[.val (.int i0), .val (.ref b1), .val (.ref b54), .val (.int (5 : Int32)), .val (.ref w5), .val (.int (1 : Int32))] [(.ref b54), (.int (1 : Int32))])) _
      refine XS.iloadN X98.here hx rfl (hb hby at_178) rfl ?_
      show Steps p.tables e below (T98.setTop (mkF m 179 #[.val (.int i0), .val (.ref b1), .val (.ref b54), .val (.int (5 : Int32)), .val (.ref w5), .val (.int (1 : Int32))] [(.int (5 : Int32)), (.ref b54), (.int (1 : Int32))])) _
      refine X98.baloadBooleans hx (j := (5 : Int32)) (v := (.int (1 : Int32))) (by rw [e98']; exact Ar_99.1) (State.isArrayOf_alike hZ.alike Ar_99.2.1) Ar_99.2.2 hin100 (Hs_99.at hin100 rfl) (g := (mkF m 179 #[.val (.int i0), .val (.ref b1), .val (.ref b54), .val (.int (5 : Int32)), .val (.ref w5), .val (.int (1 : Int32))] [(.int (5 : Int32)), (.ref b54), (.int (1 : Int32))])) rfl rfl (hb hby at_179) _ ?_
      show Steps p.tables e below (T98.setTop (mkF m 180 #[.val (.int i0), .val (.ref b1), .val (.ref b54), .val (.int (5 : Int32)), .val (.ref w5), .val (.int (1 : Int32))] [(.int (1 : Int32)), (.int (1 : Int32))])) _
      refine XS.icmpNo X98.here hx rfl (hb hby at_180) rfl (teq (by decide : (1 : Int32) = (1 : Int32))).2 ?_
      show Steps p.tables e below (T98.setTop (mkF m 183 #[.val (.int i0), .val (.ref b1), .val (.ref b54), .val (.int (5 : Int32)), .val (.ref w5), .val (.int (1 : Int32))] [])) _
      refine XS.iload X98.here hx rfl (hb hby at_183) rfl ?_
      show Steps p.tables e below (T98.setTop (mkF m 185 #[.val (.int i0), .val (.ref b1), .val (.ref b54), .val (.int (5 : Int32)), .val (.ref w5), .val (.int (1 : Int32))] [(.int (1 : Int32))])) _
      refine XS.ifNo X98.here hx rfl (hb hby at_185) rfl ((if0 _ _).trans (feq (by decide : ¬ ((1 : Int32) = (0 : Int32)))).1) ?_
      show Steps p.tables e below (T98.setTop (mkF m 188 #[.val (.int i0), .val (.ref b1), .val (.ref b54), .val (.int (5 : Int32)), .val (.ref w5), .val (.int (1 : Int32))] [])) _
      refine XS.aload X98.here hx rfl (hb hby at_188) rfl rfl ?_
      show Steps p.tables e below (T98.setTop (mkF m 190 #[.val (.int i0), .val (.ref b1), .val (.ref b54), .val (.int (5 : Int32)), .val (.ref w5), .val (.int (1 : Int32))] [(.ref w5)])) _
      refine st101 _ ?_
      show Steps p.tables e below (T101.setTop (mkF m 193 #[.val (.int i0), .val (.ref b1), .val (.ref b54), .val (.int (5 : Int32)), .val (.ref w5), .val (.int (1 : Int32))] [(.int (0 : Int32))])) _
      refine XS.ifNo X101.here hx rfl (hb hby at_193) rfl ((if0 _ _).trans (teq (by decide : (0 : Int32) = (0 : Int32))).2) ?_
      show Steps p.tables e below (T101.setTop (mkF m 196 #[.val (.int i0), .val (.ref b1), .val (.ref b54), .val (.int (5 : Int32)), .val (.ref w5), .val (.int (1 : Int32))] [])) _
      refine XS.iconst X101.here hx rfl (hb hby at_196) ?_
      show Steps p.tables e below (T101.setTop (mkF m 197 #[.val (.int i0), .val (.ref b1), .val (.ref b54), .val (.int (5 : Int32)), .val (.ref w5), .val (.int (1 : Int32))] [(.int (1 : Int32))])) _
      refine XS.goto X101.here hx rfl (pc0 := 197) (pc' := 201) rfl (hb hby at_197) (by decide) (by decide) ?_
      show Steps p.tables e below (T101.setTop (mkF m 201 #[.val (.int i0), .val (.ref b1), .val (.ref b54), .val (.int (5 : Int32)), .val (.ref w5), .val (.int (1 : Int32))] [(.int (1 : Int32))])) _
      exact retN X101 hx (t := .boolean) Bd.returns (by simp) (hb hby at_201) hr
    · show QL n0 _ T101.heap _
      exact ⟨rfl, N101⟩
  · have ne94 : b1 ≠ b54 := (Nat.ne_of_lt (Nat.lt_of_lt_of_le (Nat.lt_of_lt_of_le V1.lt (Nat.le_trans (Nat.le_trans (Nat.le_trans (Nat.le_trans (Nat.le_trans (Nat.le_trans (Nat.le_trans (Nat.le_trans (Nat.le_trans (Nat.le_trans (Nat.le_trans (Nat.le_trans (Nat.le_of_eq W5.size.symm) (Nat.le_of_eq W9.size.symm)) (Nat.le_of_eq W13.size.symm)) (Nat.le_of_eq W17.size.symm)) (Nat.le_of_eq W21.size.symm)) (Nat.le_of_eq W25.size.symm)) (Nat.le_of_eq W29.size.symm)) (Nat.le_of_eq W33.size.symm)) (Nat.le_of_eq W37.size.symm)) (Nat.le_of_eq W41.size.symm)) (Nat.le_of_eq W45.size.symm)) (Nat.le_of_eq W49.size.symm)) (Nat.le_of_eq W53.size.symm))) (Nat.le_of_eq g54.symm)))
    have f95 : Arv Z h93 b1 k1 (.object z0) (13 : Int32) [(.ref w6), (.ref w10), (.ref w4), (.ref w1), (.ref w7), (.ref w5), (.ref w11), (.ref w2), (.ref w3), (.ref w0), (.ref w8), (.ref w12), (.ref w9)] .null := ((((((((((((((V53.ext E54).other W57 ne94).other W60 ne94).other W63 ne94).other W66 ne94).other W69 ne94).other W72 ne94).other W75 ne94).other W78 ne94).other W81 ne94).other W84 ne94).other W87 ne94).other W90 ne94).other W93 ne94)
    have Vo_96 := f95
    obtain ⟨cl_96, Ar_96, q_96, Sz_96, Ng_96, Hs_96, Gt_96⟩ := Vo_96
    have hin97 : ¬ ((6 : Int32) < 0 ∨ cl_96.slots.size ≤ ((6 : Int32)).toNatClampNeg) := inb_of Sz_96 ⟨by decide, by decide⟩
    obtain ⟨_, T98, L98, hQ98, X98, st98⟩ := own_virtual X93 hx hZ (W := 0) hown (hw _ m32) (hw _ m33) (notFace_of_selects (args := #[]) (mvT hZ (hw _ m35))) (hw _ m35) (hw _ m34) (hw _ m3) (hw _ m36) (by decide) (rm11 l Z a0 hw w0 w1 w2 w3 w4 w5 w6 w7 w8 w9 w10 w11 w12 hS [] h93 n0 O93) e93 (hS.2.2.2.2.2.2.2.2.2.2.2.2.2.2.2.2.2.2.2.2.2.2.2.2.2.2.2.2.2.2.2.2.2.2.1.ext O93.2) (g := (mkF m 170 #[.val (.int i0), .val (.ref b1), .val (.ref b54), .val (.int (6 : Int32)), .val (.ref w11), .unset] [(.ref w11)])) rfl (by rw [hml]; rfl) (argsL := []) (rest := []) (lenOf pd31 rfl) rfl rfl (by show 2 * 0 + _ ≤ _; exact Nat.le_of_eq rfl) (hb hby at_170) (by decide) (by decide) (by decide) (by decide)
    obtain ⟨rfl, N98q, e98⟩ := hQ98
    have N98 := Fr.app N93 N98q
    have e98' : T98.heap = h93 := e98
    have Vo_99 := V93
    obtain ⟨cl_99, Ar_99, q_99, Sz_99, Ng_99, Hs_99, Gt_99⟩ := Vo_99
    have hin100 : ¬ ((6 : Int32) < 0 ∨ cl_99.slots.size ≤ ((6 : Int32)).toNatClampNeg) := inb_of Sz_99 ⟨by decide, by decide⟩
    obtain ⟨_, T101, L101, hQ101, X101, st101⟩ := own_virtual X98 hx hZ (W := 0) hown (hw _ m38) (hw _ m39) (notFace_of_selects (args := #[]) (mvT hZ (hw _ m41))) (hw _ m41) (hw _ m40) (hw _ m3) (hw _ m42) (by decide) (rm12 l Z a0 hw w0 w1 w2 w3 w4 w5 w6 w7 w8 w9 w10 w11 w12 hS [] h93 n0 O93) e98' (hS.2.2.2.2.2.2.2.2.2.2.2.2.2.2.2.2.2.2.2.2.2.2.2.2.2.2.2.2.2.2.2.2.2.2.1.ext O93.2) (g := (mkF m 190 #[.val (.int i0), .val (.ref b1), .val (.ref b54), .val (.int (6 : Int32)), .val (.ref w11), .val (.int (1 : Int32))] [(.ref w11)])) rfl (by rw [hml]; rfl) (argsL := []) (rest := []) (lenOf pd31 rfl) rfl rfl (by show 2 * 0 + _ ≤ _; exact Nat.le_of_eq rfl) (hb hby at_190) (by decide) (by decide) (by decide) (by decide)
    obtain ⟨rfl, N101q, e101⟩ := hQ101
    have N101 := Fr.app N98 N101q
    have e101' : T101.heap = h93 := e101
    obtain ⟨fs, hr, hrun, hended, hW, hsame⟩ := X101.leave (v := some (.int (1 : Int32))) (fun h => by rw [Bd.returns] at h; cases h)
    refine ⟨_, _, pre1 _ ?_, hrun, hended, _, _, rfl, ?_, ⟨_, rfl⟩, hW, hsame.mono (by decide) (by decide)⟩
    · show Steps p.tables e below (T93.setTop (mkF m 161 #[.val (.int i0), .val (.ref b1), .val (.ref b54), .unset, .unset, .unset] [(.int (13 : Int32)), (.int (i0 &&& (2147483647 : Int32)))])) _
      refine own_irem X93 hx rfl (hb hby at_161) rfl (by decide : ¬ ((13 : Int32) = (0 : Int32))) hp0 ?_
      show Steps p.tables e below (T93.setTop (mkF m 162 #[.val (.int i0), .val (.ref b1), .val (.ref b54), .unset, .unset, .unset] [(.int (6 : Int32))])) _
      refine XS.istoreN X93.here hx rfl (hb hby at_162) rfl (l' := #[.val (.int i0), .val (.ref b1), .val (.ref b54), .val (.int (6 : Int32)), .unset, .unset]) rfl ?_
      show Steps p.tables e below (T93.setTop (mkF m 163 #[.val (.int i0), .val (.ref b1), .val (.ref b54), .val (.int (6 : Int32)), .unset, .unset] [])) _
      refine XS.aloadN X93.here hx rfl (hb hby at_163) rfl rfl ?_
      show Steps p.tables e below (T93.setTop (mkF m 164 #[.val (.int i0), .val (.ref b1), .val (.ref b54), .val (.int (6 : Int32)), .unset, .unset] [(.ref b1)])) _
      refine XS.iloadN X93.here hx rfl (hb hby at_164) rfl ?_
      show Steps p.tables e below (T93.setTop (mkF m 165 #[.val (.int i0), .val (.ref b1), .val (.ref b54), .val (.int (6 : Int32)), .unset, .unset] [(.int (6 : Int32)), (.ref b1)])) _
      refine X93.aaload hx (j := (6 : Int32)) (v := (.ref w11)) (by rw [e93]; exact Ar_96.1) (State.isArrayOf_alike hZ.alike Ar_96.2.1) rfl Ar_96.2.2 hin97 (Hs_96.at hin97 rfl) (g := (mkF m 165 #[.val (.int i0), .val (.ref b1), .val (.ref b54), .val (.int (6 : Int32)), .unset, .unset] [(.int (6 : Int32)), (.ref b1)])) rfl rfl (hb hby at_165) _ ?_
      show Steps p.tables e below (T93.setTop (mkF m 166 #[.val (.int i0), .val (.ref b1), .val (.ref b54), .val (.int (6 : Int32)), .unset, .unset] [(.ref w11)])) _
      refine XS.astore X93.here hx rfl (hb hby at_166) rfl rfl (l' := #[.val (.int i0), .val (.ref b1), .val (.ref b54), .val (.int (6 : Int32)), .val (.ref w11), .unset]) rfl ?_
      show Steps p.tables e below (T93.setTop (mkF m 168 #[.val (.int i0), .val (.ref b1), .val (.ref b54), .val (.int (6 : Int32)), .val (.ref w11), .unset] [])) _
      refine XS.aload X93.here hx rfl (hb hby at_168) rfl rfl ?_
      show Steps p.tables e below (T93.setTop (mkF m 170 #[.val (.int i0), .val (.ref b1), .val (.ref b54), .val (.int (6 : Int32)), .val (.ref w11), .unset] [(.ref w11)])) _
      refine st98 _ ?_
      show Steps p.tables e below (T98.setTop (mkF m 173 #[.val (.int i0), .val (.ref b1), .val (.ref b54), .val (.int (6 : Int32)), .val (.ref w11), .unset] [(.int (1 : Int32))])) _
      refine XS.istore X98.here hx rfl (hb hby at_173) rfl (l' := #[.val (.int i0), .val (.ref b1), .val (.ref b54), .val (.int (6 : Int32)), .val (.ref w11), .val (.int (1 : Int32))]) rfl ?_
      show Steps p.tables e below (T98.setTop (mkF m 175 #[.val (.int i0), .val (.ref b1), .val (.ref b54), .val (.int (6 : Int32)), .val (.ref w11), .val (.int (1 : Int32))] [])) _
      refine XS.iload X98.here hx rfl (hb hby at_175) rfl ?_
      show Steps p.tables e below (T98.setTop (mkF m 177 #[.val (.int i0), .val (.ref b1), .val (.ref b54), .val (.int (6 : Int32)), .val (.ref w11), .val (.int (1 : Int32))] [(.int (1 : Int32))])) _
      refine XS.aloadN X98.here hx rfl (hb hby at_177) rfl rfl ?_
      show Steps p.tables e below (T98.setTop (mkF m 178 #[.val (.int i0), .val (.ref b1), .val (.ref b54), .val (.int (6 : Int32)), .val (.ref w11), .val (.int (1 : Int32))] [(.ref b54), (.int (1 : Int32))])) _
      refine XS.iloadN X98.here hx rfl (hb hby at_178) rfl ?_
      show Steps p.tables e below (T98.setTop (mkF m 179 #[.val (.int i0), .val (.ref b1), .val (.ref b54), .val (.int (6 : Int32)), .val (.ref w11), .val (.int (1 : Int32))] [(.int (6 : Int32)), (.ref b54), (.int (1 : Int32))])) _
      refine X98.baloadBooleans hx (j := (6 : Int32)) (v := (.int (1 : Int32))) (by rw [e98']; exact Ar_99.1) (State.isArrayOf_alike hZ.alike Ar_99.2.1) Ar_99.2.2 hin100 (Hs_99.at hin100 rfl) (g := (mkF m 179 #[.val (.int i0), .val (.ref b1), .val (.ref b54), .val (.int (6 : Int32)), .val (.ref w11), .val (.int (1 : Int32))] [(.int (6 : Int32)), (.ref b54), (.int (1 : Int32))])) rfl rfl (hb hby at_179) _ ?_
      show Steps p.tables e below (T98.setTop (mkF m 180 #[.val (.int i0), .val (.ref b1), .val (.ref b54), .val (.int (6 : Int32)), .val (.ref w11), .val (.int (1 : Int32))] [(.int (1 : Int32)), (.int (1 : Int32))])) _
      refine XS.icmpNo X98.here hx rfl (hb hby at_180) rfl (teq (by decide : (1 : Int32) = (1 : Int32))).2 ?_
      show Steps p.tables e below (T98.setTop (mkF m 183 #[.val (.int i0), .val (.ref b1), .val (.ref b54), .val (.int (6 : Int32)), .val (.ref w11), .val (.int (1 : Int32))] [])) _
      refine XS.iload X98.here hx rfl (hb hby at_183) rfl ?_
      show Steps p.tables e below (T98.setTop (mkF m 185 #[.val (.int i0), .val (.ref b1), .val (.ref b54), .val (.int (6 : Int32)), .val (.ref w11), .val (.int (1 : Int32))] [(.int (1 : Int32))])) _
      refine XS.ifNo X98.here hx rfl (hb hby at_185) rfl ((if0 _ _).trans (feq (by decide : ¬ ((1 : Int32) = (0 : Int32)))).1) ?_
      show Steps p.tables e below (T98.setTop (mkF m 188 #[.val (.int i0), .val (.ref b1), .val (.ref b54), .val (.int (6 : Int32)), .val (.ref w11), .val (.int (1 : Int32))] [])) _
      refine XS.aload X98.here hx rfl (hb hby at_188) rfl rfl ?_
      show Steps p.tables e below (T98.setTop (mkF m 190 #[.val (.int i0), .val (.ref b1), .val (.ref b54), .val (.int (6 : Int32)), .val (.ref w11), .val (.int (1 : Int32))] [(.ref w11)])) _
      refine st101 _ ?_
      show Steps p.tables e below (T101.setTop (mkF m 193 #[.val (.int i0), .val (.ref b1), .val (.ref b54), .val (.int (6 : Int32)), .val (.ref w11), .val (.int (1 : Int32))] [(.int (0 : Int32))])) _
      refine XS.ifNo X101.here hx rfl (hb hby at_193) rfl ((if0 _ _).trans (teq (by decide : (0 : Int32) = (0 : Int32))).2) ?_
      show Steps p.tables e below (T101.setTop (mkF m 196 #[.val (.int i0), .val (.ref b1), .val (.ref b54), .val (.int (6 : Int32)), .val (.ref w11), .val (.int (1 : Int32))] [])) _
      refine XS.iconst X101.here hx rfl (hb hby at_196) ?_
      show Steps p.tables e below (T101.setTop (mkF m 197 #[.val (.int i0), .val (.ref b1), .val (.ref b54), .val (.int (6 : Int32)), .val (.ref w11), .val (.int (1 : Int32))] [(.int (1 : Int32))])) _
      refine XS.goto X101.here hx rfl (pc0 := 197) (pc' := 201) rfl (hb hby at_197) (by decide) (by decide) ?_
      show Steps p.tables e below (T101.setTop (mkF m 201 #[.val (.int i0), .val (.ref b1), .val (.ref b54), .val (.int (6 : Int32)), .val (.ref w11), .val (.int (1 : Int32))] [(.int (1 : Int32))])) _
      exact retN X101 hx (t := .boolean) Bd.returns (by simp) (hb hby at_201) hr
    · show QL n0 _ T101.heap _
      exact ⟨rfl, N101⟩
  · have ne94 : b1 ≠ b54 := (Nat.ne_of_lt (Nat.lt_of_lt_of_le (Nat.lt_of_lt_of_le V1.lt (Nat.le_trans (Nat.le_trans (Nat.le_trans (Nat.le_trans (Nat.le_trans (Nat.le_trans (Nat.le_trans (Nat.le_trans (Nat.le_trans (Nat.le_trans (Nat.le_trans (Nat.le_trans (Nat.le_of_eq W5.size.symm) (Nat.le_of_eq W9.size.symm)) (Nat.le_of_eq W13.size.symm)) (Nat.le_of_eq W17.size.symm)) (Nat.le_of_eq W21.size.symm)) (Nat.le_of_eq W25.size.symm)) (Nat.le_of_eq W29.size.symm)) (Nat.le_of_eq W33.size.symm)) (Nat.le_of_eq W37.size.symm)) (Nat.le_of_eq W41.size.symm)) (Nat.le_of_eq W45.size.symm)) (Nat.le_of_eq W49.size.symm)) (Nat.le_of_eq W53.size.symm))) (Nat.le_of_eq g54.symm)))
    have f95 : Arv Z h93 b1 k1 (.object z0) (13 : Int32) [(.ref w6), (.ref w10), (.ref w4), (.ref w1), (.ref w7), (.ref w5), (.ref w11), (.ref w2), (.ref w3), (.ref w0), (.ref w8), (.ref w12), (.ref w9)] .null := ((((((((((((((V53.ext E54).other W57 ne94).other W60 ne94).other W63 ne94).other W66 ne94).other W69 ne94).other W72 ne94).other W75 ne94).other W78 ne94).other W81 ne94).other W84 ne94).other W87 ne94).other W90 ne94).other W93 ne94)
    have Vo_96 := f95
    obtain ⟨cl_96, Ar_96, q_96, Sz_96, Ng_96, Hs_96, Gt_96⟩ := Vo_96
    have hin97 : ¬ ((7 : Int32) < 0 ∨ cl_96.slots.size ≤ ((7 : Int32)).toNatClampNeg) := inb_of Sz_96 ⟨by decide, by decide⟩
    obtain ⟨_, T98, L98, hQ98, X98, st98⟩ := own_virtual X93 hx hZ (W := 0) hown (hw _ m32) (hw _ m33) (notFace_of_selects (args := #[]) (mvT hZ (hw _ m35))) (hw _ m35) (hw _ m34) (hw _ m3) (hw _ m36) (by decide) (rm13 l Z a0 hw w0 w1 w2 w3 w4 w5 w6 w7 w8 w9 w10 w11 w12 hS [] h93 n0 O93) e93 (hS.2.2.2.2.2.2.2.1.ext O93.2) (g := (mkF m 170 #[.val (.int i0), .val (.ref b1), .val (.ref b54), .val (.int (7 : Int32)), .val (.ref w2), .unset] [(.ref w2)])) rfl (by rw [hml]; rfl) (argsL := []) (rest := []) (lenOf pd31 rfl) rfl rfl (by show 2 * 0 + _ ≤ _; exact Nat.le_of_eq rfl) (hb hby at_170) (by decide) (by decide) (by decide) (by decide)
    obtain ⟨rfl, N98q, e98⟩ := hQ98
    have N98 := Fr.app N93 N98q
    have e98' : T98.heap = h93 := e98
    have Vo_99 := V93
    obtain ⟨cl_99, Ar_99, q_99, Sz_99, Ng_99, Hs_99, Gt_99⟩ := Vo_99
    have hin100 : ¬ ((7 : Int32) < 0 ∨ cl_99.slots.size ≤ ((7 : Int32)).toNatClampNeg) := inb_of Sz_99 ⟨by decide, by decide⟩
    obtain ⟨_, T101, L101, hQ101, X101, st101⟩ := own_virtual X98 hx hZ (W := 0) hown (hw _ m38) (hw _ m39) (notFace_of_selects (args := #[]) (mvT hZ (hw _ m41))) (hw _ m41) (hw _ m40) (hw _ m3) (hw _ m42) (by decide) (rm14 l Z a0 hw w0 w1 w2 w3 w4 w5 w6 w7 w8 w9 w10 w11 w12 hS [] h93 n0 O93) e98' (hS.2.2.2.2.2.2.2.1.ext O93.2) (g := (mkF m 190 #[.val (.int i0), .val (.ref b1), .val (.ref b54), .val (.int (7 : Int32)), .val (.ref w2), .val (.int (1 : Int32))] [(.ref w2)])) rfl (by rw [hml]; rfl) (argsL := []) (rest := []) (lenOf pd31 rfl) rfl rfl (by show 2 * 0 + _ ≤ _; exact Nat.le_of_eq rfl) (hb hby at_190) (by decide) (by decide) (by decide) (by decide)
    obtain ⟨rfl, N101q, e101⟩ := hQ101
    have N101 := Fr.app N98 N101q
    have e101' : T101.heap = h93 := e101
    obtain ⟨fs, hr, hrun, hended, hW, hsame⟩ := X101.leave (v := some (.int (1 : Int32))) (fun h => by rw [Bd.returns] at h; cases h)
    refine ⟨_, _, pre1 _ ?_, hrun, hended, _, _, rfl, ?_, ⟨_, rfl⟩, hW, hsame.mono (by decide) (by decide)⟩
    · show Steps p.tables e below (T93.setTop (mkF m 161 #[.val (.int i0), .val (.ref b1), .val (.ref b54), .unset, .unset, .unset] [(.int (13 : Int32)), (.int (i0 &&& (2147483647 : Int32)))])) _
      refine own_irem X93 hx rfl (hb hby at_161) rfl (by decide : ¬ ((13 : Int32) = (0 : Int32))) hp0 ?_
      show Steps p.tables e below (T93.setTop (mkF m 162 #[.val (.int i0), .val (.ref b1), .val (.ref b54), .unset, .unset, .unset] [(.int (7 : Int32))])) _
      refine XS.istoreN X93.here hx rfl (hb hby at_162) rfl (l' := #[.val (.int i0), .val (.ref b1), .val (.ref b54), .val (.int (7 : Int32)), .unset, .unset]) rfl ?_
      show Steps p.tables e below (T93.setTop (mkF m 163 #[.val (.int i0), .val (.ref b1), .val (.ref b54), .val (.int (7 : Int32)), .unset, .unset] [])) _
      refine XS.aloadN X93.here hx rfl (hb hby at_163) rfl rfl ?_
      show Steps p.tables e below (T93.setTop (mkF m 164 #[.val (.int i0), .val (.ref b1), .val (.ref b54), .val (.int (7 : Int32)), .unset, .unset] [(.ref b1)])) _
      refine XS.iloadN X93.here hx rfl (hb hby at_164) rfl ?_
      show Steps p.tables e below (T93.setTop (mkF m 165 #[.val (.int i0), .val (.ref b1), .val (.ref b54), .val (.int (7 : Int32)), .unset, .unset] [(.int (7 : Int32)), (.ref b1)])) _
      refine X93.aaload hx (j := (7 : Int32)) (v := (.ref w2)) (by rw [e93]; exact Ar_96.1) (State.isArrayOf_alike hZ.alike Ar_96.2.1) rfl Ar_96.2.2 hin97 (Hs_96.at hin97 rfl) (g := (mkF m 165 #[.val (.int i0), .val (.ref b1), .val (.ref b54), .val (.int (7 : Int32)), .unset, .unset] [(.int (7 : Int32)), (.ref b1)])) rfl rfl (hb hby at_165) _ ?_
      show Steps p.tables e below (T93.setTop (mkF m 166 #[.val (.int i0), .val (.ref b1), .val (.ref b54), .val (.int (7 : Int32)), .unset, .unset] [(.ref w2)])) _
      refine XS.astore X93.here hx rfl (hb hby at_166) rfl rfl (l' := #[.val (.int i0), .val (.ref b1), .val (.ref b54), .val (.int (7 : Int32)), .val (.ref w2), .unset]) rfl ?_
      show Steps p.tables e below (T93.setTop (mkF m 168 #[.val (.int i0), .val (.ref b1), .val (.ref b54), .val (.int (7 : Int32)), .val (.ref w2), .unset] [])) _
      refine XS.aload X93.here hx rfl (hb hby at_168) rfl rfl ?_
      show Steps p.tables e below (T93.setTop (mkF m 170 #[.val (.int i0), .val (.ref b1), .val (.ref b54), .val (.int (7 : Int32)), .val (.ref w2), .unset] [(.ref w2)])) _
      refine st98 _ ?_
      show Steps p.tables e below (T98.setTop (mkF m 173 #[.val (.int i0), .val (.ref b1), .val (.ref b54), .val (.int (7 : Int32)), .val (.ref w2), .unset] [(.int (1 : Int32))])) _
      refine XS.istore X98.here hx rfl (hb hby at_173) rfl (l' := #[.val (.int i0), .val (.ref b1), .val (.ref b54), .val (.int (7 : Int32)), .val (.ref w2), .val (.int (1 : Int32))]) rfl ?_
      show Steps p.tables e below (T98.setTop (mkF m 175 #[.val (.int i0), .val (.ref b1), .val (.ref b54), .val (.int (7 : Int32)), .val (.ref w2), .val (.int (1 : Int32))] [])) _
      refine XS.iload X98.here hx rfl (hb hby at_175) rfl ?_
      show Steps p.tables e below (T98.setTop (mkF m 177 #[.val (.int i0), .val (.ref b1), .val (.ref b54), .val (.int (7 : Int32)), .val (.ref w2), .val (.int (1 : Int32))] [(.int (1 : Int32))])) _
      refine XS.aloadN X98.here hx rfl (hb hby at_177) rfl rfl ?_
      show Steps p.tables e below (T98.setTop (mkF m 178 #[.val (.int i0), .val (.ref b1), .val (.ref b54), .val (.int (7 : Int32)), .val (.ref w2), .val (.int (1 : Int32))] [(.ref b54), (.int (1 : Int32))])) _
      refine XS.iloadN X98.here hx rfl (hb hby at_178) rfl ?_
      show Steps p.tables e below (T98.setTop (mkF m 179 #[.val (.int i0), .val (.ref b1), .val (.ref b54), .val (.int (7 : Int32)), .val (.ref w2), .val (.int (1 : Int32))] [(.int (7 : Int32)), (.ref b54), (.int (1 : Int32))])) _
      refine X98.baloadBooleans hx (j := (7 : Int32)) (v := (.int (1 : Int32))) (by rw [e98']; exact Ar_99.1) (State.isArrayOf_alike hZ.alike Ar_99.2.1) Ar_99.2.2 hin100 (Hs_99.at hin100 rfl) (g := (mkF m 179 #[.val (.int i0), .val (.ref b1), .val (.ref b54), .val (.int (7 : Int32)), .val (.ref w2), .val (.int (1 : Int32))] [(.int (7 : Int32)), (.ref b54), (.int (1 : Int32))])) rfl rfl (hb hby at_179) _ ?_
      show Steps p.tables e below (T98.setTop (mkF m 180 #[.val (.int i0), .val (.ref b1), .val (.ref b54), .val (.int (7 : Int32)), .val (.ref w2), .val (.int (1 : Int32))] [(.int (1 : Int32)), (.int (1 : Int32))])) _
      refine XS.icmpNo X98.here hx rfl (hb hby at_180) rfl (teq (by decide : (1 : Int32) = (1 : Int32))).2 ?_
      show Steps p.tables e below (T98.setTop (mkF m 183 #[.val (.int i0), .val (.ref b1), .val (.ref b54), .val (.int (7 : Int32)), .val (.ref w2), .val (.int (1 : Int32))] [])) _
      refine XS.iload X98.here hx rfl (hb hby at_183) rfl ?_
      show Steps p.tables e below (T98.setTop (mkF m 185 #[.val (.int i0), .val (.ref b1), .val (.ref b54), .val (.int (7 : Int32)), .val (.ref w2), .val (.int (1 : Int32))] [(.int (1 : Int32))])) _
      refine XS.ifNo X98.here hx rfl (hb hby at_185) rfl ((if0 _ _).trans (feq (by decide : ¬ ((1 : Int32) = (0 : Int32)))).1) ?_
      show Steps p.tables e below (T98.setTop (mkF m 188 #[.val (.int i0), .val (.ref b1), .val (.ref b54), .val (.int (7 : Int32)), .val (.ref w2), .val (.int (1 : Int32))] [])) _
      refine XS.aload X98.here hx rfl (hb hby at_188) rfl rfl ?_
      show Steps p.tables e below (T98.setTop (mkF m 190 #[.val (.int i0), .val (.ref b1), .val (.ref b54), .val (.int (7 : Int32)), .val (.ref w2), .val (.int (1 : Int32))] [(.ref w2)])) _
      refine st101 _ ?_
      show Steps p.tables e below (T101.setTop (mkF m 193 #[.val (.int i0), .val (.ref b1), .val (.ref b54), .val (.int (7 : Int32)), .val (.ref w2), .val (.int (1 : Int32))] [(.int (0 : Int32))])) _
      refine XS.ifNo X101.here hx rfl (hb hby at_193) rfl ((if0 _ _).trans (teq (by decide : (0 : Int32) = (0 : Int32))).2) ?_
      show Steps p.tables e below (T101.setTop (mkF m 196 #[.val (.int i0), .val (.ref b1), .val (.ref b54), .val (.int (7 : Int32)), .val (.ref w2), .val (.int (1 : Int32))] [])) _
      refine XS.iconst X101.here hx rfl (hb hby at_196) ?_
      show Steps p.tables e below (T101.setTop (mkF m 197 #[.val (.int i0), .val (.ref b1), .val (.ref b54), .val (.int (7 : Int32)), .val (.ref w2), .val (.int (1 : Int32))] [(.int (1 : Int32))])) _
      refine XS.goto X101.here hx rfl (pc0 := 197) (pc' := 201) rfl (hb hby at_197) (by decide) (by decide) ?_
      show Steps p.tables e below (T101.setTop (mkF m 201 #[.val (.int i0), .val (.ref b1), .val (.ref b54), .val (.int (7 : Int32)), .val (.ref w2), .val (.int (1 : Int32))] [(.int (1 : Int32))])) _
      exact retN X101 hx (t := .boolean) Bd.returns (by simp) (hb hby at_201) hr
    · show QL n0 _ T101.heap _
      exact ⟨rfl, N101⟩
  · have ne94 : b1 ≠ b54 := (Nat.ne_of_lt (Nat.lt_of_lt_of_le (Nat.lt_of_lt_of_le V1.lt (Nat.le_trans (Nat.le_trans (Nat.le_trans (Nat.le_trans (Nat.le_trans (Nat.le_trans (Nat.le_trans (Nat.le_trans (Nat.le_trans (Nat.le_trans (Nat.le_trans (Nat.le_trans (Nat.le_of_eq W5.size.symm) (Nat.le_of_eq W9.size.symm)) (Nat.le_of_eq W13.size.symm)) (Nat.le_of_eq W17.size.symm)) (Nat.le_of_eq W21.size.symm)) (Nat.le_of_eq W25.size.symm)) (Nat.le_of_eq W29.size.symm)) (Nat.le_of_eq W33.size.symm)) (Nat.le_of_eq W37.size.symm)) (Nat.le_of_eq W41.size.symm)) (Nat.le_of_eq W45.size.symm)) (Nat.le_of_eq W49.size.symm)) (Nat.le_of_eq W53.size.symm))) (Nat.le_of_eq g54.symm)))
    have f95 : Arv Z h93 b1 k1 (.object z0) (13 : Int32) [(.ref w6), (.ref w10), (.ref w4), (.ref w1), (.ref w7), (.ref w5), (.ref w11), (.ref w2), (.ref w3), (.ref w0), (.ref w8), (.ref w12), (.ref w9)] .null := ((((((((((((((V53.ext E54).other W57 ne94).other W60 ne94).other W63 ne94).other W66 ne94).other W69 ne94).other W72 ne94).other W75 ne94).other W78 ne94).other W81 ne94).other W84 ne94).other W87 ne94).other W90 ne94).other W93 ne94)
    have Vo_96 := f95
    obtain ⟨cl_96, Ar_96, q_96, Sz_96, Ng_96, Hs_96, Gt_96⟩ := Vo_96
    have hin97 : ¬ ((8 : Int32) < 0 ∨ cl_96.slots.size ≤ ((8 : Int32)).toNatClampNeg) := inb_of Sz_96 ⟨by decide, by decide⟩
    obtain ⟨_, T98, L98, hQ98, X98, st98⟩ := own_virtual X93 hx hZ (W := 0) hown (hw _ m32) (hw _ m33) (notFace_of_selects (args := #[]) (mvT hZ (hw _ m35))) (hw _ m35) (hw _ m34) (hw _ m3) (hw _ m36) (by decide) (rm15 l Z a0 hw w0 w1 w2 w3 w4 w5 w6 w7 w8 w9 w10 w11 w12 hS [] h93 n0 O93) e93 (hS.2.2.2.2.2.2.2.2.2.2.1.ext O93.2) (g := (mkF m 170 #[.val (.int i0), .val (.ref b1), .val (.ref b54), .val (.int (8 : Int32)), .val (.ref w3), .unset] [(.ref w3)])) rfl (by rw [hml]; rfl) (argsL := []) (rest := []) (lenOf pd31 rfl) rfl rfl (by show 2 * 0 + _ ≤ _; exact Nat.le_of_eq rfl) (hb hby at_170) (by decide) (by decide) (by decide) (by decide)
    obtain ⟨rfl, N98q, e98⟩ := hQ98
    have N98 := Fr.app N93 N98q
    have e98' : T98.heap = h93 := e98
    have Vo_99 := V93
    obtain ⟨cl_99, Ar_99, q_99, Sz_99, Ng_99, Hs_99, Gt_99⟩ := Vo_99
    have hin100 : ¬ ((8 : Int32) < 0 ∨ cl_99.slots.size ≤ ((8 : Int32)).toNatClampNeg) := inb_of Sz_99 ⟨by decide, by decide⟩
    obtain ⟨fs, hr, hrun, hended, hW, hsame⟩ := X98.leave (v := some (.int (1 : Int32))) (fun h => by rw [Bd.returns] at h; cases h)
    refine ⟨_, _, pre1 _ ?_, hrun, hended, _, _, rfl, ?_, ⟨_, rfl⟩, hW, hsame.mono (by decide) (by decide)⟩
    · show Steps p.tables e below (T93.setTop (mkF m 161 #[.val (.int i0), .val (.ref b1), .val (.ref b54), .unset, .unset, .unset] [(.int (13 : Int32)), (.int (i0 &&& (2147483647 : Int32)))])) _
      refine own_irem X93 hx rfl (hb hby at_161) rfl (by decide : ¬ ((13 : Int32) = (0 : Int32))) hp0 ?_
      show Steps p.tables e below (T93.setTop (mkF m 162 #[.val (.int i0), .val (.ref b1), .val (.ref b54), .unset, .unset, .unset] [(.int (8 : Int32))])) _
      refine XS.istoreN X93.here hx rfl (hb hby at_162) rfl (l' := #[.val (.int i0), .val (.ref b1), .val (.ref b54), .val (.int (8 : Int32)), .unset, .unset]) rfl ?_
      show Steps p.tables e below (T93.setTop (mkF m 163 #[.val (.int i0), .val (.ref b1), .val (.ref b54), .val (.int (8 : Int32)), .unset, .unset] [])) _
      refine XS.aloadN X93.here hx rfl (hb hby at_163) rfl rfl ?_
      show Steps p.tables e below (T93.setTop (mkF m 164 #[.val (.int i0), .val (.ref b1), .val (.ref b54), .val (.int (8 : Int32)), .unset, .unset] [(.ref b1)])) _
      refine XS.iloadN X93.here hx rfl (hb hby at_164) rfl ?_
      show Steps p.tables e below (T93.setTop (mkF m 165 #[.val (.int i0), .val (.ref b1), .val (.ref b54), .val (.int (8 : Int32)), .unset, .unset] [(.int (8 : Int32)), (.ref b1)])) _
      refine X93.aaload hx (j := (8 : Int32)) (v := (.ref w3)) (by rw [e93]; exact Ar_96.1) (State.isArrayOf_alike hZ.alike Ar_96.2.1) rfl Ar_96.2.2 hin97 (Hs_96.at hin97 rfl) (g := (mkF m 165 #[.val (.int i0), .val (.ref b1), .val (.ref b54), .val (.int (8 : Int32)), .unset, .unset] [(.int (8 : Int32)), (.ref b1)])) rfl rfl (hb hby at_165) _ ?_
      show Steps p.tables e below (T93.setTop (mkF m 166 #[.val (.int i0), .val (.ref b1), .val (.ref b54), .val (.int (8 : Int32)), .unset, .unset] [(.ref w3)])) _
      refine XS.astore X93.here hx rfl (hb hby at_166) rfl rfl (l' := #[.val (.int i0), .val (.ref b1), .val (.ref b54), .val (.int (8 : Int32)), .val (.ref w3), .unset]) rfl ?_
      show Steps p.tables e below (T93.setTop (mkF m 168 #[.val (.int i0), .val (.ref b1), .val (.ref b54), .val (.int (8 : Int32)), .val (.ref w3), .unset] [])) _
      refine XS.aload X93.here hx rfl (hb hby at_168) rfl rfl ?_
      show Steps p.tables e below (T93.setTop (mkF m 170 #[.val (.int i0), .val (.ref b1), .val (.ref b54), .val (.int (8 : Int32)), .val (.ref w3), .unset] [(.ref w3)])) _
      refine st98 _ ?_
      show Steps p.tables e below (T98.setTop (mkF m 173 #[.val (.int i0), .val (.ref b1), .val (.ref b54), .val (.int (8 : Int32)), .val (.ref w3), .unset] [(.int (0 : Int32))])) _
      refine XS.istore X98.here hx rfl (hb hby at_173) rfl (l' := #[.val (.int i0), .val (.ref b1), .val (.ref b54), .val (.int (8 : Int32)), .val (.ref w3), .val (.int (0 : Int32))]) rfl ?_
      show Steps p.tables e below (T98.setTop (mkF m 175 #[.val (.int i0), .val (.ref b1), .val (.ref b54), .val (.int (8 : Int32)), .val (.ref w3), .val (.int (0 : Int32))] [])) _
      refine XS.iload X98.here hx rfl (hb hby at_175) rfl ?_
      show Steps p.tables e below (T98.setTop (mkF m 177 #[.val (.int i0), .val (.ref b1), .val (.ref b54), .val (.int (8 : Int32)), .val (.ref w3), .val (.int (0 : Int32))] [(.int (0 : Int32))])) _
      refine XS.aloadN X98.here hx rfl (hb hby at_177) rfl rfl ?_
      show Steps p.tables e below (T98.setTop (mkF m 178 #[.val (.int i0), .val (.ref b1), .val (.ref b54), .val (.int (8 : Int32)), .val (.ref w3), .val (.int (0 : Int32))] [(.ref b54), (.int (0 : Int32))])) _
      refine XS.iloadN X98.here hx rfl (hb hby at_178) rfl ?_
      show Steps p.tables e below (T98.setTop (mkF m 179 #[.val (.int i0), .val (.ref b1), .val (.ref b54), .val (.int (8 : Int32)), .val (.ref w3), .val (.int (0 : Int32))] [(.int (8 : Int32)), (.ref b54), (.int (0 : Int32))])) _
      refine X98.baloadBooleans hx (j := (8 : Int32)) (v := (.int (0 : Int32))) (by rw [e98']; exact Ar_99.1) (State.isArrayOf_alike hZ.alike Ar_99.2.1) Ar_99.2.2 hin100 (Hs_99.at hin100 rfl) (g := (mkF m 179 #[.val (.int i0), .val (.ref b1), .val (.ref b54), .val (.int (8 : Int32)), .val (.ref w3), .val (.int (0 : Int32))] [(.int (8 : Int32)), (.ref b54), (.int (0 : Int32))])) rfl rfl (hb hby at_179) _ ?_
      show Steps p.tables e below (T98.setTop (mkF m 180 #[.val (.int i0), .val (.ref b1), .val (.ref b54), .val (.int (8 : Int32)), .val (.ref w3), .val (.int (0 : Int32))] [(.int (0 : Int32)), (.int (0 : Int32))])) _
      refine XS.icmpNo X98.here hx rfl (hb hby at_180) rfl (teq (by decide : (0 : Int32) = (0 : Int32))).2 ?_
      show Steps p.tables e below (T98.setTop (mkF m 183 #[.val (.int i0), .val (.ref b1), .val (.ref b54), .val (.int (8 : Int32)), .val (.ref w3), .val (.int (0 : Int32))] [])) _
      refine XS.iload X98.here hx rfl (hb hby at_183) rfl ?_
      show Steps p.tables e below (T98.setTop (mkF m 185 #[.val (.int i0), .val (.ref b1), .val (.ref b54), .val (.int (8 : Int32)), .val (.ref w3), .val (.int (0 : Int32))] [(.int (0 : Int32))])) _
      refine XS.ifYes X98.here hx rfl (pc0 := 185) (pc' := 196) rfl (hb hby at_185) rfl ((if0 _ _).trans (teq (by decide : (0 : Int32) = (0 : Int32))).1) (by decide) (by decide) ?_
      show Steps p.tables e below (T98.setTop (mkF m 196 #[.val (.int i0), .val (.ref b1), .val (.ref b54), .val (.int (8 : Int32)), .val (.ref w3), .val (.int (0 : Int32))] [])) _
      refine XS.iconst X98.here hx rfl (hb hby at_196) ?_
      show Steps p.tables e below (T98.setTop (mkF m 197 #[.val (.int i0), .val (.ref b1), .val (.ref b54), .val (.int (8 : Int32)), .val (.ref w3), .val (.int (0 : Int32))] [(.int (1 : Int32))])) _
      refine XS.goto X98.here hx rfl (pc0 := 197) (pc' := 201) rfl (hb hby at_197) (by decide) (by decide) ?_
      show Steps p.tables e below (T98.setTop (mkF m 201 #[.val (.int i0), .val (.ref b1), .val (.ref b54), .val (.int (8 : Int32)), .val (.ref w3), .val (.int (0 : Int32))] [(.int (1 : Int32))])) _
      exact retN X98 hx (t := .boolean) Bd.returns (by simp) (hb hby at_201) hr
    · show QL n0 _ T98.heap _
      exact ⟨rfl, N98⟩
  · have ne94 : b1 ≠ b54 := (Nat.ne_of_lt (Nat.lt_of_lt_of_le (Nat.lt_of_lt_of_le V1.lt (Nat.le_trans (Nat.le_trans (Nat.le_trans (Nat.le_trans (Nat.le_trans (Nat.le_trans (Nat.le_trans (Nat.le_trans (Nat.le_trans (Nat.le_trans (Nat.le_trans (Nat.le_trans (Nat.le_of_eq W5.size.symm) (Nat.le_of_eq W9.size.symm)) (Nat.le_of_eq W13.size.symm)) (Nat.le_of_eq W17.size.symm)) (Nat.le_of_eq W21.size.symm)) (Nat.le_of_eq W25.size.symm)) (Nat.le_of_eq W29.size.symm)) (Nat.le_of_eq W33.size.symm)) (Nat.le_of_eq W37.size.symm)) (Nat.le_of_eq W41.size.symm)) (Nat.le_of_eq W45.size.symm)) (Nat.le_of_eq W49.size.symm)) (Nat.le_of_eq W53.size.symm))) (Nat.le_of_eq g54.symm)))
    have f95 : Arv Z h93 b1 k1 (.object z0) (13 : Int32) [(.ref w6), (.ref w10), (.ref w4), (.ref w1), (.ref w7), (.ref w5), (.ref w11), (.ref w2), (.ref w3), (.ref w0), (.ref w8), (.ref w12), (.ref w9)] .null := ((((((((((((((V53.ext E54).other W57 ne94).other W60 ne94).other W63 ne94).other W66 ne94).other W69 ne94).other W72 ne94).other W75 ne94).other W78 ne94).other W81 ne94).other W84 ne94).other W87 ne94).other W90 ne94).other W93 ne94)
    have Vo_96 := f95
    obtain ⟨cl_96, Ar_96, q_96, Sz_96, Ng_96, Hs_96, Gt_96⟩ := Vo_96
    have hin97 : ¬ ((9 : Int32) < 0 ∨ cl_96.slots.size ≤ ((9 : Int32)).toNatClampNeg) := inb_of Sz_96 ⟨by decide, by decide⟩
    obtain ⟨_, T98, L98, hQ98, X98, st98⟩ := own_virtual X93 hx hZ (W := 0) hown (hw _ m32) (hw _ m33) (notFace_of_selects (args := #[]) (mvT hZ (hw _ m35))) (hw _ m35) (hw _ m34) (hw _ m3) (hw _ m36) (by decide) (rm16 l Z a0 hw w0 w1 w2 w3 w4 w5 w6 w7 w8 w9 w10 w11 w12 hS [] h93 n0 O93) e93 (hS.2.1.ext O93.2) (g := (mkF m 170 #[.val (.int i0), .val (.ref b1), .val (.ref b54), .val (.int (9 : Int32)), .val (.ref w0), .unset] [(.ref w0)])) rfl (by rw [hml]; rfl) (argsL := []) (rest := []) (lenOf pd31 rfl) rfl rfl (by show 2 * 0 + _ ≤ _; exact Nat.le_of_eq rfl) (hb hby at_170) (by decide) (by decide) (by decide) (by decide)
    obtain ⟨rfl, N98q, e98⟩ := hQ98
    have N98 := Fr.app N93 N98q
    have e98' : T98.heap = h93 := e98
    have Vo_99 := V93
    obtain ⟨cl_99, Ar_99, q_99, Sz_99, Ng_99, Hs_99, Gt_99⟩ := Vo_99
    have hin100 : ¬ ((9 : Int32) < 0 ∨ cl_99.slots.size ≤ ((9 : Int32)).toNatClampNeg) := inb_of Sz_99 ⟨by decide, by decide⟩
    obtain ⟨fs, hr, hrun, hended, hW, hsame⟩ := X98.leave (v := some (.int (1 : Int32))) (fun h => by rw [Bd.returns] at h; cases h)
    refine ⟨_, _, pre1 _ ?_, hrun, hended, _, _, rfl, ?_, ⟨_, rfl⟩, hW, hsame.mono (by decide) (by decide)⟩
    · show Steps p.tables e below (T93.setTop (mkF m 161 #[.val (.int i0), .val (.ref b1), .val (.ref b54), .unset, .unset, .unset] [(.int (13 : Int32)), (.int (i0 &&& (2147483647 : Int32)))])) _
      refine own_irem X93 hx rfl (hb hby at_161) rfl (by decide : ¬ ((13 : Int32) = (0 : Int32))) hp0 ?_
      show Steps p.tables e below (T93.setTop (mkF m 162 #[.val (.int i0), .val (.ref b1), .val (.ref b54), .unset, .unset, .unset] [(.int (9 : Int32))])) _
      refine XS.istoreN X93.here hx rfl (hb hby at_162) rfl (l' := #[.val (.int i0), .val (.ref b1), .val (.ref b54), .val (.int (9 : Int32)), .unset, .unset]) rfl ?_
      show Steps p.tables e below (T93.setTop (mkF m 163 #[.val (.int i0), .val (.ref b1), .val (.ref b54), .val (.int (9 : Int32)), .unset, .unset] [])) _
      refine XS.aloadN X93.here hx rfl (hb hby at_163) rfl rfl ?_
      show Steps p.tables e below (T93.setTop (mkF m 164 #[.val (.int i0), .val (.ref b1), .val (.ref b54), .val (.int (9 : Int32)), .unset, .unset] [(.ref b1)])) _
      refine XS.iloadN X93.here hx rfl (hb hby at_164) rfl ?_
      show Steps p.tables e below (T93.setTop (mkF m 165 #[.val (.int i0), .val (.ref b1), .val (.ref b54), .val (.int (9 : Int32)), .unset, .unset] [(.int (9 : Int32)), (.ref b1)])) _
      refine X93.aaload hx (j := (9 : Int32)) (v := (.ref w0)) (by rw [e93]; exact Ar_96.1) (State.isArrayOf_alike hZ.alike Ar_96.2.1) rfl Ar_96.2.2 hin97 (Hs_96.at hin97 rfl) (g := (mkF m 165 #[.val (.int i0), .val (.ref b1), .val (.ref b54), .val (.int (9 : Int32)), .unset, .unset] [(.int (9 : Int32)), (.ref b1)])) rfl rfl (hb hby at_165) _ ?_
      show Steps p.tables e below (T93.setTop (mkF m 166 #[.val (.int i0), .val (.ref b1), .val (.ref b54), .val (.int (9 : Int32)), .unset, .unset] [(.ref w0)])) _
      refine XS.astore X93.here hx rfl (hb hby at_166) rfl rfl (l' := #[.val (.int i0), .val (.ref b1), .val (.ref b54), .val (.int (9 : Int32)), .val (.ref w0), .unset]) rfl ?_
      show Steps p.tables e below (T93.setTop (mkF m 168 #[.val (.int i0), .val (.ref b1), .val (.ref b54), .val (.int (9 : Int32)), .val (.ref w0), .unset] [])) _
      refine XS.aload X93.here hx rfl (hb hby at_168) rfl rfl ?_
      show Steps p.tables e below (T93.setTop (mkF m 170 #[.val (.int i0), .val (.ref b1), .val (.ref b54), .val (.int (9 : Int32)), .val (.ref w0), .unset] [(.ref w0)])) _
      refine st98 _ ?_
      show Steps p.tables e below (T98.setTop (mkF m 173 #[.val (.int i0), .val (.ref b1), .val (.ref b54), .val (.int (9 : Int32)), .val (.ref w0), .unset] [(.int (0 : Int32))])) _
      refine XS.istore X98.here hx rfl (hb hby at_173) rfl (l' := #[.val (.int i0), .val (.ref b1), .val (.ref b54), .val (.int (9 : Int32)), .val (.ref w0), .val (.int (0 : Int32))]) rfl ?_
      show Steps p.tables e below (T98.setTop (mkF m 175 #[.val (.int i0), .val (.ref b1), .val (.ref b54), .val (.int (9 : Int32)), .val (.ref w0), .val (.int (0 : Int32))] [])) _
      refine XS.iload X98.here hx rfl (hb hby at_175) rfl ?_
      show Steps p.tables e below (T98.setTop (mkF m 177 #[.val (.int i0), .val (.ref b1), .val (.ref b54), .val (.int (9 : Int32)), .val (.ref w0), .val (.int (0 : Int32))] [(.int (0 : Int32))])) _
      refine XS.aloadN X98.here hx rfl (hb hby at_177) rfl rfl ?_
      show Steps p.tables e below (T98.setTop (mkF m 178 #[.val (.int i0), .val (.ref b1), .val (.ref b54), .val (.int (9 : Int32)), .val (.ref w0), .val (.int (0 : Int32))] [(.ref b54), (.int (0 : Int32))])) _
      refine XS.iloadN X98.here hx rfl (hb hby at_178) rfl ?_
      show Steps p.tables e below (T98.setTop (mkF m 179 #[.val (.int i0), .val (.ref b1), .val (.ref b54), .val (.int (9 : Int32)), .val (.ref w0), .val (.int (0 : Int32))] [(.int (9 : Int32)), (.ref b54), (.int (0 : Int32))])) _
      refine X98.baloadBooleans hx (j := (9 : Int32)) (v := (.int (0 : Int32))) (by rw [e98']; exact Ar_99.1) (State.isArrayOf_alike hZ.alike Ar_99.2.1) Ar_99.2.2 hin100 (Hs_99.at hin100 rfl) (g := (mkF m 179 #[.val (.int i0), .val (.ref b1), .val (.ref b54), .val (.int (9 : Int32)), .val (.ref w0), .val (.int (0 : Int32))] [(.int (9 : Int32)), (.ref b54), (.int (0 : Int32))])) rfl rfl (hb hby at_179) _ ?_
      show Steps p.tables e below (T98.setTop (mkF m 180 #[.val (.int i0), .val (.ref b1), .val (.ref b54), .val (.int (9 : Int32)), .val (.ref w0), .val (.int (0 : Int32))] [(.int (0 : Int32)), (.int (0 : Int32))])) _
      refine XS.icmpNo X98.here hx rfl (hb hby at_180) rfl (teq (by decide : (0 : Int32) = (0 : Int32))).2 ?_
      show Steps p.tables e below (T98.setTop (mkF m 183 #[.val (.int i0), .val (.ref b1), .val (.ref b54), .val (.int (9 : Int32)), .val (.ref w0), .val (.int (0 : Int32))] [])) _
      refine XS.iload X98.here hx rfl (hb hby at_183) rfl ?_
      show Steps p.tables e below (T98.setTop (mkF m 185 #[.val (.int i0), .val (.ref b1), .val (.ref b54), .val (.int (9 : Int32)), .val (.ref w0), .val (.int (0 : Int32))] [(.int (0 : Int32))])) _
      refine XS.ifYes X98.here hx rfl (pc0 := 185) (pc' := 196) rfl (hb hby at_185) rfl ((if0 _ _).trans (teq (by decide : (0 : Int32) = (0 : Int32))).1) (by decide) (by decide) ?_
      show Steps p.tables e below (T98.setTop (mkF m 196 #[.val (.int i0), .val (.ref b1), .val (.ref b54), .val (.int (9 : Int32)), .val (.ref w0), .val (.int (0 : Int32))] [])) _
      refine XS.iconst X98.here hx rfl (hb hby at_196) ?_
      show Steps p.tables e below (T98.setTop (mkF m 197 #[.val (.int i0), .val (.ref b1), .val (.ref b54), .val (.int (9 : Int32)), .val (.ref w0), .val (.int (0 : Int32))] [(.int (1 : Int32))])) _
      refine XS.goto X98.here hx rfl (pc0 := 197) (pc' := 201) rfl (hb hby at_197) (by decide) (by decide) ?_
      show Steps p.tables e below (T98.setTop (mkF m 201 #[.val (.int i0), .val (.ref b1), .val (.ref b54), .val (.int (9 : Int32)), .val (.ref w0), .val (.int (0 : Int32))] [(.int (1 : Int32))])) _
      exact retN X98 hx (t := .boolean) Bd.returns (by simp) (hb hby at_201) hr
    · show QL n0 _ T98.heap _
      exact ⟨rfl, N98⟩
  · have ne94 : b1 ≠ b54 := (Nat.ne_of_lt (Nat.lt_of_lt_of_le (Nat.lt_of_lt_of_le V1.lt (Nat.le_trans (Nat.le_trans (Nat.le_trans (Nat.le_trans (Nat.le_trans (Nat.le_trans (Nat.le_trans (Nat.le_trans (Nat.le_trans (Nat.le_trans (Nat.le_trans (Nat.le_trans (Nat.le_of_eq W5.size.symm) (Nat.le_of_eq W9.size.symm)) (Nat.le_of_eq W13.size.symm)) (Nat.le_of_eq W17.size.symm)) (Nat.le_of_eq W21.size.symm)) (Nat.le_of_eq W25.size.symm)) (Nat.le_of_eq W29.size.symm)) (Nat.le_of_eq W33.size.symm)) (Nat.le_of_eq W37.size.symm)) (Nat.le_of_eq W41.size.symm)) (Nat.le_of_eq W45.size.symm)) (Nat.le_of_eq W49.size.symm)) (Nat.le_of_eq W53.size.symm))) (Nat.le_of_eq g54.symm)))
    have f95 : Arv Z h93 b1 k1 (.object z0) (13 : Int32) [(.ref w6), (.ref w10), (.ref w4), (.ref w1), (.ref w7), (.ref w5), (.ref w11), (.ref w2), (.ref w3), (.ref w0), (.ref w8), (.ref w12), (.ref w9)] .null := ((((((((((((((V53.ext E54).other W57 ne94).other W60 ne94).other W63 ne94).other W66 ne94).other W69 ne94).other W72 ne94).other W75 ne94).other W78 ne94).other W81 ne94).other W84 ne94).other W87 ne94).other W90 ne94).other W93 ne94)
    have Vo_96 := f95
    obtain ⟨cl_96, Ar_96, q_96, Sz_96, Ng_96, Hs_96, Gt_96⟩ := Vo_96
    have hin97 : ¬ ((10 : Int32) < 0 ∨ cl_96.slots.size ≤ ((10 : Int32)).toNatClampNeg) := inb_of Sz_96 ⟨by decide, by decide⟩
    obtain ⟨_, T98, L98, hQ98, X98, st98⟩ := own_virtual X93 hx hZ (W := 0) hown (hw _ m32) (hw _ m33) (notFace_of_selects (args := #[]) (mvT hZ (hw _ m35))) (hw _ m35) (hw _ m34) (hw _ m3) (hw _ m36) (by decide) (rm17 l Z a0 hw w0 w1 w2 w3 w4 w5 w6 w7 w8 w9 w10 w11 w12 hS [] h93 n0 O93) e93 (hS.2.2.2.2.2.2.2.2.2.2.2.2.2.2.2.2.2.2.2.2.2.2.2.2.2.1.ext O93.2) (g := (mkF m 170 #[.val (.int i0), .val (.ref b1), .val (.ref b54), .val (.int (10 : Int32)), .val (.ref w8), .unset] [(.ref w8)])) rfl (by rw [hml]; rfl) (argsL := []) (rest := []) (lenOf pd31 rfl) rfl rfl (by show 2 * 0 + _ ≤ _; exact Nat.le_of_eq rfl) (hb hby at_170) (by decide) (by decide) (by decide) (by decide)
    obtain ⟨rfl, N98q, e98⟩ := hQ98
    have N98 := Fr.app N93 N98q
    have e98' : T98.heap = h93 := e98
    have Vo_99 := V93
    obtain ⟨cl_99, Ar_99, q_99, Sz_99, Ng_99, Hs_99, Gt_99⟩ := Vo_99
    have hin100 : ¬ ((10 : Int32) < 0 ∨ cl_99.slots.size ≤ ((10 : Int32)).toNatClampNeg) := inb_of Sz_99 ⟨by decide, by decide⟩
    obtain ⟨fs, hr, hrun, hended, hW, hsame⟩ := X98.leave (v := some (.int (1 : Int32))) (fun h => by rw [Bd.returns] at h; cases h)
    refine ⟨_, _, pre1 _ ?_, hrun, hended, _, _, rfl, ?_, ⟨_, rfl⟩, hW, hsame.mono (by decide) (by decide)⟩
    · show Steps p.tables e below (T93.setTop (mkF m 161 #[.val (.int i0), .val (.ref b1), .val (.ref b54), .unset, .unset, .unset] [(.int (13 : Int32)), (.int (i0 &&& (2147483647 : Int32)))])) _
      refine own_irem X93 hx rfl (hb hby at_161) rfl (by decide : ¬ ((13 : Int32) = (0 : Int32))) hp0 ?_
      show Steps p.tables e below (T93.setTop (mkF m 162 #[.val (.int i0), .val (.ref b1), .val (.ref b54), .unset, .unset, .unset] [(.int (10 : Int32))])) _
      refine XS.istoreN X93.here hx rfl (hb hby at_162) rfl (l' := #[.val (.int i0), .val (.ref b1), .val (.ref b54), .val (.int (10 : Int32)), .unset, .unset]) rfl ?_
      show Steps p.tables e below (T93.setTop (mkF m 163 #[.val (.int i0), .val (.ref b1), .val (.ref b54), .val (.int (10 : Int32)), .unset, .unset] [])) _
      refine XS.aloadN X93.here hx rfl (hb hby at_163) rfl rfl ?_
      show Steps p.tables e below (T93.setTop (mkF m 164 #[.val (.int i0), .val (.ref b1), .val (.ref b54), .val (.int (10 : Int32)), .unset, .unset] [(.ref b1)])) _
      refine XS.iloadN X93.here hx rfl (hb hby at_164) rfl ?_
      show Steps p.tables e below (T93.setTop (mkF m 165 #[.val (.int i0), .val (.ref b1), .val (.ref b54), .val (.int (10 : Int32)), .unset, .unset] [(.int (10 : Int32)), (.ref b1)])) _
      refine X93.aaload hx (j := (10 : Int32)) (v := (.ref w8)) (by rw [e93]; exact Ar_96.1) (State.isArrayOf_alike hZ.alike Ar_96.2.1) rfl Ar_96.2.2 hin97 (Hs_96.at hin97 rfl) (g := (mkF m 165 #[.val (.int i0), .val (.ref b1), .val (.ref b54), .val (.int (10 : Int32)), .unset, .unset] [(.int (10 : Int32)), (.ref b1)])) rfl rfl (hb hby at_165) _ ?_
      show Steps p.tables e below (T93.setTop (mkF m 166 #[.val (.int i0), .val (.ref b1), .val (.ref b54), .val (.int (10 : Int32)), .unset, .unset] [(.ref w8)])) _
      refine XS.astore X93.here hx rfl (hb hby at_166) rfl rfl (l' := #[.val (.int i0), .val (.ref b1), .val (.ref b54), .val (.int (10 : Int32)), .val (.ref w8), .unset]) rfl ?_
      show Steps p.tables e below (T93.setTop (mkF m 168 #[.val (.int i0), .val (.ref b1), .val (.ref b54), .val (.int (10 : Int32)), .val (.ref w8), .unset] [])) _
      refine XS.aload X93.here hx rfl (hb hby at_168) rfl rfl ?_
      show Steps p.tables e below (T93.setTop (mkF m 170 #[.val (.int i0), .val (.ref b1), .val (.ref b54), .val (.int (10 : Int32)), .val (.ref w8), .unset] [(.ref w8)])) _
      refine st98 _ ?_
      show Steps p.tables e below (T98.setTop (mkF m 173 #[.val (.int i0), .val (.ref b1), .val (.ref b54), .val (.int (10 : Int32)), .val (.ref w8), .unset] [(.int (0 : Int32))])) _
      refine XS.istore X98.here hx rfl (hb hby at_173) rfl (l' := #[.val (.int i0), .val (.ref b1), .val (.ref b54), .val (.int (10 : Int32)), .val (.ref w8), .val (.int (0 : Int32))]) rfl ?_
      show Steps p.tables e below (T98.setTop (mkF m 175 #[.val (.int i0), .val (.ref b1), .val (.ref b54), .val (.int (10 : Int32)), .val (.ref w8), .val (.int (0 : Int32))] [])) _
      refine XS.iload X98.here hx rfl (hb hby at_175) rfl ?_
      show Steps p.tables e below (T98.setTop (mkF m 177 #[.val (.int i0), .val (.ref b1), .val (.ref b54), .val (.int (10 : Int32)), .val (.ref w8), .val (.int (0 : Int32))] [(.int (0 : Int32))])) _
      refine XS.aloadN X98.here hx rfl (hb hby at_177) rfl rfl ?_
      show Steps p.tables e below (T98.setTop (mkF m 178 #[.val (.int i0), .val (.ref b1), .val (.ref b54), .val (.int (10 : Int32)), .val (.ref w8), .val (.int (0 : Int32))] [(.ref b54), (.int (0 : Int32))])) _
      refine XS.iloadN X98.here hx rfl (hb hby at_178) rfl ?_
      show Steps p.tables e below (T98.setTop (mkF m 179 #[.val (.int i0), .val (.ref b1), .val (.ref b54), .val (.int (10 : Int32)), .val (.ref w8), .val (.int (0 : Int32))] [(.int (10 : Int32)), (.ref b54), (.int (0 : Int32))])) _
      refine X98.baloadBooleans hx (j := (10 : Int32)) (v := (.int (0 : Int32))) (by rw [e98']; exact Ar_99.1) (State.isArrayOf_alike hZ.alike Ar_99.2.1) Ar_99.2.2 hin100 (Hs_99.at hin100 rfl) (g := (mkF m 179 #[.val (.int i0), .val (.ref b1), .val (.ref b54), .val (.int (10 : Int32)), .val (.ref w8), .val (.int (0 : Int32))] [(.int (10 : Int32)), (.ref b54), (.int (0 : Int32))])) rfl rfl (hb hby at_179) _ ?_
      show Steps p.tables e below (T98.setTop (mkF m 180 #[.val (.int i0), .val (.ref b1), .val (.ref b54), .val (.int (10 : Int32)), .val (.ref w8), .val (.int (0 : Int32))] [(.int (0 : Int32)), (.int (0 : Int32))])) _
      refine XS.icmpNo X98.here hx rfl (hb hby at_180) rfl (teq (by decide : (0 : Int32) = (0 : Int32))).2 ?_
      show Steps p.tables e below (T98.setTop (mkF m 183 #[.val (.int i0), .val (.ref b1), .val (.ref b54), .val (.int (10 : Int32)), .val (.ref w8), .val (.int (0 : Int32))] [])) _
      refine XS.iload X98.here hx rfl (hb hby at_183) rfl ?_
      show Steps p.tables e below (T98.setTop (mkF m 185 #[.val (.int i0), .val (.ref b1), .val (.ref b54), .val (.int (10 : Int32)), .val (.ref w8), .val (.int (0 : Int32))] [(.int (0 : Int32))])) _
      refine XS.ifYes X98.here hx rfl (pc0 := 185) (pc' := 196) rfl (hb hby at_185) rfl ((if0 _ _).trans (teq (by decide : (0 : Int32) = (0 : Int32))).1) (by decide) (by decide) ?_
      show Steps p.tables e below (T98.setTop (mkF m 196 #[.val (.int i0), .val (.ref b1), .val (.ref b54), .val (.int (10 : Int32)), .val (.ref w8), .val (.int (0 : Int32))] [])) _
      refine XS.iconst X98.here hx rfl (hb hby at_196) ?_
      show Steps p.tables e below (T98.setTop (mkF m 197 #[.val (.int i0), .val (.ref b1), .val (.ref b54), .val (.int (10 : Int32)), .val (.ref w8), .val (.int (0 : Int32))] [(.int (1 : Int32))])) _
      refine XS.goto X98.here hx rfl (pc0 := 197) (pc' := 201) rfl (hb hby at_197) (by decide) (by decide) ?_
      show Steps p.tables e below (T98.setTop (mkF m 201 #[.val (.int i0), .val (.ref b1), .val (.ref b54), .val (.int (10 : Int32)), .val (.ref w8), .val (.int (0 : Int32))] [(.int (1 : Int32))])) _
      exact retN X98 hx (t := .boolean) Bd.returns (by simp) (hb hby at_201) hr
    · show QL n0 _ T98.heap _
      exact ⟨rfl, N98⟩
  · have ne94 : b1 ≠ b54 := (Nat.ne_of_lt (Nat.lt_of_lt_of_le (Nat.lt_of_lt_of_le V1.lt (Nat.le_trans (Nat.le_trans (Nat.le_trans (Nat.le_trans (Nat.le_trans (Nat.le_trans (Nat.le_trans (Nat.le_trans (Nat.le_trans (Nat.le_trans (Nat.le_trans (Nat.le_trans (Nat.le_of_eq W5.size.symm) (Nat.le_of_eq W9.size.symm)) (Nat.le_of_eq W13.size.symm)) (Nat.le_of_eq W17.size.symm)) (Nat.le_of_eq W21.size.symm)) (Nat.le_of_eq W25.size.symm)) (Nat.le_of_eq W29.size.symm)) (Nat.le_of_eq W33.size.symm)) (Nat.le_of_eq W37.size.symm)) (Nat.le_of_eq W41.size.symm)) (Nat.le_of_eq W45.size.symm)) (Nat.le_of_eq W49.size.symm)) (Nat.le_of_eq W53.size.symm))) (Nat.le_of_eq g54.symm)))
    have f95 : Arv Z h93 b1 k1 (.object z0) (13 : Int32) [(.ref w6), (.ref w10), (.ref w4), (.ref w1), (.ref w7), (.ref w5), (.ref w11), (.ref w2), (.ref w3), (.ref w0), (.ref w8), (.ref w12), (.ref w9)] .null := ((((((((((((((V53.ext E54).other W57 ne94).other W60 ne94).other W63 ne94).other W66 ne94).other W69 ne94).other W72 ne94).other W75 ne94).other W78 ne94).other W81 ne94).other W84 ne94).other W87 ne94).other W90 ne94).other W93 ne94)
    have Vo_96 := f95
    obtain ⟨cl_96, Ar_96, q_96, Sz_96, Ng_96, Hs_96, Gt_96⟩ := Vo_96
    have hin97 : ¬ ((11 : Int32) < 0 ∨ cl_96.slots.size ≤ ((11 : Int32)).toNatClampNeg) := inb_of Sz_96 ⟨by decide, by decide⟩
    obtain ⟨_, T98, L98, hQ98, X98, st98⟩ := own_virtual X93 hx hZ (W := 0) hown (hw _ m32) (hw _ m33) (notFace_of_selects (args := #[]) (mvT hZ (hw _ m35))) (hw _ m35) (hw _ m34) (hw _ m3) (hw _ m36) (by decide) (rm18 l Z a0 hw w0 w1 w2 w3 w4 w5 w6 w7 w8 w9 w10 w11 w12 hS [] h93 n0 O93) e93 (hS.2.2.2.2.2.2.2.2.2.2.2.2.2.2.2.2.2.2.2.2.2.2.2.2.2.2.2.2.2.2.2.2.2.2.2.2.2.1.ext O93.2) (g := (mkF m 170 #[.val (.int i0), .val (.ref b1), .val (.ref b54), .val (.int (11 : Int32)), .val (.ref w12), .unset] [(.ref w12)])) rfl (by rw [hml]; rfl) (argsL := []) (rest := []) (lenOf pd31 rfl) rfl rfl (by show 2 * 0 + _ ≤ _; exact Nat.le_of_eq rfl) (hb hby at_170) (by decide) (by decide) (by decide) (by decide)
    obtain ⟨rfl, N98q, e98⟩ := hQ98
    have N98 := Fr.app N93 N98q
    have e98' : T98.heap = h93 := e98
    have Vo_99 := V93
    obtain ⟨cl_99, Ar_99, q_99, Sz_99, Ng_99, Hs_99, Gt_99⟩ := Vo_99
    have hin100 : ¬ ((11 : Int32) < 0 ∨ cl_99.slots.size ≤ ((11 : Int32)).toNatClampNeg) := inb_of Sz_99 ⟨by decide, by decide⟩
    obtain ⟨_, T101, L101, hQ101, X101, st101⟩ := own_virtual X98 hx hZ (W := 0) hown (hw _ m38) (hw _ m39) (notFace_of_selects (args := #[]) (mvT hZ (hw _ m41))) (hw _ m41) (hw _ m40) (hw _ m3) (hw _ m42) (by decide) (rm19 l Z a0 hw w0 w1 w2 w3 w4 w5 w6 w7 w8 w9 w10 w11 w12 hS [] h93 n0 O93) e98' (hS.2.2.2.2.2.2.2.2.2.2.2.2.2.2.2.2.2.2.2.2.2.2.2.2.2.2.2.2.2.2.2.2.2.2.2.2.2.1.ext O93.2) (g := (mkF m 190 #[.val (.int i0), .val (.ref b1), .val (.ref b54), .val (.int (11 : Int32)), .val (.ref w12), .val (.int (1 : Int32))] [(.ref w12)])) rfl (by rw [hml]; rfl) (argsL := []) (rest := []) (lenOf pd31 rfl) rfl rfl (by show 2 * 0 + _ ≤ _; exact Nat.le_of_eq rfl) (hb hby at_190) (by decide) (by decide) (by decide) (by decide)
    obtain ⟨rfl, N101q, e101⟩ := hQ101
    have N101 := Fr.app N98 N101q
    have e101' : T101.heap = h93 := e101
    obtain ⟨fs, hr, hrun, hended, hW, hsame⟩ := X101.leave (v := some (.int (1 : Int32))) (fun h => by rw [Bd.returns] at h; cases h)
    refine ⟨_, _, pre1 _ ?_, hrun, hended, _, _, rfl, ?_, ⟨_, rfl⟩, hW, hsame.mono (by decide) (by decide)⟩
    · show Steps p.tables e below (T93.setTop (mkF m 161 #[.val (.int i0), .val (.ref b1), .val (.ref b54), .unset, .unset, .unset] [(.int (13 : Int32)), (.int (i0 &&& (2147483647 : Int32)))])) _
      refine own_irem X93 hx rfl (hb hby at_161) rfl (by decide : ¬ ((13 : Int32) = (0 : Int32))) hp0 ?_
      show Steps p.tables e below (T93.setTop (mkF m 162 #[.val (.int i0), .val (.ref b1), .val (.ref b54), .unset, .unset, .unset] [(.int (11 : Int32))])) _
      refine XS.istoreN X93.here hx rfl (hb hby at_162) rfl (l' := #[.val (.int i0), .val (.ref b1), .val (.ref b54), .val (.int (11 : Int32)), .unset, .unset]) rfl ?_
      show Steps p.tables e below (T93.setTop (mkF m 163 #[.val (.int i0), .val (.ref b1), .val (.ref b54), .val (.int (11 : Int32)), .unset, .unset] [])) _
      refine XS.aloadN X93.here hx rfl (hb hby at_163) rfl rfl ?_
      show Steps p.tables e below (T93.setTop (mkF m 164 #[.val (.int i0), .val (.ref b1), .val (.ref b54), .val (.int (11 : Int32)), .unset, .unset] [(.ref b1)])) _
      refine XS.iloadN X93.here hx rfl (hb hby at_164) rfl ?_
      show Steps p.tables e below (T93.setTop (mkF m 165 #[.val (.int i0), .val (.ref b1), .val (.ref b54), .val (.int (11 : Int32)), .unset, .unset] [(.int (11 : Int32)), (.ref b1)])) _
      refine X93.aaload hx (j := (11 : Int32)) (v := (.ref w12)) (by rw [e93]; exact Ar_96.1) (State.isArrayOf_alike hZ.alike Ar_96.2.1) rfl Ar_96.2.2 hin97 (Hs_96.at hin97 rfl) (g := (mkF m 165 #[.val (.int i0), .val (.ref b1), .val (.ref b54), .val (.int (11 : Int32)), .unset, .unset] [(.int (11 : Int32)), (.ref b1)])) rfl rfl (hb hby at_165) _ ?_
      show Steps p.tables e below (T93.setTop (mkF m 166 #[.val (.int i0), .val (.ref b1), .val (.ref b54), .val (.int (11 : Int32)), .unset, .unset] [(.ref w12)])) _
      refine XS.astore X93.here hx rfl (hb hby at_166) rfl rfl (l' := #[.val (.int i0), .val (.ref b1), .val (.ref b54), .val (.int (11 : Int32)), .val (.ref w12), .unset]) rfl ?_
      show Steps p.tables e below (T93.setTop (mkF m 168 #[.val (.int i0), .val (.ref b1), .val (.ref b54), .val (.int (11 : Int32)), .val (.ref w12), .unset] [])) _
      refine XS.aload X93.here hx rfl (hb hby at_168) rfl rfl ?_
      show Steps p.tables e below (T93.setTop (mkF m 170 #[.val (.int i0), .val (.ref b1), .val (.ref b54), .val (.int (11 : Int32)), .val (.ref w12), .unset] [(.ref w12)])) _
      refine st98 _ ?_
      show Steps p.tables e below (T98.setTop (mkF m 173 #[.val (.int i0), .val (.ref b1), .val (.ref b54), .val (.int (11 : Int32)), .val (.ref w12), .unset] [(.int (1 : Int32))])) _
      refine XS.istore X98.here hx rfl (hb hby at_173) rfl (l' := #[.val (.int i0), .val (.ref b1), .val (.ref b54), .val (.int (11 : Int32)), .val (.ref w12), .val (.int (1 : Int32))]) rfl ?_
      show Steps p.tables e below (T98.setTop (mkF m 175 #[.val (.int i0), .val (.ref b1), .val (.ref b54), .val (.int (11 : Int32)), .val (.ref w12), .val (.int (1 : Int32))] [])) _
      refine XS.iload X98.here hx rfl (hb hby at_175) rfl ?_
      show Steps p.tables e below (T98.setTop (mkF m 177 #[.val (.int i0), .val (.ref b1), .val (.ref b54), .val (.int (11 : Int32)), .val (.ref w12), .val (.int (1 : Int32))] [(.int (1 : Int32))])) _
      refine XS.aloadN X98.here hx rfl (hb hby at_177) rfl rfl ?_
      show Steps p.tables e below (T98.setTop (mkF m 178 #[.val (.int i0), .val (.ref b1), .val (.ref b54), .val (.int (11 : Int32)), .val (.ref w12), .val (.int (1 : Int32))] [(.ref b54), (.int (1 : Int32))])) _
      refine XS.iloadN X98.here hx rfl (hb hby at_178) rfl ?_
      show Steps p.tables e below (T98.setTop (mkF m 179 #[.val (.int i0), .val (.ref b1), .val (.ref b54), .val (.int (11 : Int32)), .val (.ref w12), .val (.int (1 : Int32))] [(.int (11 : Int32)), (.ref b54), (.int (1 : Int32))])) _
      refine X98.baloadBooleans hx (j := (11 : Int32)) (v := (.int (1 : Int32))) (by rw [e98']; exact Ar_99.1) (State.isArrayOf_alike hZ.alike Ar_99.2.1) Ar_99.2.2 hin100 (Hs_99.at hin100 rfl) (g := (mkF m 179 #[.val (.int i0), .val (.ref b1), .val (.ref b54), .val (.int (11 : Int32)), .val (.ref w12), .val (.int (1 : Int32))] [(.int (11 : Int32)), (.ref b54), (.int (1 : Int32))])) rfl rfl (hb hby at_179) _ ?_
      show Steps p.tables e below (T98.setTop (mkF m 180 #[.val (.int i0), .val (.ref b1), .val (.ref b54), .val (.int (11 : Int32)), .val (.ref w12), .val (.int (1 : Int32))] [(.int (1 : Int32)), (.int (1 : Int32))])) _
      refine XS.icmpNo X98.here hx rfl (hb hby at_180) rfl (teq (by decide : (1 : Int32) = (1 : Int32))).2 ?_
      show Steps p.tables e below (T98.setTop (mkF m 183 #[.val (.int i0), .val (.ref b1), .val (.ref b54), .val (.int (11 : Int32)), .val (.ref w12), .val (.int (1 : Int32))] [])) _
      refine XS.iload X98.here hx rfl (hb hby at_183) rfl ?_
      show Steps p.tables e below (T98.setTop (mkF m 185 #[.val (.int i0), .val (.ref b1), .val (.ref b54), .val (.int (11 : Int32)), .val (.ref w12), .val (.int (1 : Int32))] [(.int (1 : Int32))])) _
      refine XS.ifNo X98.here hx rfl (hb hby at_185) rfl ((if0 _ _).trans (feq (by decide : ¬ ((1 : Int32) = (0 : Int32)))).1) ?_
      show Steps p.tables e below (T98.setTop (mkF m 188 #[.val (.int i0), .val (.ref b1), .val (.ref b54), .val (.int (11 : Int32)), .val (.ref w12), .val (.int (1 : Int32))] [])) _
      refine XS.aload X98.here hx rfl (hb hby at_188) rfl rfl ?_
      show Steps p.tables e below (T98.setTop (mkF m 190 #[.val (.int i0), .val (.ref b1), .val (.ref b54), .val (.int (11 : Int32)), .val (.ref w12), .val (.int (1 : Int32))] [(.ref w12)])) _
      refine st101 _ ?_
      show Steps p.tables e below (T101.setTop (mkF m 193 #[.val (.int i0), .val (.ref b1), .val (.ref b54), .val (.int (11 : Int32)), .val (.ref w12), .val (.int (1 : Int32))] [(.int (0 : Int32))])) _
      refine XS.ifNo X101.here hx rfl (hb hby at_193) rfl ((if0 _ _).trans (teq (by decide : (0 : Int32) = (0 : Int32))).2) ?_
      show Steps p.tables e below (T101.setTop (mkF m 196 #[.val (.int i0), .val (.ref b1), .val (.ref b54), .val (.int (11 : Int32)), .val (.ref w12), .val (.int (1 : Int32))] [])) _
      refine XS.iconst X101.here hx rfl (hb hby at_196) ?_
      show Steps p.tables e below (T101.setTop (mkF m 197 #[.val (.int i0), .val (.ref b1), .val (.ref b54), .val (.int (11 : Int32)), .val (.ref w12), .val (.int (1 : Int32))] [(.int (1 : Int32))])) _
      refine XS.goto X101.here hx rfl (pc0 := 197) (pc' := 201) rfl (hb hby at_197) (by decide) (by decide) ?_
      show Steps p.tables e below (T101.setTop (mkF m 201 #[.val (.int i0), .val (.ref b1), .val (.ref b54), .val (.int (11 : Int32)), .val (.ref w12), .val (.int (1 : Int32))] [(.int (1 : Int32))])) _
      exact retN X101 hx (t := .boolean) Bd.returns (by simp) (hb hby at_201) hr
    · show QL n0 _ T101.heap _
      exact ⟨rfl, N101⟩
  · have ne94 : b1 ≠ b54 := (Nat.ne_of_lt (Nat.lt_of_lt_of_le (Nat.lt_of_lt_of_le V1.lt (Nat.le_trans (Nat.le_trans (Nat.le_trans (Nat.le_trans (Nat.le_trans (Nat.le_trans (Nat.le_trans (Nat.le_trans (Nat.le_trans (Nat.le_trans (Nat.le_trans (Nat.le_trans (Nat.le_of_eq W5.size.symm) (Nat.le_of_eq W9.size.symm)) (Nat.le_of_eq W13.size.symm)) (Nat.le_of_eq W17.size.symm)) (Nat.le_of_eq W21.size.symm)) (Nat.le_of_eq W25.size.symm)) (Nat.le_of_eq W29.size.symm)) (Nat.le_of_eq W33.size.symm)) (Nat.le_of_eq W37.size.symm)) (Nat.le_of_eq W41.size.symm)) (Nat.le_of_eq W45.size.symm)) (Nat.le_of_eq W49.size.symm)) (Nat.le_of_eq W53.size.symm))) (Nat.le_of_eq g54.symm)))
    have f95 : Arv Z h93 b1 k1 (.object z0) (13 : Int32) [(.ref w6), (.ref w10), (.ref w4), (.ref w1), (.ref w7), (.ref w5), (.ref w11), (.ref w2), (.ref w3), (.ref w0), (.ref w8), (.ref w12), (.ref w9)] .null := ((((((((((((((V53.ext E54).other W57 ne94).other W60 ne94).other W63 ne94).other W66 ne94).other W69 ne94).other W72 ne94).other W75 ne94).other W78 ne94).other W81 ne94).other W84 ne94).other W87 ne94).other W90 ne94).other W93 ne94)
    have Vo_96 := f95
    obtain ⟨cl_96, Ar_96, q_96, Sz_96, Ng_96, Hs_96, Gt_96⟩ := Vo_96
    have hin97 : ¬ ((12 : Int32) < 0 ∨ cl_96.slots.size ≤ ((12 : Int32)).toNatClampNeg) := inb_of Sz_96 ⟨by decide, by decide⟩
    obtain ⟨_, T98, L98, hQ98, X98, st98⟩ := own_virtual X93 hx hZ (W := 0) hown (hw _ m32) (hw _ m33) (notFace_of_selects (args := #[]) (mvT hZ (hw _ m35))) (hw _ m35) (hw _ m34) (hw _ m3) (hw _ m36) (by decide) (rm20 l Z a0 hw w0 w1 w2 w3 w4 w5 w6 w7 w8 w9 w10 w11 w12 hS [] h93 n0 O93) e93 (hS.2.2.2.2.2.2.2.2.2.2.2.2.2.2.2.2.2.2.2.2.2.2.2.2.2.2.2.2.1.ext O93.2) (g := (mkF m 170 #[.val (.int i0), .val (.ref b1), .val (.ref b54), .val (.int (12 : Int32)), .val (.ref w9), .unset] [(.ref w9)])) rfl (by rw [hml]; rfl) (argsL := []) (rest := []) (lenOf pd31 rfl) rfl rfl (by show 2 * 0 + _ ≤ _; exact Nat.le_of_eq rfl) (hb hby at_170) (by decide) (by decide) (by decide) (by decide)
    obtain ⟨rfl, N98q, e98⟩ := hQ98
    have N98 := Fr.app N93 N98q
    have e98' : T98.heap = h93 := e98
    have Vo_99 := V93
    obtain ⟨cl_99, Ar_99, q_99, Sz_99, Ng_99, Hs_99, Gt_99⟩ := Vo_99
    have hin100 : ¬ ((12 : Int32) < 0 ∨ cl_99.slots.size ≤ ((12 : Int32)).toNatClampNeg) := inb_of Sz_99 ⟨by decide, by decide⟩
    obtain ⟨fs, hr, hrun, hended, hW, hsame⟩ := X98.leave (v := some (.int (1 : Int32))) (fun h => by rw [Bd.returns] at h; cases h)
    refine ⟨_, _, pre1 _ ?_, hrun, hended, _, _, rfl, ?_, ⟨_, rfl⟩, hW, hsame.mono (by decide) (by decide)⟩
    · show Steps p.tables e below (T93.setTop (mkF m 161 #[.val (.int i0), .val (.ref b1), .val (.ref b54), .unset, .unset, .unset] [(.int (13 : Int32)), (.int (i0 &&& (2147483647 : Int32)))])) _
      refine own_irem X93 hx rfl (hb hby at_161) rfl (by decide : ¬ ((13 : Int32) = (0 : Int32))) hp0 ?_
      show Steps p.tables e below (T93.setTop (mkF m 162 #[.val (.int i0), .val (.ref b1), .val (.ref b54), .unset, .unset, .unset] [(.int (12 : Int32))])) _
      refine XS.istoreN X93.here hx rfl (hb hby at_162) rfl (l' := #[.val (.int i0), .val (.ref b1), .val (.ref b54), .val (.int (12 : Int32)), .unset, .unset]) rfl ?_
      show Steps p.tables e below (T93.setTop (mkF m 163 #[.val (.int i0), .val (.ref b1), .val (.ref b54), .val (.int (12 : Int32)), .unset, .unset] [])) _
      refine XS.aloadN X93.here hx rfl (hb hby at_163) rfl rfl ?_
      show Steps p.tables e below (T93.setTop (mkF m 164 #[.val (.int i0), .val (.ref b1), .val (.ref b54), .val (.int (12 : Int32)), .unset, .unset] [(.ref b1)])) _
      refine XS.iloadN X93.here hx rfl (hb hby at_164) rfl ?_
      show Steps p.tables e below (T93.setTop (mkF m 165 #[.val (.int i0), .val (.ref b1), .val (.ref b54), .val (.int (12 : Int32)), .unset, .unset] [(.int (12 : Int32)), (.ref b1)])) _
      refine X93.aaload hx (j := (12 : Int32)) (v := (.ref w9)) (by rw [e93]; exact Ar_96.1) (State.isArrayOf_alike hZ.alike Ar_96.2.1) rfl Ar_96.2.2 hin97 (Hs_96.at hin97 rfl) (g := (mkF m 165 #[.val (.int i0), .val (.ref b1), .val (.ref b54), .val (.int (12 : Int32)), .unset, .unset] [(.int (12 : Int32)), (.ref b1)])) rfl rfl (hb hby at_165) _ ?_
      show Steps p.tables e below (T93.setTop (mkF m 166 #[.val (.int i0), .val (.ref b1), .val (.ref b54), .val (.int (12 : Int32)), .unset, .unset] [(.ref w9)])) _
      refine XS.astore X93.here hx rfl (hb hby at_166) rfl rfl (l' := #[.val (.int i0), .val (.ref b1), .val (.ref b54), .val (.int (12 : Int32)), .val (.ref w9), .unset]) rfl ?_
      show Steps p.tables e below (T93.setTop (mkF m 168 #[.val (.int i0), .val (.ref b1), .val (.ref b54), .val (.int (12 : Int32)), .val (.ref w9), .unset] [])) _
      refine XS.aload X93.here hx rfl (hb hby at_168) rfl rfl ?_
      show Steps p.tables e below (T93.setTop (mkF m 170 #[.val (.int i0), .val (.ref b1), .val (.ref b54), .val (.int (12 : Int32)), .val (.ref w9), .unset] [(.ref w9)])) _
      refine st98 _ ?_
      show Steps p.tables e below (T98.setTop (mkF m 173 #[.val (.int i0), .val (.ref b1), .val (.ref b54), .val (.int (12 : Int32)), .val (.ref w9), .unset] [(.int (0 : Int32))])) _
      refine XS.istore X98.here hx rfl (hb hby at_173) rfl (l' := #[.val (.int i0), .val (.ref b1), .val (.ref b54), .val (.int (12 : Int32)), .val (.ref w9), .val (.int (0 : Int32))]) rfl ?_
      show Steps p.tables e below (T98.setTop (mkF m 175 #[.val (.int i0), .val (.ref b1), .val (.ref b54), .val (.int (12 : Int32)), .val (.ref w9), .val (.int (0 : Int32))] [])) _
      refine XS.iload X98.here hx rfl (hb hby at_175) rfl ?_
      show Steps p.tables e below (T98.setTop (mkF m 177 #[.val (.int i0), .val (.ref b1), .val (.ref b54), .val (.int (12 : Int32)), .val (.ref w9), .val (.int (0 : Int32))] [(.int (0 : Int32))])) _
      refine XS.aloadN X98.here hx rfl (hb hby at_177) rfl rfl ?_
      show Steps p.tables e below (T98.setTop (mkF m 178 #[.val (.int i0), .val (.ref b1), .val (.ref b54), .val (.int (12 : Int32)), .val (.ref w9), .val (.int (0 : Int32))] [(.ref b54), (.int (0 : Int32))])) _
      refine XS.iloadN X98.here hx rfl (hb hby at_178) rfl ?_
      show Steps p.tables e below (T98.setTop (mkF m 179 #[.val (.int i0), .val (.ref b1), .val (.ref b54), .val (.int (12 : Int32)), .val (.ref w9), .val (.int (0 : Int32))] [(.int (12 : Int32)), (.ref b54), (.int (0 : Int32))])) _
      refine X98.baloadBooleans hx (j := (12 : Int32)) (v := (.int (0 : Int32))) (by rw [e98']; exact Ar_99.1) (State.isArrayOf_alike hZ.alike Ar_99.2.1) Ar_99.2.2 hin100 (Hs_99.at hin100 rfl) (g := (mkF m 179 #[.val (.int i0), .val (.ref b1), .val (.ref b54), .val (.int (12 : Int32)), .val (.ref w9), .val (.int (0 : Int32))] [(.int (12 : Int32)), (.ref b54), (.int (0 : Int32))])) rfl rfl (hb hby at_179) _ ?_
      show Steps p.tables e below (T98.setTop (mkF m 180 #[.val (.int i0), .val (.ref b1), .val (.ref b54), .val (.int (12 : Int32)), .val (.ref w9), .val (.int (0 : Int32))] [(.int (0 : Int32)), (.int (0 : Int32))])) _
      refine XS.icmpNo X98.here hx rfl (hb hby at_180) rfl (teq (by decide : (0 : Int32) = (0 : Int32))).2 ?_
      show Steps p.tables e below (T98.setTop (mkF m 183 #[.val (.int i0), .val (.ref b1), .val (.ref b54), .val (.int (12 : Int32)), .val (.ref w9), .val (.int (0 : Int32))] [])) _
      refine XS.iload X98.here hx rfl (hb hby at_183) rfl ?_
      show Steps p.tables e below (T98.setTop (mkF m 185 #[.val (.int i0), .val (.ref b1), .val (.ref b54), .val (.int (12 : Int32)), .val (.ref w9), .val (.int (0 : Int32))] [(.int (0 : Int32))])) _
      refine XS.ifYes X98.here hx rfl (pc0 := 185) (pc' := 196) rfl (hb hby at_185) rfl ((if0 _ _).trans (teq (by decide : (0 : Int32) = (0 : Int32))).1) (by decide) (by decide) ?_
      show Steps p.tables e below (T98.setTop (mkF m 196 #[.val (.int i0), .val (.ref b1), .val (.ref b54), .val (.int (12 : Int32)), .val (.ref w9), .val (.int (0 : Int32))] [])) _
      refine XS.iconst X98.here hx rfl (hb hby at_196) ?_
      show Steps p.tables e below (T98.setTop (mkF m 197 #[.val (.int i0), .val (.ref b1), .val (.ref b54), .val (.int (12 : Int32)), .val (.ref w9), .val (.int (0 : Int32))] [(.int (1 : Int32))])) _
      refine XS.goto X98.here hx rfl (pc0 := 197) (pc' := 201) rfl (hb hby at_197) (by decide) (by decide) ?_
      show Steps p.tables e below (T98.setTop (mkF m 201 #[.val (.int i0), .val (.ref b1), .val (.ref b54), .val (.int (12 : Int32)), .val (.ref w9), .val (.int (0 : Int32))] [(.int (1 : Int32))])) _
      exact retN X98 hx (t := .boolean) Bd.returns (by simp) (hb hby at_201) hr
    · show QL n0 _ T98.heap _
      exact ⟨rfl, N98⟩
set_option maxRecDepth 65536 in
set_option maxHeartbeats 40000000 in
theorem comes_1 {Post : Tables → Env → Array Value → State → Outcome → State → Prop} (hpost : ∀ tb e args s v u, (limb_1_1.after args s (.returned v) u = true ∧ limb_1_2.after args s (.returned v) u = true ∧ True) → FrameEnd s (.returned v) u (Jvm.fieldLocs frame_1_writes args s ++ Jvm.arrayLocs frame_1_arrays args s ++ Jvm.staticLocs frame_1_statics s) 16 128 → Post tb e args s (.returned v) u) :
    ArmFor flags0 classFile x code maxLocals ret World_1 tables_1 room_1 Calls_1 rest_1 Pre_1 Post := by
  intro l hfl _ _ p e ha hc hk s m args below hf hA hF happ hP
  obtain ⟨hcalls, hrest, hpre⟩ := hP
  obtain ⟨-, -, -, hnamed, -, -, -, hat⟩ := (Spec.applies_iff hf).mp happ
  obtain ⟨hg, hn⟩ := and_e (Cond.before_iff.mp (show (Jvm.Cond.and given_1 narrow_1).before args s = true from hpre))
  obtain ⟨g1a, g1b⟩ := and_e hg
  obtain ⟨n2a, n2b⟩ := and_e hn
  obtain ⟨n3a, n3b⟩ := and_e n2b
  obtain ⟨n4a, n4b⟩ := and_e n3b
  obtain ⟨n5a, n5b⟩ := and_e n4b
  obtain ⟨n6a, n6b⟩ := and_e n5b
  obtain ⟨n7a, n7b⟩ := and_e n6b
  obtain ⟨n8a, n8b⟩ := and_e n7b
  obtain ⟨n9a, n9b⟩ := and_e n8b
  obtain ⟨n10a, n10b⟩ := and_e n9b
  obtain ⟨n11a, n11b⟩ := and_e n10b
  obtain ⟨n12a, n12b⟩ := and_e n11b
  obtain ⟨n13a, n13b⟩ := and_e n12b
  obtain ⟨n14a, n14b⟩ := and_e n13b
  obtain ⟨n15a, n15b⟩ := and_e n14b
  obtain ⟨n16a, n16b⟩ := and_e n15b
  obtain ⟨n17a, n17b⟩ := and_e n16b
  obtain ⟨n18a, n18b⟩ := and_e n17b
  obtain ⟨n19a, n19b⟩ := and_e n18b
  obtain ⟨n20a, n20b⟩ := and_e n19b
  obtain ⟨n21a, n21b⟩ := and_e n20b
  obtain ⟨n22a, n22b⟩ := and_e n21b
  obtain ⟨n23a, n23b⟩ := and_e n22b
  obtain ⟨n24a, n24b⟩ := and_e n23b
  obtain ⟨n25a, n25b⟩ := and_e n24b
  obtain ⟨n26a, n26b⟩ := and_e n25b
  obtain ⟨v0, rfl⟩ : ∃ v0 : Value, args = #[v0] := by
    have hs : args.size = 1 := by simpa [Cond.value, given_1] using g1a
    obtain ⟨L⟩ := args
    match L, hs with
    | [v0], _ => exact ⟨v0, rfl⟩
  have hw := fun d (hd : d ∈ tables_1) => atoms_spec (ws := Jvm.Cond.code x code maxLocals ret :: tables_1) hat d (List.mem_cons_of_mem _ hd)
  have hfit : Fit s := fun {y c} hc i hi => by
    obtain ⟨ha, rfl⟩ := Array.getElem?_eq_some_iff.mp hc
    have q := List.all_eq_true.mp ((Array.all_eq_true_iff_forall_mem.mp hF) _ (Array.getElem_mem ha)) i (List.mem_range.mpr hi)
    simpa [Array.getElem?_eq_getElem hi] using q
  obtain ⟨i0, ei0⟩ := is_v g1b
  obtain rfl : v0 = (.int i0) := Option.some.inj ei0
  obtain ⟨w0, evw0⟩ := exa_v n11a
  obtain ⟨w1, evw1⟩ := exa_v n5a
  obtain ⟨w2, evw2⟩ := exa_v n9a
  obtain ⟨w3, evw3⟩ := exa_v n10a
  obtain ⟨w4, evw4⟩ := exa_v n4a
  obtain ⟨w5, evw5⟩ := exa_v n7a
  obtain ⟨w6, evw6⟩ := exa_v n2a
  obtain ⟨w7, evw7⟩ := exa_v n6a
  obtain ⟨w8, evw8⟩ := exa_v n12a
  obtain ⟨w9, evw9⟩ := exa_v n14a
  obtain ⟨w10, evw10⟩ := exa_v n3a
  obtain ⟨w11, evw11⟩ := exa_v n8a
  obtain ⟨w12, evw12⟩ := exa_v n13a
  have hS : SF s w0 w1 w2 w3 w4 w5 w6 w7 w8 w9 w10 w11 w12 := ⟨Sta.start evw0 (Or.inr ⟨(hw _ m3), (hw _ m23)⟩), Exa.start evw0 n11a, own_fld evw0 n25a, Sta.start evw1 (Or.inr ⟨(hw _ m3), (hw _ m11)⟩), Exa.start evw1 n5a, own_fld evw1 n19a, Sta.start evw2 (Or.inr ⟨(hw _ m3), (hw _ m19)⟩), Exa.start evw2 n9a, own_fld evw2 n20a, Sta.start evw3 (Or.inr ⟨(hw _ m3), (hw _ m21)⟩), Exa.start evw3 n10a, own_fld evw3 n26a, Sta.start evw4 (Or.inr ⟨(hw _ m3), (hw _ m9)⟩), Exa.start evw4 n4a, own_fld evw4 n17a, Sta.start evw5 (Or.inr ⟨(hw _ m3), (hw _ m15)⟩), Exa.start evw5 n7a, own_fld evw5 n24a, Sta.start evw6 (Or.inr ⟨(hw _ m3), (hw _ m4)⟩), Exa.start evw6 n2a, own_fld evw6 n15a, Sta.start evw7 (Or.inr ⟨(hw _ m3), (hw _ m13)⟩), Exa.start evw7 n6a, own_fld evw7 n23a, Sta.start evw8 (Or.inr ⟨(hw _ m3), (hw _ m25)⟩), Exa.start evw8 n12a, own_fld evw8 n26b, Sta.start evw9 (Or.inr ⟨(hw _ m3), (hw _ m29)⟩), Exa.start evw9 n14a, own_fld evw9 n18a, Sta.start evw10 (Or.inr ⟨(hw _ m3), (hw _ m7)⟩), Exa.start evw10 n3a, own_fld evw10 n16a, Sta.start evw11 (Or.inr ⟨(hw _ m3), (hw _ m17)⟩), Exa.start evw11 n8a, own_fld evw11 n22a, Sta.start evw12 (Or.inr ⟨(hw _ m3), (hw _ m27)⟩), Exa.start evw12 n13a, own_fld evw12 n21a⟩
  obtain ⟨n, o, h1, h2, h3, _, L, rfl, ⟨rfl, N⟩, hq⟩ := rm0 l s _ hw w0 w1 w2 w3 w4 w5 w6 w7 w8 w9 w10 w11 w12 hS tables_1 i0 s.heap s.heap.size (Old.start s) p e ha hc hk s m _ below hf ((Spec.applies_iff_loose hf).mp happ).1 ⟨rfl, State.Warmed39.refl s, rfl⟩ trivial
  refine ⟨n, _, h1, h2, h3, hpost _ _ _ _ _ _ ⟨Cond.after_iff.mpr rfl, Cond.after_iff.mpr (eq_i res_at (Term.int_eval (1)) rfl), trivial⟩ ⟨hq.1, hq.2.1, (hq.2.2.sift fun y hy => Or.inr (N y hy)).mono (by decide) (by decide)⟩⟩
theorem main_1_1 : Claimed_1_1 := comes_1 fun _ _ _ _ _ _ h hF => ⟨h.1, hF⟩
theorem main_1_2 : Claimed_1_2 := comes_1 fun _ _ _ _ _ _ h hF => ⟨h.2.1, hF⟩
end Jvm.Pilot.@@N@@
namespace Jvm.Pilot.@@N@@
open Jvm Jvm.ClassFile Sem Op Lib Jvm.Free Jvm.Stand Jvm.Pilot.@@N@@.Jvm.D
/-! MADE BY PROGRAM (witnessworld.py) out of the Statement's table words and the real class files: 15 classes; the members and pool entries that the words name. The judged class is class 1, her method 1. -/
namespace start1
open Jvm.ClassFile
def u (s : String) : CpInfo := .utf8 (stringToUtf16 s)
/-- a pool by its gaps: so many unusable entries, then the entry; so many at the end -/
def gap : Nat → List CpInfo → List CpInfo
  | 0, r => r
  | n + 1, r => .unusable :: gap n r
def poolList (es : List (Nat × CpInfo)) (last : Nat) : List CpInfo := es.foldr (fun e r => gap e.1 (e.2 :: r)) (gap last [])
def pool (es : List (Nat × CpInfo)) (last : Nat) : Array CpInfo := ⟨poolList es last⟩
def fileOf (pool : Array CpInfo) (this : Nat) (attrs : Array Attribute := #[]) (ms : Array MethodInfo := #[]) (fl : Nat := 33) (sup : Nat := 0) (ifs : Array Nat := #[]) (fds : Array FieldInfo := #[]) : ClassFile where
  minorVersion := 0
  majorVersion := 65
  constantPool := pool
  accessFlags := fl
  thisClass := this
  superClass := sup
  interfaces := ifs
  fields := fds
  methods := ms
  attributes := attrs
def plain (name : String) (sup : Option ClassId) : Class where
  name := name
  kind := .ordinary
  loader := none
  accessFlags := 33
  super := sup
  interfaces := #[]
  cf := none
  fields := #[]
  methods := #[]
  instanceTypes := #[]
  staticTypes := #[]
  resolved := #[]
  callSites := []
  init := .initialized
  statics := none
  mirror := none

def pool0 : Array CpInfo := pool [(5, u "<init>"), (0, u "()V"), (1, .class_ 10), (1, u "java/lang/Object")] 113

def k0m0 : Method := { name := "<init>", desc := "()V", sig := { parameters := [], returnType := none }, accessFlags := 1, code := none }
/-- java/lang/Object -/
def k0 : Class := { plain "java/lang/Object" none with
  accessFlags := 33
  interfaces := #[]
  cf := some (fileOf pool0 8 #[] #[{ accessFlags := 1, nameIndex := 5, descriptorIndex := 6, attributes := #[] }] 33 0 #[] #[])
  fields := #[]
  methods := #[k0m0]
  instanceTypes := #[]
  staticTypes := #[]
  resolved := Array.replicate 124 none
  statics := none }

def pool1 : Array CpInfo := pool [(2, .class_ 4), (1, u "java/lang/Object"), (0, u "<init>"), (0, u "()V"), (0, .class_ 8), (0, u "com/example/roam_mutex/roammutex/engine/MessageType"), (0, .fieldref 7 10), (0, .nameAndType 11 12), (0, u "REQUEST"), (0, u "Lcom/example/roam_mutex/roammutex/engine/MessageType;"), (0, .fieldref 7 14), (0, .nameAndType 15 12), (0, u "TOKEN"), (0, .fieldref 7 17), (0, .nameAndType 18 12), (0, u "RELEASE"), (0, .fieldref 7 20), (0, .nameAndType 21 12), (0, u "HEIGHT"), (0, .fieldref 7 23), (0, .nameAndType 24 12), (0, u "SEARCH"), (0, .fieldref 7 26), (0, .nameAndType 27 12), (0, u "REPLY"), (0, .fieldref 7 29), (0, .nameAndType 30 12), (0, u "VERDICT"), (0, .fieldref 7 32), (0, .nameAndType 33 12), (0, u "PRIORITY"), (0, .fieldref 7 35), (0, .nameAndType 36 12), (0, u "RECEIVED"), (0, .fieldref 7 38), (0, .nameAndType 39 12), (0, u "DOUBT"), (0, .fieldref 7 41), (0, .nameAndType 42 12), (0, u "SETTLED"), (0, .fieldref 7 44), (0, .nameAndType 45 12), (0, u "WITHDRAW"), (0, .fieldref 7 47), (0, .nameAndType 48 12), (0, u "SUBTOKEN"), (0, .integer 2147483647), (0, .methodref 7 51), (0, .nameAndType 52 53), (0, u "boundToItsLink"), (0, u "()Z"), (0, .methodref 7 55), (0, .nameAndType 56 53), (0, u "carriesUnitsOrWeight"), (0, .class_ 58), (0, u "com/example/roam_mutex/roammutex/engine/MessageTypeBoundToItsLinkPinLaw"), (2, u "law"), (0, u "(I)Z")] 7

def k1m0 : Method := { name := "<init>", desc := "()V", sig := { parameters := [], returnType := none }, accessFlags := 1, code := none }
def k1c1 : Code := { maxStack := 4, maxLocals := 6, code := code, exceptionTable := #[], attributes := #[] }
def k1m1 : Method := { name := "law", desc := "(I)Z", sig := { parameters := [.int], returnType := some .boolean }, accessFlags := 9, code := some k1c1 }
/-- com/example/roam_mutex/roammutex/engine/MessageTypeBoundToItsLinkPinLaw -/
def k1 : Class := { plain "com/example/roam_mutex/roammutex/engine/MessageTypeBoundToItsLinkPinLaw" (some 0) with
  accessFlags := 49
  interfaces := #[]
  cf := some (fileOf pool1 57 #[] #[{ accessFlags := 1, nameIndex := 5, descriptorIndex := 6, attributes := #[] }, { accessFlags := 9, nameIndex := 61, descriptorIndex := 62, attributes := #[] }] 49 2 #[] #[])
  fields := #[]
  methods := #[k1m0, k1m1]
  instanceTypes := #[]
  staticTypes := #[]
  resolved := Array.replicate 70 none
  statics := none }

def pool2 : Array CpInfo := pool [(1, .class_ 2), (0, u "java/lang/constant/Constable"), (0, .class_ 4), (0, u "java/lang/Object")] 6

/-- java/lang/constant/Constable -/
def k2 : Class := { plain "java/lang/constant/Constable" (some 0) with
  accessFlags := 1537
  interfaces := #[]
  cf := some (fileOf pool2 1 #[] #[] 1537 3 #[] #[])
  fields := #[]
  methods := #[]
  instanceTypes := #[]
  staticTypes := #[]
  resolved := Array.replicate 11 none
  statics := none }

def pool3 : Array CpInfo := pool [(1, .class_ 2), (0, u "java/lang/Comparable"), (0, .class_ 4), (0, u "java/lang/Object")] 7

/-- java/lang/Comparable -/
def k3 : Class := { plain "java/lang/Comparable" (some 0) with
  accessFlags := 1537
  interfaces := #[]
  cf := some (fileOf pool3 1 #[] #[] 1537 3 #[] #[])
  fields := #[]
  methods := #[]
  instanceTypes := #[]
  staticTypes := #[]
  resolved := Array.replicate 12 none
  statics := none }

def pool4 : Array CpInfo := pool [(1, .class_ 2), (0, u "java/io/Serializable"), (0, .class_ 4), (0, u "java/lang/Object")] 2

/-- java/io/Serializable -/
def k4 : Class := { plain "java/io/Serializable" (some 0) with
  accessFlags := 1537
  interfaces := #[]
  cf := some (fileOf pool4 1 #[] #[] 1537 3 #[] #[])
  fields := #[]
  methods := #[]
  instanceTypes := #[]
  staticTypes := #[]
  resolved := Array.replicate 7 none
  statics := none }

def pool5 : Array CpInfo := pool [(2, .class_ 4), (1, u "java/lang/Enum"), (0, u "name"), (0, u "Ljava/lang/String;"), (2, u "ordinal"), (0, u "I"), (1, .class_ 14), (1, u "java/lang/Object"), (4, u "hash"), (86, .class_ 108), (1, u "java/lang/Enum$EnumDesc"), (2, .class_ 112), (0, u "java/lang/constant/Constable"), (0, .class_ 114), (0, u "java/lang/Comparable"), (0, .class_ 116), (0, u "java/io/Serializable")] 87

/-- java/lang/Enum -/
def k5 : Class := { plain "java/lang/Enum" (some 0) with
  accessFlags := 1057
  interfaces := #[2, 3, 4]
  cf := some (fileOf pool5 2 #[.nestMembers #[106]] #[] 1057 12 #[111, 113, 115] #[{ accessFlags := 18, nameIndex := 5, descriptorIndex := 6, attributes := #[] }, { accessFlags := 18, nameIndex := 9, descriptorIndex := 10, attributes := #[] }, { accessFlags := 2, nameIndex := 19, descriptorIndex := 10, attributes := #[] }])
  fields := #[{ name := "name", type := (.object "java/lang/String"), accessFlags := 18, slot := 0, constantValue := 0 }, { name := "ordinal", type := .int, accessFlags := 18, slot := 1, constantValue := 0 }, { name := "hash", type := .int, accessFlags := 2, slot := 2, constantValue := 0 }]
  methods := #[]
  instanceTypes := #[(.object "java/lang/String"), .int, .int]
  staticTypes := #[]
  resolved := Array.replicate 204 none
  statics := none }

def pool6 : Array CpInfo := pool [(1, .class_ 2), (0, u "com/example/roam_mutex/roammutex/engine/MessageType"), (0, .fieldref 1 4), (0, .nameAndType 5 6), (0, u "REQUEST"), (0, u "Lcom/example/roam_mutex/roammutex/engine/MessageType;"), (0, .fieldref 1 8), (0, .nameAndType 9 6), (0, u "TOKEN"), (0, .fieldref 1 11), (0, .nameAndType 12 6), (0, u "RELEASE"), (0, .fieldref 1 14), (0, .nameAndType 15 6), (0, u "HEIGHT"), (0, .fieldref 1 17), (0, .nameAndType 18 6), (0, u "SEARCH"), (0, .fieldref 1 20), (0, .nameAndType 21 6), (0, u "REPLY"), (0, .fieldref 1 23), (0, .nameAndType 24 6), (0, u "VERDICT"), (0, .fieldref 1 26), (0, .nameAndType 27 6), (0, u "PRIORITY"), (2, u "RECEIVED"), (2, u "DOUBT"), (2, u "SETTLED"), (0, .fieldref 1 38), (0, .nameAndType 39 6), (0, u "WITHDRAW"), (0, .fieldref 1 41), (0, .nameAndType 42 6), (0, u "SUBTOKEN"), (2, u "$VALUES"), (0, u "[Lcom/example/roam_mutex/roammutex/engine/MessageType;"), (6, .class_ 55), (1, u "java/lang/Enum"), (31, u "carriesUnitsOrWeight"), (0, u "()Z"), (1, u "boundToItsLink")] 4

def k6c0 : Code := { maxStack := 2, maxLocals := 1, code := prog_7_method_4_code, exceptionTable := #[], attributes := #[] }
def k6m0 : Method := { name := "carriesUnitsOrWeight", desc := "()Z", sig := { parameters := [], returnType := some .boolean }, accessFlags := 1, code := some k6c0 }
def k6c1 : Code := { maxStack := 2, maxLocals := 1, code := prog_7_method_5_code, exceptionTable := #[], attributes := #[] }
def k6m1 : Method := { name := "boundToItsLink", desc := "()Z", sig := { parameters := [], returnType := some .boolean }, accessFlags := 0, code := some k6c1 }
/-- com/example/roam_mutex/roammutex/engine/MessageType -/
def k6 : Class := { plain "com/example/roam_mutex/roammutex/engine/MessageType" (some 5) with
  accessFlags := 16433
  interfaces := #[]
  cf := some (fileOf pool6 1 #[] #[{ accessFlags := 1, nameIndex := 87, descriptorIndex := 88, attributes := #[] }, { accessFlags := 0, nameIndex := 90, descriptorIndex := 88, attributes := #[] }] 16433 53 #[] #[{ accessFlags := 16409, nameIndex := 5, descriptorIndex := 6, attributes := #[] }, { accessFlags := 16409, nameIndex := 9, descriptorIndex := 6, attributes := #[] }, { accessFlags := 16409, nameIndex := 12, descriptorIndex := 6, attributes := #[] }, { accessFlags := 16409, nameIndex := 15, descriptorIndex := 6, attributes := #[] }, { accessFlags := 16409, nameIndex := 18, descriptorIndex := 6, attributes := #[] }, { accessFlags := 16409, nameIndex := 21, descriptorIndex := 6, attributes := #[] }, { accessFlags := 16409, nameIndex := 24, descriptorIndex := 6, attributes := #[] }, { accessFlags := 16409, nameIndex := 27, descriptorIndex := 6, attributes := #[] }, { accessFlags := 16409, nameIndex := 30, descriptorIndex := 6, attributes := #[] }, { accessFlags := 16409, nameIndex := 33, descriptorIndex := 6, attributes := #[] }, { accessFlags := 16409, nameIndex := 36, descriptorIndex := 6, attributes := #[] }, { accessFlags := 16409, nameIndex := 39, descriptorIndex := 6, attributes := #[] }, { accessFlags := 16409, nameIndex := 42, descriptorIndex := 6, attributes := #[] }, { accessFlags := 4122, nameIndex := 45, descriptorIndex := 46, attributes := #[] }])
  fields := #[{ name := "REQUEST", type := (.object "com/example/roam_mutex/roammutex/engine/MessageType"), accessFlags := 16409, slot := 0, constantValue := 0 }, { name := "TOKEN", type := (.object "com/example/roam_mutex/roammutex/engine/MessageType"), accessFlags := 16409, slot := 1, constantValue := 0 }, { name := "RELEASE", type := (.object "com/example/roam_mutex/roammutex/engine/MessageType"), accessFlags := 16409, slot := 2, constantValue := 0 }, { name := "HEIGHT", type := (.object "com/example/roam_mutex/roammutex/engine/MessageType"), accessFlags := 16409, slot := 3, constantValue := 0 }, { name := "SEARCH", type := (.object "com/example/roam_mutex/roammutex/engine/MessageType"), accessFlags := 16409, slot := 4, constantValue := 0 }, { name := "REPLY", type := (.object "com/example/roam_mutex/roammutex/engine/MessageType"), accessFlags := 16409, slot := 5, constantValue := 0 }, { name := "VERDICT", type := (.object "com/example/roam_mutex/roammutex/engine/MessageType"), accessFlags := 16409, slot := 6, constantValue := 0 }, { name := "PRIORITY", type := (.object "com/example/roam_mutex/roammutex/engine/MessageType"), accessFlags := 16409, slot := 7, constantValue := 0 }, { name := "RECEIVED", type := (.object "com/example/roam_mutex/roammutex/engine/MessageType"), accessFlags := 16409, slot := 8, constantValue := 0 }, { name := "DOUBT", type := (.object "com/example/roam_mutex/roammutex/engine/MessageType"), accessFlags := 16409, slot := 9, constantValue := 0 }, { name := "SETTLED", type := (.object "com/example/roam_mutex/roammutex/engine/MessageType"), accessFlags := 16409, slot := 10, constantValue := 0 }, { name := "WITHDRAW", type := (.object "com/example/roam_mutex/roammutex/engine/MessageType"), accessFlags := 16409, slot := 11, constantValue := 0 }, { name := "SUBTOKEN", type := (.object "com/example/roam_mutex/roammutex/engine/MessageType"), accessFlags := 16409, slot := 12, constantValue := 0 }, { name := "$VALUES", type := (.array (.object "com/example/roam_mutex/roammutex/engine/MessageType")), accessFlags := 4122, slot := 13, constantValue := 0 }]
  methods := #[k6m0, k6m1]
  instanceTypes := #[(.object "java/lang/String"), .int, .int]
  staticTypes := #[(.object "com/example/roam_mutex/roammutex/engine/MessageType"), (.object "com/example/roam_mutex/roammutex/engine/MessageType"), (.object "com/example/roam_mutex/roammutex/engine/MessageType"), (.object "com/example/roam_mutex/roammutex/engine/MessageType"), (.object "com/example/roam_mutex/roammutex/engine/MessageType"), (.object "com/example/roam_mutex/roammutex/engine/MessageType"), (.object "com/example/roam_mutex/roammutex/engine/MessageType"), (.object "com/example/roam_mutex/roammutex/engine/MessageType"), (.object "com/example/roam_mutex/roammutex/engine/MessageType"), (.object "com/example/roam_mutex/roammutex/engine/MessageType"), (.object "com/example/roam_mutex/roammutex/engine/MessageType"), (.object "com/example/roam_mutex/roammutex/engine/MessageType"), (.object "com/example/roam_mutex/roammutex/engine/MessageType"), (.array (.object "com/example/roam_mutex/roammutex/engine/MessageType"))]
  resolved := Array.replicate 95 none
  statics := some 0 }

def pool7 : Array CpInfo := pool [(1, u "java/lang/Cloneable"), (0, .class_ 1), (0, u "java/lang/Object"), (0, .class_ 3)] 3

/-- java/lang/Cloneable -/
def k7 : Class := { plain "java/lang/Cloneable" (some 0) with
  accessFlags := 1537
  interfaces := #[]
  cf := some (fileOf pool7 2 #[] #[] 1537 4 #[] #[])
  fields := #[]
  methods := #[]
  instanceTypes := #[]
  staticTypes := #[]
  resolved := Array.replicate 8 none
  statics := none }

/-- the primitive boolean -/
def k8 : Class := { plain "boolean" none with kind := .primitive 'Z', accessFlags := 0x411 }
/-- [Z -/
def k9 : Class := { plain "[Z" (some 0) with kind := .array 8 .boolean, interfaces := #[7, 4], accessFlags := 1041 }

/-- the primitive byte -/
def k10 : Class := { plain "byte" none with kind := .primitive 'B', accessFlags := 0x411 }
/-- [B -/
def k11 : Class := { plain "[B" (some 0) with kind := .array 10 .byte, interfaces := #[7, 4], accessFlags := 1041 }

/-- the primitive int -/
def k12 : Class := { plain "int" none with kind := .primitive 'I', accessFlags := 0x411 }
/-- [I -/
def k13 : Class := { plain "[I" (some 0) with kind := .array 12 .int, interfaces := #[7, 4], accessFlags := 1041 }

/-- [Lcom/example/roam_mutex/roammutex/engine/MessageType; -/
def k14 : Class := { plain "[Lcom/example/roam_mutex/roammutex/engine/MessageType;" (some 0) with kind := .array 6 (.object "com/example/roam_mutex/roammutex/engine/MessageType"), interfaces := #[7, 4], accessFlags := 1041 }

def heap : Heap := #[{ cls := 6, slots := #[.ref 7, .ref 11, .ref 5, .ref 2, .ref 8, .ref 6, .ref 12, .ref 3, .ref 4, .ref 1, .ref 9, .ref 13, .ref 10, .null], vm := .statics 6 },
  { cls := 6, slots := #[.null, .int 9, .int 0], vm := .none },
  { cls := 6, slots := #[.null, .int 3, .int 0], vm := .none },
  { cls := 6, slots := #[.null, .int 7, .int 0], vm := .none },
  { cls := 6, slots := #[.null, .int 8, .int 0], vm := .none },
  { cls := 6, slots := #[.null, .int 2, .int 0], vm := .none },
  { cls := 6, slots := #[.null, .int 5, .int 0], vm := .none },
  { cls := 6, slots := #[.null, .int 0, .int 0], vm := .none },
  { cls := 6, slots := #[.null, .int 4, .int 0], vm := .none },
  { cls := 6, slots := #[.null, .int 10, .int 0], vm := .none },
  { cls := 6, slots := #[.null, .int 12, .int 0], vm := .none },
  { cls := 6, slots := #[.null, .int 1, .int 0], vm := .none },
  { cls := 6, slots := #[.null, .int 6, .int 0], vm := .none },
  { cls := 6, slots := #[.null, .int 11, .int 0], vm := .none }]
def classes : Array Class := #[k0, k1, k2, k3, k4, k5, k6, k7, k8, k9, k10, k11, k12, k13, k14]
def interned : List (Array UInt16 × Addr) := []
def slotsUsed : Nat := 53
def theMethod : MethodId := ⟨1, 1⟩
def args0 : Array Value := #[.int 5]
def aboutOver (below : List Frame) : State where
  vm := { classes := classes, interned := interned.toArray }
  heap := heap
  slotsUsed := slotsUsed
  threads := #[{ frames := .invoking theMethod args0 :: below }]
def below0 : List Frame := [.native { method := ⟨0, 0⟩, args := #[] }]
def about1 : State := aboutOver below0
def p0 : Program := .bare "" "" ""
def e0 : Env := launch0.env 0 0 0
theorem w_frames : about1.frames = Frame.invoking theMethod args0 :: below0 := rfl
set_option maxRecDepth 65536 in
theorem w_args : argsFit about1.vm theMethod args0 = true := by decide +kernel
set_option maxRecDepth 65536 in
theorem w_heap : heapFits about1 = true := by decide +kernel
set_option maxRecDepth 65536 in
theorem w_runnable : about1.curStatus? = some .runnable := by decide +kernel
set_option maxRecDepth 65536 in
theorem w_alone : about1.alone = true := by decide +kernel
set_option maxRecDepth 65536 in
theorem w_named : about1.methodNamed? x = some theMethod := by decide +kernel
set_option maxRecDepth 65536 in
theorem w_hears : about1.hears theMethod below0 = true := by decide +kernel
set_option maxRecDepth 65536 in
theorem w_ripe : about1.ripe theMethod args0 below0 = true := by decide +kernel
theorem w_running : about1.status = .running := rfl
set_option maxRecDepth 65536 in
theorem w_room : about1.hasRoom e0.platform room_1 = true :=
  launch0.hasRoom_least _ room_1 (by decide +kernel) (by decide +kernel) (by decide +kernel) (by decide +kernel) (by decide +kernel) (by decide +kernel)
theorem allAtoms_all (ts : List Jvm.Cond) (a : Array Jvm.Value) (st : Jvm.State) : (allAtoms ts).before a st = ts.all (fun c => c.before a st) := by
  induction ts with
  | nil => rfl
  | cons c t ih =>
    show (Jvm.Cond.and c (allAtoms t)).before a st = _
    rw [Jvm.Cond.before_and, ih, List.all_cons]
def words1 : List Jvm.Cond := Jvm.Cond.code x code maxLocals ret :: tables_1
/-- a 'code' word, met by the world's own term for the bytes: nothing is compared byte by byte -/
theorem code_word {y : MethodName} {bytes : ByteArray} {mx : Nat} {rt : Option FieldType} {a : Array Value} {s : State} {m : MethodId} {meth : Method} {c : Code} (h1 : s.methodNamed? y = some m) (h2 : s.vm.method? m = some meth) (h3 : meth.code = some c) (h4 : c.code = bytes)
    (h5 : (c.maxLocals == mx && c.exceptionTable.isEmpty && decide (c.maxStack ≤ mostOperands) && decide (meth.sig.returnType = rt) && !meth.locks && decide (parseMethodDescriptor y.desc = some meth.sig)) = true) : (Jvm.Cond.code y bytes mx rt).before a s = true := by
  simp only [Bool.and_eq_true, beq_iff_eq, Bool.not_eq_true', decide_eq_true_eq] at h5
  obtain ⟨⟨⟨⟨⟨g1, g2⟩, g3⟩, g4⟩, g5⟩, g6⟩ := h5
  simp [Cond.before, Cond.holds, Cond.value, h1, h2, h3, h4, g1, g2, g3, g4, g5, g6]
def isCode : Jvm.Cond → Bool
  | .code _ _ _ _ => true
  | _ => false
theorem all_split {L : List Jvm.Cond} {P : Jvm.Cond → Bool} (h1 : L.all (fun c => isCode c || P c) = true) (h2 : ∀ c ∈ L.filter isCode, P c = true) : L.all P = true := by
  refine List.all_eq_true.mpr fun c hc => ?_
  have h := List.all_eq_true.mp h1 c hc
  rcases Bool.eq_false_or_eq_true (isCode c) with hi | hi
  · exact h2 c (List.mem_filter.mpr ⟨hc, hi⟩)
  · simpa [hi] using h
set_option maxRecDepth 65536 in
theorem w_c0 : (Jvm.Cond.code x code maxLocals ret).before args0 about1 = true := code_word (m := ⟨1, 1⟩) (meth := k1m1) (c := k1c1) (by decide +kernel) rfl rfl rfl (by decide +kernel)
set_option maxRecDepth 65536 in
theorem w_c1 : (Jvm.Cond.code ({ cls := "com/example/roam_mutex/roammutex/engine/MessageType", name := "boundToItsLink", desc := "()Z" } : Jvm.MethodName) prog_7_method_5_code (1 : Nat) (Option.some Jvm.ClassFile.FieldType.boolean)).before args0 about1 = true := code_word (m := ⟨6, 1⟩) (meth := k6m1) (c := k6c1) (by decide +kernel) rfl rfl rfl (by decide +kernel)
set_option maxRecDepth 65536 in
theorem w_c2 : (Jvm.Cond.code ({ cls := "com/example/roam_mutex/roammutex/engine/MessageType", name := "carriesUnitsOrWeight", desc := "()Z" } : Jvm.MethodName) prog_7_method_4_code (1 : Nat) (Option.some Jvm.ClassFile.FieldType.boolean)).before args0 about1 = true := code_word (m := ⟨6, 0⟩) (meth := k6m0) (c := k6c0) (by decide +kernel) rfl rfl rfl (by decide +kernel)
def codes1 : List Jvm.Cond := [Jvm.Cond.code x code maxLocals ret, Jvm.Cond.code ({ cls := "com/example/roam_mutex/roammutex/engine/MessageType", name := "boundToItsLink", desc := "()Z" } : Jvm.MethodName) prog_7_method_5_code (1 : Nat) (Option.some Jvm.ClassFile.FieldType.boolean), Jvm.Cond.code ({ cls := "com/example/roam_mutex/roammutex/engine/MessageType", name := "carriesUnitsOrWeight", desc := "()Z" } : Jvm.MethodName) prog_7_method_4_code (1 : Nat) (Option.some Jvm.ClassFile.FieldType.boolean)]
set_option maxRecDepth 65536 in
theorem codes_eq : words1.filter isCode = codes1 := rfl
theorem w_codes : ∀ c ∈ words1.filter isCode, c.before args0 about1 = true := by
  rw [codes_eq]
  intro c hc
  simp only [codes1, List.mem_cons, List.not_mem_nil, or_false] at hc
  rcases hc with rfl | rfl | rfl
  · exact w_c0
  · exact w_c1
  · exact w_c2
set_option maxRecDepth 65536 in
theorem w_t1 : (words1.take 24).all (fun c => isCode c || c.before args0 about1) = true := by decide +kernel
set_option maxRecDepth 65536 in
theorem w_t2 : ((words1.drop 24).take 24).all (fun c => isCode c || c.before args0 about1) = true := by decide +kernel
set_option maxRecDepth 65536 in
theorem w_t3 : ((words1.drop 24).drop 24).all (fun c => isCode c || c.before args0 about1) = true := by decide +kernel
theorem w_tables : (allAtoms (Jvm.Cond.code x code maxLocals ret :: tables_1)).before args0 about1 = true := by
  rw [allAtoms_all]
  show words1.all (fun c => c.before args0 about1) = true
  refine all_split ?_ w_codes
  rw [← List.take_append_drop 24 words1, List.all_append, w_t1, ← List.take_append_drop 24 (words1.drop 24), List.all_append, w_t2, w_t3]
  rfl
set_option maxRecDepth 65536 in
theorem w_case : (Jvm.Cond.and given_1 narrow_1).before args0 about1 = true := by decide +kernel
theorem w_applies : (headSpec (Jvm.Cond.code x code maxLocals ret :: tables_1) room_1).applies x e0.platform about1 = true :=
  (Spec.applies_iff w_frames).mpr ⟨w_running, w_runnable, w_alone, w_named, w_hears, w_ripe, w_room, w_tables⟩
theorem atStart : AtStart classFile x code maxLocals ret World_1 tables_1 room_1 Calls_1 rest_1 Pre_1 launch0 p0 e0 about1 theMethod args0 below0 :=
  ⟨lists_1, trivial, launch0.admits_env _ _ _, launch0.least_env, fairChoices_fair.cas, fairChoices_fair.clock, w_frames, w_args, w_heap, w_applies, trivial, trivial, w_case⟩
end start1
theorem witness_1 : WitnessClaimed_1 := ⟨start1.p0, start1.e0, start1.about1, start1.theMethod, start1.args0, start1.below0, start1.atStart⟩
end Jvm.Pilot.@@N@@
