import JvmDerived
import JvmDerived.Pilot.@@N@@Statement
import JvmDerived.Pilot.@@N@@Code
set_option linter.unusedVariables false
set_option linter.unusedSimpArgs false
namespace Jvm.Pilot.@@N@@
open Jvm Jvm.ClassFile Sem Op Lib Jvm.Free Jvm.Stand Jvm.LawKit Jvm.RoadKit Bundle Jvm.Pilot.@@N@@.Jvm.D
section OwnSteps
variable {tb : Tables} [Ours tb] {e : Env} {below : List Frame} {T target : State} {m : MethodId} {c : Code} {g : JFrame} {rest : List Value}
theorem Own.iadd (h : At T m c below) (hx : tb.exec = Jvm.exec) (hg : g.method = m) {x : Int32} {y : Int32} {z : Int32} (hd : decode c.code g.pc = .ok (.iadd, 1)) (hs : g.stack = .int y :: .int x :: rest) (hz : (x + y) = z)
    (hr : Steps tb e below (T.setTop { g with pc := g.pc + 1, stack := .int z :: rest }) target) : Steps tb e below (T.setTop g) target := XS.iadd h hx hg hd hs (by rw [show (x + y) = z from hz]; exact hr)
theorem Own.isub (h : At T m c below) (hx : tb.exec = Jvm.exec) (hg : g.method = m) {x : Int32} {y : Int32} {z : Int32} (hd : decode c.code g.pc = .ok (.isub, 1)) (hs : g.stack = .int y :: .int x :: rest) (hz : (x - y) = z)
    (hr : Steps tb e below (T.setTop { g with pc := g.pc + 1, stack := .int z :: rest }) target) : Steps tb e below (T.setTop g) target := XS.isub h hx hg hd hs (by rw [show (x - y) = z from hz]; exact hr)
theorem Own.imul (h : At T m c below) (hx : tb.exec = Jvm.exec) (hg : g.method = m) {x : Int32} {y : Int32} {z : Int32} (hd : decode c.code g.pc = .ok (.imul, 1)) (hs : g.stack = .int y :: .int x :: rest) (hz : (x * y) = z)
    (hr : Steps tb e below (T.setTop { g with pc := g.pc + 1, stack := .int z :: rest }) target) : Steps tb e below (T.setTop g) target := XS.imul h hx hg hd hs (by rw [show (x * y) = z from hz]; exact hr)
theorem Own.iand (h : At T m c below) (hx : tb.exec = Jvm.exec) (hg : g.method = m) {x : Int32} {y : Int32} {z : Int32} (hd : decode c.code g.pc = .ok (.iand, 1)) (hs : g.stack = .int y :: .int x :: rest) (hz : (x &&& y) = z)
    (hr : Steps tb e below (T.setTop { g with pc := g.pc + 1, stack := .int z :: rest }) target) : Steps tb e below (T.setTop g) target := XS.iand h hx hg hd hs (by rw [show (x &&& y) = z from hz]; exact hr)
theorem Own.ior (h : At T m c below) (hx : tb.exec = Jvm.exec) (hg : g.method = m) {x : Int32} {y : Int32} {z : Int32} (hd : decode c.code g.pc = .ok (.ior, 1)) (hs : g.stack = .int y :: .int x :: rest) (hz : (x ||| y) = z)
    (hr : Steps tb e below (T.setTop { g with pc := g.pc + 1, stack := .int z :: rest }) target) : Steps tb e below (T.setTop g) target := XS.ior h hx hg hd hs (by rw [show (x ||| y) = z from hz]; exact hr)
theorem Own.ixor (h : At T m c below) (hx : tb.exec = Jvm.exec) (hg : g.method = m) {x : Int32} {y : Int32} {z : Int32} (hd : decode c.code g.pc = .ok (.ixor, 1)) (hs : g.stack = .int y :: .int x :: rest) (hz : (x ^^^ y) = z)
    (hr : Steps tb e below (T.setTop { g with pc := g.pc + 1, stack := .int z :: rest }) target) : Steps tb e below (T.setTop g) target := XS.ixor h hx hg hd hs (by rw [show (x ^^^ y) = z from hz]; exact hr)
theorem Own.ishl (h : At T m c below) (hx : tb.exec = Jvm.exec) (hg : g.method = m) {x : Int32} {y : Int32} {z : Int32} (hd : decode c.code g.pc = .ok (.ishl, 1)) (hs : g.stack = .int y :: .int x :: rest) (hz : (x <<< (y &&& 31)) = z)
    (hr : Steps tb e below (T.setTop { g with pc := g.pc + 1, stack := .int z :: rest }) target) : Steps tb e below (T.setTop g) target := XS.ishl h hx hg hd hs (by rw [show (x <<< (y &&& 31)) = z from hz]; exact hr)
theorem Own.ishr (h : At T m c below) (hx : tb.exec = Jvm.exec) (hg : g.method = m) {x : Int32} {y : Int32} {z : Int32} (hd : decode c.code g.pc = .ok (.ishr, 1)) (hs : g.stack = .int y :: .int x :: rest) (hz : (x >>> (y &&& 31)) = z)
    (hr : Steps tb e below (T.setTop { g with pc := g.pc + 1, stack := .int z :: rest }) target) : Steps tb e below (T.setTop g) target := XS.ishr h hx hg hd hs (by rw [show (x >>> (y &&& 31)) = z from hz]; exact hr)
theorem Own.iushr (h : At T m c below) (hx : tb.exec = Jvm.exec) (hg : g.method = m) {x : Int32} {y : Int32} {z : Int32} (hd : decode c.code g.pc = .ok (.iushr, 1)) (hs : g.stack = .int y :: .int x :: rest) (hz : ((x.toUInt32 >>> (y &&& 31).toUInt32).toInt32) = z)
    (hr : Steps tb e below (T.setTop { g with pc := g.pc + 1, stack := .int z :: rest }) target) : Steps tb e below (T.setTop g) target := XS.iushr h hx hg hd hs (by rw [show ((x.toUInt32 >>> (y &&& 31).toUInt32).toInt32) = z from hz]; exact hr)
theorem Own.ladd (h : At T m c below) (hx : tb.exec = Jvm.exec) (hg : g.method = m) {x : Int64} {y : Int64} {z : Int64} (hd : decode c.code g.pc = .ok (.ladd, 1)) (hs : g.stack = .long y :: .long x :: rest) (hz : (x + y) = z)
    (hr : Steps tb e below (T.setTop { g with pc := g.pc + 1, stack := .long z :: rest }) target) : Steps tb e below (T.setTop g) target := XS.ladd h hx hg hd hs (by rw [show (x + y) = z from hz]; exact hr)
theorem Own.lsub (h : At T m c below) (hx : tb.exec = Jvm.exec) (hg : g.method = m) {x : Int64} {y : Int64} {z : Int64} (hd : decode c.code g.pc = .ok (.lsub, 1)) (hs : g.stack = .long y :: .long x :: rest) (hz : (x - y) = z)
    (hr : Steps tb e below (T.setTop { g with pc := g.pc + 1, stack := .long z :: rest }) target) : Steps tb e below (T.setTop g) target := XS.lsub h hx hg hd hs (by rw [show (x - y) = z from hz]; exact hr)
theorem Own.lmul (h : At T m c below) (hx : tb.exec = Jvm.exec) (hg : g.method = m) {x : Int64} {y : Int64} {z : Int64} (hd : decode c.code g.pc = .ok (.lmul, 1)) (hs : g.stack = .long y :: .long x :: rest) (hz : (x * y) = z)
    (hr : Steps tb e below (T.setTop { g with pc := g.pc + 1, stack := .long z :: rest }) target) : Steps tb e below (T.setTop g) target := XS.lmul h hx hg hd hs (by rw [show (x * y) = z from hz]; exact hr)
theorem Own.land (h : At T m c below) (hx : tb.exec = Jvm.exec) (hg : g.method = m) {x : Int64} {y : Int64} {z : Int64} (hd : decode c.code g.pc = .ok (.land, 1)) (hs : g.stack = .long y :: .long x :: rest) (hz : (x &&& y) = z)
    (hr : Steps tb e below (T.setTop { g with pc := g.pc + 1, stack := .long z :: rest }) target) : Steps tb e below (T.setTop g) target := XS.land h hx hg hd hs (by rw [show (x &&& y) = z from hz]; exact hr)
theorem Own.lor (h : At T m c below) (hx : tb.exec = Jvm.exec) (hg : g.method = m) {x : Int64} {y : Int64} {z : Int64} (hd : decode c.code g.pc = .ok (.lor, 1)) (hs : g.stack = .long y :: .long x :: rest) (hz : (x ||| y) = z)
    (hr : Steps tb e below (T.setTop { g with pc := g.pc + 1, stack := .long z :: rest }) target) : Steps tb e below (T.setTop g) target := XS.lor h hx hg hd hs (by rw [show (x ||| y) = z from hz]; exact hr)
theorem Own.lxor (h : At T m c below) (hx : tb.exec = Jvm.exec) (hg : g.method = m) {x : Int64} {y : Int64} {z : Int64} (hd : decode c.code g.pc = .ok (.lxor, 1)) (hs : g.stack = .long y :: .long x :: rest) (hz : (x ^^^ y) = z)
    (hr : Steps tb e below (T.setTop { g with pc := g.pc + 1, stack := .long z :: rest }) target) : Steps tb e below (T.setTop g) target := XS.lxor h hx hg hd hs (by rw [show (x ^^^ y) = z from hz]; exact hr)
theorem Own.lshl (h : At T m c below) (hx : tb.exec = Jvm.exec) (hg : g.method = m) {x : Int64} {y : Int32} {z : Int64} (hd : decode c.code g.pc = .ok (.lshl, 1)) (hs : g.stack = .int y :: .long x :: rest) (hz : (x <<< (y &&& 63).toInt64) = z)
    (hr : Steps tb e below (T.setTop { g with pc := g.pc + 1, stack := .long z :: rest }) target) : Steps tb e below (T.setTop g) target := XS.lshl h hx hg hd hs (by rw [show (x <<< (y &&& 63).toInt64) = z from hz]; exact hr)
theorem Own.lshr (h : At T m c below) (hx : tb.exec = Jvm.exec) (hg : g.method = m) {x : Int64} {y : Int32} {z : Int64} (hd : decode c.code g.pc = .ok (.lshr, 1)) (hs : g.stack = .int y :: .long x :: rest) (hz : (x >>> (y &&& 63).toInt64) = z)
    (hr : Steps tb e below (T.setTop { g with pc := g.pc + 1, stack := .long z :: rest }) target) : Steps tb e below (T.setTop g) target := XS.lshr h hx hg hd hs (by rw [show (x >>> (y &&& 63).toInt64) = z from hz]; exact hr)
theorem Own.lushr (h : At T m c below) (hx : tb.exec = Jvm.exec) (hg : g.method = m) {x : Int64} {y : Int32} {z : Int64} (hd : decode c.code g.pc = .ok (.lushr, 1)) (hs : g.stack = .int y :: .long x :: rest) (hz : ((x.toUInt64 >>> (y &&& 63).toInt64.toUInt64).toInt64) = z)
    (hr : Steps tb e below (T.setTop { g with pc := g.pc + 1, stack := .long z :: rest }) target) : Steps tb e below (T.setTop g) target := XS.lushr h hx hg hd hs (by rw [show ((x.toUInt64 >>> (y &&& 63).toInt64.toUInt64).toInt64) = z from hz]; exact hr)
theorem Own.lcmp (h : At T m c below) (hx : tb.exec = Jvm.exec) (hg : g.method = m) {x : Int64} {y : Int64} {z : Int32} (hd : decode c.code g.pc = .ok (.lcmp, 1)) (hs : g.stack = .long y :: .long x :: rest) (hz : lcmpW x y = z)
    (hr : Steps tb e below (T.setTop { g with pc := g.pc + 1, stack := .int z :: rest }) target) : Steps tb e below (T.setTop g) target := XS.lcmp h hx hg hd hs (by rw [show (if x > y then (1 : Int32) else if x = y then 0 else -1) = z from hz]; exact hr)
theorem Own.ineg (h : At T m c below) (hx : tb.exec = Jvm.exec) (hg : g.method = m) {x : Int32} {z : Int32} (hd : decode c.code g.pc = .ok (.ineg, 1)) (hs : g.stack = .int x :: rest) (hz : (-x) = z)
    (hr : Steps tb e below (T.setTop { g with pc := g.pc + 1, stack := .int z :: rest }) target) : Steps tb e below (T.setTop g) target := XS.ineg h hx hg hd hs (by rw [show (-x) = z from hz]; exact hr)
theorem Own.i2l (h : At T m c below) (hx : tb.exec = Jvm.exec) (hg : g.method = m) {x : Int32} {z : Int64} (hd : decode c.code g.pc = .ok (.i2l, 1)) (hs : g.stack = .int x :: rest) (hz : (x.toInt64) = z)
    (hr : Steps tb e below (T.setTop { g with pc := g.pc + 1, stack := .long z :: rest }) target) : Steps tb e below (T.setTop g) target := XS.i2l h hx hg hd hs (by rw [show (x.toInt64) = z from hz]; exact hr)
theorem Own.i2b (h : At T m c below) (hx : tb.exec = Jvm.exec) (hg : g.method = m) {x : Int32} {z : Int32} (hd : decode c.code g.pc = .ok (.i2b, 1)) (hs : g.stack = .int x :: rest) (hz : (x.toInt8.toInt32) = z)
    (hr : Steps tb e below (T.setTop { g with pc := g.pc + 1, stack := .int z :: rest }) target) : Steps tb e below (T.setTop g) target := XS.i2b h hx hg hd hs (by rw [show (x.toInt8.toInt32) = z from hz]; exact hr)
theorem Own.i2c (h : At T m c below) (hx : tb.exec = Jvm.exec) (hg : g.method = m) {x : Int32} {z : Int32} (hd : decode c.code g.pc = .ok (.i2c, 1)) (hs : g.stack = .int x :: rest) (hz : (x.toUInt32.toUInt16.toUInt32.toInt32) = z)
    (hr : Steps tb e below (T.setTop { g with pc := g.pc + 1, stack := .int z :: rest }) target) : Steps tb e below (T.setTop g) target := XS.i2c h hx hg hd hs (by rw [show (x.toUInt32.toUInt16.toUInt32.toInt32) = z from hz]; exact hr)
theorem Own.i2s (h : At T m c below) (hx : tb.exec = Jvm.exec) (hg : g.method = m) {x : Int32} {z : Int32} (hd : decode c.code g.pc = .ok (.i2s, 1)) (hs : g.stack = .int x :: rest) (hz : (x.toInt16.toInt32) = z)
    (hr : Steps tb e below (T.setTop { g with pc := g.pc + 1, stack := .int z :: rest }) target) : Steps tb e below (T.setTop g) target := XS.i2s h hx hg hd hs (by rw [show (x.toInt16.toInt32) = z from hz]; exact hr)
theorem Own.lneg (h : At T m c below) (hx : tb.exec = Jvm.exec) (hg : g.method = m) {x : Int64} {z : Int64} (hd : decode c.code g.pc = .ok (.lneg, 1)) (hs : g.stack = .long x :: rest) (hz : (-x) = z)
    (hr : Steps tb e below (T.setTop { g with pc := g.pc + 1, stack := .long z :: rest }) target) : Steps tb e below (T.setTop g) target := XS.lneg h hx hg hd hs (by rw [show (-x) = z from hz]; exact hr)
theorem Own.l2i (h : At T m c below) (hx : tb.exec = Jvm.exec) (hg : g.method = m) {x : Int64} {z : Int32} (hd : decode c.code g.pc = .ok (.l2i, 1)) (hs : g.stack = .long x :: rest) (hz : (x.toInt32) = z)
    (hr : Steps tb e below (T.setTop { g with pc := g.pc + 1, stack := .int z :: rest }) target) : Steps tb e below (T.setTop g) target := XS.l2i h hx hg hd hs (by rw [show (x.toInt32) = z from hz]; exact hr)
theorem Own.idiv (h : At T m c below) (hx : tb.exec = Jvm.exec) (hg : g.method = m) {x y z : Int32} (hd : decode c.code g.pc = .ok (.idiv, 1)) (hs : g.stack = .int y :: .int x :: rest) (hy : y ≠ 0) (hz : x / y = z)
    (hr : Steps tb e below (T.setTop { g with pc := g.pc + 1, stack := .int z :: rest }) target) : Steps tb e below (T.setTop g) target := XS.idiv h hx hg hd hs hy (by rw [hz]; exact hr)
theorem Own.iinc (h : At T m c below) (hx : tb.exec = Jvm.exec) (hg : g.method = m) {k : Nat} {cst : Int} {x z : Int32} {l' : Array Slot} (hd : decode c.code g.pc = .ok (.iinc k cst, 3)) (hl : g.locals[k]? = some (.val (.int x))) (hz : x + Int32.ofInt cst = z) (hl' : storeLocals g.locals k (.int z) = some l')
    (hr : Steps tb e below (T.setTop { g with pc := g.pc + 3, locals := l' }) target) : Steps tb e below (T.setTop g) target := XS.iinc h hx hg hd hl (by rw [hz]; exact hl') hr
theorem Own.iload (h : At T m c below) (hx : tb.exec = Jvm.exec) (hg : g.method = m) {k : Nat} {v z : Int32} (hd : decode c.code g.pc = .ok (.iload k, 2)) (hl : g.locals[k]? = some (.val (.int v))) (hz : v = z)
    (hr : Steps tb e below (T.setTop { g with pc := g.pc + 2, stack := .int z :: g.stack }) target) : Steps tb e below (T.setTop g) target := XS.iload h hx hg hd hl (by rw [hz]; exact hr)
theorem Own.iloadN (h : At T m c below) (hx : tb.exec = Jvm.exec) (hg : g.method = m) {k : Fin 4} {v z : Int32} (hd : decode c.code g.pc = .ok (.iload_n k, 1)) (hl : g.locals[k.val]? = some (.val (.int v))) (hz : v = z)
    (hr : Steps tb e below (T.setTop { g with pc := g.pc + 1, stack := .int z :: g.stack }) target) : Steps tb e below (T.setTop g) target := XS.iloadN h hx hg hd hl (by rw [hz]; exact hr)
end OwnSteps
theorem own_irem {p : Program} {l : Launch} {e : Env} {R : Room} {s : State} {m : MethodId} {args : Array Value} {below : List Frame} {meth : Method} {c : Code} {T : State} {locs : List Loc} {cells slots : Nat} {g : JFrame} {target : State} (X : Stand p l e R s m args below meth c T locs cells slots) (hx : p.tables.exec = Jvm.exec) (hg : g.method = m) {x y z : Int32} {rest : List Value} (hd : decode c.code g.pc = .ok (.irem, 1)) (hs : g.stack = .int y :: .int x :: rest) (hy : y ≠ 0) (hz : x % y = z)
    (hr : Steps p.tables e below (T.setTop { g with pc := g.pc + 1, stack := .int z :: rest }) target) : Steps p.tables e below (T.setTop g) target := iremM X hx hg hd hs hy (by rw [hz]; exact hr)
section OwnCalls
variable {p : Program} {l : Launch} {e : Env} {R : Room} {s : State} {m : MethodId} {args : Array Value} {below : List Frame} {meth : Method} {c : Code} {T : State} {locs : List Loc} {cells slots : Nat} {Z : State} {a0 : Array Value} {h : Heap}
theorem own_callS (X : Stand p l e R s m args below meth c T locs cells slots) (hx : p.tables.exec = Jvm.exec) (hZ : Z.Warmed39 s.vm) {own : String} {index W maxL : Nat} {y : MethodName} {bytes : ByteArray} {ret : Option FieldType} {rm : Room} {as' : Array Value} {Q : Option Value → Heap → List Loc → Prop}
    (hown : s.vm.findClass own = some m.cls) (w1 : (Jvm.Cond.methodLink own index y).before a0 Z = true) (w2 : (Jvm.Cond.static y).before a0 Z = true) (w3 : (Jvm.Cond.initialized y.cls).before a0 Z = true) (w4 : (Jvm.Cond.code y bytes maxL ret).before a0 Z = true) (hy : y.cls ≠ "java/lang/invoke/MethodHandle" ∧ y.cls ≠ "java/lang/invoke/VarHandle")
    (hM : MetFree l y (head1 [Jvm.Cond.code y bytes maxL ret] rm) (fun a U => a = as' ∧ Z.Warmed39 U.vm ∧ U.heap = h) (fun _ _ _ _ _ => True) (fun _ U o U' => ∃ v L, o = .returned v ∧ Q v U'.heap L ∧ FrameEnd U o U' L rm.cells rm.slots)) (eT : T.heap = h)
    {g : JFrame} (hg : g.method = m) (hsize : g.locals.size = c.maxLocals) {argsL rest : List Value} (hlen : ∀ sig, parseMethodDescriptor y.desc = some sig → argsL.length = sig.parameters.length) (hstack : g.stack = argsL.reverse ++ rest) (has : argsL.toArray = as') (hW : 2 * g.monitorRoom + (rest.map fun v => v.category).sum ≤ W)
    (hdg : decode c.code g.pc = .ok (.invokestatic index, 3)) (hf : rm.frames + 1 ≤ R.frames) (hl : W + (maxL + 11) + rm.locals ≤ R.locals) (hc : cells + rm.cells ≤ R.cells) (hs : slots + rm.slots ≤ R.slots) :
    ∃ (v : Option Value) (T' : State) (L : List Loc), Q v T'.heap L ∧ Stand p l e R s m args below meth c T' (locs ++ L) (cells + rm.cells) (slots + rm.slots) ∧ ∀ target, Steps p.tables e below (T'.setTop { g with pc := g.pc + 3, stack := v.toList ++ rest }) target → Steps p.tables e below (T.setTop g) target := by
  obtain ⟨v, _, ⟨T', L', c', s'⟩, -, X', ⟨L, hq, e1, e2, e3⟩, st⟩ := Jvm.LawKit.callS X hx hown (mvT hZ w1) (mvT hZ w2) (mvT hZ w3) (mvT hZ w4) hy (backOf (W := W) hM hZ w4 w3 hf hl) hg hsize hlen hstack hW hdg (fun _ _ => ⟨has, eT, hc, hs⟩)
  subst e1 e2 e3
  exact ⟨v, T', L, hq, X', st⟩
theorem own_special (X : Stand p l e R s m args below meth c T locs cells slots) (hx : p.tables.exec = Jvm.exec) (hZ : Z.Warmed39 s.vm) {own : String} {index W maxL : Nat} {y : MethodName} {bytes : ByteArray} {rm : Room} {as' : Array Value} {Q : Option Value → Heap → List Loc → Prop} (hy1 : y.name = "<init>")
    (hown : s.vm.findClass own = some m.cls) (w1 : (Jvm.Cond.methodLink own index y).before a0 Z = true) (w2 : (Jvm.Cond.instanceMethod y).before a0 Z = true) (w3 : (Jvm.Cond.initialized y.cls).before a0 Z = true) (w4 : (Jvm.Cond.code y bytes maxL none).before a0 Z = true) (hy : y.cls ≠ "java/lang/invoke/MethodHandle" ∧ y.cls ≠ "java/lang/invoke/VarHandle")
    (hM : MetFree l y (head1 [Jvm.Cond.code y bytes maxL none] rm) (fun a U => a = as' ∧ Z.Warmed39 U.vm ∧ U.heap = h) (fun _ _ _ _ _ => True) (fun _ U o U' => ∃ v L, o = .returned v ∧ Q v U'.heap L ∧ FrameEnd U o U' L rm.cells rm.slots)) (eT : T.heap = h)
    {g : JFrame} (hg : g.method = m) (hsize : g.locals.size = c.maxLocals) {a : Addr} {argsL rest : List Value} (hlen : ∀ sig, parseMethodDescriptor y.desc = some sig → argsL.length = sig.parameters.length) (hstack : g.stack = argsL.reverse ++ .ref a :: rest) (has : (.ref a :: argsL).toArray = as') (hW : 2 * g.monitorRoom + (rest.map fun v => v.category).sum ≤ W)
    (hdg : decode c.code g.pc = .ok (.invokespecial index, 3)) (hf : rm.frames + 1 ≤ R.frames) (hl : W + (maxL + 11) + rm.locals ≤ R.locals) (hc : cells + rm.cells ≤ R.cells) (hs : slots + rm.slots ≤ R.slots) :
    ∃ (v : Option Value) (T' : State) (L : List Loc), Q v T'.heap L ∧ Stand p l e R s m args below meth c T' (locs ++ L) (cells + rm.cells) (slots + rm.slots) ∧ ∀ target, Steps p.tables e below (T'.setTop { g with pc := g.pc + 3, stack := v.toList ++ rest }) target → Steps p.tables e below (T.setTop g) target := by
  obtain ⟨v, _, ⟨T', L', c', s'⟩, -, X', ⟨L, hq, e1, e2, e3⟩, st⟩ := X.specialBack hx hy1 hown (mvT hZ w1) (mvT hZ w2) (mvT hZ w4) hy (backOf (W := W) hM hZ w4 w3 hf hl) hg hsize (Steps.refl _) hlen hstack hW hdg (fun _ _ => ⟨has, eT, hc, hs⟩)
  subst e1 e2 e3
  exact ⟨v, T', L, hq, X', fun _ k => st.trans k⟩
theorem own_virtual (X : Stand p l e R s m args below meth c T locs cells slots) (hx : p.tables.exec = Jvm.exec) (hZ : Z.Warmed39 s.vm) {own C : String} {index W maxL : Nat} {y z : MethodName} {bytes : ByteArray} {ret : Option FieldType} {rm : Room} {as' : Array Value} {Q : Option Value → Heap → List Loc → Prop}
    (hown : s.vm.findClass own = some m.cls) (w1 : (Jvm.Cond.methodLink own index y).before a0 Z = true) (w2 : (Jvm.Cond.declares y).before a0 Z = true) (nf : NotFace s y) (w5 : (Jvm.Cond.selects C y z).before a0 Z = true) (w6 : (Jvm.Cond.instanceMethod z).before a0 Z = true) (w3 : (Jvm.Cond.initialized z.cls).before a0 Z = true) (w4 : (Jvm.Cond.code z bytes maxL ret).before a0 Z = true) (hy : y.cls ≠ "java/lang/invoke/MethodHandle" ∧ y.cls ≠ "java/lang/invoke/VarHandle")
    (hM : MetFree l z (head1 [Jvm.Cond.code z bytes maxL ret] rm) (fun a U => a = as' ∧ Z.Warmed39 U.vm ∧ U.heap = h) (fun _ _ _ _ _ => True) (fun _ U o U' => ∃ v L, o = .returned v ∧ Q v U'.heap L ∧ FrameEnd U o U' L rm.cells rm.slots)) (eT : T.heap = h) {b : Addr} (E : Exa Z h b C)
    {g : JFrame} (hg : g.method = m) (hsize : g.locals.size = c.maxLocals) {argsL rest : List Value} (hlen : ∀ sig, parseMethodDescriptor y.desc = some sig → argsL.length = sig.parameters.length) (hstack : g.stack = argsL.reverse ++ .ref b :: rest) (has : (.ref b :: argsL).toArray = as') (hW : 2 * g.monitorRoom + (rest.map fun v => v.category).sum ≤ W)
    (hdg : decode c.code g.pc = .ok (.invokevirtual index, 3)) (hf : rm.frames + 1 ≤ R.frames) (hl : W + (maxL + 11) + rm.locals ≤ R.locals) (hc : cells + rm.cells ≤ R.cells) (hs : slots + rm.slots ≤ R.slots) :
    ∃ (v : Option Value) (T' : State) (L : List Loc), Q v T'.heap L ∧ Stand p l e R s m args below meth c T' (locs ++ L) (cells + rm.cells) (slots + rm.slots) ∧ ∀ target, Steps p.tables e below (T'.setTop { g with pc := g.pc + 3, stack := v.toList ++ rest }) target → Steps p.tables e below (T.setTop g) target := by
  obtain ⟨cB, kB, qa, qb, qc⟩ := isOf hZ eT E
  obtain ⟨v, _, ⟨T', L', c', s'⟩, -, X', ⟨L, hq, e1, e2, e3⟩, st⟩ := X.virtualBack hx hown (mvT hZ w1) (mvT hZ w2) nf (mvT hZ w5) (mvT hZ w6) hy (backOf (W := W) hM hZ w4 w3 hf hl) qa qc hg hsize (Steps.refl _) hlen hstack hW hdg (fun _ _ => ⟨has, eT, hc, hs⟩)
  subst e1 e2 e3
  exact ⟨v, T', L, hq, X', fun _ k => st.trans k⟩
theorem own_virtualUp (X : Stand p l e R s m args below meth c T locs cells slots) (hx : p.tables.exec = Jvm.exec) (hZ : Z.Warmed39 s.vm) {own C owner : String} {index W maxL : Nat} {y z : MethodName} {bytes : ByteArray} {ret : Option FieldType} {rm : Room} {as' : Array Value} {Q : Option Value → Heap → List Loc → Prop}
    (hown : s.vm.findClass own = some m.cls) (w1 : (Jvm.Cond.methodLink own index y).before a0 Z = true) (w7 : (Jvm.Cond.sameMethod y.cls owner y.name y.desc).before a0 Z = true) (w2 : (Jvm.Cond.declares ⟨owner, y.name, y.desc⟩).before a0 Z = true) (hy : owner ≠ "java/lang/invoke/MethodHandle" ∧ owner ≠ "java/lang/invoke/VarHandle") (w5 : (Jvm.Cond.selects C y z).before a0 Z = true) (w6 : (Jvm.Cond.instanceMethod z).before a0 Z = true) (w3 : (Jvm.Cond.initialized z.cls).before a0 Z = true) (w4 : (Jvm.Cond.code z bytes maxL ret).before a0 Z = true)
    (hM : MetFree l z (head1 [Jvm.Cond.code z bytes maxL ret] rm) (fun a U => a = as' ∧ Z.Warmed39 U.vm ∧ U.heap = h) (fun _ _ _ _ _ => True) (fun _ U o U' => ∃ v L, o = .returned v ∧ Q v U'.heap L ∧ FrameEnd U o U' L rm.cells rm.slots)) (eT : T.heap = h) {b : Addr} (E : Exa Z h b C)
    {g : JFrame} (hg : g.method = m) (hsize : g.locals.size = c.maxLocals) {argsL rest : List Value} (hlen : ∀ sig, parseMethodDescriptor y.desc = some sig → argsL.length = sig.parameters.length) (hstack : g.stack = argsL.reverse ++ .ref b :: rest) (has : (.ref b :: argsL).toArray = as') (hW : 2 * g.monitorRoom + (rest.map fun v => v.category).sum ≤ W)
    (hdg : decode c.code g.pc = .ok (.invokevirtual index, 3)) (hf : rm.frames + 1 ≤ R.frames) (hl : W + (maxL + 11) + rm.locals ≤ R.locals) (hc : cells + rm.cells ≤ R.cells) (hs : slots + rm.slots ≤ R.slots) :
    ∃ (v : Option Value) (T' : State) (L : List Loc), Q v T'.heap L ∧ Stand p l e R s m args below meth c T' (locs ++ L) (cells + rm.cells) (slots + rm.slots) ∧ ∀ target, Steps p.tables e below (T'.setTop { g with pc := g.pc + 3, stack := v.toList ++ rest }) target → Steps p.tables e below (T.setTop g) target := by
  obtain ⟨cB, kB, qa, qb, qc⟩ := isOf hZ eT E
  obtain ⟨v, _, ⟨T', L', c', s'⟩, -, X', ⟨L, hq, e1, e2, e3⟩, st⟩ := X.virtualBackUp hx (owner := owner) hown (mvT hZ w1) (mvT hZ w7) (mvT hZ w2) hy (mvT hZ w5) (mvT hZ w6) (backOf (W := W) hM hZ w4 w3 hf hl) qa qc hg hsize (Steps.refl _) hlen hstack hW hdg (fun _ _ => ⟨has, eT, hc, hs⟩)
  subst e1 e2 e3
  exact ⟨v, T', L, hq, X', fun _ k => st.trans k⟩
theorem own_iface (X : Stand p l e R s m args below meth c T locs cells slots) (hx : p.tables.exec = Jvm.exec) (hZ : Z.Warmed39 s.vm) {own C : String} {index count W maxL : Nat} {y z : MethodName} {bytes : ByteArray} {ret : Option FieldType} {rm : Room} {as' : Array Value} {Q : Option Value → Heap → List Loc → Prop}
    (hown : s.vm.findClass own = some m.cls) (w1 : (Jvm.Cond.methodLink own index y).before a0 Z = true) (w2 : (Jvm.Cond.declares y).before a0 Z = true) (w7 : (Jvm.Cond.interfaceMethod y.cls y.cls y.name y.desc).before args s = true) (w5 : (Jvm.Cond.selects C y z).before a0 Z = true) (w6 : (Jvm.Cond.instanceMethod z).before a0 Z = true) (w8 : (Jvm.Cond.publicMethod z).before args s = true) (w9 : (Jvm.Cond.unhidden C y.name y.desc).before args s = true) (w10 : (Jvm.Cond.castable C y.cls).before a0 Z = true) (w3 : (Jvm.Cond.initialized z.cls).before a0 Z = true) (w4 : (Jvm.Cond.code z bytes maxL ret).before a0 Z = true) (hy : y.cls ≠ "java/lang/invoke/MethodHandle" ∧ y.cls ≠ "java/lang/invoke/VarHandle")
    (hM : MetFree l z (head1 [Jvm.Cond.code z bytes maxL ret] rm) (fun a U => a = as' ∧ Z.Warmed39 U.vm ∧ U.heap = h) (fun _ _ _ _ _ => True) (fun _ U o U' => ∃ v L, o = .returned v ∧ Q v U'.heap L ∧ FrameEnd U o U' L rm.cells rm.slots)) (eT : T.heap = h) {b : Addr} (E : Exa Z h b C)
    {g : JFrame} (hg : g.method = m) (hsize : g.locals.size = c.maxLocals) {argsL rest : List Value} (hlen : ∀ sig, parseMethodDescriptor y.desc = some sig → argsL.length = sig.parameters.length) (hstack : g.stack = argsL.reverse ++ .ref b :: rest) (has : (.ref b :: argsL).toArray = as') (hW : 2 * g.monitorRoom + (rest.map fun v => v.category).sum ≤ W)
    (hdg : decode c.code g.pc = .ok (.invokeinterface index count, 5)) (hf : rm.frames + 1 ≤ R.frames) (hl : W + (maxL + 11) + rm.locals ≤ R.locals) (hc : cells + rm.cells ≤ R.cells) (hs : slots + rm.slots ≤ R.slots) :
    ∃ (v : Option Value) (T' : State) (L : List Loc), Q v T'.heap L ∧ Stand p l e R s m args below meth c T' (locs ++ L) (cells + rm.cells) (slots + rm.slots) ∧ ∀ target, Steps p.tables e below (T'.setTop { g with pc := g.pc + 5, stack := v.toList ++ rest }) target → Steps p.tables e below (T.setTop g) target := by
  obtain ⟨cB, kB, qa, qb, qc⟩ := isOf hZ eT E
  obtain ⟨v, _, ⟨T', L', c', s'⟩, -, X', ⟨L, hq, e1, e2, e3⟩, st⟩ := X.interfaceBack hx hown (mvT hZ w1) (mvT hZ w2) w7 (mvT hZ w5) (mvT hZ w6) w8 w9 (mvT hZ w10) hy (backOf (W := W) hM hZ w4 w3 hf hl) qa qb qc hg hsize (Steps.refl _) hlen hstack hW hdg (fun _ _ => ⟨has, eT, hc, hs⟩)
  subst e1 e2 e3
  exact ⟨v, T', L, hq, X', fun _ k => st.trans k⟩
theorem own_private (X : Stand p l e R s m args below meth c T locs cells slots) (hx : p.tables.exec = Jvm.exec) (hZ : Z.Warmed39 s.vm) {own K : String} {index W maxL : Nat} {y : MethodName} {bytes : ByteArray} {ret : Option FieldType} {rm : Room} {as' : Array Value} {Q : Option Value → Heap → List Loc → Prop}
    (hown : s.vm.findClass own = some m.cls) (w1 : (Jvm.Cond.methodLink own index y).before a0 Z = true) (w2 : (Jvm.Cond.instanceMethod y).before a0 Z = true) (hsel : (Jvm.Cond.selects y.cls y y).before args s = true) (w6 : (Jvm.Cond.privateMethod y).before a0 Z = true) (w3 : (Jvm.Cond.initialized y.cls).before a0 Z = true) (w4 : (Jvm.Cond.code y bytes maxL ret).before a0 Z = true) (hy : y.cls ≠ "java/lang/invoke/MethodHandle" ∧ y.cls ≠ "java/lang/invoke/VarHandle")
    (hM : MetFree l y (head1 [Jvm.Cond.code y bytes maxL ret] rm) (fun a U => a = as' ∧ Z.Warmed39 U.vm ∧ U.heap = h) (fun _ _ _ _ _ => True) (fun _ U o U' => ∃ v L, o = .returned v ∧ Q v U'.heap L ∧ FrameEnd U o U' L rm.cells rm.slots)) (eT : T.heap = h) {b : Addr} (E : Exa Z h b K)
    {g : JFrame} (hg : g.method = m) (hsize : g.locals.size = c.maxLocals) {argsL rest : List Value} (hlen : ∀ sig, parseMethodDescriptor y.desc = some sig → argsL.length = sig.parameters.length) (hstack : g.stack = argsL.reverse ++ .ref b :: rest) (has : (.ref b :: argsL).toArray = as') (hW : 2 * g.monitorRoom + (rest.map fun v => v.category).sum ≤ W)
    (hdg : decode c.code g.pc = .ok (.invokevirtual index, 3)) (hf : rm.frames + 1 ≤ R.frames) (hl : W + (maxL + 11) + rm.locals ≤ R.locals) (hc : cells + rm.cells ≤ R.cells) (hs : slots + rm.slots ≤ R.slots) :
    ∃ (v : Option Value) (T' : State) (L : List Loc), Q v T'.heap L ∧ Stand p l e R s m args below meth c T' (locs ++ L) (cells + rm.cells) (slots + rm.slots) ∧ ∀ target, Steps p.tables e below (T'.setTop { g with pc := g.pc + 3, stack := v.toList ++ rest }) target → Steps p.tables e below (T.setTop g) target := by
  obtain ⟨cq, q, q'⟩ := E.cell
  obtain ⟨v, _, ⟨T', L', c', s'⟩, -, X', ⟨L, hq, e1, e2, e3⟩, st⟩ := X.privateBack hx hown (mvT hZ w1) (mvT hZ w2) hsel (Cond.privateMethod_at (mvP hZ w6 (args := #[]))) (mvT hZ w4) hy (backOf (W := W) hM hZ w4 w3 hf hl) hg hsize (Steps.refl _) (by rw [eT]; exact q) q' hlen hstack hW hdg (fun _ _ => ⟨has, eT, hc, hs⟩)
  subst e1 e2 e3
  exact ⟨v, T', L, hq, X', fun _ k => st.trans k⟩
theorem own_super (X : Stand p l e R s m args below meth c T locs cells slots) (hx : p.tables.exec = Jvm.exec) (hZ : Z.Warmed39 s.vm) {own K : String} {index W maxL : Nat} {y : MethodName} {bytes : ByteArray} {ret : Option FieldType} {rm : Room} {as' : Array Value} {Q : Option Value → Heap → List Loc → Prop}
    (hown : s.vm.findClass own = some m.cls) (w1 : (Jvm.Cond.methodLink own index y).before a0 Z = true) (w2 : (Jvm.Cond.sameMethod y.cls y.cls y.name y.desc).before a0 Z = true) (w5 : (Jvm.Cond.instanceMethod y).before a0 Z = true) (w6 : (Jvm.Cond.superclass own y.cls).before a0 Z = true) (hn : y.name ≠ "<init>") (w3 : (Jvm.Cond.initialized y.cls).before a0 Z = true) (w4 : (Jvm.Cond.code y bytes maxL ret).before a0 Z = true)
    (hM : MetFree l y (head1 [Jvm.Cond.code y bytes maxL ret] rm) (fun a U => a = as' ∧ Z.Warmed39 U.vm ∧ U.heap = h) (fun _ _ _ _ _ => True) (fun _ U o U' => ∃ v L, o = .returned v ∧ Q v U'.heap L ∧ FrameEnd U o U' L rm.cells rm.slots)) (eT : T.heap = h) {b : Addr} (E : Exa Z h b K)
    {g : JFrame} (hg : g.method = m) (hsize : g.locals.size = c.maxLocals) {argsL rest : List Value} (hlen : ∀ sig, parseMethodDescriptor y.desc = some sig → argsL.length = sig.parameters.length) (hstack : g.stack = argsL.reverse ++ .ref b :: rest) (has : (.ref b :: argsL).toArray = as') (hW : 2 * g.monitorRoom + (rest.map fun v => v.category).sum ≤ W)
    (hdg : decode c.code g.pc = .ok (.invokespecial index, 3)) (hf : rm.frames + 1 ≤ R.frames) (hl : W + (maxL + 11) + rm.locals ≤ R.locals) (hc : cells + rm.cells ≤ R.cells) (hs : slots + rm.slots ≤ R.slots) :
    ∃ (v : Option Value) (T' : State) (L : List Loc), Q v T'.heap L ∧ Stand p l e R s m args below meth c T' (locs ++ L) (cells + rm.cells) (slots + rm.slots) ∧ ∀ target, Steps p.tables e below (T'.setTop { g with pc := g.pc + 3, stack := v.toList ++ rest }) target → Steps p.tables e below (T.setTop g) target := by
  obtain ⟨v, _, ⟨T', L', c', s'⟩, -, X', ⟨L, hq, e1, e2, e3⟩, st⟩ := superBack X hx hZ hown w1 w2 w5 w6 hn (backOf (W := W) hM hZ w4 w3 hf hl) eT (Ins.self E) hg hsize w4 hlen hstack hW hdg (fun _ _ => ⟨has, eT, hc, hs⟩)
  subst e1 e2 e3
  exact ⟨v, T', L, hq, X', fun _ k => st.trans k⟩
end OwnCalls
theorem own_irr (x : Int32) : ¬ (x < x) := Int32.lt_irrefl
theorem own_irrL (x : Int64) : ¬ (x < x) := Int64.lt_irrefl
theorem own_lc_lt {x y : Int64} (h : x < y) : lcmpW x y = (-1 : Int32) := Int32.toInt_inj.mp ((c_lcmp x y).1 (Int64.lt_iff_toInt_lt.mp h))
theorem own_lc_eq {x y : Int64} (h : x = y) : lcmpW x y = (0 : Int32) := Int32.toInt_inj.mp ((c_lcmp x y).2.1 (congrArg _ h))
theorem own_lc_gt {x y : Int64} (h : ¬ (x < y)) (h' : ¬ (x = y)) : lcmpW x y = (1 : Int32) := Int32.toInt_inj.mp ((c_lcmp x y).2.2 (by
  have h1 : ¬ (x.toInt < y.toInt) := fun q => h (Int64.lt_iff_toInt_lt.mpr q)
  have h2 : ¬ (x.toInt = y.toInt) := fun q => h' (Int64.toInt_inj.mp q)
  omega))
theorem own_old_le {Z : State} {n0 : Nat} {h : Heap} (O : Old Z n0 h) : n0 ≤ h.size := O.1 ▸ O.2.1
theorem own_fld {Z : State} {args : Array Value} {t : Term} {a : Addr} {C n d : String} {z : Int32} (ev : t.eval args Z none [] Z = some (.ref a)) (h : (Jvm.Cond.eq (Term.field t C n d) (Term.int z)).value args Z none Z [] = some true) : Fld Z Z.heap a C n d (.int z) := by
  refine Fld.start ?_
  obtain ⟨x, y, e1, e2, k1, -⟩ := cmp_v (Or.inl h)
  rw [fld_at ev] at e1
  cases (Term.int_eval z).symm.trans e2
  have hx : ∃ q, x = .int q := by cases x <;> simp [Kin, Value.isRef] at k1 ⊢
  obtain ⟨q, rfl⟩ := hx
  have := gotT (P := q = z) (by simp [Cond.value, fld_at ev, e1, Term.int_eval]) h
  rw [e1, this]
theorem own_sta {Z : State} {args : Array Value} {C n d : String} {z : Int32} (h : (Jvm.Cond.eq (Term.static C n d) (Term.int z)).value args Z none Z [] = some true) : (Term.static C n d).eval args Z none [] Z = some (.int z) := by
  obtain ⟨x, y, e1, e2, k1, -⟩ := cmp_v (Or.inl h)
  cases (Term.int_eval z).symm.trans e2
  have hx : ∃ q, x = .int q := by cases x <;> simp [Kin, Value.isRef] at k1 ⊢
  obtain ⟨q, rfl⟩ := hx
  have := gotT (P := q = z) (by simp [Cond.value, e1, Term.int_eval]) h
  rw [e1, this]
theorem own_fldL {Z : State} {args : Array Value} {t : Term} {a : Addr} {C n d : String} {z : Int64} (ev : t.eval args Z none [] Z = some (.ref a)) (h : (Jvm.Cond.eq (Term.field t C n d) (Term.long z)).value args Z none Z [] = some true) : Fld Z Z.heap a C n d (.long z) := by
  refine Fld.start ?_
  obtain ⟨x, y, e1, e2, k1, -⟩ := cmp_v (Or.inl h)
  rw [fld_at ev] at e1
  cases (long_at z).symm.trans e2
  have hx : ∃ q, x = .long q := by cases x <;> simp [Kin, Value.isRef] at k1 ⊢
  obtain ⟨q, rfl⟩ := hx
  have := gotT (P := q = z) (eq_L (by rw [fld_at ev]; exact e1) (long_at z)) h
  rw [e1, this]
theorem own_len {Z : State} {args : Array Value} {t : Term} {a : Addr} {cl : Cell} {ty : FieldType} {z : Int32} (ev : t.eval args Z none [] Z = some (.ref a)) (A : Arr Z Z.heap a cl ty) (h : (Jvm.Cond.eq (Term.length t) (Term.int z)).value args Z none Z [] = some true) : cl.slots.size < 2 ^ 31 ∧ cl.slots.size.toInt32 = z := by
  obtain ⟨x, y, e1, e2, k1, -⟩ := cmp_v (Or.inl h)
  cases (Term.int_eval z).symm.trans e2
  have harr := A.fin (Vm.Alike.refl _)
  have h31 := SBG.length_lt ev harr e1
  refine ⟨h31, ?_⟩
  rw [len_f ev harr h31] at e1
  cases Option.some.inj e1
  exact gotT (P := cl.slots.size.toInt32 = z) (by simp [Cond.value, len_f ev harr h31, Term.int_eval]) h
theorem own_el {Z : State} {args : Array Value} {t u : Term} {a : Addr} {cl : Cell} {ty : FieldType} {j : Int32} {v : Value} (ev : t.eval args Z none [] Z = some (.ref a)) (A : Arr Z Z.heap a cl ty) (hu : u.eval args Z none [] Z = some v) (hr : v.isRef = true) (h : (Jvm.Cond.eq (Term.elem t (Term.int j)) u).value args Z none Z [] = some true) : cl.slots[j.toNatClampNeg]? = some v := by
  obtain ⟨x, y, e1, e2, k1, k2⟩ := cmp_v (Or.inl h)
  cases hu.symm.trans e2
  have hx : x.isRef = true := by rcases ref_cases hr with rfl | ⟨q, rfl⟩ <;> simp [Kin] at k2 <;> exact k2.2
  have := gotT (eq_R e1 hu hx hr) h
  subst this
  exact (elem_in e1 ev (Term.int_eval j) A.1).2
theorem own_rng (x : Int32) : -2147483648 ≤ x.toInt ∧ x.toInt ≤ 2147483647 := by have := rng32 x; omega
theorem own_mask (x m : Int32) {n : Int} (h : m.toInt = n ∧ 0 ≤ n) : 0 ≤ (x &&& m).toInt ∧ (x &&& m).toInt ≤ n := by have := c_and x m (by omega); omega
theorem own_rem (x y : Int32) (d : Int) {lo hi l h : Int} (hy : y.toInt = d ∧ 0 < d) (hx : lo ≤ x.toInt ∧ x.toInt ≤ hi) (q : (0 ≤ lo ∧ l = 0 ∧ d - 1 ≤ h) ∨ (l = -(d - 1) ∧ h = d - 1)) : l ≤ (x % y).toInt ∧ (x % y).toInt ≤ h := by
  have := c_iremV x y
  rcases Int.lt_or_le x.toInt 0 with g | g
  · have := this.2 g (by omega); omega
  · have := this.1 g (by omega); omega
theorem own_isub (x y : Int32) (d : Int) {lo hi l h : Int} (hy : y.toInt = d) (hx : lo ≤ x.toInt ∧ x.toInt ≤ hi) (q : l = lo - d ∧ h = hi - d ∧ -2147483648 ≤ l ∧ h ≤ 2147483647) : l ≤ (x - y).toInt ∧ (x - y).toInt ≤ h := by have := c_isub x y; have := rng32 (x - y); omega
theorem own_iadd (x y : Int32) (d : Int) {lo hi l h : Int} (hy : y.toInt = d) (hx : lo ≤ x.toInt ∧ x.toInt ≤ hi) (q : l = lo + d ∧ h = hi + d ∧ -2147483648 ≤ l ∧ h ≤ 2147483647) : l ≤ (x + y).toInt ∧ (x + y).toInt ≤ h := by have := c_iadd x y; have := rng32 (x + y); omega
theorem own_ltT {x y : Int32} (h : x.toInt < y.toInt) : x < y := Int32.lt_iff_toInt_lt.mpr h
theorem own_ltF {x y : Int32} (h : ¬ (x.toInt < y.toInt)) : ¬ (x < y) := fun q => h (Int32.lt_iff_toInt_lt.mp q)
theorem own_eqF {x y : Int32} (h : ¬ (x.toInt = y.toInt)) : ¬ (x = y) := fun q => h (q ▸ rfl)
theorem own_ltT' {x y : Int32} (h : x < y) : x.toInt < y.toInt := Int32.lt_iff_toInt_lt.mp h
theorem own_ltF' {x y : Int32} (h : ¬ (x < y)) : ¬ (x.toInt < y.toInt) := fun q => h (Int32.lt_iff_toInt_lt.mpr q)
theorem own_eqF' {x y : Int32} (h : ¬ (x = y)) : ¬ (x.toInt = y.toInt) := fun q => h (Int32.toInt_inj.mp q)
theorem own_eqT' {x y : Int32} (h : x = y) : x.toInt = y.toInt := h ▸ rfl
theorem own_eqT {x y : Int32} (h : x.toInt = y.toInt) : x = y := Int32.toInt_inj.mp h
abbrev z0 : String := "com/example/arbiter/arbiter/engine/LockKind"
abbrev z1 : String := "com/example/arbiter/arbiter/engine/LockKindCoversPinLaw"
abbrev z2 : String := "(Lcom/example/arbiter/arbiter/engine/LockKind;)Z"
abbrev z3 : String := "Lcom/example/arbiter/arbiter/engine/LockKind;"
abbrev z4 : String := "(I)Lcom/example/arbiter/arbiter/engine/LockKind;"
def SF (Z : State) (w0 : Addr) (w1 : Addr) (w2 : Addr) (w3 : Addr) : Prop := Sta Z Z.heap z0 "GAP" z3 (.ref w0) ∧ Exa Z Z.heap w0 z0 ∧ Fld Z Z.heap w0 "java/lang/Enum" "ordinal" "I" (.int (1 : Int32)) ∧ Sta Z Z.heap z0 "INSERT_INTENTION" z3 (.ref w1) ∧ Exa Z Z.heap w1 z0 ∧ Fld Z Z.heap w1 "java/lang/Enum" "ordinal" "I" (.int (3 : Int32)) ∧ Sta Z Z.heap z0 "NEXT_KEY" z3 (.ref w2) ∧ Exa Z Z.heap w2 z0 ∧ Fld Z Z.heap w2 "java/lang/Enum" "ordinal" "I" (.int (2 : Int32)) ∧ Sta Z Z.heap z0 "RECORD" z3 (.ref w3) ∧ Exa Z Z.heap w3 z0 ∧ Fld Z Z.heap w3 "java/lang/Enum" "ordinal" "I" (.int (0 : Int32))
theorem en_0 (t : Int32) (q : 0 ≤ t.toInt ∧ t.toInt ≤ 3) : t = (0 : Int32) ∨ t = (1 : Int32) ∨ t = (2 : Int32) ∨ t = (3 : Int32) := by
  have q' : t.toInt = 0 ∨ t.toInt = 1 ∨ t.toInt = 2 ∨ t.toInt = 3 := by omega
  rcases q' with r | r | r | r
  · exact Or.inl (Int32.toInt_inj.mp (r.trans (by decide)))
  · exact Or.inr (Or.inl (Int32.toInt_inj.mp (r.trans (by decide))))
  · exact Or.inr (Or.inr (Or.inl (Int32.toInt_inj.mp (r.trans (by decide)))))
  · exact Or.inr (Or.inr (Or.inr ((Int32.toInt_inj.mp (r.trans (by decide))))))
theorem m15 : (Jvm.Cond.methodLink z1 (22 : Nat) (⟨z1, "hasRecord", "(I)Z"⟩ : MethodName)) ∈ tables_1 := List.mem_of_getElem? (i := 15) rfl
theorem d3_0 : decode method_3_code 0 = .ok (.iload_n 0, 1) := by decide +kernel
theorem d3_1 : decode method_3_code 1 = .ok (.ifCond .eq 8, 3) := by decide +kernel
theorem d3_9 : decode method_3_code 9 = .ok (.iconst 1, 1) := by decide +kernel
theorem d3_10 : decode method_3_code 10 = .ok (.goto 4, 3) := by decide +kernel
theorem d3_14 : decode method_3_code 14 = .ok (.ireturn, 1) := by decide +kernel
theorem ef7 (m : MethodId) (x0 : Int32) : entryFrame m #[(.int x0)] 1 = mkF m 0 #[.val (.int x0)] [] := by first | (simp [entryFrame, mkF, argsToLocals, Value.category]; done) | rfl
theorem pn8 : plainName z1 = true := by first | (simp [plainName, overriddenIn]; done) | decide +kernel
theorem m17 : (Jvm.Cond.code (⟨z1, "hasRecord", "(I)Z"⟩ : MethodName) method_3_code (1 : Nat) (Option.some FieldType.boolean)) ∈ tables_1 := List.mem_of_getElem? (i := 17) rfl
theorem m2 : (Jvm.Cond.initialized z1) ∈ tables_1 := List.mem_of_getElem? (i := 2) rfl
theorem pd11 : parseMethodDescriptor "(I)Z" = some ⟨[.int], some .boolean⟩ := by decide +kernel
theorem m16 : (Jvm.Cond.static (⟨z1, "hasRecord", "(I)Z"⟩ : MethodName)) ∈ tables_1 := List.mem_of_getElem? (i := 16) rfl
theorem m18 : (Jvm.Cond.methodLink z1 (28 : Nat) (⟨z1, "hasGap", "(I)Z"⟩ : MethodName)) ∈ tables_1 := List.mem_of_getElem? (i := 18) rfl
theorem d4_0 : decode method_4_code 0 = .ok (.iload_n 0, 1) := by decide +kernel
theorem d4_1 : decode method_4_code 1 = .ok (.iconst 1, 1) := by decide +kernel
theorem d4_2 : decode method_4_code 2 = .ok (.if_icmp .eq 8, 3) := by decide +kernel
theorem d4_5 : decode method_4_code 5 = .ok (.iload_n 0, 1) := by decide +kernel
theorem d4_6 : decode method_4_code 6 = .ok (.iconst 2, 1) := by decide +kernel
theorem d4_7 : decode method_4_code 7 = .ok (.if_icmp .ne 7, 3) := by decide +kernel
theorem d4_14 : decode method_4_code 14 = .ok (.iconst 0, 1) := by decide +kernel
theorem d4_15 : decode method_4_code 15 = .ok (.ireturn, 1) := by decide +kernel
theorem m20 : (Jvm.Cond.code (⟨z1, "hasGap", "(I)Z"⟩ : MethodName) method_4_code (1 : Nat) (Option.some FieldType.boolean)) ∈ tables_1 := List.mem_of_getElem? (i := 20) rfl
theorem m19 : (Jvm.Cond.static (⟨z1, "hasGap", "(I)Z"⟩ : MethodName)) ∈ tables_1 := List.mem_of_getElem? (i := 19) rfl
theorem m0 : (Jvm.Cond.methodLink z1 (31 : Nat) (⟨z1, "kind", z4⟩ : MethodName)) ∈ tables_1 := List.mem_of_getElem? (i := 0) rfl
theorem d1_0 : decode method_2_code 0 = .ok (.iload_n 0, 1) := by decide +kernel
theorem d1_1 : decode method_2_code 1 = .ok (.ifCond .ne 7, 3) := by decide +kernel
theorem d1_4 : decode method_2_code 4 = .ok (.getstatic 7, 3) := by decide +kernel
theorem m4 : (Jvm.Cond.fieldLink z1 (7 : Nat) z0 "RECORD" z3) ∈ tables_1 := List.mem_of_getElem? (i := 4) rfl
theorem d1_7 : decode method_2_code 7 = .ok (.areturn, 1) := by decide +kernel
theorem m3 : (Jvm.Cond.code (⟨z1, "kind", z4⟩ : MethodName) method_2_code (1 : Nat) (Option.some (FieldType.object z0))) ∈ tables_1 := List.mem_of_getElem? (i := 3) rfl
theorem pd31 : parseMethodDescriptor z4 = some ⟨[.int], some (.object z0)⟩ := by decide +kernel
theorem m1 : (Jvm.Cond.static (⟨z1, "kind", z4⟩ : MethodName)) ∈ tables_1 := List.mem_of_getElem? (i := 1) rfl
theorem m9 : (Jvm.Cond.methodLink z1 (35 : Nat) (⟨z0, "covers", z2⟩ : MethodName)) ∈ tables_1 := List.mem_of_getElem? (i := 9) rfl
theorem m12 : (Jvm.Cond.selects z0 (⟨z0, "covers", z2⟩ : MethodName) (⟨z0, "covers", z2⟩ : MethodName)) ∈ tables_1 := List.mem_of_getElem? (i := 12) rfl
theorem d2_0 : decode prog_12_method_7_code 0 = .ok (.aload_n 0, 1) := by decide +kernel
theorem d2_1 : decode prog_12_method_7_code 1 = .ok (.getstatic 13, 3) := by decide +kernel
theorem m14 : (Jvm.Cond.fieldLink z0 (13 : Nat) z0 "INSERT_INTENTION" z3) ∈ tables_1 := List.mem_of_getElem? (i := 14) rfl
theorem d2_4 : decode prog_12_method_7_code 4 = .ok (.if_acmp .eq 10, 3) := by decide +kernel
theorem d2_7 : decode prog_12_method_7_code 7 = .ok (.aload_n 1, 1) := by decide +kernel
theorem d2_8 : decode prog_12_method_7_code 8 = .ok (.getstatic 13, 3) := by decide +kernel
theorem d2_11 : decode prog_12_method_7_code 11 = .ok (.if_acmp .ne 7, 3) := by decide +kernel
theorem d2_18 : decode prog_12_method_7_code 18 = .ok (.iconst 0, 1) := by decide +kernel
theorem d2_19 : decode prog_12_method_7_code 19 = .ok (.istore_n 2, 1) := by decide +kernel
theorem d2_20 : decode prog_12_method_7_code 20 = .ok (.iload_n 2, 1) := by decide +kernel
theorem d2_21 : decode prog_12_method_7_code 21 = .ok (.ifCond .ne 19, 3) := by decide +kernel
theorem d2_24 : decode prog_12_method_7_code 24 = .ok (.aload_n 0, 1) := by decide +kernel
theorem d2_25 : decode prog_12_method_7_code 25 = .ok (.aload_n 1, 1) := by decide +kernel
theorem d2_26 : decode prog_12_method_7_code 26 = .ok (.if_acmp .eq 10, 3) := by decide +kernel
theorem d2_36 : decode prog_12_method_7_code 36 = .ok (.iconst 1, 1) := by decide +kernel
theorem d2_37 : decode prog_12_method_7_code 37 = .ok (.goto 4, 3) := by decide +kernel
theorem d2_41 : decode prog_12_method_7_code 41 = .ok (.ireturn, 1) := by decide +kernel
theorem ef52 (m : MethodId) (x0 : Addr) (x1 : Addr) : entryFrame m #[(.ref x0), (.ref x1)] 3 = mkF m 0 #[.val (.ref x0), .val (.ref x1), .unset] [] := by first | (simp [entryFrame, mkF, argsToLocals, Value.category]; done) | rfl
theorem pn53 : plainName z0 = true := by first | (simp [plainName, overriddenIn]; done) | decide +kernel
theorem m13 : (Jvm.Cond.code (⟨z0, "covers", z2⟩ : MethodName) prog_12_method_7_code (3 : Nat) (Option.some FieldType.boolean)) ∈ tables_1 := List.mem_of_getElem? (i := 13) rfl
theorem m5 : (Jvm.Cond.initialized z0) ∈ tables_1 := List.mem_of_getElem? (i := 5) rfl
theorem pd56 : parseMethodDescriptor z2 = some ⟨[(.object z0)], some .boolean⟩ := by decide +kernel
theorem m10 : (Jvm.Cond.declares (⟨z0, "covers", z2⟩ : MethodName)) ∈ tables_1 := List.mem_of_getElem? (i := 10) rfl
theorem m11 : (Jvm.Cond.instanceMethod (⟨z0, "covers", z2⟩ : MethodName)) ∈ tables_1 := List.mem_of_getElem? (i := 11) rfl
theorem ef59 (m : MethodId) (x0 : Int32) (x1 : Int32) : entryFrame m #[(.int x0), (.int x1)] maxLocals = mkF m 0 #[.val (.int x0), .val (.int x1), .unset, .unset, .unset, .unset, .unset] [] := by first | (simp [entryFrame, mkF, argsToLocals, Value.category, maxLocals]; done) | rfl
theorem d3_4 : decode method_3_code 4 = .ok (.iload_n 0, 1) := by decide +kernel
theorem d3_5 : decode method_3_code 5 = .ok (.iconst 2, 1) := by decide +kernel
theorem d3_6 : decode method_3_code 6 = .ok (.if_icmp .ne 7, 3) := by decide +kernel
theorem d3_13 : decode method_3_code 13 = .ok (.iconst 0, 1) := by decide +kernel
theorem d4_10 : decode method_4_code 10 = .ok (.iconst 1, 1) := by decide +kernel
theorem d4_11 : decode method_4_code 11 = .ok (.goto 4, 3) := by decide +kernel
theorem d1_8 : decode method_2_code 8 = .ok (.iload_n 0, 1) := by decide +kernel
theorem d1_9 : decode method_2_code 9 = .ok (.iconst 1, 1) := by decide +kernel
theorem d1_10 : decode method_2_code 10 = .ok (.if_icmp .ne 7, 3) := by decide +kernel
theorem d1_13 : decode method_2_code 13 = .ok (.getstatic 13, 3) := by decide +kernel
theorem m23 : (Jvm.Cond.fieldLink z1 (13 : Nat) z0 "GAP" z3) ∈ tables_1 := List.mem_of_getElem? (i := 23) rfl
theorem d1_16 : decode method_2_code 16 = .ok (.areturn, 1) := by decide +kernel
theorem d2_29 : decode prog_12_method_7_code 29 = .ok (.aload_n 0, 1) := by decide +kernel
theorem d2_30 : decode prog_12_method_7_code 30 = .ok (.getstatic 10, 3) := by decide +kernel
theorem m25 : (Jvm.Cond.fieldLink z0 (10 : Nat) z0 "NEXT_KEY" z3) ∈ tables_1 := List.mem_of_getElem? (i := 25) rfl
theorem d2_33 : decode prog_12_method_7_code 33 = .ok (.if_acmp .ne 7, 3) := by decide +kernel
theorem d2_40 : decode prog_12_method_7_code 40 = .ok (.iconst 0, 1) := by decide +kernel
theorem d1_17 : decode method_2_code 17 = .ok (.iload_n 0, 1) := by decide +kernel
theorem d1_18 : decode method_2_code 18 = .ok (.iconst 2, 1) := by decide +kernel
theorem d1_19 : decode method_2_code 19 = .ok (.if_icmp .ne 7, 3) := by decide +kernel
theorem d1_22 : decode method_2_code 22 = .ok (.getstatic 16, 3) := by decide +kernel
theorem m21 : (Jvm.Cond.fieldLink z1 (16 : Nat) z0 "NEXT_KEY" z3) ∈ tables_1 := List.mem_of_getElem? (i := 21) rfl
theorem d1_25 : decode method_2_code 25 = .ok (.areturn, 1) := by decide +kernel
theorem d1_26 : decode method_2_code 26 = .ok (.getstatic 19, 3) := by decide +kernel
theorem m7 : (Jvm.Cond.fieldLink z1 (19 : Nat) z0 "INSERT_INTENTION" z3) ∈ tables_1 := List.mem_of_getElem? (i := 7) rfl
theorem d1_29 : decode method_2_code 29 = .ok (.areturn, 1) := by decide +kernel
theorem d2_14 : decode prog_12_method_7_code 14 = .ok (.iconst 1, 1) := by decide +kernel
theorem d2_15 : decode prog_12_method_7_code 15 = .ok (.goto 4, 3) := by decide +kernel
theorem m24 : (Jvm.Cond.laysStatic z0 "GAP" z3) ∈ tables_1 := List.mem_of_getElem? (i := 24) rfl
theorem m8 : (Jvm.Cond.laysStatic z0 "INSERT_INTENTION" z3) ∈ tables_1 := List.mem_of_getElem? (i := 8) rfl
theorem m22 : (Jvm.Cond.laysStatic z0 "NEXT_KEY" z3) ∈ tables_1 := List.mem_of_getElem? (i := 22) rfl
theorem m6 : (Jvm.Cond.laysStatic z0 "RECORD" z3) ∈ tables_1 := List.mem_of_getElem? (i := 6) rfl
def Qrm1 (Z : State) (w0 : Addr) (w1 : Addr) (w2 : Addr) (w3 : Addr) (h0 : Heap) (n0 : Nat) (v : Option Value) (h : Heap) (L : List Loc) : Prop := v = some (.int (1 : Int32)) ∧ Fr n0 L ∧ h = h0
set_option maxRecDepth 65536 in
set_option maxHeartbeats 40000000 in
theorem rm1 (l : Launch) (Z : State) (a0 : Array Value) (hw : ∀ d ∈ tables_1, d.before a0 Z = true) (w0 : Addr) (w1 : Addr) (w2 : Addr) (w3 : Addr) (hS : SF Z w0 w1 w2 w3) (ws : List Jvm.Cond) (h0 : Heap) (n0 : Nat) (O0 : Old Z n0 h0) :
    MetFree l (⟨z1, "hasRecord", "(I)Z"⟩ : MethodName) (head1 (Jvm.Cond.code (⟨z1, "hasRecord", "(I)Z"⟩ : MethodName) method_3_code 1 (some .boolean) :: ws) ({ frames := 0, cells := 0, slots := 0, locals := 0 } : Room)) (fun a U => a = #[(.int (0 : Int32))] ∧ Z.Warmed39 U.vm ∧ U.heap = h0) (fun _ _ _ _ _ => True) (fun _ U o U' => ∃ v L, o = .returned v ∧ Qrm1 Z w0 w1 w2 w3 h0 n0 v U'.heap L ∧ FrameEnd U o U' L ({ frames := 0, cells := 0, slots := 0, locals := 0 } : Room).cells ({ frames := 0, cells := 0, slots := 0, locals := 0 } : Room).slots) := by
  refine MetFree.of_bodySF (plainFor_of_name pn8) hisR ?_
  intro p e s m args below meth c s₁ Bd hml0 hP hK
  obtain ⟨rfl, hZ, hh⟩ := hP
  have hx := Bd.exec
  have hby := Bd.bytes
  have hml : c.maxLocals = 1 := hml0
  have hown : s.vm.findClass z1 = some m.cls := findClass_of_methodNamed Bd.named
  have hnm := (name_of_methodNamed Bd.named Bd.method).1
  have X0 : Stand p l e ({ frames := 0, cells := 0, slots := 0, locals := 0 } : Room) s m #[(.int (0 : Int32))] below meth c s₁ [] 0 0 := Stand.of_body Bd
  have e0 : s₁.heap = h0 := by rw [← hh, Bd.state]; rfl
  have N0 := Fr.nil n0
  have pre0 : ∀ t, Steps p.tables e below (s₁.setTop (mkF m 0 #[.val (.int (0 : Int32))] [])) t → Steps p.tables e below (s₁.setTop (entryFrame m #[(.int (0 : Int32))] 1)) t := fun t k => castTop (ef7 m (0 : Int32)) k
  obtain ⟨fs, hr, hrun, hended, hW, hsame⟩ := X0.leave (v := some (.int (1 : Int32))) (fun h => by rw [Bd.returns] at h; cases h)
  refine ⟨_, _, pre0 _ ?_, hrun, hended, _, _, rfl, ?_, ⟨_, rfl⟩, hW, hsame.mono (by decide) (by decide)⟩
  · show Steps p.tables e below (s₁.setTop (mkF m 0 #[.val (.int (0 : Int32))] [])) _
    refine XS.iloadN X0.here hx rfl (hb hby d3_0) rfl ?_
    show Steps p.tables e below (s₁.setTop (mkF m 1 #[.val (.int (0 : Int32))] [(.int (0 : Int32))])) _
    refine XS.ifYes X0.here hx rfl (pc0 := 1) (pc' := 9) rfl (hb hby d3_1) rfl ((if0 _ _).trans (teq (by decide : (0 : Int32) = (0 : Int32))).1) (by decide) (by decide) ?_
    show Steps p.tables e below (s₁.setTop (mkF m 9 #[.val (.int (0 : Int32))] [])) _
    refine XS.iconst X0.here hx rfl (hb hby d3_9) ?_
    show Steps p.tables e below (s₁.setTop (mkF m 10 #[.val (.int (0 : Int32))] [(.int (1 : Int32))])) _
    refine XS.goto X0.here hx rfl (pc0 := 10) (pc' := 14) rfl (hb hby d3_10) (by decide) (by decide) ?_
    show Steps p.tables e below (s₁.setTop (mkF m 14 #[.val (.int (0 : Int32))] [(.int (1 : Int32))])) _
    exact retN X0 hx (t := .boolean) Bd.returns (by simp) (hb hby d3_14) hr
  · show Qrm1 Z w0 w1 w2 w3 h0 n0 _ s₁.heap _
    rw [e0]
    exact ⟨rfl, N0, rfl⟩
def Qrm2 (Z : State) (w0 : Addr) (w1 : Addr) (w2 : Addr) (w3 : Addr) (h0 : Heap) (n0 : Nat) (v : Option Value) (h : Heap) (L : List Loc) : Prop := v = some (.int (0 : Int32)) ∧ Fr n0 L ∧ h = h0
set_option maxRecDepth 65536 in
set_option maxHeartbeats 40000000 in
theorem rm2 (l : Launch) (Z : State) (a0 : Array Value) (hw : ∀ d ∈ tables_1, d.before a0 Z = true) (w0 : Addr) (w1 : Addr) (w2 : Addr) (w3 : Addr) (hS : SF Z w0 w1 w2 w3) (ws : List Jvm.Cond) (h0 : Heap) (n0 : Nat) (O0 : Old Z n0 h0) :
    MetFree l (⟨z1, "hasGap", "(I)Z"⟩ : MethodName) (head1 (Jvm.Cond.code (⟨z1, "hasGap", "(I)Z"⟩ : MethodName) method_4_code 1 (some .boolean) :: ws) ({ frames := 0, cells := 0, slots := 0, locals := 0 } : Room)) (fun a U => a = #[(.int (0 : Int32))] ∧ Z.Warmed39 U.vm ∧ U.heap = h0) (fun _ _ _ _ _ => True) (fun _ U o U' => ∃ v L, o = .returned v ∧ Qrm2 Z w0 w1 w2 w3 h0 n0 v U'.heap L ∧ FrameEnd U o U' L ({ frames := 0, cells := 0, slots := 0, locals := 0 } : Room).cells ({ frames := 0, cells := 0, slots := 0, locals := 0 } : Room).slots) := by
  refine MetFree.of_bodySF (plainFor_of_name pn8) hisR ?_
  intro p e s m args below meth c s₁ Bd hml0 hP hK
  obtain ⟨rfl, hZ, hh⟩ := hP
  have hx := Bd.exec
  have hby := Bd.bytes
  have hml : c.maxLocals = 1 := hml0
  have hown : s.vm.findClass z1 = some m.cls := findClass_of_methodNamed Bd.named
  have hnm := (name_of_methodNamed Bd.named Bd.method).1
  have X0 : Stand p l e ({ frames := 0, cells := 0, slots := 0, locals := 0 } : Room) s m #[(.int (0 : Int32))] below meth c s₁ [] 0 0 := Stand.of_body Bd
  have e0 : s₁.heap = h0 := by rw [← hh, Bd.state]; rfl
  have N0 := Fr.nil n0
  have pre0 : ∀ t, Steps p.tables e below (s₁.setTop (mkF m 0 #[.val (.int (0 : Int32))] [])) t → Steps p.tables e below (s₁.setTop (entryFrame m #[(.int (0 : Int32))] 1)) t := fun t k => castTop (ef7 m (0 : Int32)) k
  obtain ⟨fs, hr, hrun, hended, hW, hsame⟩ := X0.leave (v := some (.int (0 : Int32))) (fun h => by rw [Bd.returns] at h; cases h)
  refine ⟨_, _, pre0 _ ?_, hrun, hended, _, _, rfl, ?_, ⟨_, rfl⟩, hW, hsame.mono (by decide) (by decide)⟩
  · show Steps p.tables e below (s₁.setTop (mkF m 0 #[.val (.int (0 : Int32))] [])) _
    refine XS.iloadN X0.here hx rfl (hb hby d4_0) rfl ?_
    show Steps p.tables e below (s₁.setTop (mkF m 1 #[.val (.int (0 : Int32))] [(.int (0 : Int32))])) _
    refine XS.iconst X0.here hx rfl (hb hby d4_1) ?_
    show Steps p.tables e below (s₁.setTop (mkF m 2 #[.val (.int (0 : Int32))] [(.int (1 : Int32)), (.int (0 : Int32))])) _
    refine XS.icmpNo X0.here hx rfl (hb hby d4_2) rfl (feq (by decide : ¬ ((0 : Int32) = (1 : Int32)))).1 ?_
    show Steps p.tables e below (s₁.setTop (mkF m 5 #[.val (.int (0 : Int32))] [])) _
    refine XS.iloadN X0.here hx rfl (hb hby d4_5) rfl ?_
    show Steps p.tables e below (s₁.setTop (mkF m 6 #[.val (.int (0 : Int32))] [(.int (0 : Int32))])) _
    refine XS.iconst X0.here hx rfl (hb hby d4_6) ?_
    show Steps p.tables e below (s₁.setTop (mkF m 7 #[.val (.int (0 : Int32))] [(.int (2 : Int32)), (.int (0 : Int32))])) _
    refine XS.icmpYes X0.here hx rfl (pc0 := 7) (pc' := 14) rfl (hb hby d4_7) rfl (feq (by decide : ¬ ((0 : Int32) = (2 : Int32)))).2 (by decide) (by decide) ?_
    show Steps p.tables e below (s₁.setTop (mkF m 14 #[.val (.int (0 : Int32))] [])) _
    refine XS.iconst X0.here hx rfl (hb hby d4_14) ?_
    show Steps p.tables e below (s₁.setTop (mkF m 15 #[.val (.int (0 : Int32))] [(.int (0 : Int32))])) _
    exact retN X0 hx (t := .boolean) Bd.returns (by simp) (hb hby d4_15) hr
  · show Qrm2 Z w0 w1 w2 w3 h0 n0 _ s₁.heap _
    rw [e0]
    exact ⟨rfl, N0, rfl⟩
def Qrm3 (Z : State) (w0 : Addr) (w1 : Addr) (w2 : Addr) (w3 : Addr) (h0 : Heap) (n0 : Nat) (v : Option Value) (h : Heap) (L : List Loc) : Prop := v = some (.ref w3) ∧ Fr n0 L ∧ h = h0
set_option maxRecDepth 65536 in
set_option maxHeartbeats 40000000 in
theorem rm3 (l : Launch) (Z : State) (a0 : Array Value) (hw : ∀ d ∈ tables_1, d.before a0 Z = true) (w0 : Addr) (w1 : Addr) (w2 : Addr) (w3 : Addr) (hS : SF Z w0 w1 w2 w3) (ws : List Jvm.Cond) (h0 : Heap) (n0 : Nat) (O0 : Old Z n0 h0) :
    MetFree l (⟨z1, "kind", z4⟩ : MethodName) (head1 (Jvm.Cond.code (⟨z1, "kind", z4⟩ : MethodName) method_2_code 1 (some (.object z0)) :: ws) ({ frames := 0, cells := 0, slots := 0, locals := 0 } : Room)) (fun a U => a = #[(.int (0 : Int32))] ∧ Z.Warmed39 U.vm ∧ U.heap = h0) (fun _ _ _ _ _ => True) (fun _ U o U' => ∃ v L, o = .returned v ∧ Qrm3 Z w0 w1 w2 w3 h0 n0 v U'.heap L ∧ FrameEnd U o U' L ({ frames := 0, cells := 0, slots := 0, locals := 0 } : Room).cells ({ frames := 0, cells := 0, slots := 0, locals := 0 } : Room).slots) := by
  refine MetFree.of_bodySF (plainFor_of_name pn8) hisR ?_
  intro p e s m args below meth c s₁ Bd hml0 hP hK
  obtain ⟨rfl, hZ, hh⟩ := hP
  have hx := Bd.exec
  have hby := Bd.bytes
  have hml : c.maxLocals = 1 := hml0
  have hown : s.vm.findClass z1 = some m.cls := findClass_of_methodNamed Bd.named
  have hnm := (name_of_methodNamed Bd.named Bd.method).1
  have X0 : Stand p l e ({ frames := 0, cells := 0, slots := 0, locals := 0 } : Room) s m #[(.int (0 : Int32))] below meth c s₁ [] 0 0 := Stand.of_body Bd
  have e0 : s₁.heap = h0 := by rw [← hh, Bd.state]; rfl
  have N0 := Fr.nil n0
  have pre0 : ∀ t, Steps p.tables e below (s₁.setTop (mkF m 0 #[.val (.int (0 : Int32))] [])) t → Steps p.tables e below (s₁.setTop (entryFrame m #[(.int (0 : Int32))] 1)) t := fun t k => castTop (ef7 m (0 : Int32)) k
  obtain ⟨T1, X1, e1, st1⟩ := getS2 X0 hx hZ hown (host := "") (Or.inl (hw _ m4)) Via.refl e0 (hS.2.2.2.2.2.2.2.2.2.1.ext O0.2) (g := (mkF m 4 #[.val (.int (0 : Int32))] [])) rfl (hb hby d1_4)
  obtain ⟨fs, hr, hrun, hended, hW, hsame⟩ := X1.leave (v := some (.ref w3)) (fun h => by rw [Bd.returns] at h; cases h)
  refine ⟨_, _, pre0 _ ?_, hrun, hended, _, _, rfl, ?_, ⟨_, rfl⟩, hW, hsame.mono (by decide) (by decide)⟩
  · show Steps p.tables e below (s₁.setTop (mkF m 0 #[.val (.int (0 : Int32))] [])) _
    refine XS.iloadN X0.here hx rfl (hb hby d1_0) rfl ?_
    show Steps p.tables e below (s₁.setTop (mkF m 1 #[.val (.int (0 : Int32))] [(.int (0 : Int32))])) _
    refine XS.ifNo X0.here hx rfl (hb hby d1_1) rfl ((if0 _ _).trans (teq (by decide : (0 : Int32) = (0 : Int32))).2) ?_
    show Steps p.tables e below (s₁.setTop (mkF m 4 #[.val (.int (0 : Int32))] [])) _
    refine st1 _ ?_
    show Steps p.tables e below (T1.setTop (mkF m 7 #[.val (.int (0 : Int32))] [(.ref w3)])) _
    exact retOut X1 hx Bd.returns rfl (Or.inr (Or.inr (Or.inr (Or.inr ⟨rfl, rfl, rfl⟩)))) (hb hby d1_7) hr
  · show Qrm3 Z w0 w1 w2 w3 h0 n0 _ T1.heap _
    rw [e1]
    exact ⟨rfl, N0, rfl⟩
def Qrm4 (Z : State) (w0 : Addr) (w1 : Addr) (w2 : Addr) (w3 : Addr) (h0 : Heap) (n0 : Nat) (v : Option Value) (h : Heap) (L : List Loc) : Prop := v = some (.int (1 : Int32)) ∧ Fr n0 L ∧ h = h0
set_option maxRecDepth 65536 in
set_option maxHeartbeats 40000000 in
theorem rm4 (l : Launch) (Z : State) (a0 : Array Value) (hw : ∀ d ∈ tables_1, d.before a0 Z = true) (w0 : Addr) (w1 : Addr) (w2 : Addr) (w3 : Addr) (hS : SF Z w0 w1 w2 w3) (ws : List Jvm.Cond) (h0 : Heap) (n0 : Nat) (O0 : Old Z n0 h0) :
    MetFree l (⟨z0, "covers", z2⟩ : MethodName) (head1 (Jvm.Cond.code (⟨z0, "covers", z2⟩ : MethodName) prog_12_method_7_code 3 (some .boolean) :: ws) ({ frames := 0, cells := 0, slots := 0, locals := 0 } : Room)) (fun a U => a = #[(.ref w3), (.ref w3)] ∧ Z.Warmed39 U.vm ∧ U.heap = h0) (fun _ _ _ _ _ => True) (fun _ U o U' => ∃ v L, o = .returned v ∧ Qrm4 Z w0 w1 w2 w3 h0 n0 v U'.heap L ∧ FrameEnd U o U' L ({ frames := 0, cells := 0, slots := 0, locals := 0 } : Room).cells ({ frames := 0, cells := 0, slots := 0, locals := 0 } : Room).slots) := by
  refine MetFree.of_bodySF (plainFor_of_name pn53) hisR ?_
  intro p e s m args below meth c s₁ Bd hml0 hP hK
  obtain ⟨rfl, hZ, hh⟩ := hP
  have hx := Bd.exec
  have hby := Bd.bytes
  have hml : c.maxLocals = 3 := hml0
  have hown : s.vm.findClass z0 = some m.cls := findClass_of_methodNamed Bd.named
  have hnm := (name_of_methodNamed Bd.named Bd.method).1
  have X0 : Stand p l e ({ frames := 0, cells := 0, slots := 0, locals := 0 } : Room) s m #[(.ref w3), (.ref w3)] below meth c s₁ [] 0 0 := Stand.of_body Bd
  have e0 : s₁.heap = h0 := by rw [← hh, Bd.state]; rfl
  have N0 := Fr.nil n0
  have pre0 : ∀ t, Steps p.tables e below (s₁.setTop (mkF m 0 #[.val (.ref w3), .val (.ref w3), .unset] [])) t → Steps p.tables e below (s₁.setTop (entryFrame m #[(.ref w3), (.ref w3)] 3)) t := fun t k => castTop (ef52 m w3 w3) k
  obtain ⟨T1, X1, e1, st1⟩ := getS2 X0 hx hZ hown (host := "") (Or.inl (hw _ m14)) Via.refl e0 (hS.2.2.2.1.ext O0.2) (g := (mkF m 1 #[.val (.ref w3), .val (.ref w3), .unset] [(.ref w3)])) rfl (hb hby d2_1)
  have ne2 : w3 ≠ w1 := (Fld.ne hS.2.2.2.2.2.2.2.2.2.2.2 hS.2.2.2.2.2.1 (fun q => absurd (Value.int.inj q) (by decide)))
  obtain ⟨T3, X3, e3, st3⟩ := getS2 X1 hx hZ hown (host := "") (Or.inl (hw _ m14)) Via.refl e1 (hS.2.2.2.1.ext O0.2) (g := (mkF m 8 #[.val (.ref w3), .val (.ref w3), .unset] [(.ref w3)])) rfl (hb hby d2_8)
  obtain ⟨fs, hr, hrun, hended, hW, hsame⟩ := X3.leave (v := some (.int (1 : Int32))) (fun h => by rw [Bd.returns] at h; cases h)
  refine ⟨_, _, pre0 _ ?_, hrun, hended, _, _, rfl, ?_, ⟨_, rfl⟩, hW, hsame.mono (by decide) (by decide)⟩
  · show Steps p.tables e below (s₁.setTop (mkF m 0 #[.val (.ref w3), .val (.ref w3), .unset] [])) _
    refine XS.aloadN X0.here hx rfl (hb hby d2_0) rfl rfl ?_
    show Steps p.tables e below (s₁.setTop (mkF m 1 #[.val (.ref w3), .val (.ref w3), .unset] [(.ref w3)])) _
    refine st1 _ ?_
    show Steps p.tables e below (T1.setTop (mkF m 4 #[.val (.ref w3), .val (.ref w3), .unset] [(.ref w1), (.ref w3)])) _
    refine Jvm.RoadKit.acmp (g := (mkF m 4 #[.val (.ref w3), .val (.ref w3), .unset] [(.ref w1), (.ref w3)])) X1 hx rfl rfl rfl (pc0 := 4) (pc' := 7) (same := false) rfl (hb hby d2_4) rfl (decide_eq_false fun q => ne2 (Value.ref.inj q)) (by decide) (by decide) ?_
    show Steps p.tables e below (T1.setTop (mkF m 7 #[.val (.ref w3), .val (.ref w3), .unset] [])) _
    refine XS.aloadN X1.here hx rfl (hb hby d2_7) rfl rfl ?_
    show Steps p.tables e below (T1.setTop (mkF m 8 #[.val (.ref w3), .val (.ref w3), .unset] [(.ref w3)])) _
    refine st3 _ ?_
    show Steps p.tables e below (T3.setTop (mkF m 11 #[.val (.ref w3), .val (.ref w3), .unset] [(.ref w1), (.ref w3)])) _
    refine Jvm.RoadKit.acmp (g := (mkF m 11 #[.val (.ref w3), .val (.ref w3), .unset] [(.ref w1), (.ref w3)])) X3 hx rfl rfl rfl (pc0 := 11) (pc' := 18) (same := false) rfl (hb hby d2_11) rfl (decide_eq_false fun q => ne2 (Value.ref.inj q)) (by decide) (by decide) ?_
    show Steps p.tables e below (T3.setTop (mkF m 18 #[.val (.ref w3), .val (.ref w3), .unset] [])) _
    refine XS.iconst X3.here hx rfl (hb hby d2_18) ?_
    show Steps p.tables e below (T3.setTop (mkF m 19 #[.val (.ref w3), .val (.ref w3), .unset] [(.int (0 : Int32))])) _
    refine XS.istoreN X3.here hx rfl (hb hby d2_19) rfl (l' := #[.val (.ref w3), .val (.ref w3), .val (.int (0 : Int32))]) rfl ?_
    show Steps p.tables e below (T3.setTop (mkF m 20 #[.val (.ref w3), .val (.ref w3), .val (.int (0 : Int32))] [])) _
    refine XS.iloadN X3.here hx rfl (hb hby d2_20) rfl ?_
    show Steps p.tables e below (T3.setTop (mkF m 21 #[.val (.ref w3), .val (.ref w3), .val (.int (0 : Int32))] [(.int (0 : Int32))])) _
    refine XS.ifNo X3.here hx rfl (hb hby d2_21) rfl ((if0 _ _).trans (teq (by decide : (0 : Int32) = (0 : Int32))).2) ?_
    show Steps p.tables e below (T3.setTop (mkF m 24 #[.val (.ref w3), .val (.ref w3), .val (.int (0 : Int32))] [])) _
    refine XS.aloadN X3.here hx rfl (hb hby d2_24) rfl rfl ?_
    show Steps p.tables e below (T3.setTop (mkF m 25 #[.val (.ref w3), .val (.ref w3), .val (.int (0 : Int32))] [(.ref w3)])) _
    refine XS.aloadN X3.here hx rfl (hb hby d2_25) rfl rfl ?_
    show Steps p.tables e below (T3.setTop (mkF m 26 #[.val (.ref w3), .val (.ref w3), .val (.int (0 : Int32))] [(.ref w3), (.ref w3)])) _
    refine Jvm.RoadKit.acmp (g := (mkF m 26 #[.val (.ref w3), .val (.ref w3), .val (.int (0 : Int32))] [(.ref w3), (.ref w3)])) X3 hx rfl rfl rfl (pc0 := 26) (pc' := 36) (same := true) rfl (hb hby d2_26) rfl (decide_eq_true rfl) (by decide) (by decide) ?_
    show Steps p.tables e below (T3.setTop (mkF m 36 #[.val (.ref w3), .val (.ref w3), .val (.int (0 : Int32))] [])) _
    refine XS.iconst X3.here hx rfl (hb hby d2_36) ?_
    show Steps p.tables e below (T3.setTop (mkF m 37 #[.val (.ref w3), .val (.ref w3), .val (.int (0 : Int32))] [(.int (1 : Int32))])) _
    refine XS.goto X3.here hx rfl (pc0 := 37) (pc' := 41) rfl (hb hby d2_37) (by decide) (by decide) ?_
    show Steps p.tables e below (T3.setTop (mkF m 41 #[.val (.ref w3), .val (.ref w3), .val (.int (0 : Int32))] [(.int (1 : Int32))])) _
    exact retN X3 hx (t := .boolean) Bd.returns (by simp) (hb hby d2_41) hr
  · show Qrm4 Z w0 w1 w2 w3 h0 n0 _ T3.heap _
    rw [e3]
    exact ⟨rfl, N0, rfl⟩
def Qrm5 (Z : State) (w0 : Addr) (w1 : Addr) (w2 : Addr) (w3 : Addr) (h0 : Heap) (n0 : Nat) (v : Option Value) (h : Heap) (L : List Loc) : Prop := v = some (.int (0 : Int32)) ∧ Fr n0 L ∧ h = h0
set_option maxRecDepth 65536 in
set_option maxHeartbeats 40000000 in
theorem rm5 (l : Launch) (Z : State) (a0 : Array Value) (hw : ∀ d ∈ tables_1, d.before a0 Z = true) (w0 : Addr) (w1 : Addr) (w2 : Addr) (w3 : Addr) (hS : SF Z w0 w1 w2 w3) (ws : List Jvm.Cond) (h0 : Heap) (n0 : Nat) (O0 : Old Z n0 h0) :
    MetFree l (⟨z1, "hasRecord", "(I)Z"⟩ : MethodName) (head1 (Jvm.Cond.code (⟨z1, "hasRecord", "(I)Z"⟩ : MethodName) method_3_code 1 (some .boolean) :: ws) ({ frames := 0, cells := 0, slots := 0, locals := 0 } : Room)) (fun a U => a = #[(.int (1 : Int32))] ∧ Z.Warmed39 U.vm ∧ U.heap = h0) (fun _ _ _ _ _ => True) (fun _ U o U' => ∃ v L, o = .returned v ∧ Qrm5 Z w0 w1 w2 w3 h0 n0 v U'.heap L ∧ FrameEnd U o U' L ({ frames := 0, cells := 0, slots := 0, locals := 0 } : Room).cells ({ frames := 0, cells := 0, slots := 0, locals := 0 } : Room).slots) := by
  refine MetFree.of_bodySF (plainFor_of_name pn8) hisR ?_
  intro p e s m args below meth c s₁ Bd hml0 hP hK
  obtain ⟨rfl, hZ, hh⟩ := hP
  have hx := Bd.exec
  have hby := Bd.bytes
  have hml : c.maxLocals = 1 := hml0
  have hown : s.vm.findClass z1 = some m.cls := findClass_of_methodNamed Bd.named
  have hnm := (name_of_methodNamed Bd.named Bd.method).1
  have X0 : Stand p l e ({ frames := 0, cells := 0, slots := 0, locals := 0 } : Room) s m #[(.int (1 : Int32))] below meth c s₁ [] 0 0 := Stand.of_body Bd
  have e0 : s₁.heap = h0 := by rw [← hh, Bd.state]; rfl
  have N0 := Fr.nil n0
  have pre0 : ∀ t, Steps p.tables e below (s₁.setTop (mkF m 0 #[.val (.int (1 : Int32))] [])) t → Steps p.tables e below (s₁.setTop (entryFrame m #[(.int (1 : Int32))] 1)) t := fun t k => castTop (ef7 m (1 : Int32)) k
  obtain ⟨fs, hr, hrun, hended, hW, hsame⟩ := X0.leave (v := some (.int (0 : Int32))) (fun h => by rw [Bd.returns] at h; cases h)
  refine ⟨_, _, pre0 _ ?_, hrun, hended, _, _, rfl, ?_, ⟨_, rfl⟩, hW, hsame.mono (by decide) (by decide)⟩
  · show Steps p.tables e below (s₁.setTop (mkF m 0 #[.val (.int (1 : Int32))] [])) _
    refine XS.iloadN X0.here hx rfl (hb hby d3_0) rfl ?_
    show Steps p.tables e below (s₁.setTop (mkF m 1 #[.val (.int (1 : Int32))] [(.int (1 : Int32))])) _
    refine XS.ifNo X0.here hx rfl (hb hby d3_1) rfl ((if0 _ _).trans (feq (by decide : ¬ ((1 : Int32) = (0 : Int32)))).1) ?_
    show Steps p.tables e below (s₁.setTop (mkF m 4 #[.val (.int (1 : Int32))] [])) _
    refine XS.iloadN X0.here hx rfl (hb hby d3_4) rfl ?_
    show Steps p.tables e below (s₁.setTop (mkF m 5 #[.val (.int (1 : Int32))] [(.int (1 : Int32))])) _
    refine XS.iconst X0.here hx rfl (hb hby d3_5) ?_
    show Steps p.tables e below (s₁.setTop (mkF m 6 #[.val (.int (1 : Int32))] [(.int (2 : Int32)), (.int (1 : Int32))])) _
    refine XS.icmpYes X0.here hx rfl (pc0 := 6) (pc' := 13) rfl (hb hby d3_6) rfl (feq (by decide : ¬ ((1 : Int32) = (2 : Int32)))).2 (by decide) (by decide) ?_
    show Steps p.tables e below (s₁.setTop (mkF m 13 #[.val (.int (1 : Int32))] [])) _
    refine XS.iconst X0.here hx rfl (hb hby d3_13) ?_
    show Steps p.tables e below (s₁.setTop (mkF m 14 #[.val (.int (1 : Int32))] [(.int (0 : Int32))])) _
    exact retN X0 hx (t := .boolean) Bd.returns (by simp) (hb hby d3_14) hr
  · show Qrm5 Z w0 w1 w2 w3 h0 n0 _ s₁.heap _
    rw [e0]
    exact ⟨rfl, N0, rfl⟩
def Qrm6 (Z : State) (w0 : Addr) (w1 : Addr) (w2 : Addr) (w3 : Addr) (h0 : Heap) (n0 : Nat) (v : Option Value) (h : Heap) (L : List Loc) : Prop := v = some (.int (1 : Int32)) ∧ Fr n0 L ∧ h = h0
set_option maxRecDepth 65536 in
set_option maxHeartbeats 40000000 in
theorem rm6 (l : Launch) (Z : State) (a0 : Array Value) (hw : ∀ d ∈ tables_1, d.before a0 Z = true) (w0 : Addr) (w1 : Addr) (w2 : Addr) (w3 : Addr) (hS : SF Z w0 w1 w2 w3) (ws : List Jvm.Cond) (h0 : Heap) (n0 : Nat) (O0 : Old Z n0 h0) :
    MetFree l (⟨z1, "hasGap", "(I)Z"⟩ : MethodName) (head1 (Jvm.Cond.code (⟨z1, "hasGap", "(I)Z"⟩ : MethodName) method_4_code 1 (some .boolean) :: ws) ({ frames := 0, cells := 0, slots := 0, locals := 0 } : Room)) (fun a U => a = #[(.int (1 : Int32))] ∧ Z.Warmed39 U.vm ∧ U.heap = h0) (fun _ _ _ _ _ => True) (fun _ U o U' => ∃ v L, o = .returned v ∧ Qrm6 Z w0 w1 w2 w3 h0 n0 v U'.heap L ∧ FrameEnd U o U' L ({ frames := 0, cells := 0, slots := 0, locals := 0 } : Room).cells ({ frames := 0, cells := 0, slots := 0, locals := 0 } : Room).slots) := by
  refine MetFree.of_bodySF (plainFor_of_name pn8) hisR ?_
  intro p e s m args below meth c s₁ Bd hml0 hP hK
  obtain ⟨rfl, hZ, hh⟩ := hP
  have hx := Bd.exec
  have hby := Bd.bytes
  have hml : c.maxLocals = 1 := hml0
  have hown : s.vm.findClass z1 = some m.cls := findClass_of_methodNamed Bd.named
  have hnm := (name_of_methodNamed Bd.named Bd.method).1
  have X0 : Stand p l e ({ frames := 0, cells := 0, slots := 0, locals := 0 } : Room) s m #[(.int (1 : Int32))] below meth c s₁ [] 0 0 := Stand.of_body Bd
  have e0 : s₁.heap = h0 := by rw [← hh, Bd.state]; rfl
  have N0 := Fr.nil n0
  have pre0 : ∀ t, Steps p.tables e below (s₁.setTop (mkF m 0 #[.val (.int (1 : Int32))] [])) t → Steps p.tables e below (s₁.setTop (entryFrame m #[(.int (1 : Int32))] 1)) t := fun t k => castTop (ef7 m (1 : Int32)) k
  obtain ⟨fs, hr, hrun, hended, hW, hsame⟩ := X0.leave (v := some (.int (1 : Int32))) (fun h => by rw [Bd.returns] at h; cases h)
  refine ⟨_, _, pre0 _ ?_, hrun, hended, _, _, rfl, ?_, ⟨_, rfl⟩, hW, hsame.mono (by decide) (by decide)⟩
  · show Steps p.tables e below (s₁.setTop (mkF m 0 #[.val (.int (1 : Int32))] [])) _
    refine XS.iloadN X0.here hx rfl (hb hby d4_0) rfl ?_
    show Steps p.tables e below (s₁.setTop (mkF m 1 #[.val (.int (1 : Int32))] [(.int (1 : Int32))])) _
    refine XS.iconst X0.here hx rfl (hb hby d4_1) ?_
    show Steps p.tables e below (s₁.setTop (mkF m 2 #[.val (.int (1 : Int32))] [(.int (1 : Int32)), (.int (1 : Int32))])) _
    refine XS.icmpYes X0.here hx rfl (pc0 := 2) (pc' := 10) rfl (hb hby d4_2) rfl (teq (by decide : (1 : Int32) = (1 : Int32))).1 (by decide) (by decide) ?_
    show Steps p.tables e below (s₁.setTop (mkF m 10 #[.val (.int (1 : Int32))] [])) _
    refine XS.iconst X0.here hx rfl (hb hby d4_10) ?_
    show Steps p.tables e below (s₁.setTop (mkF m 11 #[.val (.int (1 : Int32))] [(.int (1 : Int32))])) _
    refine XS.goto X0.here hx rfl (pc0 := 11) (pc' := 15) rfl (hb hby d4_11) (by decide) (by decide) ?_
    show Steps p.tables e below (s₁.setTop (mkF m 15 #[.val (.int (1 : Int32))] [(.int (1 : Int32))])) _
    exact retN X0 hx (t := .boolean) Bd.returns (by simp) (hb hby d4_15) hr
  · show Qrm6 Z w0 w1 w2 w3 h0 n0 _ s₁.heap _
    rw [e0]
    exact ⟨rfl, N0, rfl⟩
def Qrm7 (Z : State) (w0 : Addr) (w1 : Addr) (w2 : Addr) (w3 : Addr) (h0 : Heap) (n0 : Nat) (v : Option Value) (h : Heap) (L : List Loc) : Prop := v = some (.ref w0) ∧ Fr n0 L ∧ h = h0
set_option maxRecDepth 65536 in
set_option maxHeartbeats 40000000 in
theorem rm7 (l : Launch) (Z : State) (a0 : Array Value) (hw : ∀ d ∈ tables_1, d.before a0 Z = true) (w0 : Addr) (w1 : Addr) (w2 : Addr) (w3 : Addr) (hS : SF Z w0 w1 w2 w3) (ws : List Jvm.Cond) (h0 : Heap) (n0 : Nat) (O0 : Old Z n0 h0) :
    MetFree l (⟨z1, "kind", z4⟩ : MethodName) (head1 (Jvm.Cond.code (⟨z1, "kind", z4⟩ : MethodName) method_2_code 1 (some (.object z0)) :: ws) ({ frames := 0, cells := 0, slots := 0, locals := 0 } : Room)) (fun a U => a = #[(.int (1 : Int32))] ∧ Z.Warmed39 U.vm ∧ U.heap = h0) (fun _ _ _ _ _ => True) (fun _ U o U' => ∃ v L, o = .returned v ∧ Qrm7 Z w0 w1 w2 w3 h0 n0 v U'.heap L ∧ FrameEnd U o U' L ({ frames := 0, cells := 0, slots := 0, locals := 0 } : Room).cells ({ frames := 0, cells := 0, slots := 0, locals := 0 } : Room).slots) := by
  refine MetFree.of_bodySF (plainFor_of_name pn8) hisR ?_
  intro p e s m args below meth c s₁ Bd hml0 hP hK
  obtain ⟨rfl, hZ, hh⟩ := hP
  have hx := Bd.exec
  have hby := Bd.bytes
  have hml : c.maxLocals = 1 := hml0
  have hown : s.vm.findClass z1 = some m.cls := findClass_of_methodNamed Bd.named
  have hnm := (name_of_methodNamed Bd.named Bd.method).1
  have X0 : Stand p l e ({ frames := 0, cells := 0, slots := 0, locals := 0 } : Room) s m #[(.int (1 : Int32))] below meth c s₁ [] 0 0 := Stand.of_body Bd
  have e0 : s₁.heap = h0 := by rw [← hh, Bd.state]; rfl
  have N0 := Fr.nil n0
  have pre0 : ∀ t, Steps p.tables e below (s₁.setTop (mkF m 0 #[.val (.int (1 : Int32))] [])) t → Steps p.tables e below (s₁.setTop (entryFrame m #[(.int (1 : Int32))] 1)) t := fun t k => castTop (ef7 m (1 : Int32)) k
  obtain ⟨T1, X1, e1, st1⟩ := getS2 X0 hx hZ hown (host := "") (Or.inl (hw _ m23)) Via.refl e0 (hS.1.ext O0.2) (g := (mkF m 13 #[.val (.int (1 : Int32))] [])) rfl (hb hby d1_13)
  obtain ⟨fs, hr, hrun, hended, hW, hsame⟩ := X1.leave (v := some (.ref w0)) (fun h => by rw [Bd.returns] at h; cases h)
  refine ⟨_, _, pre0 _ ?_, hrun, hended, _, _, rfl, ?_, ⟨_, rfl⟩, hW, hsame.mono (by decide) (by decide)⟩
  · show Steps p.tables e below (s₁.setTop (mkF m 0 #[.val (.int (1 : Int32))] [])) _
    refine XS.iloadN X0.here hx rfl (hb hby d1_0) rfl ?_
    show Steps p.tables e below (s₁.setTop (mkF m 1 #[.val (.int (1 : Int32))] [(.int (1 : Int32))])) _
    refine XS.ifYes X0.here hx rfl (pc0 := 1) (pc' := 8) rfl (hb hby d1_1) rfl ((if0 _ _).trans (feq (by decide : ¬ ((1 : Int32) = (0 : Int32)))).2) (by decide) (by decide) ?_
    show Steps p.tables e below (s₁.setTop (mkF m 8 #[.val (.int (1 : Int32))] [])) _
    refine XS.iloadN X0.here hx rfl (hb hby d1_8) rfl ?_
    show Steps p.tables e below (s₁.setTop (mkF m 9 #[.val (.int (1 : Int32))] [(.int (1 : Int32))])) _
    refine XS.iconst X0.here hx rfl (hb hby d1_9) ?_
    show Steps p.tables e below (s₁.setTop (mkF m 10 #[.val (.int (1 : Int32))] [(.int (1 : Int32)), (.int (1 : Int32))])) _
    refine XS.icmpNo X0.here hx rfl (hb hby d1_10) rfl (teq (by decide : (1 : Int32) = (1 : Int32))).2 ?_
    show Steps p.tables e below (s₁.setTop (mkF m 13 #[.val (.int (1 : Int32))] [])) _
    refine st1 _ ?_
    show Steps p.tables e below (T1.setTop (mkF m 16 #[.val (.int (1 : Int32))] [(.ref w0)])) _
    exact retOut X1 hx Bd.returns rfl (Or.inr (Or.inr (Or.inr (Or.inr ⟨rfl, rfl, rfl⟩)))) (hb hby d1_16) hr
  · show Qrm7 Z w0 w1 w2 w3 h0 n0 _ T1.heap _
    rw [e1]
    exact ⟨rfl, N0, rfl⟩
def Qrm8 (Z : State) (w0 : Addr) (w1 : Addr) (w2 : Addr) (w3 : Addr) (h0 : Heap) (n0 : Nat) (v : Option Value) (h : Heap) (L : List Loc) : Prop := v = some (.int (0 : Int32)) ∧ Fr n0 L ∧ h = h0
set_option maxRecDepth 65536 in
set_option maxHeartbeats 40000000 in
theorem rm8 (l : Launch) (Z : State) (a0 : Array Value) (hw : ∀ d ∈ tables_1, d.before a0 Z = true) (w0 : Addr) (w1 : Addr) (w2 : Addr) (w3 : Addr) (hS : SF Z w0 w1 w2 w3) (ws : List Jvm.Cond) (h0 : Heap) (n0 : Nat) (O0 : Old Z n0 h0) :
    MetFree l (⟨z0, "covers", z2⟩ : MethodName) (head1 (Jvm.Cond.code (⟨z0, "covers", z2⟩ : MethodName) prog_12_method_7_code 3 (some .boolean) :: ws) ({ frames := 0, cells := 0, slots := 0, locals := 0 } : Room)) (fun a U => a = #[(.ref w3), (.ref w0)] ∧ Z.Warmed39 U.vm ∧ U.heap = h0) (fun _ _ _ _ _ => True) (fun _ U o U' => ∃ v L, o = .returned v ∧ Qrm8 Z w0 w1 w2 w3 h0 n0 v U'.heap L ∧ FrameEnd U o U' L ({ frames := 0, cells := 0, slots := 0, locals := 0 } : Room).cells ({ frames := 0, cells := 0, slots := 0, locals := 0 } : Room).slots) := by
  refine MetFree.of_bodySF (plainFor_of_name pn53) hisR ?_
  intro p e s m args below meth c s₁ Bd hml0 hP hK
  obtain ⟨rfl, hZ, hh⟩ := hP
  have hx := Bd.exec
  have hby := Bd.bytes
  have hml : c.maxLocals = 3 := hml0
  have hown : s.vm.findClass z0 = some m.cls := findClass_of_methodNamed Bd.named
  have hnm := (name_of_methodNamed Bd.named Bd.method).1
  have X0 : Stand p l e ({ frames := 0, cells := 0, slots := 0, locals := 0 } : Room) s m #[(.ref w3), (.ref w0)] below meth c s₁ [] 0 0 := Stand.of_body Bd
  have e0 : s₁.heap = h0 := by rw [← hh, Bd.state]; rfl
  have N0 := Fr.nil n0
  have pre0 : ∀ t, Steps p.tables e below (s₁.setTop (mkF m 0 #[.val (.ref w3), .val (.ref w0), .unset] [])) t → Steps p.tables e below (s₁.setTop (entryFrame m #[(.ref w3), (.ref w0)] 3)) t := fun t k => castTop (ef52 m w3 w0) k
  obtain ⟨T1, X1, e1, st1⟩ := getS2 X0 hx hZ hown (host := "") (Or.inl (hw _ m14)) Via.refl e0 (hS.2.2.2.1.ext O0.2) (g := (mkF m 1 #[.val (.ref w3), .val (.ref w0), .unset] [(.ref w3)])) rfl (hb hby d2_1)
  have ne2 : w3 ≠ w1 := (Fld.ne hS.2.2.2.2.2.2.2.2.2.2.2 hS.2.2.2.2.2.1 (fun q => absurd (Value.int.inj q) (by decide)))
  obtain ⟨T3, X3, e3, st3⟩ := getS2 X1 hx hZ hown (host := "") (Or.inl (hw _ m14)) Via.refl e1 (hS.2.2.2.1.ext O0.2) (g := (mkF m 8 #[.val (.ref w3), .val (.ref w0), .unset] [(.ref w0)])) rfl (hb hby d2_8)
  have ne4 : w0 ≠ w1 := (Fld.ne hS.2.2.1 hS.2.2.2.2.2.1 (fun q => absurd (Value.int.inj q) (by decide)))
  have ne5 : w3 ≠ w0 := (Fld.ne hS.2.2.2.2.2.2.2.2.2.2.2 hS.2.2.1 (fun q => absurd (Value.int.inj q) (by decide)))
  obtain ⟨T6, X6, e6, st6⟩ := getS2 X3 hx hZ hown (host := "") (Or.inl (hw _ m25)) Via.refl e3 (hS.2.2.2.2.2.2.1.ext O0.2) (g := (mkF m 30 #[.val (.ref w3), .val (.ref w0), .val (.int (0 : Int32))] [(.ref w3)])) rfl (hb hby d2_30)
  have ne7 : w3 ≠ w2 := (Fld.ne hS.2.2.2.2.2.2.2.2.2.2.2 hS.2.2.2.2.2.2.2.2.1 (fun q => absurd (Value.int.inj q) (by decide)))
  obtain ⟨fs, hr, hrun, hended, hW, hsame⟩ := X6.leave (v := some (.int (0 : Int32))) (fun h => by rw [Bd.returns] at h; cases h)
  refine ⟨_, _, pre0 _ ?_, hrun, hended, _, _, rfl, ?_, ⟨_, rfl⟩, hW, hsame.mono (by decide) (by decide)⟩
  · show Steps p.tables e below (s₁.setTop (mkF m 0 #[.val (.ref w3), .val (.ref w0), .unset] [])) _
    refine XS.aloadN X0.here hx rfl (hb hby d2_0) rfl rfl ?_
    show Steps p.tables e below (s₁.setTop (mkF m 1 #[.val (.ref w3), .val (.ref w0), .unset] [(.ref w3)])) _
    refine st1 _ ?_
    show Steps p.tables e below (T1.setTop (mkF m 4 #[.val (.ref w3), .val (.ref w0), .unset] [(.ref w1), (.ref w3)])) _
    refine Jvm.RoadKit.acmp (g := (mkF m 4 #[.val (.ref w3), .val (.ref w0), .unset] [(.ref w1), (.ref w3)])) X1 hx rfl rfl rfl (pc0 := 4) (pc' := 7) (same := false) rfl (hb hby d2_4) rfl (decide_eq_false fun q => ne2 (Value.ref.inj q)) (by decide) (by decide) ?_
    show Steps p.tables e below (T1.setTop (mkF m 7 #[.val (.ref w3), .val (.ref w0), .unset] [])) _
    refine XS.aloadN X1.here hx rfl (hb hby d2_7) rfl rfl ?_
    show Steps p.tables e below (T1.setTop (mkF m 8 #[.val (.ref w3), .val (.ref w0), .unset] [(.ref w0)])) _
    refine st3 _ ?_
    show Steps p.tables e below (T3.setTop (mkF m 11 #[.val (.ref w3), .val (.ref w0), .unset] [(.ref w1), (.ref w0)])) _
    refine Jvm.RoadKit.acmp (g := (mkF m 11 #[.val (.ref w3), .val (.ref w0), .unset] [(.ref w1), (.ref w0)])) X3 hx rfl rfl rfl (pc0 := 11) (pc' := 18) (same := false) rfl (hb hby d2_11) rfl (decide_eq_false fun q => ne4 (Value.ref.inj q)) (by decide) (by decide) ?_
    show Steps p.tables e below (T3.setTop (mkF m 18 #[.val (.ref w3), .val (.ref w0), .unset] [])) _
    refine XS.iconst X3.here hx rfl (hb hby d2_18) ?_
    show Steps p.tables e below (T3.setTop (mkF m 19 #[.val (.ref w3), .val (.ref w0), .unset] [(.int (0 : Int32))])) _
    refine XS.istoreN X3.here hx rfl (hb hby d2_19) rfl (l' := #[.val (.ref w3), .val (.ref w0), .val (.int (0 : Int32))]) rfl ?_
    show Steps p.tables e below (T3.setTop (mkF m 20 #[.val (.ref w3), .val (.ref w0), .val (.int (0 : Int32))] [])) _
    refine XS.iloadN X3.here hx rfl (hb hby d2_20) rfl ?_
    show Steps p.tables e below (T3.setTop (mkF m 21 #[.val (.ref w3), .val (.ref w0), .val (.int (0 : Int32))] [(.int (0 : Int32))])) _
    refine XS.ifNo X3.here hx rfl (hb hby d2_21) rfl ((if0 _ _).trans (teq (by decide : (0 : Int32) = (0 : Int32))).2) ?_
    show Steps p.tables e below (T3.setTop (mkF m 24 #[.val (.ref w3), .val (.ref w0), .val (.int (0 : Int32))] [])) _
    refine XS.aloadN X3.here hx rfl (hb hby d2_24) rfl rfl ?_
    show Steps p.tables e below (T3.setTop (mkF m 25 #[.val (.ref w3), .val (.ref w0), .val (.int (0 : Int32))] [(.ref w3)])) _
    refine XS.aloadN X3.here hx rfl (hb hby d2_25) rfl rfl ?_
    show Steps p.tables e below (T3.setTop (mkF m 26 #[.val (.ref w3), .val (.ref w0), .val (.int (0 : Int32))] [(.ref w0), (.ref w3)])) _
    refine Jvm.RoadKit.acmp (g := (mkF m 26 #[.val (.ref w3), .val (.ref w0), .val (.int (0 : Int32))] [(.ref w0), (.ref w3)])) X3 hx rfl rfl rfl (pc0 := 26) (pc' := 29) (same := false) rfl (hb hby d2_26) rfl (decide_eq_false fun q => ne5 (Value.ref.inj q)) (by decide) (by decide) ?_
    show Steps p.tables e below (T3.setTop (mkF m 29 #[.val (.ref w3), .val (.ref w0), .val (.int (0 : Int32))] [])) _
    refine XS.aloadN X3.here hx rfl (hb hby d2_29) rfl rfl ?_
    show Steps p.tables e below (T3.setTop (mkF m 30 #[.val (.ref w3), .val (.ref w0), .val (.int (0 : Int32))] [(.ref w3)])) _
    refine st6 _ ?_
    show Steps p.tables e below (T6.setTop (mkF m 33 #[.val (.ref w3), .val (.ref w0), .val (.int (0 : Int32))] [(.ref w2), (.ref w3)])) _
    refine Jvm.RoadKit.acmp (g := (mkF m 33 #[.val (.ref w3), .val (.ref w0), .val (.int (0 : Int32))] [(.ref w2), (.ref w3)])) X6 hx rfl rfl rfl (pc0 := 33) (pc' := 40) (same := false) rfl (hb hby d2_33) rfl (decide_eq_false fun q => ne7 (Value.ref.inj q)) (by decide) (by decide) ?_
    show Steps p.tables e below (T6.setTop (mkF m 40 #[.val (.ref w3), .val (.ref w0), .val (.int (0 : Int32))] [])) _
    refine XS.iconst X6.here hx rfl (hb hby d2_40) ?_
    show Steps p.tables e below (T6.setTop (mkF m 41 #[.val (.ref w3), .val (.ref w0), .val (.int (0 : Int32))] [(.int (0 : Int32))])) _
    exact retN X6 hx (t := .boolean) Bd.returns (by simp) (hb hby d2_41) hr
  · show Qrm8 Z w0 w1 w2 w3 h0 n0 _ T6.heap _
    rw [e6]
    exact ⟨rfl, N0, rfl⟩
def Qrm9 (Z : State) (w0 : Addr) (w1 : Addr) (w2 : Addr) (w3 : Addr) (h0 : Heap) (n0 : Nat) (v : Option Value) (h : Heap) (L : List Loc) : Prop := v = some (.int (1 : Int32)) ∧ Fr n0 L ∧ h = h0
set_option maxRecDepth 65536 in
set_option maxHeartbeats 40000000 in
theorem rm9 (l : Launch) (Z : State) (a0 : Array Value) (hw : ∀ d ∈ tables_1, d.before a0 Z = true) (w0 : Addr) (w1 : Addr) (w2 : Addr) (w3 : Addr) (hS : SF Z w0 w1 w2 w3) (ws : List Jvm.Cond) (h0 : Heap) (n0 : Nat) (O0 : Old Z n0 h0) :
    MetFree l (⟨z1, "hasRecord", "(I)Z"⟩ : MethodName) (head1 (Jvm.Cond.code (⟨z1, "hasRecord", "(I)Z"⟩ : MethodName) method_3_code 1 (some .boolean) :: ws) ({ frames := 0, cells := 0, slots := 0, locals := 0 } : Room)) (fun a U => a = #[(.int (2 : Int32))] ∧ Z.Warmed39 U.vm ∧ U.heap = h0) (fun _ _ _ _ _ => True) (fun _ U o U' => ∃ v L, o = .returned v ∧ Qrm9 Z w0 w1 w2 w3 h0 n0 v U'.heap L ∧ FrameEnd U o U' L ({ frames := 0, cells := 0, slots := 0, locals := 0 } : Room).cells ({ frames := 0, cells := 0, slots := 0, locals := 0 } : Room).slots) := by
  refine MetFree.of_bodySF (plainFor_of_name pn8) hisR ?_
  intro p e s m args below meth c s₁ Bd hml0 hP hK
  obtain ⟨rfl, hZ, hh⟩ := hP
  have hx := Bd.exec
  have hby := Bd.bytes
  have hml : c.maxLocals = 1 := hml0
  have hown : s.vm.findClass z1 = some m.cls := findClass_of_methodNamed Bd.named
  have hnm := (name_of_methodNamed Bd.named Bd.method).1
  have X0 : Stand p l e ({ frames := 0, cells := 0, slots := 0, locals := 0 } : Room) s m #[(.int (2 : Int32))] below meth c s₁ [] 0 0 := Stand.of_body Bd
  have e0 : s₁.heap = h0 := by rw [← hh, Bd.state]; rfl
  have N0 := Fr.nil n0
  have pre0 : ∀ t, Steps p.tables e below (s₁.setTop (mkF m 0 #[.val (.int (2 : Int32))] [])) t → Steps p.tables e below (s₁.setTop (entryFrame m #[(.int (2 : Int32))] 1)) t := fun t k => castTop (ef7 m (2 : Int32)) k
  obtain ⟨fs, hr, hrun, hended, hW, hsame⟩ := X0.leave (v := some (.int (1 : Int32))) (fun h => by rw [Bd.returns] at h; cases h)
  refine ⟨_, _, pre0 _ ?_, hrun, hended, _, _, rfl, ?_, ⟨_, rfl⟩, hW, hsame.mono (by decide) (by decide)⟩
  · show Steps p.tables e below (s₁.setTop (mkF m 0 #[.val (.int (2 : Int32))] [])) _
    refine XS.iloadN X0.here hx rfl (hb hby d3_0) rfl ?_
    show Steps p.tables e below (s₁.setTop (mkF m 1 #[.val (.int (2 : Int32))] [(.int (2 : Int32))])) _
    refine XS.ifNo X0.here hx rfl (hb hby d3_1) rfl ((if0 _ _).trans (feq (by decide : ¬ ((2 : Int32) = (0 : Int32)))).1) ?_
    show Steps p.tables e below (s₁.setTop (mkF m 4 #[.val (.int (2 : Int32))] [])) _
    refine XS.iloadN X0.here hx rfl (hb hby d3_4) rfl ?_
    show Steps p.tables e below (s₁.setTop (mkF m 5 #[.val (.int (2 : Int32))] [(.int (2 : Int32))])) _
    refine XS.iconst X0.here hx rfl (hb hby d3_5) ?_
    show Steps p.tables e below (s₁.setTop (mkF m 6 #[.val (.int (2 : Int32))] [(.int (2 : Int32)), (.int (2 : Int32))])) _
    refine XS.icmpNo X0.here hx rfl (hb hby d3_6) rfl (teq (by decide : (2 : Int32) = (2 : Int32))).2 ?_
    show Steps p.tables e below (s₁.setTop (mkF m 9 #[.val (.int (2 : Int32))] [])) _
    refine XS.iconst X0.here hx rfl (hb hby d3_9) ?_
    show Steps p.tables e below (s₁.setTop (mkF m 10 #[.val (.int (2 : Int32))] [(.int (1 : Int32))])) _
    refine XS.goto X0.here hx rfl (pc0 := 10) (pc' := 14) rfl (hb hby d3_10) (by decide) (by decide) ?_
    show Steps p.tables e below (s₁.setTop (mkF m 14 #[.val (.int (2 : Int32))] [(.int (1 : Int32))])) _
    exact retN X0 hx (t := .boolean) Bd.returns (by simp) (hb hby d3_14) hr
  · show Qrm9 Z w0 w1 w2 w3 h0 n0 _ s₁.heap _
    rw [e0]
    exact ⟨rfl, N0, rfl⟩
def Qrm10 (Z : State) (w0 : Addr) (w1 : Addr) (w2 : Addr) (w3 : Addr) (h0 : Heap) (n0 : Nat) (v : Option Value) (h : Heap) (L : List Loc) : Prop := v = some (.int (1 : Int32)) ∧ Fr n0 L ∧ h = h0
set_option maxRecDepth 65536 in
set_option maxHeartbeats 40000000 in
theorem rm10 (l : Launch) (Z : State) (a0 : Array Value) (hw : ∀ d ∈ tables_1, d.before a0 Z = true) (w0 : Addr) (w1 : Addr) (w2 : Addr) (w3 : Addr) (hS : SF Z w0 w1 w2 w3) (ws : List Jvm.Cond) (h0 : Heap) (n0 : Nat) (O0 : Old Z n0 h0) :
    MetFree l (⟨z1, "hasGap", "(I)Z"⟩ : MethodName) (head1 (Jvm.Cond.code (⟨z1, "hasGap", "(I)Z"⟩ : MethodName) method_4_code 1 (some .boolean) :: ws) ({ frames := 0, cells := 0, slots := 0, locals := 0 } : Room)) (fun a U => a = #[(.int (2 : Int32))] ∧ Z.Warmed39 U.vm ∧ U.heap = h0) (fun _ _ _ _ _ => True) (fun _ U o U' => ∃ v L, o = .returned v ∧ Qrm10 Z w0 w1 w2 w3 h0 n0 v U'.heap L ∧ FrameEnd U o U' L ({ frames := 0, cells := 0, slots := 0, locals := 0 } : Room).cells ({ frames := 0, cells := 0, slots := 0, locals := 0 } : Room).slots) := by
  refine MetFree.of_bodySF (plainFor_of_name pn8) hisR ?_
  intro p e s m args below meth c s₁ Bd hml0 hP hK
  obtain ⟨rfl, hZ, hh⟩ := hP
  have hx := Bd.exec
  have hby := Bd.bytes
  have hml : c.maxLocals = 1 := hml0
  have hown : s.vm.findClass z1 = some m.cls := findClass_of_methodNamed Bd.named
  have hnm := (name_of_methodNamed Bd.named Bd.method).1
  have X0 : Stand p l e ({ frames := 0, cells := 0, slots := 0, locals := 0 } : Room) s m #[(.int (2 : Int32))] below meth c s₁ [] 0 0 := Stand.of_body Bd
  have e0 : s₁.heap = h0 := by rw [← hh, Bd.state]; rfl
  have N0 := Fr.nil n0
  have pre0 : ∀ t, Steps p.tables e below (s₁.setTop (mkF m 0 #[.val (.int (2 : Int32))] [])) t → Steps p.tables e below (s₁.setTop (entryFrame m #[(.int (2 : Int32))] 1)) t := fun t k => castTop (ef7 m (2 : Int32)) k
  obtain ⟨fs, hr, hrun, hended, hW, hsame⟩ := X0.leave (v := some (.int (1 : Int32))) (fun h => by rw [Bd.returns] at h; cases h)
  refine ⟨_, _, pre0 _ ?_, hrun, hended, _, _, rfl, ?_, ⟨_, rfl⟩, hW, hsame.mono (by decide) (by decide)⟩
  · show Steps p.tables e below (s₁.setTop (mkF m 0 #[.val (.int (2 : Int32))] [])) _
    refine XS.iloadN X0.here hx rfl (hb hby d4_0) rfl ?_
    show Steps p.tables e below (s₁.setTop (mkF m 1 #[.val (.int (2 : Int32))] [(.int (2 : Int32))])) _
    refine XS.iconst X0.here hx rfl (hb hby d4_1) ?_
    show Steps p.tables e below (s₁.setTop (mkF m 2 #[.val (.int (2 : Int32))] [(.int (1 : Int32)), (.int (2 : Int32))])) _
    refine XS.icmpNo X0.here hx rfl (hb hby d4_2) rfl (feq (by decide : ¬ ((2 : Int32) = (1 : Int32)))).1 ?_
    show Steps p.tables e below (s₁.setTop (mkF m 5 #[.val (.int (2 : Int32))] [])) _
    refine XS.iloadN X0.here hx rfl (hb hby d4_5) rfl ?_
    show Steps p.tables e below (s₁.setTop (mkF m 6 #[.val (.int (2 : Int32))] [(.int (2 : Int32))])) _
    refine XS.iconst X0.here hx rfl (hb hby d4_6) ?_
    show Steps p.tables e below (s₁.setTop (mkF m 7 #[.val (.int (2 : Int32))] [(.int (2 : Int32)), (.int (2 : Int32))])) _
    refine XS.icmpNo X0.here hx rfl (hb hby d4_7) rfl (teq (by decide : (2 : Int32) = (2 : Int32))).2 ?_
    show Steps p.tables e below (s₁.setTop (mkF m 10 #[.val (.int (2 : Int32))] [])) _
    refine XS.iconst X0.here hx rfl (hb hby d4_10) ?_
    show Steps p.tables e below (s₁.setTop (mkF m 11 #[.val (.int (2 : Int32))] [(.int (1 : Int32))])) _
    refine XS.goto X0.here hx rfl (pc0 := 11) (pc' := 15) rfl (hb hby d4_11) (by decide) (by decide) ?_
    show Steps p.tables e below (s₁.setTop (mkF m 15 #[.val (.int (2 : Int32))] [(.int (1 : Int32))])) _
    exact retN X0 hx (t := .boolean) Bd.returns (by simp) (hb hby d4_15) hr
  · show Qrm10 Z w0 w1 w2 w3 h0 n0 _ s₁.heap _
    rw [e0]
    exact ⟨rfl, N0, rfl⟩
def Qrm11 (Z : State) (w0 : Addr) (w1 : Addr) (w2 : Addr) (w3 : Addr) (h0 : Heap) (n0 : Nat) (v : Option Value) (h : Heap) (L : List Loc) : Prop := v = some (.ref w2) ∧ Fr n0 L ∧ h = h0
set_option maxRecDepth 65536 in
set_option maxHeartbeats 40000000 in
theorem rm11 (l : Launch) (Z : State) (a0 : Array Value) (hw : ∀ d ∈ tables_1, d.before a0 Z = true) (w0 : Addr) (w1 : Addr) (w2 : Addr) (w3 : Addr) (hS : SF Z w0 w1 w2 w3) (ws : List Jvm.Cond) (h0 : Heap) (n0 : Nat) (O0 : Old Z n0 h0) :
    MetFree l (⟨z1, "kind", z4⟩ : MethodName) (head1 (Jvm.Cond.code (⟨z1, "kind", z4⟩ : MethodName) method_2_code 1 (some (.object z0)) :: ws) ({ frames := 0, cells := 0, slots := 0, locals := 0 } : Room)) (fun a U => a = #[(.int (2 : Int32))] ∧ Z.Warmed39 U.vm ∧ U.heap = h0) (fun _ _ _ _ _ => True) (fun _ U o U' => ∃ v L, o = .returned v ∧ Qrm11 Z w0 w1 w2 w3 h0 n0 v U'.heap L ∧ FrameEnd U o U' L ({ frames := 0, cells := 0, slots := 0, locals := 0 } : Room).cells ({ frames := 0, cells := 0, slots := 0, locals := 0 } : Room).slots) := by
  refine MetFree.of_bodySF (plainFor_of_name pn8) hisR ?_
  intro p e s m args below meth c s₁ Bd hml0 hP hK
  obtain ⟨rfl, hZ, hh⟩ := hP
  have hx := Bd.exec
  have hby := Bd.bytes
  have hml : c.maxLocals = 1 := hml0
  have hown : s.vm.findClass z1 = some m.cls := findClass_of_methodNamed Bd.named
  have hnm := (name_of_methodNamed Bd.named Bd.method).1
  have X0 : Stand p l e ({ frames := 0, cells := 0, slots := 0, locals := 0 } : Room) s m #[(.int (2 : Int32))] below meth c s₁ [] 0 0 := Stand.of_body Bd
  have e0 : s₁.heap = h0 := by rw [← hh, Bd.state]; rfl
  have N0 := Fr.nil n0
  have pre0 : ∀ t, Steps p.tables e below (s₁.setTop (mkF m 0 #[.val (.int (2 : Int32))] [])) t → Steps p.tables e below (s₁.setTop (entryFrame m #[(.int (2 : Int32))] 1)) t := fun t k => castTop (ef7 m (2 : Int32)) k
  obtain ⟨T1, X1, e1, st1⟩ := getS2 X0 hx hZ hown (host := "") (Or.inl (hw _ m21)) Via.refl e0 (hS.2.2.2.2.2.2.1.ext O0.2) (g := (mkF m 22 #[.val (.int (2 : Int32))] [])) rfl (hb hby d1_22)
  obtain ⟨fs, hr, hrun, hended, hW, hsame⟩ := X1.leave (v := some (.ref w2)) (fun h => by rw [Bd.returns] at h; cases h)
  refine ⟨_, _, pre0 _ ?_, hrun, hended, _, _, rfl, ?_, ⟨_, rfl⟩, hW, hsame.mono (by decide) (by decide)⟩
  · show Steps p.tables e below (s₁.setTop (mkF m 0 #[.val (.int (2 : Int32))] [])) _
    refine XS.iloadN X0.here hx rfl (hb hby d1_0) rfl ?_
    show Steps p.tables e below (s₁.setTop (mkF m 1 #[.val (.int (2 : Int32))] [(.int (2 : Int32))])) _
    refine XS.ifYes X0.here hx rfl (pc0 := 1) (pc' := 8) rfl (hb hby d1_1) rfl ((if0 _ _).trans (feq (by decide : ¬ ((2 : Int32) = (0 : Int32)))).2) (by decide) (by decide) ?_
    show Steps p.tables e below (s₁.setTop (mkF m 8 #[.val (.int (2 : Int32))] [])) _
    refine XS.iloadN X0.here hx rfl (hb hby d1_8) rfl ?_
    show Steps p.tables e below (s₁.setTop (mkF m 9 #[.val (.int (2 : Int32))] [(.int (2 : Int32))])) _
    refine XS.iconst X0.here hx rfl (hb hby d1_9) ?_
    show Steps p.tables e below (s₁.setTop (mkF m 10 #[.val (.int (2 : Int32))] [(.int (1 : Int32)), (.int (2 : Int32))])) _
    refine XS.icmpYes X0.here hx rfl (pc0 := 10) (pc' := 17) rfl (hb hby d1_10) rfl (feq (by decide : ¬ ((2 : Int32) = (1 : Int32)))).2 (by decide) (by decide) ?_
    show Steps p.tables e below (s₁.setTop (mkF m 17 #[.val (.int (2 : Int32))] [])) _
    refine XS.iloadN X0.here hx rfl (hb hby d1_17) rfl ?_
    show Steps p.tables e below (s₁.setTop (mkF m 18 #[.val (.int (2 : Int32))] [(.int (2 : Int32))])) _
    refine XS.iconst X0.here hx rfl (hb hby d1_18) ?_
    show Steps p.tables e below (s₁.setTop (mkF m 19 #[.val (.int (2 : Int32))] [(.int (2 : Int32)), (.int (2 : Int32))])) _
    refine XS.icmpNo X0.here hx rfl (hb hby d1_19) rfl (teq (by decide : (2 : Int32) = (2 : Int32))).2 ?_
    show Steps p.tables e below (s₁.setTop (mkF m 22 #[.val (.int (2 : Int32))] [])) _
    refine st1 _ ?_
    show Steps p.tables e below (T1.setTop (mkF m 25 #[.val (.int (2 : Int32))] [(.ref w2)])) _
    exact retOut X1 hx Bd.returns rfl (Or.inr (Or.inr (Or.inr (Or.inr ⟨rfl, rfl, rfl⟩)))) (hb hby d1_25) hr
  · show Qrm11 Z w0 w1 w2 w3 h0 n0 _ T1.heap _
    rw [e1]
    exact ⟨rfl, N0, rfl⟩
def Qrm12 (Z : State) (w0 : Addr) (w1 : Addr) (w2 : Addr) (w3 : Addr) (h0 : Heap) (n0 : Nat) (v : Option Value) (h : Heap) (L : List Loc) : Prop := v = some (.int (0 : Int32)) ∧ Fr n0 L ∧ h = h0
set_option maxRecDepth 65536 in
set_option maxHeartbeats 40000000 in
theorem rm12 (l : Launch) (Z : State) (a0 : Array Value) (hw : ∀ d ∈ tables_1, d.before a0 Z = true) (w0 : Addr) (w1 : Addr) (w2 : Addr) (w3 : Addr) (hS : SF Z w0 w1 w2 w3) (ws : List Jvm.Cond) (h0 : Heap) (n0 : Nat) (O0 : Old Z n0 h0) :
    MetFree l (⟨z0, "covers", z2⟩ : MethodName) (head1 (Jvm.Cond.code (⟨z0, "covers", z2⟩ : MethodName) prog_12_method_7_code 3 (some .boolean) :: ws) ({ frames := 0, cells := 0, slots := 0, locals := 0 } : Room)) (fun a U => a = #[(.ref w3), (.ref w2)] ∧ Z.Warmed39 U.vm ∧ U.heap = h0) (fun _ _ _ _ _ => True) (fun _ U o U' => ∃ v L, o = .returned v ∧ Qrm12 Z w0 w1 w2 w3 h0 n0 v U'.heap L ∧ FrameEnd U o U' L ({ frames := 0, cells := 0, slots := 0, locals := 0 } : Room).cells ({ frames := 0, cells := 0, slots := 0, locals := 0 } : Room).slots) := by
  refine MetFree.of_bodySF (plainFor_of_name pn53) hisR ?_
  intro p e s m args below meth c s₁ Bd hml0 hP hK
  obtain ⟨rfl, hZ, hh⟩ := hP
  have hx := Bd.exec
  have hby := Bd.bytes
  have hml : c.maxLocals = 3 := hml0
  have hown : s.vm.findClass z0 = some m.cls := findClass_of_methodNamed Bd.named
  have hnm := (name_of_methodNamed Bd.named Bd.method).1
  have X0 : Stand p l e ({ frames := 0, cells := 0, slots := 0, locals := 0 } : Room) s m #[(.ref w3), (.ref w2)] below meth c s₁ [] 0 0 := Stand.of_body Bd
  have e0 : s₁.heap = h0 := by rw [← hh, Bd.state]; rfl
  have N0 := Fr.nil n0
  have pre0 : ∀ t, Steps p.tables e below (s₁.setTop (mkF m 0 #[.val (.ref w3), .val (.ref w2), .unset] [])) t → Steps p.tables e below (s₁.setTop (entryFrame m #[(.ref w3), (.ref w2)] 3)) t := fun t k => castTop (ef52 m w3 w2) k
  obtain ⟨T1, X1, e1, st1⟩ := getS2 X0 hx hZ hown (host := "") (Or.inl (hw _ m14)) Via.refl e0 (hS.2.2.2.1.ext O0.2) (g := (mkF m 1 #[.val (.ref w3), .val (.ref w2), .unset] [(.ref w3)])) rfl (hb hby d2_1)
  have ne2 : w3 ≠ w1 := (Fld.ne hS.2.2.2.2.2.2.2.2.2.2.2 hS.2.2.2.2.2.1 (fun q => absurd (Value.int.inj q) (by decide)))
  obtain ⟨T3, X3, e3, st3⟩ := getS2 X1 hx hZ hown (host := "") (Or.inl (hw _ m14)) Via.refl e1 (hS.2.2.2.1.ext O0.2) (g := (mkF m 8 #[.val (.ref w3), .val (.ref w2), .unset] [(.ref w2)])) rfl (hb hby d2_8)
  have ne4 : w2 ≠ w1 := (Fld.ne hS.2.2.2.2.2.2.2.2.1 hS.2.2.2.2.2.1 (fun q => absurd (Value.int.inj q) (by decide)))
  have ne5 : w3 ≠ w2 := (Fld.ne hS.2.2.2.2.2.2.2.2.2.2.2 hS.2.2.2.2.2.2.2.2.1 (fun q => absurd (Value.int.inj q) (by decide)))
  obtain ⟨T6, X6, e6, st6⟩ := getS2 X3 hx hZ hown (host := "") (Or.inl (hw _ m25)) Via.refl e3 (hS.2.2.2.2.2.2.1.ext O0.2) (g := (mkF m 30 #[.val (.ref w3), .val (.ref w2), .val (.int (0 : Int32))] [(.ref w3)])) rfl (hb hby d2_30)
  obtain ⟨fs, hr, hrun, hended, hW, hsame⟩ := X6.leave (v := some (.int (0 : Int32))) (fun h => by rw [Bd.returns] at h; cases h)
  refine ⟨_, _, pre0 _ ?_, hrun, hended, _, _, rfl, ?_, ⟨_, rfl⟩, hW, hsame.mono (by decide) (by decide)⟩
  · show Steps p.tables e below (s₁.setTop (mkF m 0 #[.val (.ref w3), .val (.ref w2), .unset] [])) _
    refine XS.aloadN X0.here hx rfl (hb hby d2_0) rfl rfl ?_
    show Steps p.tables e below (s₁.setTop (mkF m 1 #[.val (.ref w3), .val (.ref w2), .unset] [(.ref w3)])) _
    refine st1 _ ?_
    show Steps p.tables e below (T1.setTop (mkF m 4 #[.val (.ref w3), .val (.ref w2), .unset] [(.ref w1), (.ref w3)])) _
    refine Jvm.RoadKit.acmp (g := (mkF m 4 #[.val (.ref w3), .val (.ref w2), .unset] [(.ref w1), (.ref w3)])) X1 hx rfl rfl rfl (pc0 := 4) (pc' := 7) (same := false) rfl (hb hby d2_4) rfl (decide_eq_false fun q => ne2 (Value.ref.inj q)) (by decide) (by decide) ?_
    show Steps p.tables e below (T1.setTop (mkF m 7 #[.val (.ref w3), .val (.ref w2), .unset] [])) _
    refine XS.aloadN X1.here hx rfl (hb hby d2_7) rfl rfl ?_
    show Steps p.tables e below (T1.setTop (mkF m 8 #[.val (.ref w3), .val (.ref w2), .unset] [(.ref w2)])) _
    refine st3 _ ?_
    show Steps p.tables e below (T3.setTop (mkF m 11 #[.val (.ref w3), .val (.ref w2), .unset] [(.ref w1), (.ref w2)])) _
    refine Jvm.RoadKit.acmp (g := (mkF m 11 #[.val (.ref w3), .val (.ref w2), .unset] [(.ref w1), (.ref w2)])) X3 hx rfl rfl rfl (pc0 := 11) (pc' := 18) (same := false) rfl (hb hby d2_11) rfl (decide_eq_false fun q => ne4 (Value.ref.inj q)) (by decide) (by decide) ?_
    show Steps p.tables e below (T3.setTop (mkF m 18 #[.val (.ref w3), .val (.ref w2), .unset] [])) _
    refine XS.iconst X3.here hx rfl (hb hby d2_18) ?_
    show Steps p.tables e below (T3.setTop (mkF m 19 #[.val (.ref w3), .val (.ref w2), .unset] [(.int (0 : Int32))])) _
    refine XS.istoreN X3.here hx rfl (hb hby d2_19) rfl (l' := #[.val (.ref w3), .val (.ref w2), .val (.int (0 : Int32))]) rfl ?_
    show Steps p.tables e below (T3.setTop (mkF m 20 #[.val (.ref w3), .val (.ref w2), .val (.int (0 : Int32))] [])) _
    refine XS.iloadN X3.here hx rfl (hb hby d2_20) rfl ?_
    show Steps p.tables e below (T3.setTop (mkF m 21 #[.val (.ref w3), .val (.ref w2), .val (.int (0 : Int32))] [(.int (0 : Int32))])) _
    refine XS.ifNo X3.here hx rfl (hb hby d2_21) rfl ((if0 _ _).trans (teq (by decide : (0 : Int32) = (0 : Int32))).2) ?_
    show Steps p.tables e below (T3.setTop (mkF m 24 #[.val (.ref w3), .val (.ref w2), .val (.int (0 : Int32))] [])) _
    refine XS.aloadN X3.here hx rfl (hb hby d2_24) rfl rfl ?_
    show Steps p.tables e below (T3.setTop (mkF m 25 #[.val (.ref w3), .val (.ref w2), .val (.int (0 : Int32))] [(.ref w3)])) _
    refine XS.aloadN X3.here hx rfl (hb hby d2_25) rfl rfl ?_
    show Steps p.tables e below (T3.setTop (mkF m 26 #[.val (.ref w3), .val (.ref w2), .val (.int (0 : Int32))] [(.ref w2), (.ref w3)])) _
    refine Jvm.RoadKit.acmp (g := (mkF m 26 #[.val (.ref w3), .val (.ref w2), .val (.int (0 : Int32))] [(.ref w2), (.ref w3)])) X3 hx rfl rfl rfl (pc0 := 26) (pc' := 29) (same := false) rfl (hb hby d2_26) rfl (decide_eq_false fun q => ne5 (Value.ref.inj q)) (by decide) (by decide) ?_
    show Steps p.tables e below (T3.setTop (mkF m 29 #[.val (.ref w3), .val (.ref w2), .val (.int (0 : Int32))] [])) _
    refine XS.aloadN X3.here hx rfl (hb hby d2_29) rfl rfl ?_
    show Steps p.tables e below (T3.setTop (mkF m 30 #[.val (.ref w3), .val (.ref w2), .val (.int (0 : Int32))] [(.ref w3)])) _
    refine st6 _ ?_
    show Steps p.tables e below (T6.setTop (mkF m 33 #[.val (.ref w3), .val (.ref w2), .val (.int (0 : Int32))] [(.ref w2), (.ref w3)])) _
    refine Jvm.RoadKit.acmp (g := (mkF m 33 #[.val (.ref w3), .val (.ref w2), .val (.int (0 : Int32))] [(.ref w2), (.ref w3)])) X6 hx rfl rfl rfl (pc0 := 33) (pc' := 40) (same := false) rfl (hb hby d2_33) rfl (decide_eq_false fun q => ne5 (Value.ref.inj q)) (by decide) (by decide) ?_
    show Steps p.tables e below (T6.setTop (mkF m 40 #[.val (.ref w3), .val (.ref w2), .val (.int (0 : Int32))] [])) _
    refine XS.iconst X6.here hx rfl (hb hby d2_40) ?_
    show Steps p.tables e below (T6.setTop (mkF m 41 #[.val (.ref w3), .val (.ref w2), .val (.int (0 : Int32))] [(.int (0 : Int32))])) _
    exact retN X6 hx (t := .boolean) Bd.returns (by simp) (hb hby d2_41) hr
  · show Qrm12 Z w0 w1 w2 w3 h0 n0 _ T6.heap _
    rw [e6]
    exact ⟨rfl, N0, rfl⟩
def Qrm13 (Z : State) (w0 : Addr) (w1 : Addr) (w2 : Addr) (w3 : Addr) (h0 : Heap) (n0 : Nat) (v : Option Value) (h : Heap) (L : List Loc) : Prop := v = some (.ref w1) ∧ Fr n0 L ∧ h = h0
set_option maxRecDepth 65536 in
set_option maxHeartbeats 40000000 in
theorem rm13 (l : Launch) (Z : State) (a0 : Array Value) (hw : ∀ d ∈ tables_1, d.before a0 Z = true) (w0 : Addr) (w1 : Addr) (w2 : Addr) (w3 : Addr) (hS : SF Z w0 w1 w2 w3) (ws : List Jvm.Cond) (h0 : Heap) (n0 : Nat) (O0 : Old Z n0 h0) :
    MetFree l (⟨z1, "kind", z4⟩ : MethodName) (head1 (Jvm.Cond.code (⟨z1, "kind", z4⟩ : MethodName) method_2_code 1 (some (.object z0)) :: ws) ({ frames := 0, cells := 0, slots := 0, locals := 0 } : Room)) (fun a U => a = #[(.int (3 : Int32))] ∧ Z.Warmed39 U.vm ∧ U.heap = h0) (fun _ _ _ _ _ => True) (fun _ U o U' => ∃ v L, o = .returned v ∧ Qrm13 Z w0 w1 w2 w3 h0 n0 v U'.heap L ∧ FrameEnd U o U' L ({ frames := 0, cells := 0, slots := 0, locals := 0 } : Room).cells ({ frames := 0, cells := 0, slots := 0, locals := 0 } : Room).slots) := by
  refine MetFree.of_bodySF (plainFor_of_name pn8) hisR ?_
  intro p e s m args below meth c s₁ Bd hml0 hP hK
  obtain ⟨rfl, hZ, hh⟩ := hP
  have hx := Bd.exec
  have hby := Bd.bytes
  have hml : c.maxLocals = 1 := hml0
  have hown : s.vm.findClass z1 = some m.cls := findClass_of_methodNamed Bd.named
  have hnm := (name_of_methodNamed Bd.named Bd.method).1
  have X0 : Stand p l e ({ frames := 0, cells := 0, slots := 0, locals := 0 } : Room) s m #[(.int (3 : Int32))] below meth c s₁ [] 0 0 := Stand.of_body Bd
  have e0 : s₁.heap = h0 := by rw [← hh, Bd.state]; rfl
  have N0 := Fr.nil n0
  have pre0 : ∀ t, Steps p.tables e below (s₁.setTop (mkF m 0 #[.val (.int (3 : Int32))] [])) t → Steps p.tables e below (s₁.setTop (entryFrame m #[(.int (3 : Int32))] 1)) t := fun t k => castTop (ef7 m (3 : Int32)) k
  obtain ⟨T1, X1, e1, st1⟩ := getS2 X0 hx hZ hown (host := "") (Or.inl (hw _ m7)) Via.refl e0 (hS.2.2.2.1.ext O0.2) (g := (mkF m 26 #[.val (.int (3 : Int32))] [])) rfl (hb hby d1_26)
  obtain ⟨fs, hr, hrun, hended, hW, hsame⟩ := X1.leave (v := some (.ref w1)) (fun h => by rw [Bd.returns] at h; cases h)
  refine ⟨_, _, pre0 _ ?_, hrun, hended, _, _, rfl, ?_, ⟨_, rfl⟩, hW, hsame.mono (by decide) (by decide)⟩
  · show Steps p.tables e below (s₁.setTop (mkF m 0 #[.val (.int (3 : Int32))] [])) _
    refine XS.iloadN X0.here hx rfl (hb hby d1_0) rfl ?_
    show Steps p.tables e below (s₁.setTop (mkF m 1 #[.val (.int (3 : Int32))] [(.int (3 : Int32))])) _
    refine XS.ifYes X0.here hx rfl (pc0 := 1) (pc' := 8) rfl (hb hby d1_1) rfl ((if0 _ _).trans (feq (by decide : ¬ ((3 : Int32) = (0 : Int32)))).2) (by decide) (by decide) ?_
    show Steps p.tables e below (s₁.setTop (mkF m 8 #[.val (.int (3 : Int32))] [])) _
    refine XS.iloadN X0.here hx rfl (hb hby d1_8) rfl ?_
    show Steps p.tables e below (s₁.setTop (mkF m 9 #[.val (.int (3 : Int32))] [(.int (3 : Int32))])) _
    refine XS.iconst X0.here hx rfl (hb hby d1_9) ?_
    show Steps p.tables e below (s₁.setTop (mkF m 10 #[.val (.int (3 : Int32))] [(.int (1 : Int32)), (.int (3 : Int32))])) _
    refine XS.icmpYes X0.here hx rfl (pc0 := 10) (pc' := 17) rfl (hb hby d1_10) rfl (feq (by decide : ¬ ((3 : Int32) = (1 : Int32)))).2 (by decide) (by decide) ?_
    show Steps p.tables e below (s₁.setTop (mkF m 17 #[.val (.int (3 : Int32))] [])) _
    refine XS.iloadN X0.here hx rfl (hb hby d1_17) rfl ?_
    show Steps p.tables e below (s₁.setTop (mkF m 18 #[.val (.int (3 : Int32))] [(.int (3 : Int32))])) _
    refine XS.iconst X0.here hx rfl (hb hby d1_18) ?_
    show Steps p.tables e below (s₁.setTop (mkF m 19 #[.val (.int (3 : Int32))] [(.int (2 : Int32)), (.int (3 : Int32))])) _
    refine XS.icmpYes X0.here hx rfl (pc0 := 19) (pc' := 26) rfl (hb hby d1_19) rfl (feq (by decide : ¬ ((3 : Int32) = (2 : Int32)))).2 (by decide) (by decide) ?_
    show Steps p.tables e below (s₁.setTop (mkF m 26 #[.val (.int (3 : Int32))] [])) _
    refine st1 _ ?_
    show Steps p.tables e below (T1.setTop (mkF m 29 #[.val (.int (3 : Int32))] [(.ref w1)])) _
    exact retOut X1 hx Bd.returns rfl (Or.inr (Or.inr (Or.inr (Or.inr ⟨rfl, rfl, rfl⟩)))) (hb hby d1_29) hr
  · show Qrm13 Z w0 w1 w2 w3 h0 n0 _ T1.heap _
    rw [e1]
    exact ⟨rfl, N0, rfl⟩
def Qrm14 (Z : State) (w0 : Addr) (w1 : Addr) (w2 : Addr) (w3 : Addr) (h0 : Heap) (n0 : Nat) (v : Option Value) (h : Heap) (L : List Loc) : Prop := v = some (.int (0 : Int32)) ∧ Fr n0 L ∧ h = h0
set_option maxRecDepth 65536 in
set_option maxHeartbeats 40000000 in
theorem rm14 (l : Launch) (Z : State) (a0 : Array Value) (hw : ∀ d ∈ tables_1, d.before a0 Z = true) (w0 : Addr) (w1 : Addr) (w2 : Addr) (w3 : Addr) (hS : SF Z w0 w1 w2 w3) (ws : List Jvm.Cond) (h0 : Heap) (n0 : Nat) (O0 : Old Z n0 h0) :
    MetFree l (⟨z0, "covers", z2⟩ : MethodName) (head1 (Jvm.Cond.code (⟨z0, "covers", z2⟩ : MethodName) prog_12_method_7_code 3 (some .boolean) :: ws) ({ frames := 0, cells := 0, slots := 0, locals := 0 } : Room)) (fun a U => a = #[(.ref w3), (.ref w1)] ∧ Z.Warmed39 U.vm ∧ U.heap = h0) (fun _ _ _ _ _ => True) (fun _ U o U' => ∃ v L, o = .returned v ∧ Qrm14 Z w0 w1 w2 w3 h0 n0 v U'.heap L ∧ FrameEnd U o U' L ({ frames := 0, cells := 0, slots := 0, locals := 0 } : Room).cells ({ frames := 0, cells := 0, slots := 0, locals := 0 } : Room).slots) := by
  refine MetFree.of_bodySF (plainFor_of_name pn53) hisR ?_
  intro p e s m args below meth c s₁ Bd hml0 hP hK
  obtain ⟨rfl, hZ, hh⟩ := hP
  have hx := Bd.exec
  have hby := Bd.bytes
  have hml : c.maxLocals = 3 := hml0
  have hown : s.vm.findClass z0 = some m.cls := findClass_of_methodNamed Bd.named
  have hnm := (name_of_methodNamed Bd.named Bd.method).1
  have X0 : Stand p l e ({ frames := 0, cells := 0, slots := 0, locals := 0 } : Room) s m #[(.ref w3), (.ref w1)] below meth c s₁ [] 0 0 := Stand.of_body Bd
  have e0 : s₁.heap = h0 := by rw [← hh, Bd.state]; rfl
  have N0 := Fr.nil n0
  have pre0 : ∀ t, Steps p.tables e below (s₁.setTop (mkF m 0 #[.val (.ref w3), .val (.ref w1), .unset] [])) t → Steps p.tables e below (s₁.setTop (entryFrame m #[(.ref w3), (.ref w1)] 3)) t := fun t k => castTop (ef52 m w3 w1) k
  obtain ⟨T1, X1, e1, st1⟩ := getS2 X0 hx hZ hown (host := "") (Or.inl (hw _ m14)) Via.refl e0 (hS.2.2.2.1.ext O0.2) (g := (mkF m 1 #[.val (.ref w3), .val (.ref w1), .unset] [(.ref w3)])) rfl (hb hby d2_1)
  have ne2 : w3 ≠ w1 := (Fld.ne hS.2.2.2.2.2.2.2.2.2.2.2 hS.2.2.2.2.2.1 (fun q => absurd (Value.int.inj q) (by decide)))
  obtain ⟨T3, X3, e3, st3⟩ := getS2 X1 hx hZ hown (host := "") (Or.inl (hw _ m14)) Via.refl e1 (hS.2.2.2.1.ext O0.2) (g := (mkF m 8 #[.val (.ref w3), .val (.ref w1), .unset] [(.ref w1)])) rfl (hb hby d2_8)
  obtain ⟨fs, hr, hrun, hended, hW, hsame⟩ := X3.leave (v := some (.int (0 : Int32))) (fun h => by rw [Bd.returns] at h; cases h)
  refine ⟨_, _, pre0 _ ?_, hrun, hended, _, _, rfl, ?_, ⟨_, rfl⟩, hW, hsame.mono (by decide) (by decide)⟩
  · show Steps p.tables e below (s₁.setTop (mkF m 0 #[.val (.ref w3), .val (.ref w1), .unset] [])) _
    refine XS.aloadN X0.here hx rfl (hb hby d2_0) rfl rfl ?_
    show Steps p.tables e below (s₁.setTop (mkF m 1 #[.val (.ref w3), .val (.ref w1), .unset] [(.ref w3)])) _
    refine st1 _ ?_
    show Steps p.tables e below (T1.setTop (mkF m 4 #[.val (.ref w3), .val (.ref w1), .unset] [(.ref w1), (.ref w3)])) _
    refine Jvm.RoadKit.acmp (g := (mkF m 4 #[.val (.ref w3), .val (.ref w1), .unset] [(.ref w1), (.ref w3)])) X1 hx rfl rfl rfl (pc0 := 4) (pc' := 7) (same := false) rfl (hb hby d2_4) rfl (decide_eq_false fun q => ne2 (Value.ref.inj q)) (by decide) (by decide) ?_
    show Steps p.tables e below (T1.setTop (mkF m 7 #[.val (.ref w3), .val (.ref w1), .unset] [])) _
    refine XS.aloadN X1.here hx rfl (hb hby d2_7) rfl rfl ?_
    show Steps p.tables e below (T1.setTop (mkF m 8 #[.val (.ref w3), .val (.ref w1), .unset] [(.ref w1)])) _
    refine st3 _ ?_
    show Steps p.tables e below (T3.setTop (mkF m 11 #[.val (.ref w3), .val (.ref w1), .unset] [(.ref w1), (.ref w1)])) _
    refine Jvm.RoadKit.acmp (g := (mkF m 11 #[.val (.ref w3), .val (.ref w1), .unset] [(.ref w1), (.ref w1)])) X3 hx rfl rfl rfl (pc0 := 11) (pc' := 14) (same := true) rfl (hb hby d2_11) rfl (decide_eq_true rfl) (by decide) (by decide) ?_
    show Steps p.tables e below (T3.setTop (mkF m 14 #[.val (.ref w3), .val (.ref w1), .unset] [])) _
    refine XS.iconst X3.here hx rfl (hb hby d2_14) ?_
    show Steps p.tables e below (T3.setTop (mkF m 15 #[.val (.ref w3), .val (.ref w1), .unset] [(.int (1 : Int32))])) _
    refine XS.goto X3.here hx rfl (pc0 := 15) (pc' := 19) rfl (hb hby d2_15) (by decide) (by decide) ?_
    show Steps p.tables e below (T3.setTop (mkF m 19 #[.val (.ref w3), .val (.ref w1), .unset] [(.int (1 : Int32))])) _
    refine XS.istoreN X3.here hx rfl (hb hby d2_19) rfl (l' := #[.val (.ref w3), .val (.ref w1), .val (.int (1 : Int32))]) rfl ?_
    show Steps p.tables e below (T3.setTop (mkF m 20 #[.val (.ref w3), .val (.ref w1), .val (.int (1 : Int32))] [])) _
    refine XS.iloadN X3.here hx rfl (hb hby d2_20) rfl ?_
    show Steps p.tables e below (T3.setTop (mkF m 21 #[.val (.ref w3), .val (.ref w1), .val (.int (1 : Int32))] [(.int (1 : Int32))])) _
    refine XS.ifYes X3.here hx rfl (pc0 := 21) (pc' := 40) rfl (hb hby d2_21) rfl ((if0 _ _).trans (feq (by decide : ¬ ((1 : Int32) = (0 : Int32)))).2) (by decide) (by decide) ?_
    show Steps p.tables e below (T3.setTop (mkF m 40 #[.val (.ref w3), .val (.ref w1), .val (.int (1 : Int32))] [])) _
    refine XS.iconst X3.here hx rfl (hb hby d2_40) ?_
    show Steps p.tables e below (T3.setTop (mkF m 41 #[.val (.ref w3), .val (.ref w1), .val (.int (1 : Int32))] [(.int (0 : Int32))])) _
    exact retN X3 hx (t := .boolean) Bd.returns (by simp) (hb hby d2_41) hr
  · show Qrm14 Z w0 w1 w2 w3 h0 n0 _ T3.heap _
    rw [e3]
    exact ⟨rfl, N0, rfl⟩
def Qrm15 (Z : State) (w0 : Addr) (w1 : Addr) (w2 : Addr) (w3 : Addr) (h0 : Heap) (n0 : Nat) (v : Option Value) (h : Heap) (L : List Loc) : Prop := v = some (.int (0 : Int32)) ∧ Fr n0 L ∧ h = h0
set_option maxRecDepth 65536 in
set_option maxHeartbeats 40000000 in
theorem rm15 (l : Launch) (Z : State) (a0 : Array Value) (hw : ∀ d ∈ tables_1, d.before a0 Z = true) (w0 : Addr) (w1 : Addr) (w2 : Addr) (w3 : Addr) (hS : SF Z w0 w1 w2 w3) (ws : List Jvm.Cond) (h0 : Heap) (n0 : Nat) (O0 : Old Z n0 h0) :
    MetFree l (⟨z0, "covers", z2⟩ : MethodName) (head1 (Jvm.Cond.code (⟨z0, "covers", z2⟩ : MethodName) prog_12_method_7_code 3 (some .boolean) :: ws) ({ frames := 0, cells := 0, slots := 0, locals := 0 } : Room)) (fun a U => a = #[(.ref w0), (.ref w3)] ∧ Z.Warmed39 U.vm ∧ U.heap = h0) (fun _ _ _ _ _ => True) (fun _ U o U' => ∃ v L, o = .returned v ∧ Qrm15 Z w0 w1 w2 w3 h0 n0 v U'.heap L ∧ FrameEnd U o U' L ({ frames := 0, cells := 0, slots := 0, locals := 0 } : Room).cells ({ frames := 0, cells := 0, slots := 0, locals := 0 } : Room).slots) := by
  refine MetFree.of_bodySF (plainFor_of_name pn53) hisR ?_
  intro p e s m args below meth c s₁ Bd hml0 hP hK
  obtain ⟨rfl, hZ, hh⟩ := hP
  have hx := Bd.exec
  have hby := Bd.bytes
  have hml : c.maxLocals = 3 := hml0
  have hown : s.vm.findClass z0 = some m.cls := findClass_of_methodNamed Bd.named
  have hnm := (name_of_methodNamed Bd.named Bd.method).1
  have X0 : Stand p l e ({ frames := 0, cells := 0, slots := 0, locals := 0 } : Room) s m #[(.ref w0), (.ref w3)] below meth c s₁ [] 0 0 := Stand.of_body Bd
  have e0 : s₁.heap = h0 := by rw [← hh, Bd.state]; rfl
  have N0 := Fr.nil n0
  have pre0 : ∀ t, Steps p.tables e below (s₁.setTop (mkF m 0 #[.val (.ref w0), .val (.ref w3), .unset] [])) t → Steps p.tables e below (s₁.setTop (entryFrame m #[(.ref w0), (.ref w3)] 3)) t := fun t k => castTop (ef52 m w0 w3) k
  obtain ⟨T1, X1, e1, st1⟩ := getS2 X0 hx hZ hown (host := "") (Or.inl (hw _ m14)) Via.refl e0 (hS.2.2.2.1.ext O0.2) (g := (mkF m 1 #[.val (.ref w0), .val (.ref w3), .unset] [(.ref w0)])) rfl (hb hby d2_1)
  have ne2 : w0 ≠ w1 := (Fld.ne hS.2.2.1 hS.2.2.2.2.2.1 (fun q => absurd (Value.int.inj q) (by decide)))
  obtain ⟨T3, X3, e3, st3⟩ := getS2 X1 hx hZ hown (host := "") (Or.inl (hw _ m14)) Via.refl e1 (hS.2.2.2.1.ext O0.2) (g := (mkF m 8 #[.val (.ref w0), .val (.ref w3), .unset] [(.ref w3)])) rfl (hb hby d2_8)
  have ne4 : w3 ≠ w1 := (Fld.ne hS.2.2.2.2.2.2.2.2.2.2.2 hS.2.2.2.2.2.1 (fun q => absurd (Value.int.inj q) (by decide)))
  have ne5 : w0 ≠ w3 := (Fld.ne hS.2.2.1 hS.2.2.2.2.2.2.2.2.2.2.2 (fun q => absurd (Value.int.inj q) (by decide)))
  obtain ⟨T6, X6, e6, st6⟩ := getS2 X3 hx hZ hown (host := "") (Or.inl (hw _ m25)) Via.refl e3 (hS.2.2.2.2.2.2.1.ext O0.2) (g := (mkF m 30 #[.val (.ref w0), .val (.ref w3), .val (.int (0 : Int32))] [(.ref w0)])) rfl (hb hby d2_30)
  have ne7 : w0 ≠ w2 := (Fld.ne hS.2.2.1 hS.2.2.2.2.2.2.2.2.1 (fun q => absurd (Value.int.inj q) (by decide)))
  obtain ⟨fs, hr, hrun, hended, hW, hsame⟩ := X6.leave (v := some (.int (0 : Int32))) (fun h => by rw [Bd.returns] at h; cases h)
  refine ⟨_, _, pre0 _ ?_, hrun, hended, _, _, rfl, ?_, ⟨_, rfl⟩, hW, hsame.mono (by decide) (by decide)⟩
  · show Steps p.tables e below (s₁.setTop (mkF m 0 #[.val (.ref w0), .val (.ref w3), .unset] [])) _
    refine XS.aloadN X0.here hx rfl (hb hby d2_0) rfl rfl ?_
    show Steps p.tables e below (s₁.setTop (mkF m 1 #[.val (.ref w0), .val (.ref w3), .unset] [(.ref w0)])) _
    refine st1 _ ?_
    show Steps p.tables e below (T1.setTop (mkF m 4 #[.val (.ref w0), .val (.ref w3), .unset] [(.ref w1), (.ref w0)])) _
    refine Jvm.RoadKit.acmp (g := (mkF m 4 #[.val (.ref w0), .val (.ref w3), .unset] [(.ref w1), (.ref w0)])) X1 hx rfl rfl rfl (pc0 := 4) (pc' := 7) (same := false) rfl (hb hby d2_4) rfl (decide_eq_false fun q => ne2 (Value.ref.inj q)) (by decide) (by decide) ?_
    show Steps p.tables e below (T1.setTop (mkF m 7 #[.val (.ref w0), .val (.ref w3), .unset] [])) _
    refine XS.aloadN X1.here hx rfl (hb hby d2_7) rfl rfl ?_
    show Steps p.tables e below (T1.setTop (mkF m 8 #[.val (.ref w0), .val (.ref w3), .unset] [(.ref w3)])) _
    refine st3 _ ?_
    show Steps p.tables e below (T3.setTop (mkF m 11 #[.val (.ref w0), .val (.ref w3), .unset] [(.ref w1), (.ref w3)])) _
    refine Jvm.RoadKit.acmp (g := (mkF m 11 #[.val (.ref w0), .val (.ref w3), .unset] [(.ref w1), (.ref w3)])) X3 hx rfl rfl rfl (pc0 := 11) (pc' := 18) (same := false) rfl (hb hby d2_11) rfl (decide_eq_false fun q => ne4 (Value.ref.inj q)) (by decide) (by decide) ?_
    show Steps p.tables e below (T3.setTop (mkF m 18 #[.val (.ref w0), .val (.ref w3), .unset] [])) _
    refine XS.iconst X3.here hx rfl (hb hby d2_18) ?_
    show Steps p.tables e below (T3.setTop (mkF m 19 #[.val (.ref w0), .val (.ref w3), .unset] [(.int (0 : Int32))])) _
    refine XS.istoreN X3.here hx rfl (hb hby d2_19) rfl (l' := #[.val (.ref w0), .val (.ref w3), .val (.int (0 : Int32))]) rfl ?_
    show Steps p.tables e below (T3.setTop (mkF m 20 #[.val (.ref w0), .val (.ref w3), .val (.int (0 : Int32))] [])) _
    refine XS.iloadN X3.here hx rfl (hb hby d2_20) rfl ?_
    show Steps p.tables e below (T3.setTop (mkF m 21 #[.val (.ref w0), .val (.ref w3), .val (.int (0 : Int32))] [(.int (0 : Int32))])) _
    refine XS.ifNo X3.here hx rfl (hb hby d2_21) rfl ((if0 _ _).trans (teq (by decide : (0 : Int32) = (0 : Int32))).2) ?_
    show Steps p.tables e below (T3.setTop (mkF m 24 #[.val (.ref w0), .val (.ref w3), .val (.int (0 : Int32))] [])) _
    refine XS.aloadN X3.here hx rfl (hb hby d2_24) rfl rfl ?_
    show Steps p.tables e below (T3.setTop (mkF m 25 #[.val (.ref w0), .val (.ref w3), .val (.int (0 : Int32))] [(.ref w0)])) _
    refine XS.aloadN X3.here hx rfl (hb hby d2_25) rfl rfl ?_
    show Steps p.tables e below (T3.setTop (mkF m 26 #[.val (.ref w0), .val (.ref w3), .val (.int (0 : Int32))] [(.ref w3), (.ref w0)])) _
    refine Jvm.RoadKit.acmp (g := (mkF m 26 #[.val (.ref w0), .val (.ref w3), .val (.int (0 : Int32))] [(.ref w3), (.ref w0)])) X3 hx rfl rfl rfl (pc0 := 26) (pc' := 29) (same := false) rfl (hb hby d2_26) rfl (decide_eq_false fun q => ne5 (Value.ref.inj q)) (by decide) (by decide) ?_
    show Steps p.tables e below (T3.setTop (mkF m 29 #[.val (.ref w0), .val (.ref w3), .val (.int (0 : Int32))] [])) _
    refine XS.aloadN X3.here hx rfl (hb hby d2_29) rfl rfl ?_
    show Steps p.tables e below (T3.setTop (mkF m 30 #[.val (.ref w0), .val (.ref w3), .val (.int (0 : Int32))] [(.ref w0)])) _
    refine st6 _ ?_
    show Steps p.tables e below (T6.setTop (mkF m 33 #[.val (.ref w0), .val (.ref w3), .val (.int (0 : Int32))] [(.ref w2), (.ref w0)])) _
    refine Jvm.RoadKit.acmp (g := (mkF m 33 #[.val (.ref w0), .val (.ref w3), .val (.int (0 : Int32))] [(.ref w2), (.ref w0)])) X6 hx rfl rfl rfl (pc0 := 33) (pc' := 40) (same := false) rfl (hb hby d2_33) rfl (decide_eq_false fun q => ne7 (Value.ref.inj q)) (by decide) (by decide) ?_
    show Steps p.tables e below (T6.setTop (mkF m 40 #[.val (.ref w0), .val (.ref w3), .val (.int (0 : Int32))] [])) _
    refine XS.iconst X6.here hx rfl (hb hby d2_40) ?_
    show Steps p.tables e below (T6.setTop (mkF m 41 #[.val (.ref w0), .val (.ref w3), .val (.int (0 : Int32))] [(.int (0 : Int32))])) _
    exact retN X6 hx (t := .boolean) Bd.returns (by simp) (hb hby d2_41) hr
  · show Qrm15 Z w0 w1 w2 w3 h0 n0 _ T6.heap _
    rw [e6]
    exact ⟨rfl, N0, rfl⟩
def Qrm16 (Z : State) (w0 : Addr) (w1 : Addr) (w2 : Addr) (w3 : Addr) (h0 : Heap) (n0 : Nat) (v : Option Value) (h : Heap) (L : List Loc) : Prop := v = some (.int (1 : Int32)) ∧ Fr n0 L ∧ h = h0
set_option maxRecDepth 65536 in
set_option maxHeartbeats 40000000 in
theorem rm16 (l : Launch) (Z : State) (a0 : Array Value) (hw : ∀ d ∈ tables_1, d.before a0 Z = true) (w0 : Addr) (w1 : Addr) (w2 : Addr) (w3 : Addr) (hS : SF Z w0 w1 w2 w3) (ws : List Jvm.Cond) (h0 : Heap) (n0 : Nat) (O0 : Old Z n0 h0) :
    MetFree l (⟨z0, "covers", z2⟩ : MethodName) (head1 (Jvm.Cond.code (⟨z0, "covers", z2⟩ : MethodName) prog_12_method_7_code 3 (some .boolean) :: ws) ({ frames := 0, cells := 0, slots := 0, locals := 0 } : Room)) (fun a U => a = #[(.ref w0), (.ref w0)] ∧ Z.Warmed39 U.vm ∧ U.heap = h0) (fun _ _ _ _ _ => True) (fun _ U o U' => ∃ v L, o = .returned v ∧ Qrm16 Z w0 w1 w2 w3 h0 n0 v U'.heap L ∧ FrameEnd U o U' L ({ frames := 0, cells := 0, slots := 0, locals := 0 } : Room).cells ({ frames := 0, cells := 0, slots := 0, locals := 0 } : Room).slots) := by
  refine MetFree.of_bodySF (plainFor_of_name pn53) hisR ?_
  intro p e s m args below meth c s₁ Bd hml0 hP hK
  obtain ⟨rfl, hZ, hh⟩ := hP
  have hx := Bd.exec
  have hby := Bd.bytes
  have hml : c.maxLocals = 3 := hml0
  have hown : s.vm.findClass z0 = some m.cls := findClass_of_methodNamed Bd.named
  have hnm := (name_of_methodNamed Bd.named Bd.method).1
  have X0 : Stand p l e ({ frames := 0, cells := 0, slots := 0, locals := 0 } : Room) s m #[(.ref w0), (.ref w0)] below meth c s₁ [] 0 0 := Stand.of_body Bd
  have e0 : s₁.heap = h0 := by rw [← hh, Bd.state]; rfl
  have N0 := Fr.nil n0
  have pre0 : ∀ t, Steps p.tables e below (s₁.setTop (mkF m 0 #[.val (.ref w0), .val (.ref w0), .unset] [])) t → Steps p.tables e below (s₁.setTop (entryFrame m #[(.ref w0), (.ref w0)] 3)) t := fun t k => castTop (ef52 m w0 w0) k
  obtain ⟨T1, X1, e1, st1⟩ := getS2 X0 hx hZ hown (host := "") (Or.inl (hw _ m14)) Via.refl e0 (hS.2.2.2.1.ext O0.2) (g := (mkF m 1 #[.val (.ref w0), .val (.ref w0), .unset] [(.ref w0)])) rfl (hb hby d2_1)
  have ne2 : w0 ≠ w1 := (Fld.ne hS.2.2.1 hS.2.2.2.2.2.1 (fun q => absurd (Value.int.inj q) (by decide)))
  obtain ⟨T3, X3, e3, st3⟩ := getS2 X1 hx hZ hown (host := "") (Or.inl (hw _ m14)) Via.refl e1 (hS.2.2.2.1.ext O0.2) (g := (mkF m 8 #[.val (.ref w0), .val (.ref w0), .unset] [(.ref w0)])) rfl (hb hby d2_8)
  obtain ⟨fs, hr, hrun, hended, hW, hsame⟩ := X3.leave (v := some (.int (1 : Int32))) (fun h => by rw [Bd.returns] at h; cases h)
  refine ⟨_, _, pre0 _ ?_, hrun, hended, _, _, rfl, ?_, ⟨_, rfl⟩, hW, hsame.mono (by decide) (by decide)⟩
  · show Steps p.tables e below (s₁.setTop (mkF m 0 #[.val (.ref w0), .val (.ref w0), .unset] [])) _
    refine XS.aloadN X0.here hx rfl (hb hby d2_0) rfl rfl ?_
    show Steps p.tables e below (s₁.setTop (mkF m 1 #[.val (.ref w0), .val (.ref w0), .unset] [(.ref w0)])) _
    refine st1 _ ?_
    show Steps p.tables e below (T1.setTop (mkF m 4 #[.val (.ref w0), .val (.ref w0), .unset] [(.ref w1), (.ref w0)])) _
    refine Jvm.RoadKit.acmp (g := (mkF m 4 #[.val (.ref w0), .val (.ref w0), .unset] [(.ref w1), (.ref w0)])) X1 hx rfl rfl rfl (pc0 := 4) (pc' := 7) (same := false) rfl (hb hby d2_4) rfl (decide_eq_false fun q => ne2 (Value.ref.inj q)) (by decide) (by decide) ?_
    show Steps p.tables e below (T1.setTop (mkF m 7 #[.val (.ref w0), .val (.ref w0), .unset] [])) _
    refine XS.aloadN X1.here hx rfl (hb hby d2_7) rfl rfl ?_
    show Steps p.tables e below (T1.setTop (mkF m 8 #[.val (.ref w0), .val (.ref w0), .unset] [(.ref w0)])) _
    refine st3 _ ?_
    show Steps p.tables e below (T3.setTop (mkF m 11 #[.val (.ref w0), .val (.ref w0), .unset] [(.ref w1), (.ref w0)])) _
    refine Jvm.RoadKit.acmp (g := (mkF m 11 #[.val (.ref w0), .val (.ref w0), .unset] [(.ref w1), (.ref w0)])) X3 hx rfl rfl rfl (pc0 := 11) (pc' := 18) (same := false) rfl (hb hby d2_11) rfl (decide_eq_false fun q => ne2 (Value.ref.inj q)) (by decide) (by decide) ?_
    show Steps p.tables e below (T3.setTop (mkF m 18 #[.val (.ref w0), .val (.ref w0), .unset] [])) _
    refine XS.iconst X3.here hx rfl (hb hby d2_18) ?_
    show Steps p.tables e below (T3.setTop (mkF m 19 #[.val (.ref w0), .val (.ref w0), .unset] [(.int (0 : Int32))])) _
    refine XS.istoreN X3.here hx rfl (hb hby d2_19) rfl (l' := #[.val (.ref w0), .val (.ref w0), .val (.int (0 : Int32))]) rfl ?_
    show Steps p.tables e below (T3.setTop (mkF m 20 #[.val (.ref w0), .val (.ref w0), .val (.int (0 : Int32))] [])) _
    refine XS.iloadN X3.here hx rfl (hb hby d2_20) rfl ?_
    show Steps p.tables e below (T3.setTop (mkF m 21 #[.val (.ref w0), .val (.ref w0), .val (.int (0 : Int32))] [(.int (0 : Int32))])) _
    refine XS.ifNo X3.here hx rfl (hb hby d2_21) rfl ((if0 _ _).trans (teq (by decide : (0 : Int32) = (0 : Int32))).2) ?_
    show Steps p.tables e below (T3.setTop (mkF m 24 #[.val (.ref w0), .val (.ref w0), .val (.int (0 : Int32))] [])) _
    refine XS.aloadN X3.here hx rfl (hb hby d2_24) rfl rfl ?_
    show Steps p.tables e below (T3.setTop (mkF m 25 #[.val (.ref w0), .val (.ref w0), .val (.int (0 : Int32))] [(.ref w0)])) _
    refine XS.aloadN X3.here hx rfl (hb hby d2_25) rfl rfl ?_
    show Steps p.tables e below (T3.setTop (mkF m 26 #[.val (.ref w0), .val (.ref w0), .val (.int (0 : Int32))] [(.ref w0), (.ref w0)])) _
    refine Jvm.RoadKit.acmp (g := (mkF m 26 #[.val (.ref w0), .val (.ref w0), .val (.int (0 : Int32))] [(.ref w0), (.ref w0)])) X3 hx rfl rfl rfl (pc0 := 26) (pc' := 36) (same := true) rfl (hb hby d2_26) rfl (decide_eq_true rfl) (by decide) (by decide) ?_
    show Steps p.tables e below (T3.setTop (mkF m 36 #[.val (.ref w0), .val (.ref w0), .val (.int (0 : Int32))] [])) _
    refine XS.iconst X3.here hx rfl (hb hby d2_36) ?_
    show Steps p.tables e below (T3.setTop (mkF m 37 #[.val (.ref w0), .val (.ref w0), .val (.int (0 : Int32))] [(.int (1 : Int32))])) _
    refine XS.goto X3.here hx rfl (pc0 := 37) (pc' := 41) rfl (hb hby d2_37) (by decide) (by decide) ?_
    show Steps p.tables e below (T3.setTop (mkF m 41 #[.val (.ref w0), .val (.ref w0), .val (.int (0 : Int32))] [(.int (1 : Int32))])) _
    exact retN X3 hx (t := .boolean) Bd.returns (by simp) (hb hby d2_41) hr
  · show Qrm16 Z w0 w1 w2 w3 h0 n0 _ T3.heap _
    rw [e3]
    exact ⟨rfl, N0, rfl⟩
def Qrm17 (Z : State) (w0 : Addr) (w1 : Addr) (w2 : Addr) (w3 : Addr) (h0 : Heap) (n0 : Nat) (v : Option Value) (h : Heap) (L : List Loc) : Prop := v = some (.int (0 : Int32)) ∧ Fr n0 L ∧ h = h0
set_option maxRecDepth 65536 in
set_option maxHeartbeats 40000000 in
theorem rm17 (l : Launch) (Z : State) (a0 : Array Value) (hw : ∀ d ∈ tables_1, d.before a0 Z = true) (w0 : Addr) (w1 : Addr) (w2 : Addr) (w3 : Addr) (hS : SF Z w0 w1 w2 w3) (ws : List Jvm.Cond) (h0 : Heap) (n0 : Nat) (O0 : Old Z n0 h0) :
    MetFree l (⟨z0, "covers", z2⟩ : MethodName) (head1 (Jvm.Cond.code (⟨z0, "covers", z2⟩ : MethodName) prog_12_method_7_code 3 (some .boolean) :: ws) ({ frames := 0, cells := 0, slots := 0, locals := 0 } : Room)) (fun a U => a = #[(.ref w0), (.ref w2)] ∧ Z.Warmed39 U.vm ∧ U.heap = h0) (fun _ _ _ _ _ => True) (fun _ U o U' => ∃ v L, o = .returned v ∧ Qrm17 Z w0 w1 w2 w3 h0 n0 v U'.heap L ∧ FrameEnd U o U' L ({ frames := 0, cells := 0, slots := 0, locals := 0 } : Room).cells ({ frames := 0, cells := 0, slots := 0, locals := 0 } : Room).slots) := by
  refine MetFree.of_bodySF (plainFor_of_name pn53) hisR ?_
  intro p e s m args below meth c s₁ Bd hml0 hP hK
  obtain ⟨rfl, hZ, hh⟩ := hP
  have hx := Bd.exec
  have hby := Bd.bytes
  have hml : c.maxLocals = 3 := hml0
  have hown : s.vm.findClass z0 = some m.cls := findClass_of_methodNamed Bd.named
  have hnm := (name_of_methodNamed Bd.named Bd.method).1
  have X0 : Stand p l e ({ frames := 0, cells := 0, slots := 0, locals := 0 } : Room) s m #[(.ref w0), (.ref w2)] below meth c s₁ [] 0 0 := Stand.of_body Bd
  have e0 : s₁.heap = h0 := by rw [← hh, Bd.state]; rfl
  have N0 := Fr.nil n0
  have pre0 : ∀ t, Steps p.tables e below (s₁.setTop (mkF m 0 #[.val (.ref w0), .val (.ref w2), .unset] [])) t → Steps p.tables e below (s₁.setTop (entryFrame m #[(.ref w0), (.ref w2)] 3)) t := fun t k => castTop (ef52 m w0 w2) k
  obtain ⟨T1, X1, e1, st1⟩ := getS2 X0 hx hZ hown (host := "") (Or.inl (hw _ m14)) Via.refl e0 (hS.2.2.2.1.ext O0.2) (g := (mkF m 1 #[.val (.ref w0), .val (.ref w2), .unset] [(.ref w0)])) rfl (hb hby d2_1)
  have ne2 : w0 ≠ w1 := (Fld.ne hS.2.2.1 hS.2.2.2.2.2.1 (fun q => absurd (Value.int.inj q) (by decide)))
  obtain ⟨T3, X3, e3, st3⟩ := getS2 X1 hx hZ hown (host := "") (Or.inl (hw _ m14)) Via.refl e1 (hS.2.2.2.1.ext O0.2) (g := (mkF m 8 #[.val (.ref w0), .val (.ref w2), .unset] [(.ref w2)])) rfl (hb hby d2_8)
  have ne4 : w2 ≠ w1 := (Fld.ne hS.2.2.2.2.2.2.2.2.1 hS.2.2.2.2.2.1 (fun q => absurd (Value.int.inj q) (by decide)))
  have ne5 : w0 ≠ w2 := (Fld.ne hS.2.2.1 hS.2.2.2.2.2.2.2.2.1 (fun q => absurd (Value.int.inj q) (by decide)))
  obtain ⟨T6, X6, e6, st6⟩ := getS2 X3 hx hZ hown (host := "") (Or.inl (hw _ m25)) Via.refl e3 (hS.2.2.2.2.2.2.1.ext O0.2) (g := (mkF m 30 #[.val (.ref w0), .val (.ref w2), .val (.int (0 : Int32))] [(.ref w0)])) rfl (hb hby d2_30)
  obtain ⟨fs, hr, hrun, hended, hW, hsame⟩ := X6.leave (v := some (.int (0 : Int32))) (fun h => by rw [Bd.returns] at h; cases h)
  refine ⟨_, _, pre0 _ ?_, hrun, hended, _, _, rfl, ?_, ⟨_, rfl⟩, hW, hsame.mono (by decide) (by decide)⟩
  · show Steps p.tables e below (s₁.setTop (mkF m 0 #[.val (.ref w0), .val (.ref w2), .unset] [])) _
    refine XS.aloadN X0.here hx rfl (hb hby d2_0) rfl rfl ?_
    show Steps p.tables e below (s₁.setTop (mkF m 1 #[.val (.ref w0), .val (.ref w2), .unset] [(.ref w0)])) _
    refine st1 _ ?_
    show Steps p.tables e below (T1.setTop (mkF m 4 #[.val (.ref w0), .val (.ref w2), .unset] [(.ref w1), (.ref w0)])) _
    refine Jvm.RoadKit.acmp (g := (mkF m 4 #[.val (.ref w0), .val (.ref w2), .unset] [(.ref w1), (.ref w0)])) X1 hx rfl rfl rfl (pc0 := 4) (pc' := 7) (same := false) rfl (hb hby d2_4) rfl (decide_eq_false fun q => ne2 (Value.ref.inj q)) (by decide) (by decide) ?_
    show Steps p.tables e below (T1.setTop (mkF m 7 #[.val (.ref w0), .val (.ref w2), .unset] [])) _
    refine XS.aloadN X1.here hx rfl (hb hby d2_7) rfl rfl ?_
    show Steps p.tables e below (T1.setTop (mkF m 8 #[.val (.ref w0), .val (.ref w2), .unset] [(.ref w2)])) _
    refine st3 _ ?_
    show Steps p.tables e below (T3.setTop (mkF m 11 #[.val (.ref w0), .val (.ref w2), .unset] [(.ref w1), (.ref w2)])) _
    refine Jvm.RoadKit.acmp (g := (mkF m 11 #[.val (.ref w0), .val (.ref w2), .unset] [(.ref w1), (.ref w2)])) X3 hx rfl rfl rfl (pc0 := 11) (pc' := 18) (same := false) rfl (hb hby d2_11) rfl (decide_eq_false fun q => ne4 (Value.ref.inj q)) (by decide) (by decide) ?_
    show Steps p.tables e below (T3.setTop (mkF m 18 #[.val (.ref w0), .val (.ref w2), .unset] [])) _
    refine XS.iconst X3.here hx rfl (hb hby d2_18) ?_
    show Steps p.tables e below (T3.setTop (mkF m 19 #[.val (.ref w0), .val (.ref w2), .unset] [(.int (0 : Int32))])) _
    refine XS.istoreN X3.here hx rfl (hb hby d2_19) rfl (l' := #[.val (.ref w0), .val (.ref w2), .val (.int (0 : Int32))]) rfl ?_
    show Steps p.tables e below (T3.setTop (mkF m 20 #[.val (.ref w0), .val (.ref w2), .val (.int (0 : Int32))] [])) _
    refine XS.iloadN X3.here hx rfl (hb hby d2_20) rfl ?_
    show Steps p.tables e below (T3.setTop (mkF m 21 #[.val (.ref w0), .val (.ref w2), .val (.int (0 : Int32))] [(.int (0 : Int32))])) _
    refine XS.ifNo X3.here hx rfl (hb hby d2_21) rfl ((if0 _ _).trans (teq (by decide : (0 : Int32) = (0 : Int32))).2) ?_
    show Steps p.tables e below (T3.setTop (mkF m 24 #[.val (.ref w0), .val (.ref w2), .val (.int (0 : Int32))] [])) _
    refine XS.aloadN X3.here hx rfl (hb hby d2_24) rfl rfl ?_
    show Steps p.tables e below (T3.setTop (mkF m 25 #[.val (.ref w0), .val (.ref w2), .val (.int (0 : Int32))] [(.ref w0)])) _
    refine XS.aloadN X3.here hx rfl (hb hby d2_25) rfl rfl ?_
    show Steps p.tables e below (T3.setTop (mkF m 26 #[.val (.ref w0), .val (.ref w2), .val (.int (0 : Int32))] [(.ref w2), (.ref w0)])) _
    refine Jvm.RoadKit.acmp (g := (mkF m 26 #[.val (.ref w0), .val (.ref w2), .val (.int (0 : Int32))] [(.ref w2), (.ref w0)])) X3 hx rfl rfl rfl (pc0 := 26) (pc' := 29) (same := false) rfl (hb hby d2_26) rfl (decide_eq_false fun q => ne5 (Value.ref.inj q)) (by decide) (by decide) ?_
    show Steps p.tables e below (T3.setTop (mkF m 29 #[.val (.ref w0), .val (.ref w2), .val (.int (0 : Int32))] [])) _
    refine XS.aloadN X3.here hx rfl (hb hby d2_29) rfl rfl ?_
    show Steps p.tables e below (T3.setTop (mkF m 30 #[.val (.ref w0), .val (.ref w2), .val (.int (0 : Int32))] [(.ref w0)])) _
    refine st6 _ ?_
    show Steps p.tables e below (T6.setTop (mkF m 33 #[.val (.ref w0), .val (.ref w2), .val (.int (0 : Int32))] [(.ref w2), (.ref w0)])) _
    refine Jvm.RoadKit.acmp (g := (mkF m 33 #[.val (.ref w0), .val (.ref w2), .val (.int (0 : Int32))] [(.ref w2), (.ref w0)])) X6 hx rfl rfl rfl (pc0 := 33) (pc' := 40) (same := false) rfl (hb hby d2_33) rfl (decide_eq_false fun q => ne5 (Value.ref.inj q)) (by decide) (by decide) ?_
    show Steps p.tables e below (T6.setTop (mkF m 40 #[.val (.ref w0), .val (.ref w2), .val (.int (0 : Int32))] [])) _
    refine XS.iconst X6.here hx rfl (hb hby d2_40) ?_
    show Steps p.tables e below (T6.setTop (mkF m 41 #[.val (.ref w0), .val (.ref w2), .val (.int (0 : Int32))] [(.int (0 : Int32))])) _
    exact retN X6 hx (t := .boolean) Bd.returns (by simp) (hb hby d2_41) hr
  · show Qrm17 Z w0 w1 w2 w3 h0 n0 _ T6.heap _
    rw [e6]
    exact ⟨rfl, N0, rfl⟩
def Qrm18 (Z : State) (w0 : Addr) (w1 : Addr) (w2 : Addr) (w3 : Addr) (h0 : Heap) (n0 : Nat) (v : Option Value) (h : Heap) (L : List Loc) : Prop := v = some (.int (0 : Int32)) ∧ Fr n0 L ∧ h = h0
set_option maxRecDepth 65536 in
set_option maxHeartbeats 40000000 in
theorem rm18 (l : Launch) (Z : State) (a0 : Array Value) (hw : ∀ d ∈ tables_1, d.before a0 Z = true) (w0 : Addr) (w1 : Addr) (w2 : Addr) (w3 : Addr) (hS : SF Z w0 w1 w2 w3) (ws : List Jvm.Cond) (h0 : Heap) (n0 : Nat) (O0 : Old Z n0 h0) :
    MetFree l (⟨z0, "covers", z2⟩ : MethodName) (head1 (Jvm.Cond.code (⟨z0, "covers", z2⟩ : MethodName) prog_12_method_7_code 3 (some .boolean) :: ws) ({ frames := 0, cells := 0, slots := 0, locals := 0 } : Room)) (fun a U => a = #[(.ref w0), (.ref w1)] ∧ Z.Warmed39 U.vm ∧ U.heap = h0) (fun _ _ _ _ _ => True) (fun _ U o U' => ∃ v L, o = .returned v ∧ Qrm18 Z w0 w1 w2 w3 h0 n0 v U'.heap L ∧ FrameEnd U o U' L ({ frames := 0, cells := 0, slots := 0, locals := 0 } : Room).cells ({ frames := 0, cells := 0, slots := 0, locals := 0 } : Room).slots) := by
  refine MetFree.of_bodySF (plainFor_of_name pn53) hisR ?_
  intro p e s m args below meth c s₁ Bd hml0 hP hK
  obtain ⟨rfl, hZ, hh⟩ := hP
  have hx := Bd.exec
  have hby := Bd.bytes
  have hml : c.maxLocals = 3 := hml0
  have hown : s.vm.findClass z0 = some m.cls := findClass_of_methodNamed Bd.named
  have hnm := (name_of_methodNamed Bd.named Bd.method).1
  have X0 : Stand p l e ({ frames := 0, cells := 0, slots := 0, locals := 0 } : Room) s m #[(.ref w0), (.ref w1)] below meth c s₁ [] 0 0 := Stand.of_body Bd
  have e0 : s₁.heap = h0 := by rw [← hh, Bd.state]; rfl
  have N0 := Fr.nil n0
  have pre0 : ∀ t, Steps p.tables e below (s₁.setTop (mkF m 0 #[.val (.ref w0), .val (.ref w1), .unset] [])) t → Steps p.tables e below (s₁.setTop (entryFrame m #[(.ref w0), (.ref w1)] 3)) t := fun t k => castTop (ef52 m w0 w1) k
  obtain ⟨T1, X1, e1, st1⟩ := getS2 X0 hx hZ hown (host := "") (Or.inl (hw _ m14)) Via.refl e0 (hS.2.2.2.1.ext O0.2) (g := (mkF m 1 #[.val (.ref w0), .val (.ref w1), .unset] [(.ref w0)])) rfl (hb hby d2_1)
  have ne2 : w0 ≠ w1 := (Fld.ne hS.2.2.1 hS.2.2.2.2.2.1 (fun q => absurd (Value.int.inj q) (by decide)))
  obtain ⟨T3, X3, e3, st3⟩ := getS2 X1 hx hZ hown (host := "") (Or.inl (hw _ m14)) Via.refl e1 (hS.2.2.2.1.ext O0.2) (g := (mkF m 8 #[.val (.ref w0), .val (.ref w1), .unset] [(.ref w1)])) rfl (hb hby d2_8)
  obtain ⟨fs, hr, hrun, hended, hW, hsame⟩ := X3.leave (v := some (.int (0 : Int32))) (fun h => by rw [Bd.returns] at h; cases h)
  refine ⟨_, _, pre0 _ ?_, hrun, hended, _, _, rfl, ?_, ⟨_, rfl⟩, hW, hsame.mono (by decide) (by decide)⟩
  · show Steps p.tables e below (s₁.setTop (mkF m 0 #[.val (.ref w0), .val (.ref w1), .unset] [])) _
    refine XS.aloadN X0.here hx rfl (hb hby d2_0) rfl rfl ?_
    show Steps p.tables e below (s₁.setTop (mkF m 1 #[.val (.ref w0), .val (.ref w1), .unset] [(.ref w0)])) _
    refine st1 _ ?_
    show Steps p.tables e below (T1.setTop (mkF m 4 #[.val (.ref w0), .val (.ref w1), .unset] [(.ref w1), (.ref w0)])) _
    refine Jvm.RoadKit.acmp (g := (mkF m 4 #[.val (.ref w0), .val (.ref w1), .unset] [(.ref w1), (.ref w0)])) X1 hx rfl rfl rfl (pc0 := 4) (pc' := 7) (same := false) rfl (hb hby d2_4) rfl (decide_eq_false fun q => ne2 (Value.ref.inj q)) (by decide) (by decide) ?_
    show Steps p.tables e below (T1.setTop (mkF m 7 #[.val (.ref w0), .val (.ref w1), .unset] [])) _
    refine XS.aloadN X1.here hx rfl (hb hby d2_7) rfl rfl ?_
    show Steps p.tables e below (T1.setTop (mkF m 8 #[.val (.ref w0), .val (.ref w1), .unset] [(.ref w1)])) _
    refine st3 _ ?_
    show Steps p.tables e below (T3.setTop (mkF m 11 #[.val (.ref w0), .val (.ref w1), .unset] [(.ref w1), (.ref w1)])) _
    refine Jvm.RoadKit.acmp (g := (mkF m 11 #[.val (.ref w0), .val (.ref w1), .unset] [(.ref w1), (.ref w1)])) X3 hx rfl rfl rfl (pc0 := 11) (pc' := 14) (same := true) rfl (hb hby d2_11) rfl (decide_eq_true rfl) (by decide) (by decide) ?_
    show Steps p.tables e below (T3.setTop (mkF m 14 #[.val (.ref w0), .val (.ref w1), .unset] [])) _
    refine XS.iconst X3.here hx rfl (hb hby d2_14) ?_
    show Steps p.tables e below (T3.setTop (mkF m 15 #[.val (.ref w0), .val (.ref w1), .unset] [(.int (1 : Int32))])) _
    refine XS.goto X3.here hx rfl (pc0 := 15) (pc' := 19) rfl (hb hby d2_15) (by decide) (by decide) ?_
    show Steps p.tables e below (T3.setTop (mkF m 19 #[.val (.ref w0), .val (.ref w1), .unset] [(.int (1 : Int32))])) _
    refine XS.istoreN X3.here hx rfl (hb hby d2_19) rfl (l' := #[.val (.ref w0), .val (.ref w1), .val (.int (1 : Int32))]) rfl ?_
    show Steps p.tables e below (T3.setTop (mkF m 20 #[.val (.ref w0), .val (.ref w1), .val (.int (1 : Int32))] [])) _
    refine XS.iloadN X3.here hx rfl (hb hby d2_20) rfl ?_
    show Steps p.tables e below (T3.setTop (mkF m 21 #[.val (.ref w0), .val (.ref w1), .val (.int (1 : Int32))] [(.int (1 : Int32))])) _
    refine XS.ifYes X3.here hx rfl (pc0 := 21) (pc' := 40) rfl (hb hby d2_21) rfl ((if0 _ _).trans (feq (by decide : ¬ ((1 : Int32) = (0 : Int32)))).2) (by decide) (by decide) ?_
    show Steps p.tables e below (T3.setTop (mkF m 40 #[.val (.ref w0), .val (.ref w1), .val (.int (1 : Int32))] [])) _
    refine XS.iconst X3.here hx rfl (hb hby d2_40) ?_
    show Steps p.tables e below (T3.setTop (mkF m 41 #[.val (.ref w0), .val (.ref w1), .val (.int (1 : Int32))] [(.int (0 : Int32))])) _
    exact retN X3 hx (t := .boolean) Bd.returns (by simp) (hb hby d2_41) hr
  · show Qrm18 Z w0 w1 w2 w3 h0 n0 _ T3.heap _
    rw [e3]
    exact ⟨rfl, N0, rfl⟩
def Qrm19 (Z : State) (w0 : Addr) (w1 : Addr) (w2 : Addr) (w3 : Addr) (h0 : Heap) (n0 : Nat) (v : Option Value) (h : Heap) (L : List Loc) : Prop := v = some (.int (1 : Int32)) ∧ Fr n0 L ∧ h = h0
set_option maxRecDepth 65536 in
set_option maxHeartbeats 40000000 in
theorem rm19 (l : Launch) (Z : State) (a0 : Array Value) (hw : ∀ d ∈ tables_1, d.before a0 Z = true) (w0 : Addr) (w1 : Addr) (w2 : Addr) (w3 : Addr) (hS : SF Z w0 w1 w2 w3) (ws : List Jvm.Cond) (h0 : Heap) (n0 : Nat) (O0 : Old Z n0 h0) :
    MetFree l (⟨z0, "covers", z2⟩ : MethodName) (head1 (Jvm.Cond.code (⟨z0, "covers", z2⟩ : MethodName) prog_12_method_7_code 3 (some .boolean) :: ws) ({ frames := 0, cells := 0, slots := 0, locals := 0 } : Room)) (fun a U => a = #[(.ref w2), (.ref w3)] ∧ Z.Warmed39 U.vm ∧ U.heap = h0) (fun _ _ _ _ _ => True) (fun _ U o U' => ∃ v L, o = .returned v ∧ Qrm19 Z w0 w1 w2 w3 h0 n0 v U'.heap L ∧ FrameEnd U o U' L ({ frames := 0, cells := 0, slots := 0, locals := 0 } : Room).cells ({ frames := 0, cells := 0, slots := 0, locals := 0 } : Room).slots) := by
  refine MetFree.of_bodySF (plainFor_of_name pn53) hisR ?_
  intro p e s m args below meth c s₁ Bd hml0 hP hK
  obtain ⟨rfl, hZ, hh⟩ := hP
  have hx := Bd.exec
  have hby := Bd.bytes
  have hml : c.maxLocals = 3 := hml0
  have hown : s.vm.findClass z0 = some m.cls := findClass_of_methodNamed Bd.named
  have hnm := (name_of_methodNamed Bd.named Bd.method).1
  have X0 : Stand p l e ({ frames := 0, cells := 0, slots := 0, locals := 0 } : Room) s m #[(.ref w2), (.ref w3)] below meth c s₁ [] 0 0 := Stand.of_body Bd
  have e0 : s₁.heap = h0 := by rw [← hh, Bd.state]; rfl
  have N0 := Fr.nil n0
  have pre0 : ∀ t, Steps p.tables e below (s₁.setTop (mkF m 0 #[.val (.ref w2), .val (.ref w3), .unset] [])) t → Steps p.tables e below (s₁.setTop (entryFrame m #[(.ref w2), (.ref w3)] 3)) t := fun t k => castTop (ef52 m w2 w3) k
  obtain ⟨T1, X1, e1, st1⟩ := getS2 X0 hx hZ hown (host := "") (Or.inl (hw _ m14)) Via.refl e0 (hS.2.2.2.1.ext O0.2) (g := (mkF m 1 #[.val (.ref w2), .val (.ref w3), .unset] [(.ref w2)])) rfl (hb hby d2_1)
  have ne2 : w2 ≠ w1 := (Fld.ne hS.2.2.2.2.2.2.2.2.1 hS.2.2.2.2.2.1 (fun q => absurd (Value.int.inj q) (by decide)))
  obtain ⟨T3, X3, e3, st3⟩ := getS2 X1 hx hZ hown (host := "") (Or.inl (hw _ m14)) Via.refl e1 (hS.2.2.2.1.ext O0.2) (g := (mkF m 8 #[.val (.ref w2), .val (.ref w3), .unset] [(.ref w3)])) rfl (hb hby d2_8)
  have ne4 : w3 ≠ w1 := (Fld.ne hS.2.2.2.2.2.2.2.2.2.2.2 hS.2.2.2.2.2.1 (fun q => absurd (Value.int.inj q) (by decide)))
  have ne5 : w2 ≠ w3 := (Fld.ne hS.2.2.2.2.2.2.2.2.1 hS.2.2.2.2.2.2.2.2.2.2.2 (fun q => absurd (Value.int.inj q) (by decide)))
  obtain ⟨T6, X6, e6, st6⟩ := getS2 X3 hx hZ hown (host := "") (Or.inl (hw _ m25)) Via.refl e3 (hS.2.2.2.2.2.2.1.ext O0.2) (g := (mkF m 30 #[.val (.ref w2), .val (.ref w3), .val (.int (0 : Int32))] [(.ref w2)])) rfl (hb hby d2_30)
  obtain ⟨fs, hr, hrun, hended, hW, hsame⟩ := X6.leave (v := some (.int (1 : Int32))) (fun h => by rw [Bd.returns] at h; cases h)
  refine ⟨_, _, pre0 _ ?_, hrun, hended, _, _, rfl, ?_, ⟨_, rfl⟩, hW, hsame.mono (by decide) (by decide)⟩
  · show Steps p.tables e below (s₁.setTop (mkF m 0 #[.val (.ref w2), .val (.ref w3), .unset] [])) _
    refine XS.aloadN X0.here hx rfl (hb hby d2_0) rfl rfl ?_
    show Steps p.tables e below (s₁.setTop (mkF m 1 #[.val (.ref w2), .val (.ref w3), .unset] [(.ref w2)])) _
    refine st1 _ ?_
    show Steps p.tables e below (T1.setTop (mkF m 4 #[.val (.ref w2), .val (.ref w3), .unset] [(.ref w1), (.ref w2)])) _
    refine Jvm.RoadKit.acmp (g := (mkF m 4 #[.val (.ref w2), .val (.ref w3), .unset] [(.ref w1), (.ref w2)])) X1 hx rfl rfl rfl (pc0 := 4) (pc' := 7) (same := false) rfl (hb hby d2_4) rfl (decide_eq_false fun q => ne2 (Value.ref.inj q)) (by decide) (by decide) ?_
    show Steps p.tables e below (T1.setTop (mkF m 7 #[.val (.ref w2), .val (.ref w3), .unset] [])) _
    refine XS.aloadN X1.here hx rfl (hb hby d2_7) rfl rfl ?_
    show Steps p.tables e below (T1.setTop (mkF m 8 #[.val (.ref w2), .val (.ref w3), .unset] [(.ref w3)])) _
    refine st3 _ ?_
    show Steps p.tables e below (T3.setTop (mkF m 11 #[.val (.ref w2), .val (.ref w3), .unset] [(.ref w1), (.ref w3)])) _
    refine Jvm.RoadKit.acmp (g := (mkF m 11 #[.val (.ref w2), .val (.ref w3), .unset] [(.ref w1), (.ref w3)])) X3 hx rfl rfl rfl (pc0 := 11) (pc' := 18) (same := false) rfl (hb hby d2_11) rfl (decide_eq_false fun q => ne4 (Value.ref.inj q)) (by decide) (by decide) ?_
    show Steps p.tables e below (T3.setTop (mkF m 18 #[.val (.ref w2), .val (.ref w3), .unset] [])) _
    refine XS.iconst X3.here hx rfl (hb hby d2_18) ?_
    show Steps p.tables e below (T3.setTop (mkF m 19 #[.val (.ref w2), .val (.ref w3), .unset] [(.int (0 : Int32))])) _
    refine XS.istoreN X3.here hx rfl (hb hby d2_19) rfl (l' := #[.val (.ref w2), .val (.ref w3), .val (.int (0 : Int32))]) rfl ?_
    show Steps p.tables e below (T3.setTop (mkF m 20 #[.val (.ref w2), .val (.ref w3), .val (.int (0 : Int32))] [])) _
    refine XS.iloadN X3.here hx rfl (hb hby d2_20) rfl ?_
    show Steps p.tables e below (T3.setTop (mkF m 21 #[.val (.ref w2), .val (.ref w3), .val (.int (0 : Int32))] [(.int (0 : Int32))])) _
    refine XS.ifNo X3.here hx rfl (hb hby d2_21) rfl ((if0 _ _).trans (teq (by decide : (0 : Int32) = (0 : Int32))).2) ?_
    show Steps p.tables e below (T3.setTop (mkF m 24 #[.val (.ref w2), .val (.ref w3), .val (.int (0 : Int32))] [])) _
    refine XS.aloadN X3.here hx rfl (hb hby d2_24) rfl rfl ?_
    show Steps p.tables e below (T3.setTop (mkF m 25 #[.val (.ref w2), .val (.ref w3), .val (.int (0 : Int32))] [(.ref w2)])) _
    refine XS.aloadN X3.here hx rfl (hb hby d2_25) rfl rfl ?_
    show Steps p.tables e below (T3.setTop (mkF m 26 #[.val (.ref w2), .val (.ref w3), .val (.int (0 : Int32))] [(.ref w3), (.ref w2)])) _
    refine Jvm.RoadKit.acmp (g := (mkF m 26 #[.val (.ref w2), .val (.ref w3), .val (.int (0 : Int32))] [(.ref w3), (.ref w2)])) X3 hx rfl rfl rfl (pc0 := 26) (pc' := 29) (same := false) rfl (hb hby d2_26) rfl (decide_eq_false fun q => ne5 (Value.ref.inj q)) (by decide) (by decide) ?_
    show Steps p.tables e below (T3.setTop (mkF m 29 #[.val (.ref w2), .val (.ref w3), .val (.int (0 : Int32))] [])) _
    refine XS.aloadN X3.here hx rfl (hb hby d2_29) rfl rfl ?_
    show Steps p.tables e below (T3.setTop (mkF m 30 #[.val (.ref w2), .val (.ref w3), .val (.int (0 : Int32))] [(.ref w2)])) _
    refine st6 _ ?_
    show Steps p.tables e below (T6.setTop (mkF m 33 #[.val (.ref w2), .val (.ref w3), .val (.int (0 : Int32))] [(.ref w2), (.ref w2)])) _
    refine Jvm.RoadKit.acmp (g := (mkF m 33 #[.val (.ref w2), .val (.ref w3), .val (.int (0 : Int32))] [(.ref w2), (.ref w2)])) X6 hx rfl rfl rfl (pc0 := 33) (pc' := 36) (same := true) rfl (hb hby d2_33) rfl (decide_eq_true rfl) (by decide) (by decide) ?_
    show Steps p.tables e below (T6.setTop (mkF m 36 #[.val (.ref w2), .val (.ref w3), .val (.int (0 : Int32))] [])) _
    refine XS.iconst X6.here hx rfl (hb hby d2_36) ?_
    show Steps p.tables e below (T6.setTop (mkF m 37 #[.val (.ref w2), .val (.ref w3), .val (.int (0 : Int32))] [(.int (1 : Int32))])) _
    refine XS.goto X6.here hx rfl (pc0 := 37) (pc' := 41) rfl (hb hby d2_37) (by decide) (by decide) ?_
    show Steps p.tables e below (T6.setTop (mkF m 41 #[.val (.ref w2), .val (.ref w3), .val (.int (0 : Int32))] [(.int (1 : Int32))])) _
    exact retN X6 hx (t := .boolean) Bd.returns (by simp) (hb hby d2_41) hr
  · show Qrm19 Z w0 w1 w2 w3 h0 n0 _ T6.heap _
    rw [e6]
    exact ⟨rfl, N0, rfl⟩
def Qrm20 (Z : State) (w0 : Addr) (w1 : Addr) (w2 : Addr) (w3 : Addr) (h0 : Heap) (n0 : Nat) (v : Option Value) (h : Heap) (L : List Loc) : Prop := v = some (.int (1 : Int32)) ∧ Fr n0 L ∧ h = h0
set_option maxRecDepth 65536 in
set_option maxHeartbeats 40000000 in
theorem rm20 (l : Launch) (Z : State) (a0 : Array Value) (hw : ∀ d ∈ tables_1, d.before a0 Z = true) (w0 : Addr) (w1 : Addr) (w2 : Addr) (w3 : Addr) (hS : SF Z w0 w1 w2 w3) (ws : List Jvm.Cond) (h0 : Heap) (n0 : Nat) (O0 : Old Z n0 h0) :
    MetFree l (⟨z0, "covers", z2⟩ : MethodName) (head1 (Jvm.Cond.code (⟨z0, "covers", z2⟩ : MethodName) prog_12_method_7_code 3 (some .boolean) :: ws) ({ frames := 0, cells := 0, slots := 0, locals := 0 } : Room)) (fun a U => a = #[(.ref w2), (.ref w0)] ∧ Z.Warmed39 U.vm ∧ U.heap = h0) (fun _ _ _ _ _ => True) (fun _ U o U' => ∃ v L, o = .returned v ∧ Qrm20 Z w0 w1 w2 w3 h0 n0 v U'.heap L ∧ FrameEnd U o U' L ({ frames := 0, cells := 0, slots := 0, locals := 0 } : Room).cells ({ frames := 0, cells := 0, slots := 0, locals := 0 } : Room).slots) := by
  refine MetFree.of_bodySF (plainFor_of_name pn53) hisR ?_
  intro p e s m args below meth c s₁ Bd hml0 hP hK
  obtain ⟨rfl, hZ, hh⟩ := hP
  have hx := Bd.exec
  have hby := Bd.bytes
  have hml : c.maxLocals = 3 := hml0
  have hown : s.vm.findClass z0 = some m.cls := findClass_of_methodNamed Bd.named
  have hnm := (name_of_methodNamed Bd.named Bd.method).1
  have X0 : Stand p l e ({ frames := 0, cells := 0, slots := 0, locals := 0 } : Room) s m #[(.ref w2), (.ref w0)] below meth c s₁ [] 0 0 := Stand.of_body Bd
  have e0 : s₁.heap = h0 := by rw [← hh, Bd.state]; rfl
  have N0 := Fr.nil n0
  have pre0 : ∀ t, Steps p.tables e below (s₁.setTop (mkF m 0 #[.val (.ref w2), .val (.ref w0), .unset] [])) t → Steps p.tables e below (s₁.setTop (entryFrame m #[(.ref w2), (.ref w0)] 3)) t := fun t k => castTop (ef52 m w2 w0) k
  obtain ⟨T1, X1, e1, st1⟩ := getS2 X0 hx hZ hown (host := "") (Or.inl (hw _ m14)) Via.refl e0 (hS.2.2.2.1.ext O0.2) (g := (mkF m 1 #[.val (.ref w2), .val (.ref w0), .unset] [(.ref w2)])) rfl (hb hby d2_1)
  have ne2 : w2 ≠ w1 := (Fld.ne hS.2.2.2.2.2.2.2.2.1 hS.2.2.2.2.2.1 (fun q => absurd (Value.int.inj q) (by decide)))
  obtain ⟨T3, X3, e3, st3⟩ := getS2 X1 hx hZ hown (host := "") (Or.inl (hw _ m14)) Via.refl e1 (hS.2.2.2.1.ext O0.2) (g := (mkF m 8 #[.val (.ref w2), .val (.ref w0), .unset] [(.ref w0)])) rfl (hb hby d2_8)
  have ne4 : w0 ≠ w1 := (Fld.ne hS.2.2.1 hS.2.2.2.2.2.1 (fun q => absurd (Value.int.inj q) (by decide)))
  have ne5 : w2 ≠ w0 := (Fld.ne hS.2.2.2.2.2.2.2.2.1 hS.2.2.1 (fun q => absurd (Value.int.inj q) (by decide)))
  obtain ⟨T6, X6, e6, st6⟩ := getS2 X3 hx hZ hown (host := "") (Or.inl (hw _ m25)) Via.refl e3 (hS.2.2.2.2.2.2.1.ext O0.2) (g := (mkF m 30 #[.val (.ref w2), .val (.ref w0), .val (.int (0 : Int32))] [(.ref w2)])) rfl (hb hby d2_30)
  obtain ⟨fs, hr, hrun, hended, hW, hsame⟩ := X6.leave (v := some (.int (1 : Int32))) (fun h => by rw [Bd.returns] at h; cases h)
  refine ⟨_, _, pre0 _ ?_, hrun, hended, _, _, rfl, ?_, ⟨_, rfl⟩, hW, hsame.mono (by decide) (by decide)⟩
  · show Steps p.tables e below (s₁.setTop (mkF m 0 #[.val (.ref w2), .val (.ref w0), .unset] [])) _
    refine XS.aloadN X0.here hx rfl (hb hby d2_0) rfl rfl ?_
    show Steps p.tables e below (s₁.setTop (mkF m 1 #[.val (.ref w2), .val (.ref w0), .unset] [(.ref w2)])) _
    refine st1 _ ?_
    show Steps p.tables e below (T1.setTop (mkF m 4 #[.val (.ref w2), .val (.ref w0), .unset] [(.ref w1), (.ref w2)])) _
    refine Jvm.RoadKit.acmp (g := (mkF m 4 #[.val (.ref w2), .val (.ref w0), .unset] [(.ref w1), (.ref w2)])) X1 hx rfl rfl rfl (pc0 := 4) (pc' := 7) (same := false) rfl (hb hby d2_4) rfl (decide_eq_false fun q => ne2 (Value.ref.inj q)) (by decide) (by decide) ?_
    show Steps p.tables e below (T1.setTop (mkF m 7 #[.val (.ref w2), .val (.ref w0), .unset] [])) _
    refine XS.aloadN X1.here hx rfl (hb hby d2_7) rfl rfl ?_
    show Steps p.tables e below (T1.setTop (mkF m 8 #[.val (.ref w2), .val (.ref w0), .unset] [(.ref w0)])) _
    refine st3 _ ?_
    show Steps p.tables e below (T3.setTop (mkF m 11 #[.val (.ref w2), .val (.ref w0), .unset] [(.ref w1), (.ref w0)])) _
    refine Jvm.RoadKit.acmp (g := (mkF m 11 #[.val (.ref w2), .val (.ref w0), .unset] [(.ref w1), (.ref w0)])) X3 hx rfl rfl rfl (pc0 := 11) (pc' := 18) (same := false) rfl (hb hby d2_11) rfl (decide_eq_false fun q => ne4 (Value.ref.inj q)) (by decide) (by decide) ?_
    show Steps p.tables e below (T3.setTop (mkF m 18 #[.val (.ref w2), .val (.ref w0), .unset] [])) _
    refine XS.iconst X3.here hx rfl (hb hby d2_18) ?_
    show Steps p.tables e below (T3.setTop (mkF m 19 #[.val (.ref w2), .val (.ref w0), .unset] [(.int (0 : Int32))])) _
    refine XS.istoreN X3.here hx rfl (hb hby d2_19) rfl (l' := #[.val (.ref w2), .val (.ref w0), .val (.int (0 : Int32))]) rfl ?_
    show Steps p.tables e below (T3.setTop (mkF m 20 #[.val (.ref w2), .val (.ref w0), .val (.int (0 : Int32))] [])) _
    refine XS.iloadN X3.here hx rfl (hb hby d2_20) rfl ?_
    show Steps p.tables e below (T3.setTop (mkF m 21 #[.val (.ref w2), .val (.ref w0), .val (.int (0 : Int32))] [(.int (0 : Int32))])) _
    refine XS.ifNo X3.here hx rfl (hb hby d2_21) rfl ((if0 _ _).trans (teq (by decide : (0 : Int32) = (0 : Int32))).2) ?_
    show Steps p.tables e below (T3.setTop (mkF m 24 #[.val (.ref w2), .val (.ref w0), .val (.int (0 : Int32))] [])) _
    refine XS.aloadN X3.here hx rfl (hb hby d2_24) rfl rfl ?_
    show Steps p.tables e below (T3.setTop (mkF m 25 #[.val (.ref w2), .val (.ref w0), .val (.int (0 : Int32))] [(.ref w2)])) _
    refine XS.aloadN X3.here hx rfl (hb hby d2_25) rfl rfl ?_
    show Steps p.tables e below (T3.setTop (mkF m 26 #[.val (.ref w2), .val (.ref w0), .val (.int (0 : Int32))] [(.ref w0), (.ref w2)])) _
    refine Jvm.RoadKit.acmp (g := (mkF m 26 #[.val (.ref w2), .val (.ref w0), .val (.int (0 : Int32))] [(.ref w0), (.ref w2)])) X3 hx rfl rfl rfl (pc0 := 26) (pc' := 29) (same := false) rfl (hb hby d2_26) rfl (decide_eq_false fun q => ne5 (Value.ref.inj q)) (by decide) (by decide) ?_
    show Steps p.tables e below (T3.setTop (mkF m 29 #[.val (.ref w2), .val (.ref w0), .val (.int (0 : Int32))] [])) _
    refine XS.aloadN X3.here hx rfl (hb hby d2_29) rfl rfl ?_
    show Steps p.tables e below (T3.setTop (mkF m 30 #[.val (.ref w2), .val (.ref w0), .val (.int (0 : Int32))] [(.ref w2)])) _
    refine st6 _ ?_
    show Steps p.tables e below (T6.setTop (mkF m 33 #[.val (.ref w2), .val (.ref w0), .val (.int (0 : Int32))] [(.ref w2), (.ref w2)])) _
    refine Jvm.RoadKit.acmp (g := (mkF m 33 #[.val (.ref w2), .val (.ref w0), .val (.int (0 : Int32))] [(.ref w2), (.ref w2)])) X6 hx rfl rfl rfl (pc0 := 33) (pc' := 36) (same := true) rfl (hb hby d2_33) rfl (decide_eq_true rfl) (by decide) (by decide) ?_
    show Steps p.tables e below (T6.setTop (mkF m 36 #[.val (.ref w2), .val (.ref w0), .val (.int (0 : Int32))] [])) _
    refine XS.iconst X6.here hx rfl (hb hby d2_36) ?_
    show Steps p.tables e below (T6.setTop (mkF m 37 #[.val (.ref w2), .val (.ref w0), .val (.int (0 : Int32))] [(.int (1 : Int32))])) _
    refine XS.goto X6.here hx rfl (pc0 := 37) (pc' := 41) rfl (hb hby d2_37) (by decide) (by decide) ?_
    show Steps p.tables e below (T6.setTop (mkF m 41 #[.val (.ref w2), .val (.ref w0), .val (.int (0 : Int32))] [(.int (1 : Int32))])) _
    exact retN X6 hx (t := .boolean) Bd.returns (by simp) (hb hby d2_41) hr
  · show Qrm20 Z w0 w1 w2 w3 h0 n0 _ T6.heap _
    rw [e6]
    exact ⟨rfl, N0, rfl⟩
def Qrm21 (Z : State) (w0 : Addr) (w1 : Addr) (w2 : Addr) (w3 : Addr) (h0 : Heap) (n0 : Nat) (v : Option Value) (h : Heap) (L : List Loc) : Prop := v = some (.int (1 : Int32)) ∧ Fr n0 L ∧ h = h0
set_option maxRecDepth 65536 in
set_option maxHeartbeats 40000000 in
theorem rm21 (l : Launch) (Z : State) (a0 : Array Value) (hw : ∀ d ∈ tables_1, d.before a0 Z = true) (w0 : Addr) (w1 : Addr) (w2 : Addr) (w3 : Addr) (hS : SF Z w0 w1 w2 w3) (ws : List Jvm.Cond) (h0 : Heap) (n0 : Nat) (O0 : Old Z n0 h0) :
    MetFree l (⟨z0, "covers", z2⟩ : MethodName) (head1 (Jvm.Cond.code (⟨z0, "covers", z2⟩ : MethodName) prog_12_method_7_code 3 (some .boolean) :: ws) ({ frames := 0, cells := 0, slots := 0, locals := 0 } : Room)) (fun a U => a = #[(.ref w2), (.ref w2)] ∧ Z.Warmed39 U.vm ∧ U.heap = h0) (fun _ _ _ _ _ => True) (fun _ U o U' => ∃ v L, o = .returned v ∧ Qrm21 Z w0 w1 w2 w3 h0 n0 v U'.heap L ∧ FrameEnd U o U' L ({ frames := 0, cells := 0, slots := 0, locals := 0 } : Room).cells ({ frames := 0, cells := 0, slots := 0, locals := 0 } : Room).slots) := by
  refine MetFree.of_bodySF (plainFor_of_name pn53) hisR ?_
  intro p e s m args below meth c s₁ Bd hml0 hP hK
  obtain ⟨rfl, hZ, hh⟩ := hP
  have hx := Bd.exec
  have hby := Bd.bytes
  have hml : c.maxLocals = 3 := hml0
  have hown : s.vm.findClass z0 = some m.cls := findClass_of_methodNamed Bd.named
  have hnm := (name_of_methodNamed Bd.named Bd.method).1
  have X0 : Stand p l e ({ frames := 0, cells := 0, slots := 0, locals := 0 } : Room) s m #[(.ref w2), (.ref w2)] below meth c s₁ [] 0 0 := Stand.of_body Bd
  have e0 : s₁.heap = h0 := by rw [← hh, Bd.state]; rfl
  have N0 := Fr.nil n0
  have pre0 : ∀ t, Steps p.tables e below (s₁.setTop (mkF m 0 #[.val (.ref w2), .val (.ref w2), .unset] [])) t → Steps p.tables e below (s₁.setTop (entryFrame m #[(.ref w2), (.ref w2)] 3)) t := fun t k => castTop (ef52 m w2 w2) k
  obtain ⟨T1, X1, e1, st1⟩ := getS2 X0 hx hZ hown (host := "") (Or.inl (hw _ m14)) Via.refl e0 (hS.2.2.2.1.ext O0.2) (g := (mkF m 1 #[.val (.ref w2), .val (.ref w2), .unset] [(.ref w2)])) rfl (hb hby d2_1)
  have ne2 : w2 ≠ w1 := (Fld.ne hS.2.2.2.2.2.2.2.2.1 hS.2.2.2.2.2.1 (fun q => absurd (Value.int.inj q) (by decide)))
  obtain ⟨T3, X3, e3, st3⟩ := getS2 X1 hx hZ hown (host := "") (Or.inl (hw _ m14)) Via.refl e1 (hS.2.2.2.1.ext O0.2) (g := (mkF m 8 #[.val (.ref w2), .val (.ref w2), .unset] [(.ref w2)])) rfl (hb hby d2_8)
  obtain ⟨fs, hr, hrun, hended, hW, hsame⟩ := X3.leave (v := some (.int (1 : Int32))) (fun h => by rw [Bd.returns] at h; cases h)
  refine ⟨_, _, pre0 _ ?_, hrun, hended, _, _, rfl, ?_, ⟨_, rfl⟩, hW, hsame.mono (by decide) (by decide)⟩
  · show Steps p.tables e below (s₁.setTop (mkF m 0 #[.val (.ref w2), .val (.ref w2), .unset] [])) _
    refine XS.aloadN X0.here hx rfl (hb hby d2_0) rfl rfl ?_
    show Steps p.tables e below (s₁.setTop (mkF m 1 #[.val (.ref w2), .val (.ref w2), .unset] [(.ref w2)])) _
    refine st1 _ ?_
    show Steps p.tables e below (T1.setTop (mkF m 4 #[.val (.ref w2), .val (.ref w2), .unset] [(.ref w1), (.ref w2)])) _
    refine Jvm.RoadKit.acmp (g := (mkF m 4 #[.val (.ref w2), .val (.ref w2), .unset] [(.ref w1), (.ref w2)])) X1 hx rfl rfl rfl (pc0 := 4) (pc' := 7) (same := false) rfl (hb hby d2_4) rfl (decide_eq_false fun q => ne2 (Value.ref.inj q)) (by decide) (by decide) ?_
    show Steps p.tables e below (T1.setTop (mkF m 7 #[.val (.ref w2), .val (.ref w2), .unset] [])) _
    refine XS.aloadN X1.here hx rfl (hb hby d2_7) rfl rfl ?_
    show Steps p.tables e below (T1.setTop (mkF m 8 #[.val (.ref w2), .val (.ref w2), .unset] [(.ref w2)])) _
    refine st3 _ ?_
    show Steps p.tables e below (T3.setTop (mkF m 11 #[.val (.ref w2), .val (.ref w2), .unset] [(.ref w1), (.ref w2)])) _
    refine Jvm.RoadKit.acmp (g := (mkF m 11 #[.val (.ref w2), .val (.ref w2), .unset] [(.ref w1), (.ref w2)])) X3 hx rfl rfl rfl (pc0 := 11) (pc' := 18) (same := false) rfl (hb hby d2_11) rfl (decide_eq_false fun q => ne2 (Value.ref.inj q)) (by decide) (by decide) ?_
    show Steps p.tables e below (T3.setTop (mkF m 18 #[.val (.ref w2), .val (.ref w2), .unset] [])) _
    refine XS.iconst X3.here hx rfl (hb hby d2_18) ?_
    show Steps p.tables e below (T3.setTop (mkF m 19 #[.val (.ref w2), .val (.ref w2), .unset] [(.int (0 : Int32))])) _
    refine XS.istoreN X3.here hx rfl (hb hby d2_19) rfl (l' := #[.val (.ref w2), .val (.ref w2), .val (.int (0 : Int32))]) rfl ?_
    show Steps p.tables e below (T3.setTop (mkF m 20 #[.val (.ref w2), .val (.ref w2), .val (.int (0 : Int32))] [])) _
    refine XS.iloadN X3.here hx rfl (hb hby d2_20) rfl ?_
    show Steps p.tables e below (T3.setTop (mkF m 21 #[.val (.ref w2), .val (.ref w2), .val (.int (0 : Int32))] [(.int (0 : Int32))])) _
    refine XS.ifNo X3.here hx rfl (hb hby d2_21) rfl ((if0 _ _).trans (teq (by decide : (0 : Int32) = (0 : Int32))).2) ?_
    show Steps p.tables e below (T3.setTop (mkF m 24 #[.val (.ref w2), .val (.ref w2), .val (.int (0 : Int32))] [])) _
    refine XS.aloadN X3.here hx rfl (hb hby d2_24) rfl rfl ?_
    show Steps p.tables e below (T3.setTop (mkF m 25 #[.val (.ref w2), .val (.ref w2), .val (.int (0 : Int32))] [(.ref w2)])) _
    refine XS.aloadN X3.here hx rfl (hb hby d2_25) rfl rfl ?_
    show Steps p.tables e below (T3.setTop (mkF m 26 #[.val (.ref w2), .val (.ref w2), .val (.int (0 : Int32))] [(.ref w2), (.ref w2)])) _
    refine Jvm.RoadKit.acmp (g := (mkF m 26 #[.val (.ref w2), .val (.ref w2), .val (.int (0 : Int32))] [(.ref w2), (.ref w2)])) X3 hx rfl rfl rfl (pc0 := 26) (pc' := 36) (same := true) rfl (hb hby d2_26) rfl (decide_eq_true rfl) (by decide) (by decide) ?_
    show Steps p.tables e below (T3.setTop (mkF m 36 #[.val (.ref w2), .val (.ref w2), .val (.int (0 : Int32))] [])) _
    refine XS.iconst X3.here hx rfl (hb hby d2_36) ?_
    show Steps p.tables e below (T3.setTop (mkF m 37 #[.val (.ref w2), .val (.ref w2), .val (.int (0 : Int32))] [(.int (1 : Int32))])) _
    refine XS.goto X3.here hx rfl (pc0 := 37) (pc' := 41) rfl (hb hby d2_37) (by decide) (by decide) ?_
    show Steps p.tables e below (T3.setTop (mkF m 41 #[.val (.ref w2), .val (.ref w2), .val (.int (0 : Int32))] [(.int (1 : Int32))])) _
    exact retN X3 hx (t := .boolean) Bd.returns (by simp) (hb hby d2_41) hr
  · show Qrm21 Z w0 w1 w2 w3 h0 n0 _ T3.heap _
    rw [e3]
    exact ⟨rfl, N0, rfl⟩
def Qrm22 (Z : State) (w0 : Addr) (w1 : Addr) (w2 : Addr) (w3 : Addr) (h0 : Heap) (n0 : Nat) (v : Option Value) (h : Heap) (L : List Loc) : Prop := v = some (.int (0 : Int32)) ∧ Fr n0 L ∧ h = h0
set_option maxRecDepth 65536 in
set_option maxHeartbeats 40000000 in
theorem rm22 (l : Launch) (Z : State) (a0 : Array Value) (hw : ∀ d ∈ tables_1, d.before a0 Z = true) (w0 : Addr) (w1 : Addr) (w2 : Addr) (w3 : Addr) (hS : SF Z w0 w1 w2 w3) (ws : List Jvm.Cond) (h0 : Heap) (n0 : Nat) (O0 : Old Z n0 h0) :
    MetFree l (⟨z0, "covers", z2⟩ : MethodName) (head1 (Jvm.Cond.code (⟨z0, "covers", z2⟩ : MethodName) prog_12_method_7_code 3 (some .boolean) :: ws) ({ frames := 0, cells := 0, slots := 0, locals := 0 } : Room)) (fun a U => a = #[(.ref w2), (.ref w1)] ∧ Z.Warmed39 U.vm ∧ U.heap = h0) (fun _ _ _ _ _ => True) (fun _ U o U' => ∃ v L, o = .returned v ∧ Qrm22 Z w0 w1 w2 w3 h0 n0 v U'.heap L ∧ FrameEnd U o U' L ({ frames := 0, cells := 0, slots := 0, locals := 0 } : Room).cells ({ frames := 0, cells := 0, slots := 0, locals := 0 } : Room).slots) := by
  refine MetFree.of_bodySF (plainFor_of_name pn53) hisR ?_
  intro p e s m args below meth c s₁ Bd hml0 hP hK
  obtain ⟨rfl, hZ, hh⟩ := hP
  have hx := Bd.exec
  have hby := Bd.bytes
  have hml : c.maxLocals = 3 := hml0
  have hown : s.vm.findClass z0 = some m.cls := findClass_of_methodNamed Bd.named
  have hnm := (name_of_methodNamed Bd.named Bd.method).1
  have X0 : Stand p l e ({ frames := 0, cells := 0, slots := 0, locals := 0 } : Room) s m #[(.ref w2), (.ref w1)] below meth c s₁ [] 0 0 := Stand.of_body Bd
  have e0 : s₁.heap = h0 := by rw [← hh, Bd.state]; rfl
  have N0 := Fr.nil n0
  have pre0 : ∀ t, Steps p.tables e below (s₁.setTop (mkF m 0 #[.val (.ref w2), .val (.ref w1), .unset] [])) t → Steps p.tables e below (s₁.setTop (entryFrame m #[(.ref w2), (.ref w1)] 3)) t := fun t k => castTop (ef52 m w2 w1) k
  obtain ⟨T1, X1, e1, st1⟩ := getS2 X0 hx hZ hown (host := "") (Or.inl (hw _ m14)) Via.refl e0 (hS.2.2.2.1.ext O0.2) (g := (mkF m 1 #[.val (.ref w2), .val (.ref w1), .unset] [(.ref w2)])) rfl (hb hby d2_1)
  have ne2 : w2 ≠ w1 := (Fld.ne hS.2.2.2.2.2.2.2.2.1 hS.2.2.2.2.2.1 (fun q => absurd (Value.int.inj q) (by decide)))
  obtain ⟨T3, X3, e3, st3⟩ := getS2 X1 hx hZ hown (host := "") (Or.inl (hw _ m14)) Via.refl e1 (hS.2.2.2.1.ext O0.2) (g := (mkF m 8 #[.val (.ref w2), .val (.ref w1), .unset] [(.ref w1)])) rfl (hb hby d2_8)
  obtain ⟨fs, hr, hrun, hended, hW, hsame⟩ := X3.leave (v := some (.int (0 : Int32))) (fun h => by rw [Bd.returns] at h; cases h)
  refine ⟨_, _, pre0 _ ?_, hrun, hended, _, _, rfl, ?_, ⟨_, rfl⟩, hW, hsame.mono (by decide) (by decide)⟩
  · show Steps p.tables e below (s₁.setTop (mkF m 0 #[.val (.ref w2), .val (.ref w1), .unset] [])) _
    refine XS.aloadN X0.here hx rfl (hb hby d2_0) rfl rfl ?_
    show Steps p.tables e below (s₁.setTop (mkF m 1 #[.val (.ref w2), .val (.ref w1), .unset] [(.ref w2)])) _
    refine st1 _ ?_
    show Steps p.tables e below (T1.setTop (mkF m 4 #[.val (.ref w2), .val (.ref w1), .unset] [(.ref w1), (.ref w2)])) _
    refine Jvm.RoadKit.acmp (g := (mkF m 4 #[.val (.ref w2), .val (.ref w1), .unset] [(.ref w1), (.ref w2)])) X1 hx rfl rfl rfl (pc0 := 4) (pc' := 7) (same := false) rfl (hb hby d2_4) rfl (decide_eq_false fun q => ne2 (Value.ref.inj q)) (by decide) (by decide) ?_
    show Steps p.tables e below (T1.setTop (mkF m 7 #[.val (.ref w2), .val (.ref w1), .unset] [])) _
    refine XS.aloadN X1.here hx rfl (hb hby d2_7) rfl rfl ?_
    show Steps p.tables e below (T1.setTop (mkF m 8 #[.val (.ref w2), .val (.ref w1), .unset] [(.ref w1)])) _
    refine st3 _ ?_
    show Steps p.tables e below (T3.setTop (mkF m 11 #[.val (.ref w2), .val (.ref w1), .unset] [(.ref w1), (.ref w1)])) _
    refine Jvm.RoadKit.acmp (g := (mkF m 11 #[.val (.ref w2), .val (.ref w1), .unset] [(.ref w1), (.ref w1)])) X3 hx rfl rfl rfl (pc0 := 11) (pc' := 14) (same := true) rfl (hb hby d2_11) rfl (decide_eq_true rfl) (by decide) (by decide) ?_
    show Steps p.tables e below (T3.setTop (mkF m 14 #[.val (.ref w2), .val (.ref w1), .unset] [])) _
    refine XS.iconst X3.here hx rfl (hb hby d2_14) ?_
    show Steps p.tables e below (T3.setTop (mkF m 15 #[.val (.ref w2), .val (.ref w1), .unset] [(.int (1 : Int32))])) _
    refine XS.goto X3.here hx rfl (pc0 := 15) (pc' := 19) rfl (hb hby d2_15) (by decide) (by decide) ?_
    show Steps p.tables e below (T3.setTop (mkF m 19 #[.val (.ref w2), .val (.ref w1), .unset] [(.int (1 : Int32))])) _
    refine XS.istoreN X3.here hx rfl (hb hby d2_19) rfl (l' := #[.val (.ref w2), .val (.ref w1), .val (.int (1 : Int32))]) rfl ?_
    show Steps p.tables e below (T3.setTop (mkF m 20 #[.val (.ref w2), .val (.ref w1), .val (.int (1 : Int32))] [])) _
    refine XS.iloadN X3.here hx rfl (hb hby d2_20) rfl ?_
    show Steps p.tables e below (T3.setTop (mkF m 21 #[.val (.ref w2), .val (.ref w1), .val (.int (1 : Int32))] [(.int (1 : Int32))])) _
    refine XS.ifYes X3.here hx rfl (pc0 := 21) (pc' := 40) rfl (hb hby d2_21) rfl ((if0 _ _).trans (feq (by decide : ¬ ((1 : Int32) = (0 : Int32)))).2) (by decide) (by decide) ?_
    show Steps p.tables e below (T3.setTop (mkF m 40 #[.val (.ref w2), .val (.ref w1), .val (.int (1 : Int32))] [])) _
    refine XS.iconst X3.here hx rfl (hb hby d2_40) ?_
    show Steps p.tables e below (T3.setTop (mkF m 41 #[.val (.ref w2), .val (.ref w1), .val (.int (1 : Int32))] [(.int (0 : Int32))])) _
    exact retN X3 hx (t := .boolean) Bd.returns (by simp) (hb hby d2_41) hr
  · show Qrm22 Z w0 w1 w2 w3 h0 n0 _ T3.heap _
    rw [e3]
    exact ⟨rfl, N0, rfl⟩
def Qrm23 (Z : State) (w0 : Addr) (w1 : Addr) (w2 : Addr) (w3 : Addr) (h0 : Heap) (n0 : Nat) (v : Option Value) (h : Heap) (L : List Loc) : Prop := v = some (.int (0 : Int32)) ∧ Fr n0 L ∧ h = h0
set_option maxRecDepth 65536 in
set_option maxHeartbeats 40000000 in
theorem rm23 (l : Launch) (Z : State) (a0 : Array Value) (hw : ∀ d ∈ tables_1, d.before a0 Z = true) (w0 : Addr) (w1 : Addr) (w2 : Addr) (w3 : Addr) (hS : SF Z w0 w1 w2 w3) (ws : List Jvm.Cond) (h0 : Heap) (n0 : Nat) (O0 : Old Z n0 h0) :
    MetFree l (⟨z0, "covers", z2⟩ : MethodName) (head1 (Jvm.Cond.code (⟨z0, "covers", z2⟩ : MethodName) prog_12_method_7_code 3 (some .boolean) :: ws) ({ frames := 0, cells := 0, slots := 0, locals := 0 } : Room)) (fun a U => a = #[(.ref w1), (.ref w3)] ∧ Z.Warmed39 U.vm ∧ U.heap = h0) (fun _ _ _ _ _ => True) (fun _ U o U' => ∃ v L, o = .returned v ∧ Qrm23 Z w0 w1 w2 w3 h0 n0 v U'.heap L ∧ FrameEnd U o U' L ({ frames := 0, cells := 0, slots := 0, locals := 0 } : Room).cells ({ frames := 0, cells := 0, slots := 0, locals := 0 } : Room).slots) := by
  refine MetFree.of_bodySF (plainFor_of_name pn53) hisR ?_
  intro p e s m args below meth c s₁ Bd hml0 hP hK
  obtain ⟨rfl, hZ, hh⟩ := hP
  have hx := Bd.exec
  have hby := Bd.bytes
  have hml : c.maxLocals = 3 := hml0
  have hown : s.vm.findClass z0 = some m.cls := findClass_of_methodNamed Bd.named
  have hnm := (name_of_methodNamed Bd.named Bd.method).1
  have X0 : Stand p l e ({ frames := 0, cells := 0, slots := 0, locals := 0 } : Room) s m #[(.ref w1), (.ref w3)] below meth c s₁ [] 0 0 := Stand.of_body Bd
  have e0 : s₁.heap = h0 := by rw [← hh, Bd.state]; rfl
  have N0 := Fr.nil n0
  have pre0 : ∀ t, Steps p.tables e below (s₁.setTop (mkF m 0 #[.val (.ref w1), .val (.ref w3), .unset] [])) t → Steps p.tables e below (s₁.setTop (entryFrame m #[(.ref w1), (.ref w3)] 3)) t := fun t k => castTop (ef52 m w1 w3) k
  obtain ⟨T1, X1, e1, st1⟩ := getS2 X0 hx hZ hown (host := "") (Or.inl (hw _ m14)) Via.refl e0 (hS.2.2.2.1.ext O0.2) (g := (mkF m 1 #[.val (.ref w1), .val (.ref w3), .unset] [(.ref w1)])) rfl (hb hby d2_1)
  obtain ⟨fs, hr, hrun, hended, hW, hsame⟩ := X1.leave (v := some (.int (0 : Int32))) (fun h => by rw [Bd.returns] at h; cases h)
  refine ⟨_, _, pre0 _ ?_, hrun, hended, _, _, rfl, ?_, ⟨_, rfl⟩, hW, hsame.mono (by decide) (by decide)⟩
  · show Steps p.tables e below (s₁.setTop (mkF m 0 #[.val (.ref w1), .val (.ref w3), .unset] [])) _
    refine XS.aloadN X0.here hx rfl (hb hby d2_0) rfl rfl ?_
    show Steps p.tables e below (s₁.setTop (mkF m 1 #[.val (.ref w1), .val (.ref w3), .unset] [(.ref w1)])) _
    refine st1 _ ?_
    show Steps p.tables e below (T1.setTop (mkF m 4 #[.val (.ref w1), .val (.ref w3), .unset] [(.ref w1), (.ref w1)])) _
    refine Jvm.RoadKit.acmp (g := (mkF m 4 #[.val (.ref w1), .val (.ref w3), .unset] [(.ref w1), (.ref w1)])) X1 hx rfl rfl rfl (pc0 := 4) (pc' := 14) (same := true) rfl (hb hby d2_4) rfl (decide_eq_true rfl) (by decide) (by decide) ?_
    show Steps p.tables e below (T1.setTop (mkF m 14 #[.val (.ref w1), .val (.ref w3), .unset] [])) _
    refine XS.iconst X1.here hx rfl (hb hby d2_14) ?_
    show Steps p.tables e below (T1.setTop (mkF m 15 #[.val (.ref w1), .val (.ref w3), .unset] [(.int (1 : Int32))])) _
    refine XS.goto X1.here hx rfl (pc0 := 15) (pc' := 19) rfl (hb hby d2_15) (by decide) (by decide) ?_
    show Steps p.tables e below (T1.setTop (mkF m 19 #[.val (.ref w1), .val (.ref w3), .unset] [(.int (1 : Int32))])) _
    refine XS.istoreN X1.here hx rfl (hb hby d2_19) rfl (l' := #[.val (.ref w1), .val (.ref w3), .val (.int (1 : Int32))]) rfl ?_
    show Steps p.tables e below (T1.setTop (mkF m 20 #[.val (.ref w1), .val (.ref w3), .val (.int (1 : Int32))] [])) _
    refine XS.iloadN X1.here hx rfl (hb hby d2_20) rfl ?_
    show Steps p.tables e below (T1.setTop (mkF m 21 #[.val (.ref w1), .val (.ref w3), .val (.int (1 : Int32))] [(.int (1 : Int32))])) _
    refine XS.ifYes X1.here hx rfl (pc0 := 21) (pc' := 40) rfl (hb hby d2_21) rfl ((if0 _ _).trans (feq (by decide : ¬ ((1 : Int32) = (0 : Int32)))).2) (by decide) (by decide) ?_
    show Steps p.tables e below (T1.setTop (mkF m 40 #[.val (.ref w1), .val (.ref w3), .val (.int (1 : Int32))] [])) _
    refine XS.iconst X1.here hx rfl (hb hby d2_40) ?_
    show Steps p.tables e below (T1.setTop (mkF m 41 #[.val (.ref w1), .val (.ref w3), .val (.int (1 : Int32))] [(.int (0 : Int32))])) _
    exact retN X1 hx (t := .boolean) Bd.returns (by simp) (hb hby d2_41) hr
  · show Qrm23 Z w0 w1 w2 w3 h0 n0 _ T1.heap _
    rw [e1]
    exact ⟨rfl, N0, rfl⟩
def Qrm24 (Z : State) (w0 : Addr) (w1 : Addr) (w2 : Addr) (w3 : Addr) (h0 : Heap) (n0 : Nat) (v : Option Value) (h : Heap) (L : List Loc) : Prop := v = some (.int (0 : Int32)) ∧ Fr n0 L ∧ h = h0
set_option maxRecDepth 65536 in
set_option maxHeartbeats 40000000 in
theorem rm24 (l : Launch) (Z : State) (a0 : Array Value) (hw : ∀ d ∈ tables_1, d.before a0 Z = true) (w0 : Addr) (w1 : Addr) (w2 : Addr) (w3 : Addr) (hS : SF Z w0 w1 w2 w3) (ws : List Jvm.Cond) (h0 : Heap) (n0 : Nat) (O0 : Old Z n0 h0) :
    MetFree l (⟨z0, "covers", z2⟩ : MethodName) (head1 (Jvm.Cond.code (⟨z0, "covers", z2⟩ : MethodName) prog_12_method_7_code 3 (some .boolean) :: ws) ({ frames := 0, cells := 0, slots := 0, locals := 0 } : Room)) (fun a U => a = #[(.ref w1), (.ref w0)] ∧ Z.Warmed39 U.vm ∧ U.heap = h0) (fun _ _ _ _ _ => True) (fun _ U o U' => ∃ v L, o = .returned v ∧ Qrm24 Z w0 w1 w2 w3 h0 n0 v U'.heap L ∧ FrameEnd U o U' L ({ frames := 0, cells := 0, slots := 0, locals := 0 } : Room).cells ({ frames := 0, cells := 0, slots := 0, locals := 0 } : Room).slots) := by
  refine MetFree.of_bodySF (plainFor_of_name pn53) hisR ?_
  intro p e s m args below meth c s₁ Bd hml0 hP hK
  obtain ⟨rfl, hZ, hh⟩ := hP
  have hx := Bd.exec
  have hby := Bd.bytes
  have hml : c.maxLocals = 3 := hml0
  have hown : s.vm.findClass z0 = some m.cls := findClass_of_methodNamed Bd.named
  have hnm := (name_of_methodNamed Bd.named Bd.method).1
  have X0 : Stand p l e ({ frames := 0, cells := 0, slots := 0, locals := 0 } : Room) s m #[(.ref w1), (.ref w0)] below meth c s₁ [] 0 0 := Stand.of_body Bd
  have e0 : s₁.heap = h0 := by rw [← hh, Bd.state]; rfl
  have N0 := Fr.nil n0
  have pre0 : ∀ t, Steps p.tables e below (s₁.setTop (mkF m 0 #[.val (.ref w1), .val (.ref w0), .unset] [])) t → Steps p.tables e below (s₁.setTop (entryFrame m #[(.ref w1), (.ref w0)] 3)) t := fun t k => castTop (ef52 m w1 w0) k
  obtain ⟨T1, X1, e1, st1⟩ := getS2 X0 hx hZ hown (host := "") (Or.inl (hw _ m14)) Via.refl e0 (hS.2.2.2.1.ext O0.2) (g := (mkF m 1 #[.val (.ref w1), .val (.ref w0), .unset] [(.ref w1)])) rfl (hb hby d2_1)
  obtain ⟨fs, hr, hrun, hended, hW, hsame⟩ := X1.leave (v := some (.int (0 : Int32))) (fun h => by rw [Bd.returns] at h; cases h)
  refine ⟨_, _, pre0 _ ?_, hrun, hended, _, _, rfl, ?_, ⟨_, rfl⟩, hW, hsame.mono (by decide) (by decide)⟩
  · show Steps p.tables e below (s₁.setTop (mkF m 0 #[.val (.ref w1), .val (.ref w0), .unset] [])) _
    refine XS.aloadN X0.here hx rfl (hb hby d2_0) rfl rfl ?_
    show Steps p.tables e below (s₁.setTop (mkF m 1 #[.val (.ref w1), .val (.ref w0), .unset] [(.ref w1)])) _
    refine st1 _ ?_
    show Steps p.tables e below (T1.setTop (mkF m 4 #[.val (.ref w1), .val (.ref w0), .unset] [(.ref w1), (.ref w1)])) _
    refine Jvm.RoadKit.acmp (g := (mkF m 4 #[.val (.ref w1), .val (.ref w0), .unset] [(.ref w1), (.ref w1)])) X1 hx rfl rfl rfl (pc0 := 4) (pc' := 14) (same := true) rfl (hb hby d2_4) rfl (decide_eq_true rfl) (by decide) (by decide) ?_
    show Steps p.tables e below (T1.setTop (mkF m 14 #[.val (.ref w1), .val (.ref w0), .unset] [])) _
    refine XS.iconst X1.here hx rfl (hb hby d2_14) ?_
    show Steps p.tables e below (T1.setTop (mkF m 15 #[.val (.ref w1), .val (.ref w0), .unset] [(.int (1 : Int32))])) _
    refine XS.goto X1.here hx rfl (pc0 := 15) (pc' := 19) rfl (hb hby d2_15) (by decide) (by decide) ?_
    show Steps p.tables e below (T1.setTop (mkF m 19 #[.val (.ref w1), .val (.ref w0), .unset] [(.int (1 : Int32))])) _
    refine XS.istoreN X1.here hx rfl (hb hby d2_19) rfl (l' := #[.val (.ref w1), .val (.ref w0), .val (.int (1 : Int32))]) rfl ?_
    show Steps p.tables e below (T1.setTop (mkF m 20 #[.val (.ref w1), .val (.ref w0), .val (.int (1 : Int32))] [])) _
    refine XS.iloadN X1.here hx rfl (hb hby d2_20) rfl ?_
    show Steps p.tables e below (T1.setTop (mkF m 21 #[.val (.ref w1), .val (.ref w0), .val (.int (1 : Int32))] [(.int (1 : Int32))])) _
    refine XS.ifYes X1.here hx rfl (pc0 := 21) (pc' := 40) rfl (hb hby d2_21) rfl ((if0 _ _).trans (feq (by decide : ¬ ((1 : Int32) = (0 : Int32)))).2) (by decide) (by decide) ?_
    show Steps p.tables e below (T1.setTop (mkF m 40 #[.val (.ref w1), .val (.ref w0), .val (.int (1 : Int32))] [])) _
    refine XS.iconst X1.here hx rfl (hb hby d2_40) ?_
    show Steps p.tables e below (T1.setTop (mkF m 41 #[.val (.ref w1), .val (.ref w0), .val (.int (1 : Int32))] [(.int (0 : Int32))])) _
    exact retN X1 hx (t := .boolean) Bd.returns (by simp) (hb hby d2_41) hr
  · show Qrm24 Z w0 w1 w2 w3 h0 n0 _ T1.heap _
    rw [e1]
    exact ⟨rfl, N0, rfl⟩
def Qrm25 (Z : State) (w0 : Addr) (w1 : Addr) (w2 : Addr) (w3 : Addr) (h0 : Heap) (n0 : Nat) (v : Option Value) (h : Heap) (L : List Loc) : Prop := v = some (.int (0 : Int32)) ∧ Fr n0 L ∧ h = h0
set_option maxRecDepth 65536 in
set_option maxHeartbeats 40000000 in
theorem rm25 (l : Launch) (Z : State) (a0 : Array Value) (hw : ∀ d ∈ tables_1, d.before a0 Z = true) (w0 : Addr) (w1 : Addr) (w2 : Addr) (w3 : Addr) (hS : SF Z w0 w1 w2 w3) (ws : List Jvm.Cond) (h0 : Heap) (n0 : Nat) (O0 : Old Z n0 h0) :
    MetFree l (⟨z0, "covers", z2⟩ : MethodName) (head1 (Jvm.Cond.code (⟨z0, "covers", z2⟩ : MethodName) prog_12_method_7_code 3 (some .boolean) :: ws) ({ frames := 0, cells := 0, slots := 0, locals := 0 } : Room)) (fun a U => a = #[(.ref w1), (.ref w2)] ∧ Z.Warmed39 U.vm ∧ U.heap = h0) (fun _ _ _ _ _ => True) (fun _ U o U' => ∃ v L, o = .returned v ∧ Qrm25 Z w0 w1 w2 w3 h0 n0 v U'.heap L ∧ FrameEnd U o U' L ({ frames := 0, cells := 0, slots := 0, locals := 0 } : Room).cells ({ frames := 0, cells := 0, slots := 0, locals := 0 } : Room).slots) := by
  refine MetFree.of_bodySF (plainFor_of_name pn53) hisR ?_
  intro p e s m args below meth c s₁ Bd hml0 hP hK
  obtain ⟨rfl, hZ, hh⟩ := hP
  have hx := Bd.exec
  have hby := Bd.bytes
  have hml : c.maxLocals = 3 := hml0
  have hown : s.vm.findClass z0 = some m.cls := findClass_of_methodNamed Bd.named
  have hnm := (name_of_methodNamed Bd.named Bd.method).1
  have X0 : Stand p l e ({ frames := 0, cells := 0, slots := 0, locals := 0 } : Room) s m #[(.ref w1), (.ref w2)] below meth c s₁ [] 0 0 := Stand.of_body Bd
  have e0 : s₁.heap = h0 := by rw [← hh, Bd.state]; rfl
  have N0 := Fr.nil n0
  have pre0 : ∀ t, Steps p.tables e below (s₁.setTop (mkF m 0 #[.val (.ref w1), .val (.ref w2), .unset] [])) t → Steps p.tables e below (s₁.setTop (entryFrame m #[(.ref w1), (.ref w2)] 3)) t := fun t k => castTop (ef52 m w1 w2) k
  obtain ⟨T1, X1, e1, st1⟩ := getS2 X0 hx hZ hown (host := "") (Or.inl (hw _ m14)) Via.refl e0 (hS.2.2.2.1.ext O0.2) (g := (mkF m 1 #[.val (.ref w1), .val (.ref w2), .unset] [(.ref w1)])) rfl (hb hby d2_1)
  obtain ⟨fs, hr, hrun, hended, hW, hsame⟩ := X1.leave (v := some (.int (0 : Int32))) (fun h => by rw [Bd.returns] at h; cases h)
  refine ⟨_, _, pre0 _ ?_, hrun, hended, _, _, rfl, ?_, ⟨_, rfl⟩, hW, hsame.mono (by decide) (by decide)⟩
  · show Steps p.tables e below (s₁.setTop (mkF m 0 #[.val (.ref w1), .val (.ref w2), .unset] [])) _
    refine XS.aloadN X0.here hx rfl (hb hby d2_0) rfl rfl ?_
    show Steps p.tables e below (s₁.setTop (mkF m 1 #[.val (.ref w1), .val (.ref w2), .unset] [(.ref w1)])) _
    refine st1 _ ?_
    show Steps p.tables e below (T1.setTop (mkF m 4 #[.val (.ref w1), .val (.ref w2), .unset] [(.ref w1), (.ref w1)])) _
    refine Jvm.RoadKit.acmp (g := (mkF m 4 #[.val (.ref w1), .val (.ref w2), .unset] [(.ref w1), (.ref w1)])) X1 hx rfl rfl rfl (pc0 := 4) (pc' := 14) (same := true) rfl (hb hby d2_4) rfl (decide_eq_true rfl) (by decide) (by decide) ?_
    show Steps p.tables e below (T1.setTop (mkF m 14 #[.val (.ref w1), .val (.ref w2), .unset] [])) _
    refine XS.iconst X1.here hx rfl (hb hby d2_14) ?_
    show Steps p.tables e below (T1.setTop (mkF m 15 #[.val (.ref w1), .val (.ref w2), .unset] [(.int (1 : Int32))])) _
    refine XS.goto X1.here hx rfl (pc0 := 15) (pc' := 19) rfl (hb hby d2_15) (by decide) (by decide) ?_
    show Steps p.tables e below (T1.setTop (mkF m 19 #[.val (.ref w1), .val (.ref w2), .unset] [(.int (1 : Int32))])) _
    refine XS.istoreN X1.here hx rfl (hb hby d2_19) rfl (l' := #[.val (.ref w1), .val (.ref w2), .val (.int (1 : Int32))]) rfl ?_
    show Steps p.tables e below (T1.setTop (mkF m 20 #[.val (.ref w1), .val (.ref w2), .val (.int (1 : Int32))] [])) _
    refine XS.iloadN X1.here hx rfl (hb hby d2_20) rfl ?_
    show Steps p.tables e below (T1.setTop (mkF m 21 #[.val (.ref w1), .val (.ref w2), .val (.int (1 : Int32))] [(.int (1 : Int32))])) _
    refine XS.ifYes X1.here hx rfl (pc0 := 21) (pc' := 40) rfl (hb hby d2_21) rfl ((if0 _ _).trans (feq (by decide : ¬ ((1 : Int32) = (0 : Int32)))).2) (by decide) (by decide) ?_
    show Steps p.tables e below (T1.setTop (mkF m 40 #[.val (.ref w1), .val (.ref w2), .val (.int (1 : Int32))] [])) _
    refine XS.iconst X1.here hx rfl (hb hby d2_40) ?_
    show Steps p.tables e below (T1.setTop (mkF m 41 #[.val (.ref w1), .val (.ref w2), .val (.int (1 : Int32))] [(.int (0 : Int32))])) _
    exact retN X1 hx (t := .boolean) Bd.returns (by simp) (hb hby d2_41) hr
  · show Qrm25 Z w0 w1 w2 w3 h0 n0 _ T1.heap _
    rw [e1]
    exact ⟨rfl, N0, rfl⟩
def Qrm26 (Z : State) (w0 : Addr) (w1 : Addr) (w2 : Addr) (w3 : Addr) (h0 : Heap) (n0 : Nat) (v : Option Value) (h : Heap) (L : List Loc) : Prop := v = some (.int (0 : Int32)) ∧ Fr n0 L ∧ h = h0
set_option maxRecDepth 65536 in
set_option maxHeartbeats 40000000 in
theorem rm26 (l : Launch) (Z : State) (a0 : Array Value) (hw : ∀ d ∈ tables_1, d.before a0 Z = true) (w0 : Addr) (w1 : Addr) (w2 : Addr) (w3 : Addr) (hS : SF Z w0 w1 w2 w3) (ws : List Jvm.Cond) (h0 : Heap) (n0 : Nat) (O0 : Old Z n0 h0) :
    MetFree l (⟨z0, "covers", z2⟩ : MethodName) (head1 (Jvm.Cond.code (⟨z0, "covers", z2⟩ : MethodName) prog_12_method_7_code 3 (some .boolean) :: ws) ({ frames := 0, cells := 0, slots := 0, locals := 0 } : Room)) (fun a U => a = #[(.ref w1), (.ref w1)] ∧ Z.Warmed39 U.vm ∧ U.heap = h0) (fun _ _ _ _ _ => True) (fun _ U o U' => ∃ v L, o = .returned v ∧ Qrm26 Z w0 w1 w2 w3 h0 n0 v U'.heap L ∧ FrameEnd U o U' L ({ frames := 0, cells := 0, slots := 0, locals := 0 } : Room).cells ({ frames := 0, cells := 0, slots := 0, locals := 0 } : Room).slots) := by
  refine MetFree.of_bodySF (plainFor_of_name pn53) hisR ?_
  intro p e s m args below meth c s₁ Bd hml0 hP hK
  obtain ⟨rfl, hZ, hh⟩ := hP
  have hx := Bd.exec
  have hby := Bd.bytes
  have hml : c.maxLocals = 3 := hml0
  have hown : s.vm.findClass z0 = some m.cls := findClass_of_methodNamed Bd.named
  have hnm := (name_of_methodNamed Bd.named Bd.method).1
  have X0 : Stand p l e ({ frames := 0, cells := 0, slots := 0, locals := 0 } : Room) s m #[(.ref w1), (.ref w1)] below meth c s₁ [] 0 0 := Stand.of_body Bd
  have e0 : s₁.heap = h0 := by rw [← hh, Bd.state]; rfl
  have N0 := Fr.nil n0
  have pre0 : ∀ t, Steps p.tables e below (s₁.setTop (mkF m 0 #[.val (.ref w1), .val (.ref w1), .unset] [])) t → Steps p.tables e below (s₁.setTop (entryFrame m #[(.ref w1), (.ref w1)] 3)) t := fun t k => castTop (ef52 m w1 w1) k
  obtain ⟨T1, X1, e1, st1⟩ := getS2 X0 hx hZ hown (host := "") (Or.inl (hw _ m14)) Via.refl e0 (hS.2.2.2.1.ext O0.2) (g := (mkF m 1 #[.val (.ref w1), .val (.ref w1), .unset] [(.ref w1)])) rfl (hb hby d2_1)
  obtain ⟨fs, hr, hrun, hended, hW, hsame⟩ := X1.leave (v := some (.int (0 : Int32))) (fun h => by rw [Bd.returns] at h; cases h)
  refine ⟨_, _, pre0 _ ?_, hrun, hended, _, _, rfl, ?_, ⟨_, rfl⟩, hW, hsame.mono (by decide) (by decide)⟩
  · show Steps p.tables e below (s₁.setTop (mkF m 0 #[.val (.ref w1), .val (.ref w1), .unset] [])) _
    refine XS.aloadN X0.here hx rfl (hb hby d2_0) rfl rfl ?_
    show Steps p.tables e below (s₁.setTop (mkF m 1 #[.val (.ref w1), .val (.ref w1), .unset] [(.ref w1)])) _
    refine st1 _ ?_
    show Steps p.tables e below (T1.setTop (mkF m 4 #[.val (.ref w1), .val (.ref w1), .unset] [(.ref w1), (.ref w1)])) _
    refine Jvm.RoadKit.acmp (g := (mkF m 4 #[.val (.ref w1), .val (.ref w1), .unset] [(.ref w1), (.ref w1)])) X1 hx rfl rfl rfl (pc0 := 4) (pc' := 14) (same := true) rfl (hb hby d2_4) rfl (decide_eq_true rfl) (by decide) (by decide) ?_
    show Steps p.tables e below (T1.setTop (mkF m 14 #[.val (.ref w1), .val (.ref w1), .unset] [])) _
    refine XS.iconst X1.here hx rfl (hb hby d2_14) ?_
    show Steps p.tables e below (T1.setTop (mkF m 15 #[.val (.ref w1), .val (.ref w1), .unset] [(.int (1 : Int32))])) _
    refine XS.goto X1.here hx rfl (pc0 := 15) (pc' := 19) rfl (hb hby d2_15) (by decide) (by decide) ?_
    show Steps p.tables e below (T1.setTop (mkF m 19 #[.val (.ref w1), .val (.ref w1), .unset] [(.int (1 : Int32))])) _
    refine XS.istoreN X1.here hx rfl (hb hby d2_19) rfl (l' := #[.val (.ref w1), .val (.ref w1), .val (.int (1 : Int32))]) rfl ?_
    show Steps p.tables e below (T1.setTop (mkF m 20 #[.val (.ref w1), .val (.ref w1), .val (.int (1 : Int32))] [])) _
    refine XS.iloadN X1.here hx rfl (hb hby d2_20) rfl ?_
    show Steps p.tables e below (T1.setTop (mkF m 21 #[.val (.ref w1), .val (.ref w1), .val (.int (1 : Int32))] [(.int (1 : Int32))])) _
    refine XS.ifYes X1.here hx rfl (pc0 := 21) (pc' := 40) rfl (hb hby d2_21) rfl ((if0 _ _).trans (feq (by decide : ¬ ((1 : Int32) = (0 : Int32)))).2) (by decide) (by decide) ?_
    show Steps p.tables e below (T1.setTop (mkF m 40 #[.val (.ref w1), .val (.ref w1), .val (.int (1 : Int32))] [])) _
    refine XS.iconst X1.here hx rfl (hb hby d2_40) ?_
    show Steps p.tables e below (T1.setTop (mkF m 41 #[.val (.ref w1), .val (.ref w1), .val (.int (1 : Int32))] [(.int (0 : Int32))])) _
    exact retN X1 hx (t := .boolean) Bd.returns (by simp) (hb hby d2_41) hr
  · show Qrm26 Z w0 w1 w2 w3 h0 n0 _ T1.heap _
    rw [e1]
    exact ⟨rfl, N0, rfl⟩
def QL (n0 : Nat) (v : Option Value) (h : Heap) (L : List Loc) : Prop := v = some (.int (1 : Int32)) ∧ Fr n0 L
set_option maxRecDepth 65536 in
set_option maxHeartbeats 40000000 in
theorem rm0 (l : Launch) (Z : State) (a0 : Array Value) (hw : ∀ d ∈ tables_1, d.before a0 Z = true) (w0 : Addr) (w1 : Addr) (w2 : Addr) (w3 : Addr) (hS : SF Z w0 w1 w2 w3) (ws : List Jvm.Cond) (i0 : Int32) (i1 : Int32) (h0 : Heap) (n0 : Nat) (O0 : Old Z n0 h0) :
    MetFree l x (head1 (Jvm.Cond.code x code maxLocals ret :: ws) room_1) (fun a U => a = #[(.int i0), (.int i1)] ∧ Z.Warmed39 U.vm ∧ U.heap = h0) (fun _ _ _ _ _ => True) (fun _ U o U' => ∃ v L, o = .returned v ∧ QL n0 v U'.heap L ∧ FrameEnd U o U' L room_1.cells room_1.slots) := by
  refine MetFree.of_bodySF (plainFor_of_name pn8) hisR ?_
  intro p e s m args below meth c s₁ Bd hml0 hP hK
  obtain ⟨rfl, hZ, hh⟩ := hP
  have hx := Bd.exec
  have hby := Bd.bytes
  have hml : c.maxLocals = 7 := hml0
  have hown : s.vm.findClass z1 = some m.cls := findClass_of_methodNamed Bd.named
  have hnm := (name_of_methodNamed Bd.named Bd.method).1
  have X0 : Stand p l e room_1 s m #[(.int i0), (.int i1)] below meth c s₁ [] 0 0 := Stand.of_body Bd
  have e0 : s₁.heap = h0 := by rw [← hh, Bd.state]; rfl
  have N0 := Fr.nil n0
  have pre0 : ∀ t, Steps p.tables e below (s₁.setTop (mkF m 0 #[.val (.int i0), .val (.int i1), .unset, .unset, .unset, .unset, .unset] [])) t → Steps p.tables e below (s₁.setTop (entryFrame m #[(.int i0), (.int i1)] maxLocals)) t := fun t k => castTop (ef59 m i0 i1) k
  have pre1 : ∀ t, Steps p.tables e below (s₁.setTop (mkF m 2 #[.val (.int i0), .val (.int i1), .unset, .unset, .unset, .unset, .unset] [(.int (3 : Int32)), (.int i0)])) t → Steps p.tables e below (s₁.setTop (entryFrame m #[(.int i0), (.int i1)] maxLocals)) t := fun t kt => pre0 _ (by
      show Steps p.tables e below (s₁.setTop (mkF m 0 #[.val (.int i0), .val (.int i1), .unset, .unset, .unset, .unset, .unset] [])) _
      refine XS.iloadN X0.here hx rfl (hb hby at_0) rfl ?_
      show Steps p.tables e below (s₁.setTop (mkF m 1 #[.val (.int i0), .val (.int i1), .unset, .unset, .unset, .unset, .unset] [(.int i0)])) _
      refine XS.iconst X0.here hx rfl (hb hby at_1) ?_
      exact kt)
  rcases en_0 (i0 &&& (3 : Int32)) (by have q0 := (own_mask i0 (3 : Int32) (by decide) : 0 ≤ ((i0 &&& (3 : Int32))).toInt ∧ ((i0 &&& (3 : Int32))).toInt ≤ 3); omega) with hp0 | hp0 | hp0 | hp0
  · have pre2 : ∀ t, Steps p.tables e below (s₁.setTop (mkF m 6 #[.val (.int i0), .val (.int i1), .val (.int (0 : Int32)), .unset, .unset, .unset, .unset] [(.int (3 : Int32)), (.int i1)])) t → Steps p.tables e below (s₁.setTop (entryFrame m #[(.int i0), (.int i1)] maxLocals)) t := fun t kt => pre1 _ (by
        show Steps p.tables e below (s₁.setTop (mkF m 2 #[.val (.int i0), .val (.int i1), .unset, .unset, .unset, .unset, .unset] [(.int (3 : Int32)), (.int i0)])) _
        refine Own.iand X0.here hx rfl (hb hby at_2) rfl hp0 ?_
        show Steps p.tables e below (s₁.setTop (mkF m 3 #[.val (.int i0), .val (.int i1), .unset, .unset, .unset, .unset, .unset] [(.int (0 : Int32))])) _
        refine XS.istoreN X0.here hx rfl (hb hby at_3) rfl (l' := #[.val (.int i0), .val (.int i1), .val (.int (0 : Int32)), .unset, .unset, .unset, .unset]) rfl ?_
        show Steps p.tables e below (s₁.setTop (mkF m 4 #[.val (.int i0), .val (.int i1), .val (.int (0 : Int32)), .unset, .unset, .unset, .unset] [])) _
        refine XS.iloadN X0.here hx rfl (hb hby at_4) rfl ?_
        show Steps p.tables e below (s₁.setTop (mkF m 5 #[.val (.int i0), .val (.int i1), .val (.int (0 : Int32)), .unset, .unset, .unset, .unset] [(.int i1)])) _
        refine XS.iconst X0.here hx rfl (hb hby at_5) ?_
        exact kt)
    rcases en_0 (i1 &&& (3 : Int32)) (by have q0 := (own_mask i1 (3 : Int32) (by decide) : 0 ≤ ((i1 &&& (3 : Int32))).toInt ∧ ((i1 &&& (3 : Int32))).toInt ≤ 3); omega) with hp1 | hp1 | hp1 | hp1
    · obtain ⟨_, T1, L1, hQ1, X1, st1⟩ := own_callS X0 hx hZ (W := 0) hown (hw _ m15) (hw _ m16) (hw _ m2) (hw _ m17) (by decide) (rm1 l Z a0 hw w0 w1 w2 w3 hS [] h0 n0 O0) e0 (g := (mkF m 25 #[.val (.int i0), .val (.int i1), .val (.int (0 : Int32)), .val (.int (0 : Int32)), .unset, .unset, .unset] [(.int (0 : Int32))])) rfl (by rw [hml]; rfl) (argsL := [(.int (0 : Int32))]) (rest := []) (lenOf pd11 rfl) rfl rfl (by show 2 * 0 + _ ≤ _; exact Nat.le_of_eq rfl) (hb hby at_25) (by decide) (by decide) (by decide) (by decide)
      obtain ⟨rfl, N1q, e1⟩ := hQ1
      have N1 := Fr.app N0 N1q
      have e1' : T1.heap = h0 := e1
      obtain ⟨_, T2, L2, hQ2, X2, st2⟩ := own_callS X1 hx hZ (W := 0) hown (hw _ m15) (hw _ m16) (hw _ m2) (hw _ m17) (by decide) (rm1 l Z a0 hw w0 w1 w2 w3 hS [] h0 n0 O0) e1' (g := (mkF m 32 #[.val (.int i0), .val (.int i1), .val (.int (0 : Int32)), .val (.int (0 : Int32)), .unset, .unset, .unset] [(.int (0 : Int32))])) rfl (by rw [hml]; rfl) (argsL := [(.int (0 : Int32))]) (rest := []) (lenOf pd11 rfl) rfl rfl (by show 2 * 0 + _ ≤ _; exact Nat.le_of_eq rfl) (hb hby at_32) (by decide) (by decide) (by decide) (by decide)
      obtain ⟨rfl, N2q, e2⟩ := hQ2
      have N2 := Fr.app N1 N2q
      have e2' : T2.heap = h0 := e2
      obtain ⟨_, T3, L3, hQ3, X3, st3⟩ := own_callS X2 hx hZ (W := 0) hown (hw _ m18) (hw _ m19) (hw _ m2) (hw _ m20) (by decide) (rm2 l Z a0 hw w0 w1 w2 w3 hS [] h0 n0 O0) e2' (g := (mkF m 46 #[.val (.int i0), .val (.int i1), .val (.int (0 : Int32)), .val (.int (0 : Int32)), .unset, .val (.int (1 : Int32)), .unset] [(.int (0 : Int32))])) rfl (by rw [hml]; rfl) (argsL := [(.int (0 : Int32))]) (rest := []) (lenOf pd11 rfl) rfl rfl (by show 2 * 0 + _ ≤ _; exact Nat.le_of_eq rfl) (hb hby at_46) (by decide) (by decide) (by decide) (by decide)
      obtain ⟨rfl, N3q, e3⟩ := hQ3
      have N3 := Fr.app N2 N3q
      have e3' : T3.heap = h0 := e3
      obtain ⟨_, T4, L4, hQ4, X4, st4⟩ := own_callS X3 hx hZ (W := 0) hown (hw _ m0) (hw _ m1) (hw _ m2) (hw _ m3) (by decide) (rm3 l Z a0 hw w0 w1 w2 w3 hS [] h0 n0 O0) e3' (g := (mkF m 84 #[.val (.int i0), .val (.int i1), .val (.int (0 : Int32)), .val (.int (0 : Int32)), .val (.int (1 : Int32)), .val (.int (1 : Int32)), .val (.int (1 : Int32))] [(.int (0 : Int32))])) rfl (by rw [hml]; rfl) (argsL := [(.int (0 : Int32))]) (rest := []) (lenOf pd31 rfl) rfl rfl (by show 2 * 0 + _ ≤ _; exact Nat.le_of_eq rfl) (hb hby at_84) (by decide) (by decide) (by decide) (by decide)
      obtain ⟨rfl, N4q, e4⟩ := hQ4
      have N4 := Fr.app N3 N4q
      have e4' : T4.heap = h0 := e4
      obtain ⟨_, T5, L5, hQ5, X5, st5⟩ := own_callS X4 hx hZ (W := 1) hown (hw _ m0) (hw _ m1) (hw _ m2) (hw _ m3) (by decide) (rm3 l Z a0 hw w0 w1 w2 w3 hS [] h0 n0 O0) e4' (g := (mkF m 88 #[.val (.int i0), .val (.int i1), .val (.int (0 : Int32)), .val (.int (0 : Int32)), .val (.int (1 : Int32)), .val (.int (1 : Int32)), .val (.int (1 : Int32))] [(.int (0 : Int32)), (.ref w3)])) rfl (by rw [hml]; rfl) (argsL := [(.int (0 : Int32))]) (rest := [(.ref w3)]) (lenOf pd31 rfl) rfl rfl (by show 2 * 0 + _ ≤ _; exact Nat.le_of_eq rfl) (hb hby at_88) (by decide) (by decide) (by decide) (by decide)
      obtain ⟨rfl, N5q, e5⟩ := hQ5
      have N5 := Fr.app N4 N5q
      have e5' : T5.heap = h0 := e5
      obtain ⟨_, T6, L6, hQ6, X6, st6⟩ := own_virtual X5 hx hZ (W := 0) hown (hw _ m9) (hw _ m10) (notFace_of_selects (args := #[]) (mvT hZ (hw _ m12))) (hw _ m12) (hw _ m11) (hw _ m5) (hw _ m13) (by decide) (rm4 l Z a0 hw w0 w1 w2 w3 hS [] h0 n0 O0) e5' (hS.2.2.2.2.2.2.2.2.2.2.1.ext O0.2) (g := (mkF m 91 #[.val (.int i0), .val (.int i1), .val (.int (0 : Int32)), .val (.int (0 : Int32)), .val (.int (1 : Int32)), .val (.int (1 : Int32)), .val (.int (1 : Int32))] [(.ref w3), (.ref w3)])) rfl (by rw [hml]; rfl) (argsL := [(.ref w3)]) (rest := []) (lenOf pd56 rfl) rfl rfl (by show 2 * 0 + _ ≤ _; exact Nat.le_of_eq rfl) (hb hby at_91) (by decide) (by decide) (by decide) (by decide)
      obtain ⟨rfl, N6q, e6⟩ := hQ6
      have N6 := Fr.app N5 N6q
      have e6' : T6.heap = h0 := e6
      obtain ⟨fs, hr, hrun, hended, hW, hsame⟩ := X6.leave (v := some (.int (1 : Int32))) (fun h => by rw [Bd.returns] at h; cases h)
      refine ⟨_, _, pre2 _ ?_, hrun, hended, _, _, rfl, ?_, ⟨_, rfl⟩, hW, hsame.mono (by decide) (by decide)⟩
      · show Steps p.tables e below (s₁.setTop (mkF m 6 #[.val (.int i0), .val (.int i1), .val (.int (0 : Int32)), .unset, .unset, .unset, .unset] [(.int (3 : Int32)), (.int i1)])) _
        refine Own.iand X0.here hx rfl (hb hby at_6) rfl hp1 ?_
        show Steps p.tables e below (s₁.setTop (mkF m 7 #[.val (.int i0), .val (.int i1), .val (.int (0 : Int32)), .unset, .unset, .unset, .unset] [(.int (0 : Int32))])) _
        refine XS.istoreN X0.here hx rfl (hb hby at_7) rfl (l' := #[.val (.int i0), .val (.int i1), .val (.int (0 : Int32)), .val (.int (0 : Int32)), .unset, .unset, .unset]) rfl ?_
        show Steps p.tables e below (s₁.setTop (mkF m 8 #[.val (.int i0), .val (.int i1), .val (.int (0 : Int32)), .val (.int (0 : Int32)), .unset, .unset, .unset] [])) _
        refine XS.iloadN X0.here hx rfl (hb hby at_8) rfl ?_
        show Steps p.tables e below (s₁.setTop (mkF m 9 #[.val (.int i0), .val (.int i1), .val (.int (0 : Int32)), .val (.int (0 : Int32)), .unset, .unset, .unset] [(.int (0 : Int32))])) _
        refine XS.iconst X0.here hx rfl (hb hby at_9) ?_
        show Steps p.tables e below (s₁.setTop (mkF m 10 #[.val (.int i0), .val (.int i1), .val (.int (0 : Int32)), .val (.int (0 : Int32)), .unset, .unset, .unset] [(.int (3 : Int32)), (.int (0 : Int32))])) _
        refine XS.icmpNo X0.here hx rfl (hb hby at_10) rfl (feq (by decide : ¬ ((0 : Int32) = (3 : Int32)))).1 ?_
        show Steps p.tables e below (s₁.setTop (mkF m 13 #[.val (.int i0), .val (.int i1), .val (.int (0 : Int32)), .val (.int (0 : Int32)), .unset, .unset, .unset] [])) _
        refine XS.iloadN X0.here hx rfl (hb hby at_13) rfl ?_
        show Steps p.tables e below (s₁.setTop (mkF m 14 #[.val (.int i0), .val (.int i1), .val (.int (0 : Int32)), .val (.int (0 : Int32)), .unset, .unset, .unset] [(.int (0 : Int32))])) _
        refine XS.iconst X0.here hx rfl (hb hby at_14) ?_
        show Steps p.tables e below (s₁.setTop (mkF m 15 #[.val (.int i0), .val (.int i1), .val (.int (0 : Int32)), .val (.int (0 : Int32)), .unset, .unset, .unset] [(.int (3 : Int32)), (.int (0 : Int32))])) _
        refine XS.icmpYes X0.here hx rfl (pc0 := 15) (pc' := 24) rfl (hb hby at_15) rfl (feq (by decide : ¬ ((0 : Int32) = (3 : Int32)))).2 (by decide) (by decide) ?_
        show Steps p.tables e below (s₁.setTop (mkF m 24 #[.val (.int i0), .val (.int i1), .val (.int (0 : Int32)), .val (.int (0 : Int32)), .unset, .unset, .unset] [])) _
        refine XS.iloadN X0.here hx rfl (hb hby at_24) rfl ?_
        show Steps p.tables e below (s₁.setTop (mkF m 25 #[.val (.int i0), .val (.int i1), .val (.int (0 : Int32)), .val (.int (0 : Int32)), .unset, .unset, .unset] [(.int (0 : Int32))])) _
        refine st1 _ ?_
        show Steps p.tables e below (T1.setTop (mkF m 28 #[.val (.int i0), .val (.int i1), .val (.int (0 : Int32)), .val (.int (0 : Int32)), .unset, .unset, .unset] [(.int (1 : Int32))])) _
        refine XS.ifNo X1.here hx rfl (hb hby at_28) rfl ((if0 _ _).trans (feq (by decide : ¬ ((1 : Int32) = (0 : Int32)))).1) ?_
        show Steps p.tables e below (T1.setTop (mkF m 31 #[.val (.int i0), .val (.int i1), .val (.int (0 : Int32)), .val (.int (0 : Int32)), .unset, .unset, .unset] [])) _
        refine XS.iloadN X1.here hx rfl (hb hby at_31) rfl ?_
        show Steps p.tables e below (T1.setTop (mkF m 32 #[.val (.int i0), .val (.int i1), .val (.int (0 : Int32)), .val (.int (0 : Int32)), .unset, .unset, .unset] [(.int (0 : Int32))])) _
        refine st2 _ ?_
        show Steps p.tables e below (T2.setTop (mkF m 35 #[.val (.int i0), .val (.int i1), .val (.int (0 : Int32)), .val (.int (0 : Int32)), .unset, .unset, .unset] [(.int (1 : Int32))])) _
        refine XS.ifNo X2.here hx rfl (hb hby at_35) rfl ((if0 _ _).trans (feq (by decide : ¬ ((1 : Int32) = (0 : Int32)))).1) ?_
        show Steps p.tables e below (T2.setTop (mkF m 38 #[.val (.int i0), .val (.int i1), .val (.int (0 : Int32)), .val (.int (0 : Int32)), .unset, .unset, .unset] [])) _
        refine XS.iconst X2.here hx rfl (hb hby at_38) ?_
        show Steps p.tables e below (T2.setTop (mkF m 39 #[.val (.int i0), .val (.int i1), .val (.int (0 : Int32)), .val (.int (0 : Int32)), .unset, .unset, .unset] [(.int (1 : Int32))])) _
        refine XS.goto X2.here hx rfl (pc0 := 39) (pc' := 43) rfl (hb hby at_39) (by decide) (by decide) ?_
        show Steps p.tables e below (T2.setTop (mkF m 43 #[.val (.int i0), .val (.int i1), .val (.int (0 : Int32)), .val (.int (0 : Int32)), .unset, .unset, .unset] [(.int (1 : Int32))])) _
        refine XS.istore X2.here hx rfl (hb hby at_43) rfl (l' := #[.val (.int i0), .val (.int i1), .val (.int (0 : Int32)), .val (.int (0 : Int32)), .unset, .val (.int (1 : Int32)), .unset]) rfl ?_
        show Steps p.tables e below (T2.setTop (mkF m 45 #[.val (.int i0), .val (.int i1), .val (.int (0 : Int32)), .val (.int (0 : Int32)), .unset, .val (.int (1 : Int32)), .unset] [])) _
        refine XS.iloadN X2.here hx rfl (hb hby at_45) rfl ?_
        show Steps p.tables e below (T2.setTop (mkF m 46 #[.val (.int i0), .val (.int i1), .val (.int (0 : Int32)), .val (.int (0 : Int32)), .unset, .val (.int (1 : Int32)), .unset] [(.int (0 : Int32))])) _
        refine st3 _ ?_
        show Steps p.tables e below (T3.setTop (mkF m 49 #[.val (.int i0), .val (.int i1), .val (.int (0 : Int32)), .val (.int (0 : Int32)), .unset, .val (.int (1 : Int32)), .unset] [(.int (0 : Int32))])) _
        refine XS.ifYes X3.here hx rfl (pc0 := 49) (pc' := 59) rfl (hb hby at_49) rfl ((if0 _ _).trans (teq (by decide : (0 : Int32) = (0 : Int32))).1) (by decide) (by decide) ?_
        show Steps p.tables e below (T3.setTop (mkF m 59 #[.val (.int i0), .val (.int i1), .val (.int (0 : Int32)), .val (.int (0 : Int32)), .unset, .val (.int (1 : Int32)), .unset] [])) _
        refine XS.iconst X3.here hx rfl (hb hby at_59) ?_
        show Steps p.tables e below (T3.setTop (mkF m 60 #[.val (.int i0), .val (.int i1), .val (.int (0 : Int32)), .val (.int (0 : Int32)), .unset, .val (.int (1 : Int32)), .unset] [(.int (1 : Int32))])) _
        refine XS.goto X3.here hx rfl (pc0 := 60) (pc' := 64) rfl (hb hby at_60) (by decide) (by decide) ?_
        show Steps p.tables e below (T3.setTop (mkF m 64 #[.val (.int i0), .val (.int i1), .val (.int (0 : Int32)), .val (.int (0 : Int32)), .unset, .val (.int (1 : Int32)), .unset] [(.int (1 : Int32))])) _
        refine XS.istore X3.here hx rfl (hb hby at_64) rfl (l' := #[.val (.int i0), .val (.int i1), .val (.int (0 : Int32)), .val (.int (0 : Int32)), .unset, .val (.int (1 : Int32)), .val (.int (1 : Int32))]) rfl ?_
        show Steps p.tables e below (T3.setTop (mkF m 66 #[.val (.int i0), .val (.int i1), .val (.int (0 : Int32)), .val (.int (0 : Int32)), .unset, .val (.int (1 : Int32)), .val (.int (1 : Int32))] [])) _
        refine XS.iload X3.here hx rfl (hb hby at_66) rfl ?_
        show Steps p.tables e below (T3.setTop (mkF m 68 #[.val (.int i0), .val (.int i1), .val (.int (0 : Int32)), .val (.int (0 : Int32)), .unset, .val (.int (1 : Int32)), .val (.int (1 : Int32))] [(.int (1 : Int32))])) _
        refine XS.ifNo X3.here hx rfl (hb hby at_68) rfl ((if0 _ _).trans (feq (by decide : ¬ ((1 : Int32) = (0 : Int32)))).1) ?_
        show Steps p.tables e below (T3.setTop (mkF m 71 #[.val (.int i0), .val (.int i1), .val (.int (0 : Int32)), .val (.int (0 : Int32)), .unset, .val (.int (1 : Int32)), .val (.int (1 : Int32))] [])) _
        refine XS.iload X3.here hx rfl (hb hby at_71) rfl ?_
        show Steps p.tables e below (T3.setTop (mkF m 73 #[.val (.int i0), .val (.int i1), .val (.int (0 : Int32)), .val (.int (0 : Int32)), .unset, .val (.int (1 : Int32)), .val (.int (1 : Int32))] [(.int (1 : Int32))])) _
        refine XS.ifNo X3.here hx rfl (hb hby at_73) rfl ((if0 _ _).trans (feq (by decide : ¬ ((1 : Int32) = (0 : Int32)))).1) ?_
        show Steps p.tables e below (T3.setTop (mkF m 76 #[.val (.int i0), .val (.int i1), .val (.int (0 : Int32)), .val (.int (0 : Int32)), .unset, .val (.int (1 : Int32)), .val (.int (1 : Int32))] [])) _
        refine XS.iconst X3.here hx rfl (hb hby at_76) ?_
        show Steps p.tables e below (T3.setTop (mkF m 77 #[.val (.int i0), .val (.int i1), .val (.int (0 : Int32)), .val (.int (0 : Int32)), .unset, .val (.int (1 : Int32)), .val (.int (1 : Int32))] [(.int (1 : Int32))])) _
        refine XS.goto X3.here hx rfl (pc0 := 77) (pc' := 81) rfl (hb hby at_77) (by decide) (by decide) ?_
        show Steps p.tables e below (T3.setTop (mkF m 81 #[.val (.int i0), .val (.int i1), .val (.int (0 : Int32)), .val (.int (0 : Int32)), .unset, .val (.int (1 : Int32)), .val (.int (1 : Int32))] [(.int (1 : Int32))])) _
        refine XS.istore X3.here hx rfl (hb hby at_81) rfl (l' := #[.val (.int i0), .val (.int i1), .val (.int (0 : Int32)), .val (.int (0 : Int32)), .val (.int (1 : Int32)), .val (.int (1 : Int32)), .val (.int (1 : Int32))]) rfl ?_
        show Steps p.tables e below (T3.setTop (mkF m 83 #[.val (.int i0), .val (.int i1), .val (.int (0 : Int32)), .val (.int (0 : Int32)), .val (.int (1 : Int32)), .val (.int (1 : Int32)), .val (.int (1 : Int32))] [])) _
        refine XS.iloadN X3.here hx rfl (hb hby at_83) rfl ?_
        show Steps p.tables e below (T3.setTop (mkF m 84 #[.val (.int i0), .val (.int i1), .val (.int (0 : Int32)), .val (.int (0 : Int32)), .val (.int (1 : Int32)), .val (.int (1 : Int32)), .val (.int (1 : Int32))] [(.int (0 : Int32))])) _
        refine st4 _ ?_
        show Steps p.tables e below (T4.setTop (mkF m 87 #[.val (.int i0), .val (.int i1), .val (.int (0 : Int32)), .val (.int (0 : Int32)), .val (.int (1 : Int32)), .val (.int (1 : Int32)), .val (.int (1 : Int32))] [(.ref w3)])) _
        refine XS.iloadN X4.here hx rfl (hb hby at_87) rfl ?_
        show Steps p.tables e below (T4.setTop (mkF m 88 #[.val (.int i0), .val (.int i1), .val (.int (0 : Int32)), .val (.int (0 : Int32)), .val (.int (1 : Int32)), .val (.int (1 : Int32)), .val (.int (1 : Int32))] [(.int (0 : Int32)), (.ref w3)])) _
        refine st5 _ ?_
        show Steps p.tables e below (T5.setTop (mkF m 91 #[.val (.int i0), .val (.int i1), .val (.int (0 : Int32)), .val (.int (0 : Int32)), .val (.int (1 : Int32)), .val (.int (1 : Int32)), .val (.int (1 : Int32))] [(.ref w3), (.ref w3)])) _
        refine st6 _ ?_
        show Steps p.tables e below (T6.setTop (mkF m 94 #[.val (.int i0), .val (.int i1), .val (.int (0 : Int32)), .val (.int (0 : Int32)), .val (.int (1 : Int32)), .val (.int (1 : Int32)), .val (.int (1 : Int32))] [(.int (1 : Int32))])) _
        refine XS.iload X6.here hx rfl (hb hby at_94) rfl ?_
        show Steps p.tables e below (T6.setTop (mkF m 96 #[.val (.int i0), .val (.int i1), .val (.int (0 : Int32)), .val (.int (0 : Int32)), .val (.int (1 : Int32)), .val (.int (1 : Int32)), .val (.int (1 : Int32))] [(.int (1 : Int32)), (.int (1 : Int32))])) _
        refine XS.icmpNo X6.here hx rfl (hb hby at_96) rfl (teq (by decide : (1 : Int32) = (1 : Int32))).2 ?_
        show Steps p.tables e below (T6.setTop (mkF m 99 #[.val (.int i0), .val (.int i1), .val (.int (0 : Int32)), .val (.int (0 : Int32)), .val (.int (1 : Int32)), .val (.int (1 : Int32)), .val (.int (1 : Int32))] [])) _
        refine XS.iconst X6.here hx rfl (hb hby at_99) ?_
        show Steps p.tables e below (T6.setTop (mkF m 100 #[.val (.int i0), .val (.int i1), .val (.int (0 : Int32)), .val (.int (0 : Int32)), .val (.int (1 : Int32)), .val (.int (1 : Int32)), .val (.int (1 : Int32))] [(.int (1 : Int32))])) _
        refine XS.goto X6.here hx rfl (pc0 := 100) (pc' := 104) rfl (hb hby at_100) (by decide) (by decide) ?_
        show Steps p.tables e below (T6.setTop (mkF m 104 #[.val (.int i0), .val (.int i1), .val (.int (0 : Int32)), .val (.int (0 : Int32)), .val (.int (1 : Int32)), .val (.int (1 : Int32)), .val (.int (1 : Int32))] [(.int (1 : Int32))])) _
        exact retN X6 hx (t := .boolean) Bd.returns (by simp) (hb hby at_104) hr
      · show QL n0 _ T6.heap _
        exact ⟨rfl, N6⟩
    · obtain ⟨_, T1, L1, hQ1, X1, st1⟩ := own_callS X0 hx hZ (W := 0) hown (hw _ m15) (hw _ m16) (hw _ m2) (hw _ m17) (by decide) (rm5 l Z a0 hw w0 w1 w2 w3 hS [] h0 n0 O0) e0 (g := (mkF m 25 #[.val (.int i0), .val (.int i1), .val (.int (0 : Int32)), .val (.int (1 : Int32)), .unset, .unset, .unset] [(.int (1 : Int32))])) rfl (by rw [hml]; rfl) (argsL := [(.int (1 : Int32))]) (rest := []) (lenOf pd11 rfl) rfl rfl (by show 2 * 0 + _ ≤ _; exact Nat.le_of_eq rfl) (hb hby at_25) (by decide) (by decide) (by decide) (by decide)
      obtain ⟨rfl, N1q, e1⟩ := hQ1
      have N1 := Fr.app N0 N1q
      have e1' : T1.heap = h0 := e1
      obtain ⟨_, T2, L2, hQ2, X2, st2⟩ := own_callS X1 hx hZ (W := 0) hown (hw _ m18) (hw _ m19) (hw _ m2) (hw _ m20) (by decide) (rm6 l Z a0 hw w0 w1 w2 w3 hS [] h0 n0 O0) e1' (g := (mkF m 46 #[.val (.int i0), .val (.int i1), .val (.int (0 : Int32)), .val (.int (1 : Int32)), .unset, .val (.int (1 : Int32)), .unset] [(.int (1 : Int32))])) rfl (by rw [hml]; rfl) (argsL := [(.int (1 : Int32))]) (rest := []) (lenOf pd11 rfl) rfl rfl (by show 2 * 0 + _ ≤ _; exact Nat.le_of_eq rfl) (hb hby at_46) (by decide) (by decide) (by decide) (by decide)
      obtain ⟨rfl, N2q, e2⟩ := hQ2
      have N2 := Fr.app N1 N2q
      have e2' : T2.heap = h0 := e2
      obtain ⟨_, T3, L3, hQ3, X3, st3⟩ := own_callS X2 hx hZ (W := 0) hown (hw _ m18) (hw _ m19) (hw _ m2) (hw _ m20) (by decide) (rm2 l Z a0 hw w0 w1 w2 w3 hS [] h0 n0 O0) e2' (g := (mkF m 53 #[.val (.int i0), .val (.int i1), .val (.int (0 : Int32)), .val (.int (1 : Int32)), .unset, .val (.int (1 : Int32)), .unset] [(.int (0 : Int32))])) rfl (by rw [hml]; rfl) (argsL := [(.int (0 : Int32))]) (rest := []) (lenOf pd11 rfl) rfl rfl (by show 2 * 0 + _ ≤ _; exact Nat.le_of_eq rfl) (hb hby at_53) (by decide) (by decide) (by decide) (by decide)
      obtain ⟨rfl, N3q, e3⟩ := hQ3
      have N3 := Fr.app N2 N3q
      have e3' : T3.heap = h0 := e3
      obtain ⟨_, T4, L4, hQ4, X4, st4⟩ := own_callS X3 hx hZ (W := 0) hown (hw _ m0) (hw _ m1) (hw _ m2) (hw _ m3) (by decide) (rm3 l Z a0 hw w0 w1 w2 w3 hS [] h0 n0 O0) e3' (g := (mkF m 84 #[.val (.int i0), .val (.int i1), .val (.int (0 : Int32)), .val (.int (1 : Int32)), .val (.int (0 : Int32)), .val (.int (1 : Int32)), .val (.int (0 : Int32))] [(.int (0 : Int32))])) rfl (by rw [hml]; rfl) (argsL := [(.int (0 : Int32))]) (rest := []) (lenOf pd31 rfl) rfl rfl (by show 2 * 0 + _ ≤ _; exact Nat.le_of_eq rfl) (hb hby at_84) (by decide) (by decide) (by decide) (by decide)
      obtain ⟨rfl, N4q, e4⟩ := hQ4
      have N4 := Fr.app N3 N4q
      have e4' : T4.heap = h0 := e4
      obtain ⟨_, T5, L5, hQ5, X5, st5⟩ := own_callS X4 hx hZ (W := 1) hown (hw _ m0) (hw _ m1) (hw _ m2) (hw _ m3) (by decide) (rm7 l Z a0 hw w0 w1 w2 w3 hS [] h0 n0 O0) e4' (g := (mkF m 88 #[.val (.int i0), .val (.int i1), .val (.int (0 : Int32)), .val (.int (1 : Int32)), .val (.int (0 : Int32)), .val (.int (1 : Int32)), .val (.int (0 : Int32))] [(.int (1 : Int32)), (.ref w3)])) rfl (by rw [hml]; rfl) (argsL := [(.int (1 : Int32))]) (rest := [(.ref w3)]) (lenOf pd31 rfl) rfl rfl (by show 2 * 0 + _ ≤ _; exact Nat.le_of_eq rfl) (hb hby at_88) (by decide) (by decide) (by decide) (by decide)
      obtain ⟨rfl, N5q, e5⟩ := hQ5
      have N5 := Fr.app N4 N5q
      have e5' : T5.heap = h0 := e5
      obtain ⟨_, T6, L6, hQ6, X6, st6⟩ := own_virtual X5 hx hZ (W := 0) hown (hw _ m9) (hw _ m10) (notFace_of_selects (args := #[]) (mvT hZ (hw _ m12))) (hw _ m12) (hw _ m11) (hw _ m5) (hw _ m13) (by decide) (rm8 l Z a0 hw w0 w1 w2 w3 hS [] h0 n0 O0) e5' (hS.2.2.2.2.2.2.2.2.2.2.1.ext O0.2) (g := (mkF m 91 #[.val (.int i0), .val (.int i1), .val (.int (0 : Int32)), .val (.int (1 : Int32)), .val (.int (0 : Int32)), .val (.int (1 : Int32)), .val (.int (0 : Int32))] [(.ref w0), (.ref w3)])) rfl (by rw [hml]; rfl) (argsL := [(.ref w0)]) (rest := []) (lenOf pd56 rfl) rfl rfl (by show 2 * 0 + _ ≤ _; exact Nat.le_of_eq rfl) (hb hby at_91) (by decide) (by decide) (by decide) (by decide)
      obtain ⟨rfl, N6q, e6⟩ := hQ6
      have N6 := Fr.app N5 N6q
      have e6' : T6.heap = h0 := e6
      obtain ⟨fs, hr, hrun, hended, hW, hsame⟩ := X6.leave (v := some (.int (1 : Int32))) (fun h => by rw [Bd.returns] at h; cases h)
      refine ⟨_, _, pre2 _ ?_, hrun, hended, _, _, rfl, ?_, ⟨_, rfl⟩, hW, hsame.mono (by decide) (by decide)⟩
      · show Steps p.tables e below (s₁.setTop (mkF m 6 #[.val (.int i0), .val (.int i1), .val (.int (0 : Int32)), .unset, .unset, .unset, .unset] [(.int (3 : Int32)), (.int i1)])) _
        refine Own.iand X0.here hx rfl (hb hby at_6) rfl hp1 ?_
        show Steps p.tables e below (s₁.setTop (mkF m 7 #[.val (.int i0), .val (.int i1), .val (.int (0 : Int32)), .unset, .unset, .unset, .unset] [(.int (1 : Int32))])) _
        refine XS.istoreN X0.here hx rfl (hb hby at_7) rfl (l' := #[.val (.int i0), .val (.int i1), .val (.int (0 : Int32)), .val (.int (1 : Int32)), .unset, .unset, .unset]) rfl ?_
        show Steps p.tables e below (s₁.setTop (mkF m 8 #[.val (.int i0), .val (.int i1), .val (.int (0 : Int32)), .val (.int (1 : Int32)), .unset, .unset, .unset] [])) _
        refine XS.iloadN X0.here hx rfl (hb hby at_8) rfl ?_
        show Steps p.tables e below (s₁.setTop (mkF m 9 #[.val (.int i0), .val (.int i1), .val (.int (0 : Int32)), .val (.int (1 : Int32)), .unset, .unset, .unset] [(.int (0 : Int32))])) _
        refine XS.iconst X0.here hx rfl (hb hby at_9) ?_
        show Steps p.tables e below (s₁.setTop (mkF m 10 #[.val (.int i0), .val (.int i1), .val (.int (0 : Int32)), .val (.int (1 : Int32)), .unset, .unset, .unset] [(.int (3 : Int32)), (.int (0 : Int32))])) _
        refine XS.icmpNo X0.here hx rfl (hb hby at_10) rfl (feq (by decide : ¬ ((0 : Int32) = (3 : Int32)))).1 ?_
        show Steps p.tables e below (s₁.setTop (mkF m 13 #[.val (.int i0), .val (.int i1), .val (.int (0 : Int32)), .val (.int (1 : Int32)), .unset, .unset, .unset] [])) _
        refine XS.iloadN X0.here hx rfl (hb hby at_13) rfl ?_
        show Steps p.tables e below (s₁.setTop (mkF m 14 #[.val (.int i0), .val (.int i1), .val (.int (0 : Int32)), .val (.int (1 : Int32)), .unset, .unset, .unset] [(.int (1 : Int32))])) _
        refine XS.iconst X0.here hx rfl (hb hby at_14) ?_
        show Steps p.tables e below (s₁.setTop (mkF m 15 #[.val (.int i0), .val (.int i1), .val (.int (0 : Int32)), .val (.int (1 : Int32)), .unset, .unset, .unset] [(.int (3 : Int32)), (.int (1 : Int32))])) _
        refine XS.icmpYes X0.here hx rfl (pc0 := 15) (pc' := 24) rfl (hb hby at_15) rfl (feq (by decide : ¬ ((1 : Int32) = (3 : Int32)))).2 (by decide) (by decide) ?_
        show Steps p.tables e below (s₁.setTop (mkF m 24 #[.val (.int i0), .val (.int i1), .val (.int (0 : Int32)), .val (.int (1 : Int32)), .unset, .unset, .unset] [])) _
        refine XS.iloadN X0.here hx rfl (hb hby at_24) rfl ?_
        show Steps p.tables e below (s₁.setTop (mkF m 25 #[.val (.int i0), .val (.int i1), .val (.int (0 : Int32)), .val (.int (1 : Int32)), .unset, .unset, .unset] [(.int (1 : Int32))])) _
        refine st1 _ ?_
        show Steps p.tables e below (T1.setTop (mkF m 28 #[.val (.int i0), .val (.int i1), .val (.int (0 : Int32)), .val (.int (1 : Int32)), .unset, .unset, .unset] [(.int (0 : Int32))])) _
        refine XS.ifYes X1.here hx rfl (pc0 := 28) (pc' := 38) rfl (hb hby at_28) rfl ((if0 _ _).trans (teq (by decide : (0 : Int32) = (0 : Int32))).1) (by decide) (by decide) ?_
        show Steps p.tables e below (T1.setTop (mkF m 38 #[.val (.int i0), .val (.int i1), .val (.int (0 : Int32)), .val (.int (1 : Int32)), .unset, .unset, .unset] [])) _
        refine XS.iconst X1.here hx rfl (hb hby at_38) ?_
        show Steps p.tables e below (T1.setTop (mkF m 39 #[.val (.int i0), .val (.int i1), .val (.int (0 : Int32)), .val (.int (1 : Int32)), .unset, .unset, .unset] [(.int (1 : Int32))])) _
        refine XS.goto X1.here hx rfl (pc0 := 39) (pc' := 43) rfl (hb hby at_39) (by decide) (by decide) ?_
        show Steps p.tables e below (T1.setTop (mkF m 43 #[.val (.int i0), .val (.int i1), .val (.int (0 : Int32)), .val (.int (1 : Int32)), .unset, .unset, .unset] [(.int (1 : Int32))])) _
        refine XS.istore X1.here hx rfl (hb hby at_43) rfl (l' := #[.val (.int i0), .val (.int i1), .val (.int (0 : Int32)), .val (.int (1 : Int32)), .unset, .val (.int (1 : Int32)), .unset]) rfl ?_
        show Steps p.tables e below (T1.setTop (mkF m 45 #[.val (.int i0), .val (.int i1), .val (.int (0 : Int32)), .val (.int (1 : Int32)), .unset, .val (.int (1 : Int32)), .unset] [])) _
        refine XS.iloadN X1.here hx rfl (hb hby at_45) rfl ?_
        show Steps p.tables e below (T1.setTop (mkF m 46 #[.val (.int i0), .val (.int i1), .val (.int (0 : Int32)), .val (.int (1 : Int32)), .unset, .val (.int (1 : Int32)), .unset] [(.int (1 : Int32))])) _
        refine st2 _ ?_
        show Steps p.tables e below (T2.setTop (mkF m 49 #[.val (.int i0), .val (.int i1), .val (.int (0 : Int32)), .val (.int (1 : Int32)), .unset, .val (.int (1 : Int32)), .unset] [(.int (1 : Int32))])) _
        refine XS.ifNo X2.here hx rfl (hb hby at_49) rfl ((if0 _ _).trans (feq (by decide : ¬ ((1 : Int32) = (0 : Int32)))).1) ?_
        show Steps p.tables e below (T2.setTop (mkF m 52 #[.val (.int i0), .val (.int i1), .val (.int (0 : Int32)), .val (.int (1 : Int32)), .unset, .val (.int (1 : Int32)), .unset] [])) _
        refine XS.iloadN X2.here hx rfl (hb hby at_52) rfl ?_
        show Steps p.tables e below (T2.setTop (mkF m 53 #[.val (.int i0), .val (.int i1), .val (.int (0 : Int32)), .val (.int (1 : Int32)), .unset, .val (.int (1 : Int32)), .unset] [(.int (0 : Int32))])) _
        refine st3 _ ?_
        show Steps p.tables e below (T3.setTop (mkF m 56 #[.val (.int i0), .val (.int i1), .val (.int (0 : Int32)), .val (.int (1 : Int32)), .unset, .val (.int (1 : Int32)), .unset] [(.int (0 : Int32))])) _
        refine XS.ifYes X3.here hx rfl (pc0 := 56) (pc' := 63) rfl (hb hby at_56) rfl ((if0 _ _).trans (teq (by decide : (0 : Int32) = (0 : Int32))).1) (by decide) (by decide) ?_
        show Steps p.tables e below (T3.setTop (mkF m 63 #[.val (.int i0), .val (.int i1), .val (.int (0 : Int32)), .val (.int (1 : Int32)), .unset, .val (.int (1 : Int32)), .unset] [])) _
        refine XS.iconst X3.here hx rfl (hb hby at_63) ?_
        show Steps p.tables e below (T3.setTop (mkF m 64 #[.val (.int i0), .val (.int i1), .val (.int (0 : Int32)), .val (.int (1 : Int32)), .unset, .val (.int (1 : Int32)), .unset] [(.int (0 : Int32))])) _
        refine XS.istore X3.here hx rfl (hb hby at_64) rfl (l' := #[.val (.int i0), .val (.int i1), .val (.int (0 : Int32)), .val (.int (1 : Int32)), .unset, .val (.int (1 : Int32)), .val (.int (0 : Int32))]) rfl ?_
        show Steps p.tables e below (T3.setTop (mkF m 66 #[.val (.int i0), .val (.int i1), .val (.int (0 : Int32)), .val (.int (1 : Int32)), .unset, .val (.int (1 : Int32)), .val (.int (0 : Int32))] [])) _
        refine XS.iload X3.here hx rfl (hb hby at_66) rfl ?_
        show Steps p.tables e below (T3.setTop (mkF m 68 #[.val (.int i0), .val (.int i1), .val (.int (0 : Int32)), .val (.int (1 : Int32)), .unset, .val (.int (1 : Int32)), .val (.int (0 : Int32))] [(.int (1 : Int32))])) _
        refine XS.ifNo X3.here hx rfl (hb hby at_68) rfl ((if0 _ _).trans (feq (by decide : ¬ ((1 : Int32) = (0 : Int32)))).1) ?_
        show Steps p.tables e below (T3.setTop (mkF m 71 #[.val (.int i0), .val (.int i1), .val (.int (0 : Int32)), .val (.int (1 : Int32)), .unset, .val (.int (1 : Int32)), .val (.int (0 : Int32))] [])) _
        refine XS.iload X3.here hx rfl (hb hby at_71) rfl ?_
        show Steps p.tables e below (T3.setTop (mkF m 73 #[.val (.int i0), .val (.int i1), .val (.int (0 : Int32)), .val (.int (1 : Int32)), .unset, .val (.int (1 : Int32)), .val (.int (0 : Int32))] [(.int (0 : Int32))])) _
        refine XS.ifYes X3.here hx rfl (pc0 := 73) (pc' := 80) rfl (hb hby at_73) rfl ((if0 _ _).trans (teq (by decide : (0 : Int32) = (0 : Int32))).1) (by decide) (by decide) ?_
        show Steps p.tables e below (T3.setTop (mkF m 80 #[.val (.int i0), .val (.int i1), .val (.int (0 : Int32)), .val (.int (1 : Int32)), .unset, .val (.int (1 : Int32)), .val (.int (0 : Int32))] [])) _
        refine XS.iconst X3.here hx rfl (hb hby at_80) ?_
        show Steps p.tables e below (T3.setTop (mkF m 81 #[.val (.int i0), .val (.int i1), .val (.int (0 : Int32)), .val (.int (1 : Int32)), .unset, .val (.int (1 : Int32)), .val (.int (0 : Int32))] [(.int (0 : Int32))])) _
        refine XS.istore X3.here hx rfl (hb hby at_81) rfl (l' := #[.val (.int i0), .val (.int i1), .val (.int (0 : Int32)), .val (.int (1 : Int32)), .val (.int (0 : Int32)), .val (.int (1 : Int32)), .val (.int (0 : Int32))]) rfl ?_
        show Steps p.tables e below (T3.setTop (mkF m 83 #[.val (.int i0), .val (.int i1), .val (.int (0 : Int32)), .val (.int (1 : Int32)), .val (.int (0 : Int32)), .val (.int (1 : Int32)), .val (.int (0 : Int32))] [])) _
        refine XS.iloadN X3.here hx rfl (hb hby at_83) rfl ?_
        show Steps p.tables e below (T3.setTop (mkF m 84 #[.val (.int i0), .val (.int i1), .val (.int (0 : Int32)), .val (.int (1 : Int32)), .val (.int (0 : Int32)), .val (.int (1 : Int32)), .val (.int (0 : Int32))] [(.int (0 : Int32))])) _
        refine st4 _ ?_
        show Steps p.tables e below (T4.setTop (mkF m 87 #[.val (.int i0), .val (.int i1), .val (.int (0 : Int32)), .val (.int (1 : Int32)), .val (.int (0 : Int32)), .val (.int (1 : Int32)), .val (.int (0 : Int32))] [(.ref w3)])) _
        refine XS.iloadN X4.here hx rfl (hb hby at_87) rfl ?_
        show Steps p.tables e below (T4.setTop (mkF m 88 #[.val (.int i0), .val (.int i1), .val (.int (0 : Int32)), .val (.int (1 : Int32)), .val (.int (0 : Int32)), .val (.int (1 : Int32)), .val (.int (0 : Int32))] [(.int (1 : Int32)), (.ref w3)])) _
        refine st5 _ ?_
        show Steps p.tables e below (T5.setTop (mkF m 91 #[.val (.int i0), .val (.int i1), .val (.int (0 : Int32)), .val (.int (1 : Int32)), .val (.int (0 : Int32)), .val (.int (1 : Int32)), .val (.int (0 : Int32))] [(.ref w0), (.ref w3)])) _
        refine st6 _ ?_
        show Steps p.tables e below (T6.setTop (mkF m 94 #[.val (.int i0), .val (.int i1), .val (.int (0 : Int32)), .val (.int (1 : Int32)), .val (.int (0 : Int32)), .val (.int (1 : Int32)), .val (.int (0 : Int32))] [(.int (0 : Int32))])) _
        refine XS.iload X6.here hx rfl (hb hby at_94) rfl ?_
        show Steps p.tables e below (T6.setTop (mkF m 96 #[.val (.int i0), .val (.int i1), .val (.int (0 : Int32)), .val (.int (1 : Int32)), .val (.int (0 : Int32)), .val (.int (1 : Int32)), .val (.int (0 : Int32))] [(.int (0 : Int32)), (.int (0 : Int32))])) _
        refine XS.icmpNo X6.here hx rfl (hb hby at_96) rfl (teq (by decide : (0 : Int32) = (0 : Int32))).2 ?_
        show Steps p.tables e below (T6.setTop (mkF m 99 #[.val (.int i0), .val (.int i1), .val (.int (0 : Int32)), .val (.int (1 : Int32)), .val (.int (0 : Int32)), .val (.int (1 : Int32)), .val (.int (0 : Int32))] [])) _
        refine XS.iconst X6.here hx rfl (hb hby at_99) ?_
        show Steps p.tables e below (T6.setTop (mkF m 100 #[.val (.int i0), .val (.int i1), .val (.int (0 : Int32)), .val (.int (1 : Int32)), .val (.int (0 : Int32)), .val (.int (1 : Int32)), .val (.int (0 : Int32))] [(.int (1 : Int32))])) _
        refine XS.goto X6.here hx rfl (pc0 := 100) (pc' := 104) rfl (hb hby at_100) (by decide) (by decide) ?_
        show Steps p.tables e below (T6.setTop (mkF m 104 #[.val (.int i0), .val (.int i1), .val (.int (0 : Int32)), .val (.int (1 : Int32)), .val (.int (0 : Int32)), .val (.int (1 : Int32)), .val (.int (0 : Int32))] [(.int (1 : Int32))])) _
        exact retN X6 hx (t := .boolean) Bd.returns (by simp) (hb hby at_104) hr
      · show QL n0 _ T6.heap _
        exact ⟨rfl, N6⟩
    · obtain ⟨_, T1, L1, hQ1, X1, st1⟩ := own_callS X0 hx hZ (W := 0) hown (hw _ m15) (hw _ m16) (hw _ m2) (hw _ m17) (by decide) (rm9 l Z a0 hw w0 w1 w2 w3 hS [] h0 n0 O0) e0 (g := (mkF m 25 #[.val (.int i0), .val (.int i1), .val (.int (0 : Int32)), .val (.int (2 : Int32)), .unset, .unset, .unset] [(.int (2 : Int32))])) rfl (by rw [hml]; rfl) (argsL := [(.int (2 : Int32))]) (rest := []) (lenOf pd11 rfl) rfl rfl (by show 2 * 0 + _ ≤ _; exact Nat.le_of_eq rfl) (hb hby at_25) (by decide) (by decide) (by decide) (by decide)
      obtain ⟨rfl, N1q, e1⟩ := hQ1
      have N1 := Fr.app N0 N1q
      have e1' : T1.heap = h0 := e1
      obtain ⟨_, T2, L2, hQ2, X2, st2⟩ := own_callS X1 hx hZ (W := 0) hown (hw _ m15) (hw _ m16) (hw _ m2) (hw _ m17) (by decide) (rm1 l Z a0 hw w0 w1 w2 w3 hS [] h0 n0 O0) e1' (g := (mkF m 32 #[.val (.int i0), .val (.int i1), .val (.int (0 : Int32)), .val (.int (2 : Int32)), .unset, .unset, .unset] [(.int (0 : Int32))])) rfl (by rw [hml]; rfl) (argsL := [(.int (0 : Int32))]) (rest := []) (lenOf pd11 rfl) rfl rfl (by show 2 * 0 + _ ≤ _; exact Nat.le_of_eq rfl) (hb hby at_32) (by decide) (by decide) (by decide) (by decide)
      obtain ⟨rfl, N2q, e2⟩ := hQ2
      have N2 := Fr.app N1 N2q
      have e2' : T2.heap = h0 := e2
      obtain ⟨_, T3, L3, hQ3, X3, st3⟩ := own_callS X2 hx hZ (W := 0) hown (hw _ m18) (hw _ m19) (hw _ m2) (hw _ m20) (by decide) (rm10 l Z a0 hw w0 w1 w2 w3 hS [] h0 n0 O0) e2' (g := (mkF m 46 #[.val (.int i0), .val (.int i1), .val (.int (0 : Int32)), .val (.int (2 : Int32)), .unset, .val (.int (1 : Int32)), .unset] [(.int (2 : Int32))])) rfl (by rw [hml]; rfl) (argsL := [(.int (2 : Int32))]) (rest := []) (lenOf pd11 rfl) rfl rfl (by show 2 * 0 + _ ≤ _; exact Nat.le_of_eq rfl) (hb hby at_46) (by decide) (by decide) (by decide) (by decide)
      obtain ⟨rfl, N3q, e3⟩ := hQ3
      have N3 := Fr.app N2 N3q
      have e3' : T3.heap = h0 := e3
      obtain ⟨_, T4, L4, hQ4, X4, st4⟩ := own_callS X3 hx hZ (W := 0) hown (hw _ m18) (hw _ m19) (hw _ m2) (hw _ m20) (by decide) (rm2 l Z a0 hw w0 w1 w2 w3 hS [] h0 n0 O0) e3' (g := (mkF m 53 #[.val (.int i0), .val (.int i1), .val (.int (0 : Int32)), .val (.int (2 : Int32)), .unset, .val (.int (1 : Int32)), .unset] [(.int (0 : Int32))])) rfl (by rw [hml]; rfl) (argsL := [(.int (0 : Int32))]) (rest := []) (lenOf pd11 rfl) rfl rfl (by show 2 * 0 + _ ≤ _; exact Nat.le_of_eq rfl) (hb hby at_53) (by decide) (by decide) (by decide) (by decide)
      obtain ⟨rfl, N4q, e4⟩ := hQ4
      have N4 := Fr.app N3 N4q
      have e4' : T4.heap = h0 := e4
      obtain ⟨_, T5, L5, hQ5, X5, st5⟩ := own_callS X4 hx hZ (W := 0) hown (hw _ m0) (hw _ m1) (hw _ m2) (hw _ m3) (by decide) (rm3 l Z a0 hw w0 w1 w2 w3 hS [] h0 n0 O0) e4' (g := (mkF m 84 #[.val (.int i0), .val (.int i1), .val (.int (0 : Int32)), .val (.int (2 : Int32)), .val (.int (0 : Int32)), .val (.int (1 : Int32)), .val (.int (0 : Int32))] [(.int (0 : Int32))])) rfl (by rw [hml]; rfl) (argsL := [(.int (0 : Int32))]) (rest := []) (lenOf pd31 rfl) rfl rfl (by show 2 * 0 + _ ≤ _; exact Nat.le_of_eq rfl) (hb hby at_84) (by decide) (by decide) (by decide) (by decide)
      obtain ⟨rfl, N5q, e5⟩ := hQ5
      have N5 := Fr.app N4 N5q
      have e5' : T5.heap = h0 := e5
      obtain ⟨_, T6, L6, hQ6, X6, st6⟩ := own_callS X5 hx hZ (W := 1) hown (hw _ m0) (hw _ m1) (hw _ m2) (hw _ m3) (by decide) (rm11 l Z a0 hw w0 w1 w2 w3 hS [] h0 n0 O0) e5' (g := (mkF m 88 #[.val (.int i0), .val (.int i1), .val (.int (0 : Int32)), .val (.int (2 : Int32)), .val (.int (0 : Int32)), .val (.int (1 : Int32)), .val (.int (0 : Int32))] [(.int (2 : Int32)), (.ref w3)])) rfl (by rw [hml]; rfl) (argsL := [(.int (2 : Int32))]) (rest := [(.ref w3)]) (lenOf pd31 rfl) rfl rfl (by show 2 * 0 + _ ≤ _; exact Nat.le_of_eq rfl) (hb hby at_88) (by decide) (by decide) (by decide) (by decide)
      obtain ⟨rfl, N6q, e6⟩ := hQ6
      have N6 := Fr.app N5 N6q
      have e6' : T6.heap = h0 := e6
      obtain ⟨_, T7, L7, hQ7, X7, st7⟩ := own_virtual X6 hx hZ (W := 0) hown (hw _ m9) (hw _ m10) (notFace_of_selects (args := #[]) (mvT hZ (hw _ m12))) (hw _ m12) (hw _ m11) (hw _ m5) (hw _ m13) (by decide) (rm12 l Z a0 hw w0 w1 w2 w3 hS [] h0 n0 O0) e6' (hS.2.2.2.2.2.2.2.2.2.2.1.ext O0.2) (g := (mkF m 91 #[.val (.int i0), .val (.int i1), .val (.int (0 : Int32)), .val (.int (2 : Int32)), .val (.int (0 : Int32)), .val (.int (1 : Int32)), .val (.int (0 : Int32))] [(.ref w2), (.ref w3)])) rfl (by rw [hml]; rfl) (argsL := [(.ref w2)]) (rest := []) (lenOf pd56 rfl) rfl rfl (by show 2 * 0 + _ ≤ _; exact Nat.le_of_eq rfl) (hb hby at_91) (by decide) (by decide) (by decide) (by decide)
      obtain ⟨rfl, N7q, e7⟩ := hQ7
      have N7 := Fr.app N6 N7q
      have e7' : T7.heap = h0 := e7
      obtain ⟨fs, hr, hrun, hended, hW, hsame⟩ := X7.leave (v := some (.int (1 : Int32))) (fun h => by rw [Bd.returns] at h; cases h)
      refine ⟨_, _, pre2 _ ?_, hrun, hended, _, _, rfl, ?_, ⟨_, rfl⟩, hW, hsame.mono (by decide) (by decide)⟩
      · show Steps p.tables e below (s₁.setTop (mkF m 6 #[.val (.int i0), .val (.int i1), .val (.int (0 : Int32)), .unset, .unset, .unset, .unset] [(.int (3 : Int32)), (.int i1)])) _
        refine Own.iand X0.here hx rfl (hb hby at_6) rfl hp1 ?_
        show Steps p.tables e below (s₁.setTop (mkF m 7 #[.val (.int i0), .val (.int i1), .val (.int (0 : Int32)), .unset, .unset, .unset, .unset] [(.int (2 : Int32))])) _
        refine XS.istoreN X0.here hx rfl (hb hby at_7) rfl (l' := #[.val (.int i0), .val (.int i1), .val (.int (0 : Int32)), .val (.int (2 : Int32)), .unset, .unset, .unset]) rfl ?_
        show Steps p.tables e below (s₁.setTop (mkF m 8 #[.val (.int i0), .val (.int i1), .val (.int (0 : Int32)), .val (.int (2 : Int32)), .unset, .unset, .unset] [])) _
        refine XS.iloadN X0.here hx rfl (hb hby at_8) rfl ?_
        show Steps p.tables e below (s₁.setTop (mkF m 9 #[.val (.int i0), .val (.int i1), .val (.int (0 : Int32)), .val (.int (2 : Int32)), .unset, .unset, .unset] [(.int (0 : Int32))])) _
        refine XS.iconst X0.here hx rfl (hb hby at_9) ?_
        show Steps p.tables e below (s₁.setTop (mkF m 10 #[.val (.int i0), .val (.int i1), .val (.int (0 : Int32)), .val (.int (2 : Int32)), .unset, .unset, .unset] [(.int (3 : Int32)), (.int (0 : Int32))])) _
        refine XS.icmpNo X0.here hx rfl (hb hby at_10) rfl (feq (by decide : ¬ ((0 : Int32) = (3 : Int32)))).1 ?_
        show Steps p.tables e below (s₁.setTop (mkF m 13 #[.val (.int i0), .val (.int i1), .val (.int (0 : Int32)), .val (.int (2 : Int32)), .unset, .unset, .unset] [])) _
        refine XS.iloadN X0.here hx rfl (hb hby at_13) rfl ?_
        show Steps p.tables e below (s₁.setTop (mkF m 14 #[.val (.int i0), .val (.int i1), .val (.int (0 : Int32)), .val (.int (2 : Int32)), .unset, .unset, .unset] [(.int (2 : Int32))])) _
        refine XS.iconst X0.here hx rfl (hb hby at_14) ?_
        show Steps p.tables e below (s₁.setTop (mkF m 15 #[.val (.int i0), .val (.int i1), .val (.int (0 : Int32)), .val (.int (2 : Int32)), .unset, .unset, .unset] [(.int (3 : Int32)), (.int (2 : Int32))])) _
        refine XS.icmpYes X0.here hx rfl (pc0 := 15) (pc' := 24) rfl (hb hby at_15) rfl (feq (by decide : ¬ ((2 : Int32) = (3 : Int32)))).2 (by decide) (by decide) ?_
        show Steps p.tables e below (s₁.setTop (mkF m 24 #[.val (.int i0), .val (.int i1), .val (.int (0 : Int32)), .val (.int (2 : Int32)), .unset, .unset, .unset] [])) _
        refine XS.iloadN X0.here hx rfl (hb hby at_24) rfl ?_
        show Steps p.tables e below (s₁.setTop (mkF m 25 #[.val (.int i0), .val (.int i1), .val (.int (0 : Int32)), .val (.int (2 : Int32)), .unset, .unset, .unset] [(.int (2 : Int32))])) _
        refine st1 _ ?_
        show Steps p.tables e below (T1.setTop (mkF m 28 #[.val (.int i0), .val (.int i1), .val (.int (0 : Int32)), .val (.int (2 : Int32)), .unset, .unset, .unset] [(.int (1 : Int32))])) _
        refine XS.ifNo X1.here hx rfl (hb hby at_28) rfl ((if0 _ _).trans (feq (by decide : ¬ ((1 : Int32) = (0 : Int32)))).1) ?_
        show Steps p.tables e below (T1.setTop (mkF m 31 #[.val (.int i0), .val (.int i1), .val (.int (0 : Int32)), .val (.int (2 : Int32)), .unset, .unset, .unset] [])) _
        refine XS.iloadN X1.here hx rfl (hb hby at_31) rfl ?_
        show Steps p.tables e below (T1.setTop (mkF m 32 #[.val (.int i0), .val (.int i1), .val (.int (0 : Int32)), .val (.int (2 : Int32)), .unset, .unset, .unset] [(.int (0 : Int32))])) _
        refine st2 _ ?_
        show Steps p.tables e below (T2.setTop (mkF m 35 #[.val (.int i0), .val (.int i1), .val (.int (0 : Int32)), .val (.int (2 : Int32)), .unset, .unset, .unset] [(.int (1 : Int32))])) _
        refine XS.ifNo X2.here hx rfl (hb hby at_35) rfl ((if0 _ _).trans (feq (by decide : ¬ ((1 : Int32) = (0 : Int32)))).1) ?_
        show Steps p.tables e below (T2.setTop (mkF m 38 #[.val (.int i0), .val (.int i1), .val (.int (0 : Int32)), .val (.int (2 : Int32)), .unset, .unset, .unset] [])) _
        refine XS.iconst X2.here hx rfl (hb hby at_38) ?_
        show Steps p.tables e below (T2.setTop (mkF m 39 #[.val (.int i0), .val (.int i1), .val (.int (0 : Int32)), .val (.int (2 : Int32)), .unset, .unset, .unset] [(.int (1 : Int32))])) _
        refine XS.goto X2.here hx rfl (pc0 := 39) (pc' := 43) rfl (hb hby at_39) (by decide) (by decide) ?_
        show Steps p.tables e below (T2.setTop (mkF m 43 #[.val (.int i0), .val (.int i1), .val (.int (0 : Int32)), .val (.int (2 : Int32)), .unset, .unset, .unset] [(.int (1 : Int32))])) _
        refine XS.istore X2.here hx rfl (hb hby at_43) rfl (l' := #[.val (.int i0), .val (.int i1), .val (.int (0 : Int32)), .val (.int (2 : Int32)), .unset, .val (.int (1 : Int32)), .unset]) rfl ?_
        show Steps p.tables e below (T2.setTop (mkF m 45 #[.val (.int i0), .val (.int i1), .val (.int (0 : Int32)), .val (.int (2 : Int32)), .unset, .val (.int (1 : Int32)), .unset] [])) _
        refine XS.iloadN X2.here hx rfl (hb hby at_45) rfl ?_
        show Steps p.tables e below (T2.setTop (mkF m 46 #[.val (.int i0), .val (.int i1), .val (.int (0 : Int32)), .val (.int (2 : Int32)), .unset, .val (.int (1 : Int32)), .unset] [(.int (2 : Int32))])) _
        refine st3 _ ?_
        show Steps p.tables e below (T3.setTop (mkF m 49 #[.val (.int i0), .val (.int i1), .val (.int (0 : Int32)), .val (.int (2 : Int32)), .unset, .val (.int (1 : Int32)), .unset] [(.int (1 : Int32))])) _
        refine XS.ifNo X3.here hx rfl (hb hby at_49) rfl ((if0 _ _).trans (feq (by decide : ¬ ((1 : Int32) = (0 : Int32)))).1) ?_
        show Steps p.tables e below (T3.setTop (mkF m 52 #[.val (.int i0), .val (.int i1), .val (.int (0 : Int32)), .val (.int (2 : Int32)), .unset, .val (.int (1 : Int32)), .unset] [])) _
        refine XS.iloadN X3.here hx rfl (hb hby at_52) rfl ?_
        show Steps p.tables e below (T3.setTop (mkF m 53 #[.val (.int i0), .val (.int i1), .val (.int (0 : Int32)), .val (.int (2 : Int32)), .unset, .val (.int (1 : Int32)), .unset] [(.int (0 : Int32))])) _
        refine st4 _ ?_
        show Steps p.tables e below (T4.setTop (mkF m 56 #[.val (.int i0), .val (.int i1), .val (.int (0 : Int32)), .val (.int (2 : Int32)), .unset, .val (.int (1 : Int32)), .unset] [(.int (0 : Int32))])) _
        refine XS.ifYes X4.here hx rfl (pc0 := 56) (pc' := 63) rfl (hb hby at_56) rfl ((if0 _ _).trans (teq (by decide : (0 : Int32) = (0 : Int32))).1) (by decide) (by decide) ?_
        show Steps p.tables e below (T4.setTop (mkF m 63 #[.val (.int i0), .val (.int i1), .val (.int (0 : Int32)), .val (.int (2 : Int32)), .unset, .val (.int (1 : Int32)), .unset] [])) _
        refine XS.iconst X4.here hx rfl (hb hby at_63) ?_
        show Steps p.tables e below (T4.setTop (mkF m 64 #[.val (.int i0), .val (.int i1), .val (.int (0 : Int32)), .val (.int (2 : Int32)), .unset, .val (.int (1 : Int32)), .unset] [(.int (0 : Int32))])) _
        refine XS.istore X4.here hx rfl (hb hby at_64) rfl (l' := #[.val (.int i0), .val (.int i1), .val (.int (0 : Int32)), .val (.int (2 : Int32)), .unset, .val (.int (1 : Int32)), .val (.int (0 : Int32))]) rfl ?_
        show Steps p.tables e below (T4.setTop (mkF m 66 #[.val (.int i0), .val (.int i1), .val (.int (0 : Int32)), .val (.int (2 : Int32)), .unset, .val (.int (1 : Int32)), .val (.int (0 : Int32))] [])) _
        refine XS.iload X4.here hx rfl (hb hby at_66) rfl ?_
        show Steps p.tables e below (T4.setTop (mkF m 68 #[.val (.int i0), .val (.int i1), .val (.int (0 : Int32)), .val (.int (2 : Int32)), .unset, .val (.int (1 : Int32)), .val (.int (0 : Int32))] [(.int (1 : Int32))])) _
        refine XS.ifNo X4.here hx rfl (hb hby at_68) rfl ((if0 _ _).trans (feq (by decide : ¬ ((1 : Int32) = (0 : Int32)))).1) ?_
        show Steps p.tables e below (T4.setTop (mkF m 71 #[.val (.int i0), .val (.int i1), .val (.int (0 : Int32)), .val (.int (2 : Int32)), .unset, .val (.int (1 : Int32)), .val (.int (0 : Int32))] [])) _
        refine XS.iload X4.here hx rfl (hb hby at_71) rfl ?_
        show Steps p.tables e below (T4.setTop (mkF m 73 #[.val (.int i0), .val (.int i1), .val (.int (0 : Int32)), .val (.int (2 : Int32)), .unset, .val (.int (1 : Int32)), .val (.int (0 : Int32))] [(.int (0 : Int32))])) _
        refine XS.ifYes X4.here hx rfl (pc0 := 73) (pc' := 80) rfl (hb hby at_73) rfl ((if0 _ _).trans (teq (by decide : (0 : Int32) = (0 : Int32))).1) (by decide) (by decide) ?_
        show Steps p.tables e below (T4.setTop (mkF m 80 #[.val (.int i0), .val (.int i1), .val (.int (0 : Int32)), .val (.int (2 : Int32)), .unset, .val (.int (1 : Int32)), .val (.int (0 : Int32))] [])) _
        refine XS.iconst X4.here hx rfl (hb hby at_80) ?_
        show Steps p.tables e below (T4.setTop (mkF m 81 #[.val (.int i0), .val (.int i1), .val (.int (0 : Int32)), .val (.int (2 : Int32)), .unset, .val (.int (1 : Int32)), .val (.int (0 : Int32))] [(.int (0 : Int32))])) _
        refine XS.istore X4.here hx rfl (hb hby at_81) rfl (l' := #[.val (.int i0), .val (.int i1), .val (.int (0 : Int32)), .val (.int (2 : Int32)), .val (.int (0 : Int32)), .val (.int (1 : Int32)), .val (.int (0 : Int32))]) rfl ?_
        show Steps p.tables e below (T4.setTop (mkF m 83 #[.val (.int i0), .val (.int i1), .val (.int (0 : Int32)), .val (.int (2 : Int32)), .val (.int (0 : Int32)), .val (.int (1 : Int32)), .val (.int (0 : Int32))] [])) _
        refine XS.iloadN X4.here hx rfl (hb hby at_83) rfl ?_
        show Steps p.tables e below (T4.setTop (mkF m 84 #[.val (.int i0), .val (.int i1), .val (.int (0 : Int32)), .val (.int (2 : Int32)), .val (.int (0 : Int32)), .val (.int (1 : Int32)), .val (.int (0 : Int32))] [(.int (0 : Int32))])) _
        refine st5 _ ?_
        show Steps p.tables e below (T5.setTop (mkF m 87 #[.val (.int i0), .val (.int i1), .val (.int (0 : Int32)), .val (.int (2 : Int32)), .val (.int (0 : Int32)), .val (.int (1 : Int32)), .val (.int (0 : Int32))] [(.ref w3)])) _
        refine XS.iloadN X5.here hx rfl (hb hby at_87) rfl ?_
        show Steps p.tables e below (T5.setTop (mkF m 88 #[.val (.int i0), .val (.int i1), .val (.int (0 : Int32)), .val (.int (2 : Int32)), .val (.int (0 : Int32)), .val (.int (1 : Int32)), .val (.int (0 : Int32))] [(.int (2 : Int32)), (.ref w3)])) _
        refine st6 _ ?_
        show Steps p.tables e below (T6.setTop (mkF m 91 #[.val (.int i0), .val (.int i1), .val (.int (0 : Int32)), .val (.int (2 : Int32)), .val (.int (0 : Int32)), .val (.int (1 : Int32)), .val (.int (0 : Int32))] [(.ref w2), (.ref w3)])) _
        refine st7 _ ?_
        show Steps p.tables e below (T7.setTop (mkF m 94 #[.val (.int i0), .val (.int i1), .val (.int (0 : Int32)), .val (.int (2 : Int32)), .val (.int (0 : Int32)), .val (.int (1 : Int32)), .val (.int (0 : Int32))] [(.int (0 : Int32))])) _
        refine XS.iload X7.here hx rfl (hb hby at_94) rfl ?_
        show Steps p.tables e below (T7.setTop (mkF m 96 #[.val (.int i0), .val (.int i1), .val (.int (0 : Int32)), .val (.int (2 : Int32)), .val (.int (0 : Int32)), .val (.int (1 : Int32)), .val (.int (0 : Int32))] [(.int (0 : Int32)), (.int (0 : Int32))])) _
        refine XS.icmpNo X7.here hx rfl (hb hby at_96) rfl (teq (by decide : (0 : Int32) = (0 : Int32))).2 ?_
        show Steps p.tables e below (T7.setTop (mkF m 99 #[.val (.int i0), .val (.int i1), .val (.int (0 : Int32)), .val (.int (2 : Int32)), .val (.int (0 : Int32)), .val (.int (1 : Int32)), .val (.int (0 : Int32))] [])) _
        refine XS.iconst X7.here hx rfl (hb hby at_99) ?_
        show Steps p.tables e below (T7.setTop (mkF m 100 #[.val (.int i0), .val (.int i1), .val (.int (0 : Int32)), .val (.int (2 : Int32)), .val (.int (0 : Int32)), .val (.int (1 : Int32)), .val (.int (0 : Int32))] [(.int (1 : Int32))])) _
        refine XS.goto X7.here hx rfl (pc0 := 100) (pc' := 104) rfl (hb hby at_100) (by decide) (by decide) ?_
        show Steps p.tables e below (T7.setTop (mkF m 104 #[.val (.int i0), .val (.int i1), .val (.int (0 : Int32)), .val (.int (2 : Int32)), .val (.int (0 : Int32)), .val (.int (1 : Int32)), .val (.int (0 : Int32))] [(.int (1 : Int32))])) _
        exact retN X7 hx (t := .boolean) Bd.returns (by simp) (hb hby at_104) hr
      · show QL n0 _ T7.heap _
        exact ⟨rfl, N7⟩
    · obtain ⟨_, T1, L1, hQ1, X1, st1⟩ := own_callS X0 hx hZ (W := 0) hown (hw _ m0) (hw _ m1) (hw _ m2) (hw _ m3) (by decide) (rm3 l Z a0 hw w0 w1 w2 w3 hS [] h0 n0 O0) e0 (g := (mkF m 84 #[.val (.int i0), .val (.int i1), .val (.int (0 : Int32)), .val (.int (3 : Int32)), .val (.int (0 : Int32)), .unset, .unset] [(.int (0 : Int32))])) rfl (by rw [hml]; rfl) (argsL := [(.int (0 : Int32))]) (rest := []) (lenOf pd31 rfl) rfl rfl (by show 2 * 0 + _ ≤ _; exact Nat.le_of_eq rfl) (hb hby at_84) (by decide) (by decide) (by decide) (by decide)
      obtain ⟨rfl, N1q, e1⟩ := hQ1
      have N1 := Fr.app N0 N1q
      have e1' : T1.heap = h0 := e1
      obtain ⟨_, T2, L2, hQ2, X2, st2⟩ := own_callS X1 hx hZ (W := 1) hown (hw _ m0) (hw _ m1) (hw _ m2) (hw _ m3) (by decide) (rm13 l Z a0 hw w0 w1 w2 w3 hS [] h0 n0 O0) e1' (g := (mkF m 88 #[.val (.int i0), .val (.int i1), .val (.int (0 : Int32)), .val (.int (3 : Int32)), .val (.int (0 : Int32)), .unset, .unset] [(.int (3 : Int32)), (.ref w3)])) rfl (by rw [hml]; rfl) (argsL := [(.int (3 : Int32))]) (rest := [(.ref w3)]) (lenOf pd31 rfl) rfl rfl (by show 2 * 0 + _ ≤ _; exact Nat.le_of_eq rfl) (hb hby at_88) (by decide) (by decide) (by decide) (by decide)
      obtain ⟨rfl, N2q, e2⟩ := hQ2
      have N2 := Fr.app N1 N2q
      have e2' : T2.heap = h0 := e2
      obtain ⟨_, T3, L3, hQ3, X3, st3⟩ := own_virtual X2 hx hZ (W := 0) hown (hw _ m9) (hw _ m10) (notFace_of_selects (args := #[]) (mvT hZ (hw _ m12))) (hw _ m12) (hw _ m11) (hw _ m5) (hw _ m13) (by decide) (rm14 l Z a0 hw w0 w1 w2 w3 hS [] h0 n0 O0) e2' (hS.2.2.2.2.2.2.2.2.2.2.1.ext O0.2) (g := (mkF m 91 #[.val (.int i0), .val (.int i1), .val (.int (0 : Int32)), .val (.int (3 : Int32)), .val (.int (0 : Int32)), .unset, .unset] [(.ref w1), (.ref w3)])) rfl (by rw [hml]; rfl) (argsL := [(.ref w1)]) (rest := []) (lenOf pd56 rfl) rfl rfl (by show 2 * 0 + _ ≤ _; exact Nat.le_of_eq rfl) (hb hby at_91) (by decide) (by decide) (by decide) (by decide)
      obtain ⟨rfl, N3q, e3⟩ := hQ3
      have N3 := Fr.app N2 N3q
      have e3' : T3.heap = h0 := e3
      obtain ⟨fs, hr, hrun, hended, hW, hsame⟩ := X3.leave (v := some (.int (1 : Int32))) (fun h => by rw [Bd.returns] at h; cases h)
      refine ⟨_, _, pre2 _ ?_, hrun, hended, _, _, rfl, ?_, ⟨_, rfl⟩, hW, hsame.mono (by decide) (by decide)⟩
      · show Steps p.tables e below (s₁.setTop (mkF m 6 #[.val (.int i0), .val (.int i1), .val (.int (0 : Int32)), .unset, .unset, .unset, .unset] [(.int (3 : Int32)), (.int i1)])) _
        refine Own.iand X0.here hx rfl (hb hby at_6) rfl hp1 ?_
        show Steps p.tables e below (s₁.setTop (mkF m 7 #[.val (.int i0), .val (.int i1), .val (.int (0 : Int32)), .unset, .unset, .unset, .unset] [(.int (3 : Int32))])) _
        refine XS.istoreN X0.here hx rfl (hb hby at_7) rfl (l' := #[.val (.int i0), .val (.int i1), .val (.int (0 : Int32)), .val (.int (3 : Int32)), .unset, .unset, .unset]) rfl ?_
        show Steps p.tables e below (s₁.setTop (mkF m 8 #[.val (.int i0), .val (.int i1), .val (.int (0 : Int32)), .val (.int (3 : Int32)), .unset, .unset, .unset] [])) _
        refine XS.iloadN X0.here hx rfl (hb hby at_8) rfl ?_
        show Steps p.tables e below (s₁.setTop (mkF m 9 #[.val (.int i0), .val (.int i1), .val (.int (0 : Int32)), .val (.int (3 : Int32)), .unset, .unset, .unset] [(.int (0 : Int32))])) _
        refine XS.iconst X0.here hx rfl (hb hby at_9) ?_
        show Steps p.tables e below (s₁.setTop (mkF m 10 #[.val (.int i0), .val (.int i1), .val (.int (0 : Int32)), .val (.int (3 : Int32)), .unset, .unset, .unset] [(.int (3 : Int32)), (.int (0 : Int32))])) _
        refine XS.icmpNo X0.here hx rfl (hb hby at_10) rfl (feq (by decide : ¬ ((0 : Int32) = (3 : Int32)))).1 ?_
        show Steps p.tables e below (s₁.setTop (mkF m 13 #[.val (.int i0), .val (.int i1), .val (.int (0 : Int32)), .val (.int (3 : Int32)), .unset, .unset, .unset] [])) _
        refine XS.iloadN X0.here hx rfl (hb hby at_13) rfl ?_
        show Steps p.tables e below (s₁.setTop (mkF m 14 #[.val (.int i0), .val (.int i1), .val (.int (0 : Int32)), .val (.int (3 : Int32)), .unset, .unset, .unset] [(.int (3 : Int32))])) _
        refine XS.iconst X0.here hx rfl (hb hby at_14) ?_
        show Steps p.tables e below (s₁.setTop (mkF m 15 #[.val (.int i0), .val (.int i1), .val (.int (0 : Int32)), .val (.int (3 : Int32)), .unset, .unset, .unset] [(.int (3 : Int32)), (.int (3 : Int32))])) _
        refine XS.icmpNo X0.here hx rfl (hb hby at_15) rfl (teq (by decide : (3 : Int32) = (3 : Int32))).2 ?_
        show Steps p.tables e below (s₁.setTop (mkF m 18 #[.val (.int i0), .val (.int i1), .val (.int (0 : Int32)), .val (.int (3 : Int32)), .unset, .unset, .unset] [])) _
        refine XS.iconst X0.here hx rfl (hb hby at_18) ?_
        show Steps p.tables e below (s₁.setTop (mkF m 19 #[.val (.int i0), .val (.int i1), .val (.int (0 : Int32)), .val (.int (3 : Int32)), .unset, .unset, .unset] [(.int (0 : Int32))])) _
        refine XS.istore X0.here hx rfl (hb hby at_19) rfl (l' := #[.val (.int i0), .val (.int i1), .val (.int (0 : Int32)), .val (.int (3 : Int32)), .val (.int (0 : Int32)), .unset, .unset]) rfl ?_
        show Steps p.tables e below (s₁.setTop (mkF m 21 #[.val (.int i0), .val (.int i1), .val (.int (0 : Int32)), .val (.int (3 : Int32)), .val (.int (0 : Int32)), .unset, .unset] [])) _
        refine XS.goto X0.here hx rfl (pc0 := 21) (pc' := 83) rfl (hb hby at_21) (by decide) (by decide) ?_
        show Steps p.tables e below (s₁.setTop (mkF m 83 #[.val (.int i0), .val (.int i1), .val (.int (0 : Int32)), .val (.int (3 : Int32)), .val (.int (0 : Int32)), .unset, .unset] [])) _
        refine XS.iloadN X0.here hx rfl (hb hby at_83) rfl ?_
        show Steps p.tables e below (s₁.setTop (mkF m 84 #[.val (.int i0), .val (.int i1), .val (.int (0 : Int32)), .val (.int (3 : Int32)), .val (.int (0 : Int32)), .unset, .unset] [(.int (0 : Int32))])) _
        refine st1 _ ?_
        show Steps p.tables e below (T1.setTop (mkF m 87 #[.val (.int i0), .val (.int i1), .val (.int (0 : Int32)), .val (.int (3 : Int32)), .val (.int (0 : Int32)), .unset, .unset] [(.ref w3)])) _
        refine XS.iloadN X1.here hx rfl (hb hby at_87) rfl ?_
        show Steps p.tables e below (T1.setTop (mkF m 88 #[.val (.int i0), .val (.int i1), .val (.int (0 : Int32)), .val (.int (3 : Int32)), .val (.int (0 : Int32)), .unset, .unset] [(.int (3 : Int32)), (.ref w3)])) _
        refine st2 _ ?_
        show Steps p.tables e below (T2.setTop (mkF m 91 #[.val (.int i0), .val (.int i1), .val (.int (0 : Int32)), .val (.int (3 : Int32)), .val (.int (0 : Int32)), .unset, .unset] [(.ref w1), (.ref w3)])) _
        refine st3 _ ?_
        show Steps p.tables e below (T3.setTop (mkF m 94 #[.val (.int i0), .val (.int i1), .val (.int (0 : Int32)), .val (.int (3 : Int32)), .val (.int (0 : Int32)), .unset, .unset] [(.int (0 : Int32))])) _
        refine XS.iload X3.here hx rfl (hb hby at_94) rfl ?_
        show Steps p.tables e below (T3.setTop (mkF m 96 #[.val (.int i0), .val (.int i1), .val (.int (0 : Int32)), .val (.int (3 : Int32)), .val (.int (0 : Int32)), .unset, .unset] [(.int (0 : Int32)), (.int (0 : Int32))])) _
        refine XS.icmpNo X3.here hx rfl (hb hby at_96) rfl (teq (by decide : (0 : Int32) = (0 : Int32))).2 ?_
        show Steps p.tables e below (T3.setTop (mkF m 99 #[.val (.int i0), .val (.int i1), .val (.int (0 : Int32)), .val (.int (3 : Int32)), .val (.int (0 : Int32)), .unset, .unset] [])) _
        refine XS.iconst X3.here hx rfl (hb hby at_99) ?_
        show Steps p.tables e below (T3.setTop (mkF m 100 #[.val (.int i0), .val (.int i1), .val (.int (0 : Int32)), .val (.int (3 : Int32)), .val (.int (0 : Int32)), .unset, .unset] [(.int (1 : Int32))])) _
        refine XS.goto X3.here hx rfl (pc0 := 100) (pc' := 104) rfl (hb hby at_100) (by decide) (by decide) ?_
        show Steps p.tables e below (T3.setTop (mkF m 104 #[.val (.int i0), .val (.int i1), .val (.int (0 : Int32)), .val (.int (3 : Int32)), .val (.int (0 : Int32)), .unset, .unset] [(.int (1 : Int32))])) _
        exact retN X3 hx (t := .boolean) Bd.returns (by simp) (hb hby at_104) hr
      · show QL n0 _ T3.heap _
        exact ⟨rfl, N3⟩
  · have pre2 : ∀ t, Steps p.tables e below (s₁.setTop (mkF m 6 #[.val (.int i0), .val (.int i1), .val (.int (1 : Int32)), .unset, .unset, .unset, .unset] [(.int (3 : Int32)), (.int i1)])) t → Steps p.tables e below (s₁.setTop (entryFrame m #[(.int i0), (.int i1)] maxLocals)) t := fun t kt => pre1 _ (by
        show Steps p.tables e below (s₁.setTop (mkF m 2 #[.val (.int i0), .val (.int i1), .unset, .unset, .unset, .unset, .unset] [(.int (3 : Int32)), (.int i0)])) _
        refine Own.iand X0.here hx rfl (hb hby at_2) rfl hp0 ?_
        show Steps p.tables e below (s₁.setTop (mkF m 3 #[.val (.int i0), .val (.int i1), .unset, .unset, .unset, .unset, .unset] [(.int (1 : Int32))])) _
        refine XS.istoreN X0.here hx rfl (hb hby at_3) rfl (l' := #[.val (.int i0), .val (.int i1), .val (.int (1 : Int32)), .unset, .unset, .unset, .unset]) rfl ?_
        show Steps p.tables e below (s₁.setTop (mkF m 4 #[.val (.int i0), .val (.int i1), .val (.int (1 : Int32)), .unset, .unset, .unset, .unset] [])) _
        refine XS.iloadN X0.here hx rfl (hb hby at_4) rfl ?_
        show Steps p.tables e below (s₁.setTop (mkF m 5 #[.val (.int i0), .val (.int i1), .val (.int (1 : Int32)), .unset, .unset, .unset, .unset] [(.int i1)])) _
        refine XS.iconst X0.here hx rfl (hb hby at_5) ?_
        exact kt)
    rcases en_0 (i1 &&& (3 : Int32)) (by have q0 := (own_mask i1 (3 : Int32) (by decide) : 0 ≤ ((i1 &&& (3 : Int32))).toInt ∧ ((i1 &&& (3 : Int32))).toInt ≤ 3); omega) with hp1 | hp1 | hp1 | hp1
    · obtain ⟨_, T1, L1, hQ1, X1, st1⟩ := own_callS X0 hx hZ (W := 0) hown (hw _ m15) (hw _ m16) (hw _ m2) (hw _ m17) (by decide) (rm1 l Z a0 hw w0 w1 w2 w3 hS [] h0 n0 O0) e0 (g := (mkF m 25 #[.val (.int i0), .val (.int i1), .val (.int (1 : Int32)), .val (.int (0 : Int32)), .unset, .unset, .unset] [(.int (0 : Int32))])) rfl (by rw [hml]; rfl) (argsL := [(.int (0 : Int32))]) (rest := []) (lenOf pd11 rfl) rfl rfl (by show 2 * 0 + _ ≤ _; exact Nat.le_of_eq rfl) (hb hby at_25) (by decide) (by decide) (by decide) (by decide)
      obtain ⟨rfl, N1q, e1⟩ := hQ1
      have N1 := Fr.app N0 N1q
      have e1' : T1.heap = h0 := e1
      obtain ⟨_, T2, L2, hQ2, X2, st2⟩ := own_callS X1 hx hZ (W := 0) hown (hw _ m15) (hw _ m16) (hw _ m2) (hw _ m17) (by decide) (rm5 l Z a0 hw w0 w1 w2 w3 hS [] h0 n0 O0) e1' (g := (mkF m 32 #[.val (.int i0), .val (.int i1), .val (.int (1 : Int32)), .val (.int (0 : Int32)), .unset, .unset, .unset] [(.int (1 : Int32))])) rfl (by rw [hml]; rfl) (argsL := [(.int (1 : Int32))]) (rest := []) (lenOf pd11 rfl) rfl rfl (by show 2 * 0 + _ ≤ _; exact Nat.le_of_eq rfl) (hb hby at_32) (by decide) (by decide) (by decide) (by decide)
      obtain ⟨rfl, N2q, e2⟩ := hQ2
      have N2 := Fr.app N1 N2q
      have e2' : T2.heap = h0 := e2
      obtain ⟨_, T3, L3, hQ3, X3, st3⟩ := own_callS X2 hx hZ (W := 0) hown (hw _ m18) (hw _ m19) (hw _ m2) (hw _ m20) (by decide) (rm2 l Z a0 hw w0 w1 w2 w3 hS [] h0 n0 O0) e2' (g := (mkF m 46 #[.val (.int i0), .val (.int i1), .val (.int (1 : Int32)), .val (.int (0 : Int32)), .unset, .val (.int (0 : Int32)), .unset] [(.int (0 : Int32))])) rfl (by rw [hml]; rfl) (argsL := [(.int (0 : Int32))]) (rest := []) (lenOf pd11 rfl) rfl rfl (by show 2 * 0 + _ ≤ _; exact Nat.le_of_eq rfl) (hb hby at_46) (by decide) (by decide) (by decide) (by decide)
      obtain ⟨rfl, N3q, e3⟩ := hQ3
      have N3 := Fr.app N2 N3q
      have e3' : T3.heap = h0 := e3
      obtain ⟨_, T4, L4, hQ4, X4, st4⟩ := own_callS X3 hx hZ (W := 0) hown (hw _ m0) (hw _ m1) (hw _ m2) (hw _ m3) (by decide) (rm7 l Z a0 hw w0 w1 w2 w3 hS [] h0 n0 O0) e3' (g := (mkF m 84 #[.val (.int i0), .val (.int i1), .val (.int (1 : Int32)), .val (.int (0 : Int32)), .val (.int (0 : Int32)), .val (.int (0 : Int32)), .val (.int (1 : Int32))] [(.int (1 : Int32))])) rfl (by rw [hml]; rfl) (argsL := [(.int (1 : Int32))]) (rest := []) (lenOf pd31 rfl) rfl rfl (by show 2 * 0 + _ ≤ _; exact Nat.le_of_eq rfl) (hb hby at_84) (by decide) (by decide) (by decide) (by decide)
      obtain ⟨rfl, N4q, e4⟩ := hQ4
      have N4 := Fr.app N3 N4q
      have e4' : T4.heap = h0 := e4
      obtain ⟨_, T5, L5, hQ5, X5, st5⟩ := own_callS X4 hx hZ (W := 1) hown (hw _ m0) (hw _ m1) (hw _ m2) (hw _ m3) (by decide) (rm3 l Z a0 hw w0 w1 w2 w3 hS [] h0 n0 O0) e4' (g := (mkF m 88 #[.val (.int i0), .val (.int i1), .val (.int (1 : Int32)), .val (.int (0 : Int32)), .val (.int (0 : Int32)), .val (.int (0 : Int32)), .val (.int (1 : Int32))] [(.int (0 : Int32)), (.ref w0)])) rfl (by rw [hml]; rfl) (argsL := [(.int (0 : Int32))]) (rest := [(.ref w0)]) (lenOf pd31 rfl) rfl rfl (by show 2 * 0 + _ ≤ _; exact Nat.le_of_eq rfl) (hb hby at_88) (by decide) (by decide) (by decide) (by decide)
      obtain ⟨rfl, N5q, e5⟩ := hQ5
      have N5 := Fr.app N4 N5q
      have e5' : T5.heap = h0 := e5
      obtain ⟨_, T6, L6, hQ6, X6, st6⟩ := own_virtual X5 hx hZ (W := 0) hown (hw _ m9) (hw _ m10) (notFace_of_selects (args := #[]) (mvT hZ (hw _ m12))) (hw _ m12) (hw _ m11) (hw _ m5) (hw _ m13) (by decide) (rm15 l Z a0 hw w0 w1 w2 w3 hS [] h0 n0 O0) e5' (hS.2.1.ext O0.2) (g := (mkF m 91 #[.val (.int i0), .val (.int i1), .val (.int (1 : Int32)), .val (.int (0 : Int32)), .val (.int (0 : Int32)), .val (.int (0 : Int32)), .val (.int (1 : Int32))] [(.ref w3), (.ref w0)])) rfl (by rw [hml]; rfl) (argsL := [(.ref w3)]) (rest := []) (lenOf pd56 rfl) rfl rfl (by show 2 * 0 + _ ≤ _; exact Nat.le_of_eq rfl) (hb hby at_91) (by decide) (by decide) (by decide) (by decide)
      obtain ⟨rfl, N6q, e6⟩ := hQ6
      have N6 := Fr.app N5 N6q
      have e6' : T6.heap = h0 := e6
      obtain ⟨fs, hr, hrun, hended, hW, hsame⟩ := X6.leave (v := some (.int (1 : Int32))) (fun h => by rw [Bd.returns] at h; cases h)
      refine ⟨_, _, pre2 _ ?_, hrun, hended, _, _, rfl, ?_, ⟨_, rfl⟩, hW, hsame.mono (by decide) (by decide)⟩
      · show Steps p.tables e below (s₁.setTop (mkF m 6 #[.val (.int i0), .val (.int i1), .val (.int (1 : Int32)), .unset, .unset, .unset, .unset] [(.int (3 : Int32)), (.int i1)])) _
        refine Own.iand X0.here hx rfl (hb hby at_6) rfl hp1 ?_
        show Steps p.tables e below (s₁.setTop (mkF m 7 #[.val (.int i0), .val (.int i1), .val (.int (1 : Int32)), .unset, .unset, .unset, .unset] [(.int (0 : Int32))])) _
        refine XS.istoreN X0.here hx rfl (hb hby at_7) rfl (l' := #[.val (.int i0), .val (.int i1), .val (.int (1 : Int32)), .val (.int (0 : Int32)), .unset, .unset, .unset]) rfl ?_
        show Steps p.tables e below (s₁.setTop (mkF m 8 #[.val (.int i0), .val (.int i1), .val (.int (1 : Int32)), .val (.int (0 : Int32)), .unset, .unset, .unset] [])) _
        refine XS.iloadN X0.here hx rfl (hb hby at_8) rfl ?_
        show Steps p.tables e below (s₁.setTop (mkF m 9 #[.val (.int i0), .val (.int i1), .val (.int (1 : Int32)), .val (.int (0 : Int32)), .unset, .unset, .unset] [(.int (1 : Int32))])) _
        refine XS.iconst X0.here hx rfl (hb hby at_9) ?_
        show Steps p.tables e below (s₁.setTop (mkF m 10 #[.val (.int i0), .val (.int i1), .val (.int (1 : Int32)), .val (.int (0 : Int32)), .unset, .unset, .unset] [(.int (3 : Int32)), (.int (1 : Int32))])) _
        refine XS.icmpNo X0.here hx rfl (hb hby at_10) rfl (feq (by decide : ¬ ((1 : Int32) = (3 : Int32)))).1 ?_
        show Steps p.tables e below (s₁.setTop (mkF m 13 #[.val (.int i0), .val (.int i1), .val (.int (1 : Int32)), .val (.int (0 : Int32)), .unset, .unset, .unset] [])) _
        refine XS.iloadN X0.here hx rfl (hb hby at_13) rfl ?_
        show Steps p.tables e below (s₁.setTop (mkF m 14 #[.val (.int i0), .val (.int i1), .val (.int (1 : Int32)), .val (.int (0 : Int32)), .unset, .unset, .unset] [(.int (0 : Int32))])) _
        refine XS.iconst X0.here hx rfl (hb hby at_14) ?_
        show Steps p.tables e below (s₁.setTop (mkF m 15 #[.val (.int i0), .val (.int i1), .val (.int (1 : Int32)), .val (.int (0 : Int32)), .unset, .unset, .unset] [(.int (3 : Int32)), (.int (0 : Int32))])) _
        refine XS.icmpYes X0.here hx rfl (pc0 := 15) (pc' := 24) rfl (hb hby at_15) rfl (feq (by decide : ¬ ((0 : Int32) = (3 : Int32)))).2 (by decide) (by decide) ?_
        show Steps p.tables e below (s₁.setTop (mkF m 24 #[.val (.int i0), .val (.int i1), .val (.int (1 : Int32)), .val (.int (0 : Int32)), .unset, .unset, .unset] [])) _
        refine XS.iloadN X0.here hx rfl (hb hby at_24) rfl ?_
        show Steps p.tables e below (s₁.setTop (mkF m 25 #[.val (.int i0), .val (.int i1), .val (.int (1 : Int32)), .val (.int (0 : Int32)), .unset, .unset, .unset] [(.int (0 : Int32))])) _
        refine st1 _ ?_
        show Steps p.tables e below (T1.setTop (mkF m 28 #[.val (.int i0), .val (.int i1), .val (.int (1 : Int32)), .val (.int (0 : Int32)), .unset, .unset, .unset] [(.int (1 : Int32))])) _
        refine XS.ifNo X1.here hx rfl (hb hby at_28) rfl ((if0 _ _).trans (feq (by decide : ¬ ((1 : Int32) = (0 : Int32)))).1) ?_
        show Steps p.tables e below (T1.setTop (mkF m 31 #[.val (.int i0), .val (.int i1), .val (.int (1 : Int32)), .val (.int (0 : Int32)), .unset, .unset, .unset] [])) _
        refine XS.iloadN X1.here hx rfl (hb hby at_31) rfl ?_
        show Steps p.tables e below (T1.setTop (mkF m 32 #[.val (.int i0), .val (.int i1), .val (.int (1 : Int32)), .val (.int (0 : Int32)), .unset, .unset, .unset] [(.int (1 : Int32))])) _
        refine st2 _ ?_
        show Steps p.tables e below (T2.setTop (mkF m 35 #[.val (.int i0), .val (.int i1), .val (.int (1 : Int32)), .val (.int (0 : Int32)), .unset, .unset, .unset] [(.int (0 : Int32))])) _
        refine XS.ifYes X2.here hx rfl (pc0 := 35) (pc' := 42) rfl (hb hby at_35) rfl ((if0 _ _).trans (teq (by decide : (0 : Int32) = (0 : Int32))).1) (by decide) (by decide) ?_
        show Steps p.tables e below (T2.setTop (mkF m 42 #[.val (.int i0), .val (.int i1), .val (.int (1 : Int32)), .val (.int (0 : Int32)), .unset, .unset, .unset] [])) _
        refine XS.iconst X2.here hx rfl (hb hby at_42) ?_
        show Steps p.tables e below (T2.setTop (mkF m 43 #[.val (.int i0), .val (.int i1), .val (.int (1 : Int32)), .val (.int (0 : Int32)), .unset, .unset, .unset] [(.int (0 : Int32))])) _
        refine XS.istore X2.here hx rfl (hb hby at_43) rfl (l' := #[.val (.int i0), .val (.int i1), .val (.int (1 : Int32)), .val (.int (0 : Int32)), .unset, .val (.int (0 : Int32)), .unset]) rfl ?_
        show Steps p.tables e below (T2.setTop (mkF m 45 #[.val (.int i0), .val (.int i1), .val (.int (1 : Int32)), .val (.int (0 : Int32)), .unset, .val (.int (0 : Int32)), .unset] [])) _
        refine XS.iloadN X2.here hx rfl (hb hby at_45) rfl ?_
        show Steps p.tables e below (T2.setTop (mkF m 46 #[.val (.int i0), .val (.int i1), .val (.int (1 : Int32)), .val (.int (0 : Int32)), .unset, .val (.int (0 : Int32)), .unset] [(.int (0 : Int32))])) _
        refine st3 _ ?_
        show Steps p.tables e below (T3.setTop (mkF m 49 #[.val (.int i0), .val (.int i1), .val (.int (1 : Int32)), .val (.int (0 : Int32)), .unset, .val (.int (0 : Int32)), .unset] [(.int (0 : Int32))])) _
        refine XS.ifYes X3.here hx rfl (pc0 := 49) (pc' := 59) rfl (hb hby at_49) rfl ((if0 _ _).trans (teq (by decide : (0 : Int32) = (0 : Int32))).1) (by decide) (by decide) ?_
        show Steps p.tables e below (T3.setTop (mkF m 59 #[.val (.int i0), .val (.int i1), .val (.int (1 : Int32)), .val (.int (0 : Int32)), .unset, .val (.int (0 : Int32)), .unset] [])) _
        refine XS.iconst X3.here hx rfl (hb hby at_59) ?_
        show Steps p.tables e below (T3.setTop (mkF m 60 #[.val (.int i0), .val (.int i1), .val (.int (1 : Int32)), .val (.int (0 : Int32)), .unset, .val (.int (0 : Int32)), .unset] [(.int (1 : Int32))])) _
        refine XS.goto X3.here hx rfl (pc0 := 60) (pc' := 64) rfl (hb hby at_60) (by decide) (by decide) ?_
        show Steps p.tables e below (T3.setTop (mkF m 64 #[.val (.int i0), .val (.int i1), .val (.int (1 : Int32)), .val (.int (0 : Int32)), .unset, .val (.int (0 : Int32)), .unset] [(.int (1 : Int32))])) _
        refine XS.istore X3.here hx rfl (hb hby at_64) rfl (l' := #[.val (.int i0), .val (.int i1), .val (.int (1 : Int32)), .val (.int (0 : Int32)), .unset, .val (.int (0 : Int32)), .val (.int (1 : Int32))]) rfl ?_
        show Steps p.tables e below (T3.setTop (mkF m 66 #[.val (.int i0), .val (.int i1), .val (.int (1 : Int32)), .val (.int (0 : Int32)), .unset, .val (.int (0 : Int32)), .val (.int (1 : Int32))] [])) _
        refine XS.iload X3.here hx rfl (hb hby at_66) rfl ?_
        show Steps p.tables e below (T3.setTop (mkF m 68 #[.val (.int i0), .val (.int i1), .val (.int (1 : Int32)), .val (.int (0 : Int32)), .unset, .val (.int (0 : Int32)), .val (.int (1 : Int32))] [(.int (0 : Int32))])) _
        refine XS.ifYes X3.here hx rfl (pc0 := 68) (pc' := 80) rfl (hb hby at_68) rfl ((if0 _ _).trans (teq (by decide : (0 : Int32) = (0 : Int32))).1) (by decide) (by decide) ?_
        show Steps p.tables e below (T3.setTop (mkF m 80 #[.val (.int i0), .val (.int i1), .val (.int (1 : Int32)), .val (.int (0 : Int32)), .unset, .val (.int (0 : Int32)), .val (.int (1 : Int32))] [])) _
        refine XS.iconst X3.here hx rfl (hb hby at_80) ?_
        show Steps p.tables e below (T3.setTop (mkF m 81 #[.val (.int i0), .val (.int i1), .val (.int (1 : Int32)), .val (.int (0 : Int32)), .unset, .val (.int (0 : Int32)), .val (.int (1 : Int32))] [(.int (0 : Int32))])) _
        refine XS.istore X3.here hx rfl (hb hby at_81) rfl (l' := #[.val (.int i0), .val (.int i1), .val (.int (1 : Int32)), .val (.int (0 : Int32)), .val (.int (0 : Int32)), .val (.int (0 : Int32)), .val (.int (1 : Int32))]) rfl ?_
        show Steps p.tables e below (T3.setTop (mkF m 83 #[.val (.int i0), .val (.int i1), .val (.int (1 : Int32)), .val (.int (0 : Int32)), .val (.int (0 : Int32)), .val (.int (0 : Int32)), .val (.int (1 : Int32))] [])) _
        refine XS.iloadN X3.here hx rfl (hb hby at_83) rfl ?_
        show Steps p.tables e below (T3.setTop (mkF m 84 #[.val (.int i0), .val (.int i1), .val (.int (1 : Int32)), .val (.int (0 : Int32)), .val (.int (0 : Int32)), .val (.int (0 : Int32)), .val (.int (1 : Int32))] [(.int (1 : Int32))])) _
        refine st4 _ ?_
        show Steps p.tables e below (T4.setTop (mkF m 87 #[.val (.int i0), .val (.int i1), .val (.int (1 : Int32)), .val (.int (0 : Int32)), .val (.int (0 : Int32)), .val (.int (0 : Int32)), .val (.int (1 : Int32))] [(.ref w0)])) _
        refine XS.iloadN X4.here hx rfl (hb hby at_87) rfl ?_
        show Steps p.tables e below (T4.setTop (mkF m 88 #[.val (.int i0), .val (.int i1), .val (.int (1 : Int32)), .val (.int (0 : Int32)), .val (.int (0 : Int32)), .val (.int (0 : Int32)), .val (.int (1 : Int32))] [(.int (0 : Int32)), (.ref w0)])) _
        refine st5 _ ?_
        show Steps p.tables e below (T5.setTop (mkF m 91 #[.val (.int i0), .val (.int i1), .val (.int (1 : Int32)), .val (.int (0 : Int32)), .val (.int (0 : Int32)), .val (.int (0 : Int32)), .val (.int (1 : Int32))] [(.ref w3), (.ref w0)])) _
        refine st6 _ ?_
        show Steps p.tables e below (T6.setTop (mkF m 94 #[.val (.int i0), .val (.int i1), .val (.int (1 : Int32)), .val (.int (0 : Int32)), .val (.int (0 : Int32)), .val (.int (0 : Int32)), .val (.int (1 : Int32))] [(.int (0 : Int32))])) _
        refine XS.iload X6.here hx rfl (hb hby at_94) rfl ?_
        show Steps p.tables e below (T6.setTop (mkF m 96 #[.val (.int i0), .val (.int i1), .val (.int (1 : Int32)), .val (.int (0 : Int32)), .val (.int (0 : Int32)), .val (.int (0 : Int32)), .val (.int (1 : Int32))] [(.int (0 : Int32)), (.int (0 : Int32))])) _
        refine XS.icmpNo X6.here hx rfl (hb hby at_96) rfl (teq (by decide : (0 : Int32) = (0 : Int32))).2 ?_
        show Steps p.tables e below (T6.setTop (mkF m 99 #[.val (.int i0), .val (.int i1), .val (.int (1 : Int32)), .val (.int (0 : Int32)), .val (.int (0 : Int32)), .val (.int (0 : Int32)), .val (.int (1 : Int32))] [])) _
        refine XS.iconst X6.here hx rfl (hb hby at_99) ?_
        show Steps p.tables e below (T6.setTop (mkF m 100 #[.val (.int i0), .val (.int i1), .val (.int (1 : Int32)), .val (.int (0 : Int32)), .val (.int (0 : Int32)), .val (.int (0 : Int32)), .val (.int (1 : Int32))] [(.int (1 : Int32))])) _
        refine XS.goto X6.here hx rfl (pc0 := 100) (pc' := 104) rfl (hb hby at_100) (by decide) (by decide) ?_
        show Steps p.tables e below (T6.setTop (mkF m 104 #[.val (.int i0), .val (.int i1), .val (.int (1 : Int32)), .val (.int (0 : Int32)), .val (.int (0 : Int32)), .val (.int (0 : Int32)), .val (.int (1 : Int32))] [(.int (1 : Int32))])) _
        exact retN X6 hx (t := .boolean) Bd.returns (by simp) (hb hby at_104) hr
      · show QL n0 _ T6.heap _
        exact ⟨rfl, N6⟩
    · obtain ⟨_, T1, L1, hQ1, X1, st1⟩ := own_callS X0 hx hZ (W := 0) hown (hw _ m15) (hw _ m16) (hw _ m2) (hw _ m17) (by decide) (rm5 l Z a0 hw w0 w1 w2 w3 hS [] h0 n0 O0) e0 (g := (mkF m 25 #[.val (.int i0), .val (.int i1), .val (.int (1 : Int32)), .val (.int (1 : Int32)), .unset, .unset, .unset] [(.int (1 : Int32))])) rfl (by rw [hml]; rfl) (argsL := [(.int (1 : Int32))]) (rest := []) (lenOf pd11 rfl) rfl rfl (by show 2 * 0 + _ ≤ _; exact Nat.le_of_eq rfl) (hb hby at_25) (by decide) (by decide) (by decide) (by decide)
      obtain ⟨rfl, N1q, e1⟩ := hQ1
      have N1 := Fr.app N0 N1q
      have e1' : T1.heap = h0 := e1
      obtain ⟨_, T2, L2, hQ2, X2, st2⟩ := own_callS X1 hx hZ (W := 0) hown (hw _ m18) (hw _ m19) (hw _ m2) (hw _ m20) (by decide) (rm6 l Z a0 hw w0 w1 w2 w3 hS [] h0 n0 O0) e1' (g := (mkF m 46 #[.val (.int i0), .val (.int i1), .val (.int (1 : Int32)), .val (.int (1 : Int32)), .unset, .val (.int (1 : Int32)), .unset] [(.int (1 : Int32))])) rfl (by rw [hml]; rfl) (argsL := [(.int (1 : Int32))]) (rest := []) (lenOf pd11 rfl) rfl rfl (by show 2 * 0 + _ ≤ _; exact Nat.le_of_eq rfl) (hb hby at_46) (by decide) (by decide) (by decide) (by decide)
      obtain ⟨rfl, N2q, e2⟩ := hQ2
      have N2 := Fr.app N1 N2q
      have e2' : T2.heap = h0 := e2
      obtain ⟨_, T3, L3, hQ3, X3, st3⟩ := own_callS X2 hx hZ (W := 0) hown (hw _ m18) (hw _ m19) (hw _ m2) (hw _ m20) (by decide) (rm6 l Z a0 hw w0 w1 w2 w3 hS [] h0 n0 O0) e2' (g := (mkF m 53 #[.val (.int i0), .val (.int i1), .val (.int (1 : Int32)), .val (.int (1 : Int32)), .unset, .val (.int (1 : Int32)), .unset] [(.int (1 : Int32))])) rfl (by rw [hml]; rfl) (argsL := [(.int (1 : Int32))]) (rest := []) (lenOf pd11 rfl) rfl rfl (by show 2 * 0 + _ ≤ _; exact Nat.le_of_eq rfl) (hb hby at_53) (by decide) (by decide) (by decide) (by decide)
      obtain ⟨rfl, N3q, e3⟩ := hQ3
      have N3 := Fr.app N2 N3q
      have e3' : T3.heap = h0 := e3
      obtain ⟨_, T4, L4, hQ4, X4, st4⟩ := own_callS X3 hx hZ (W := 0) hown (hw _ m0) (hw _ m1) (hw _ m2) (hw _ m3) (by decide) (rm7 l Z a0 hw w0 w1 w2 w3 hS [] h0 n0 O0) e3' (g := (mkF m 84 #[.val (.int i0), .val (.int i1), .val (.int (1 : Int32)), .val (.int (1 : Int32)), .val (.int (1 : Int32)), .val (.int (1 : Int32)), .val (.int (1 : Int32))] [(.int (1 : Int32))])) rfl (by rw [hml]; rfl) (argsL := [(.int (1 : Int32))]) (rest := []) (lenOf pd31 rfl) rfl rfl (by show 2 * 0 + _ ≤ _; exact Nat.le_of_eq rfl) (hb hby at_84) (by decide) (by decide) (by decide) (by decide)
      obtain ⟨rfl, N4q, e4⟩ := hQ4
      have N4 := Fr.app N3 N4q
      have e4' : T4.heap = h0 := e4
      obtain ⟨_, T5, L5, hQ5, X5, st5⟩ := own_callS X4 hx hZ (W := 1) hown (hw _ m0) (hw _ m1) (hw _ m2) (hw _ m3) (by decide) (rm7 l Z a0 hw w0 w1 w2 w3 hS [] h0 n0 O0) e4' (g := (mkF m 88 #[.val (.int i0), .val (.int i1), .val (.int (1 : Int32)), .val (.int (1 : Int32)), .val (.int (1 : Int32)), .val (.int (1 : Int32)), .val (.int (1 : Int32))] [(.int (1 : Int32)), (.ref w0)])) rfl (by rw [hml]; rfl) (argsL := [(.int (1 : Int32))]) (rest := [(.ref w0)]) (lenOf pd31 rfl) rfl rfl (by show 2 * 0 + _ ≤ _; exact Nat.le_of_eq rfl) (hb hby at_88) (by decide) (by decide) (by decide) (by decide)
      obtain ⟨rfl, N5q, e5⟩ := hQ5
      have N5 := Fr.app N4 N5q
      have e5' : T5.heap = h0 := e5
      obtain ⟨_, T6, L6, hQ6, X6, st6⟩ := own_virtual X5 hx hZ (W := 0) hown (hw _ m9) (hw _ m10) (notFace_of_selects (args := #[]) (mvT hZ (hw _ m12))) (hw _ m12) (hw _ m11) (hw _ m5) (hw _ m13) (by decide) (rm16 l Z a0 hw w0 w1 w2 w3 hS [] h0 n0 O0) e5' (hS.2.1.ext O0.2) (g := (mkF m 91 #[.val (.int i0), .val (.int i1), .val (.int (1 : Int32)), .val (.int (1 : Int32)), .val (.int (1 : Int32)), .val (.int (1 : Int32)), .val (.int (1 : Int32))] [(.ref w0), (.ref w0)])) rfl (by rw [hml]; rfl) (argsL := [(.ref w0)]) (rest := []) (lenOf pd56 rfl) rfl rfl (by show 2 * 0 + _ ≤ _; exact Nat.le_of_eq rfl) (hb hby at_91) (by decide) (by decide) (by decide) (by decide)
      obtain ⟨rfl, N6q, e6⟩ := hQ6
      have N6 := Fr.app N5 N6q
      have e6' : T6.heap = h0 := e6
      obtain ⟨fs, hr, hrun, hended, hW, hsame⟩ := X6.leave (v := some (.int (1 : Int32))) (fun h => by rw [Bd.returns] at h; cases h)
      refine ⟨_, _, pre2 _ ?_, hrun, hended, _, _, rfl, ?_, ⟨_, rfl⟩, hW, hsame.mono (by decide) (by decide)⟩
      · show Steps p.tables e below (s₁.setTop (mkF m 6 #[.val (.int i0), .val (.int i1), .val (.int (1 : Int32)), .unset, .unset, .unset, .unset] [(.int (3 : Int32)), (.int i1)])) _
        refine Own.iand X0.here hx rfl (hb hby at_6) rfl hp1 ?_
        show Steps p.tables e below (s₁.setTop (mkF m 7 #[.val (.int i0), .val (.int i1), .val (.int (1 : Int32)), .unset, .unset, .unset, .unset] [(.int (1 : Int32))])) _
        refine XS.istoreN X0.here hx rfl (hb hby at_7) rfl (l' := #[.val (.int i0), .val (.int i1), .val (.int (1 : Int32)), .val (.int (1 : Int32)), .unset, .unset, .unset]) rfl ?_
        show Steps p.tables e below (s₁.setTop (mkF m 8 #[.val (.int i0), .val (.int i1), .val (.int (1 : Int32)), .val (.int (1 : Int32)), .unset, .unset, .unset] [])) _
        refine XS.iloadN X0.here hx rfl (hb hby at_8) rfl ?_
        show Steps p.tables e below (s₁.setTop (mkF m 9 #[.val (.int i0), .val (.int i1), .val (.int (1 : Int32)), .val (.int (1 : Int32)), .unset, .unset, .unset] [(.int (1 : Int32))])) _
        refine XS.iconst X0.here hx rfl (hb hby at_9) ?_
        show Steps p.tables e below (s₁.setTop (mkF m 10 #[.val (.int i0), .val (.int i1), .val (.int (1 : Int32)), .val (.int (1 : Int32)), .unset, .unset, .unset] [(.int (3 : Int32)), (.int (1 : Int32))])) _
        refine XS.icmpNo X0.here hx rfl (hb hby at_10) rfl (feq (by decide : ¬ ((1 : Int32) = (3 : Int32)))).1 ?_
        show Steps p.tables e below (s₁.setTop (mkF m 13 #[.val (.int i0), .val (.int i1), .val (.int (1 : Int32)), .val (.int (1 : Int32)), .unset, .unset, .unset] [])) _
        refine XS.iloadN X0.here hx rfl (hb hby at_13) rfl ?_
        show Steps p.tables e below (s₁.setTop (mkF m 14 #[.val (.int i0), .val (.int i1), .val (.int (1 : Int32)), .val (.int (1 : Int32)), .unset, .unset, .unset] [(.int (1 : Int32))])) _
        refine XS.iconst X0.here hx rfl (hb hby at_14) ?_
        show Steps p.tables e below (s₁.setTop (mkF m 15 #[.val (.int i0), .val (.int i1), .val (.int (1 : Int32)), .val (.int (1 : Int32)), .unset, .unset, .unset] [(.int (3 : Int32)), (.int (1 : Int32))])) _
        refine XS.icmpYes X0.here hx rfl (pc0 := 15) (pc' := 24) rfl (hb hby at_15) rfl (feq (by decide : ¬ ((1 : Int32) = (3 : Int32)))).2 (by decide) (by decide) ?_
        show Steps p.tables e below (s₁.setTop (mkF m 24 #[.val (.int i0), .val (.int i1), .val (.int (1 : Int32)), .val (.int (1 : Int32)), .unset, .unset, .unset] [])) _
        refine XS.iloadN X0.here hx rfl (hb hby at_24) rfl ?_
        show Steps p.tables e below (s₁.setTop (mkF m 25 #[.val (.int i0), .val (.int i1), .val (.int (1 : Int32)), .val (.int (1 : Int32)), .unset, .unset, .unset] [(.int (1 : Int32))])) _
        refine st1 _ ?_
        show Steps p.tables e below (T1.setTop (mkF m 28 #[.val (.int i0), .val (.int i1), .val (.int (1 : Int32)), .val (.int (1 : Int32)), .unset, .unset, .unset] [(.int (0 : Int32))])) _
        refine XS.ifYes X1.here hx rfl (pc0 := 28) (pc' := 38) rfl (hb hby at_28) rfl ((if0 _ _).trans (teq (by decide : (0 : Int32) = (0 : Int32))).1) (by decide) (by decide) ?_
        show Steps p.tables e below (T1.setTop (mkF m 38 #[.val (.int i0), .val (.int i1), .val (.int (1 : Int32)), .val (.int (1 : Int32)), .unset, .unset, .unset] [])) _
        refine XS.iconst X1.here hx rfl (hb hby at_38) ?_
        show Steps p.tables e below (T1.setTop (mkF m 39 #[.val (.int i0), .val (.int i1), .val (.int (1 : Int32)), .val (.int (1 : Int32)), .unset, .unset, .unset] [(.int (1 : Int32))])) _
        refine XS.goto X1.here hx rfl (pc0 := 39) (pc' := 43) rfl (hb hby at_39) (by decide) (by decide) ?_
        show Steps p.tables e below (T1.setTop (mkF m 43 #[.val (.int i0), .val (.int i1), .val (.int (1 : Int32)), .val (.int (1 : Int32)), .unset, .unset, .unset] [(.int (1 : Int32))])) _
        refine XS.istore X1.here hx rfl (hb hby at_43) rfl (l' := #[.val (.int i0), .val (.int i1), .val (.int (1 : Int32)), .val (.int (1 : Int32)), .unset, .val (.int (1 : Int32)), .unset]) rfl ?_
        show Steps p.tables e below (T1.setTop (mkF m 45 #[.val (.int i0), .val (.int i1), .val (.int (1 : Int32)), .val (.int (1 : Int32)), .unset, .val (.int (1 : Int32)), .unset] [])) _
        refine XS.iloadN X1.here hx rfl (hb hby at_45) rfl ?_
        show Steps p.tables e below (T1.setTop (mkF m 46 #[.val (.int i0), .val (.int i1), .val (.int (1 : Int32)), .val (.int (1 : Int32)), .unset, .val (.int (1 : Int32)), .unset] [(.int (1 : Int32))])) _
        refine st2 _ ?_
        show Steps p.tables e below (T2.setTop (mkF m 49 #[.val (.int i0), .val (.int i1), .val (.int (1 : Int32)), .val (.int (1 : Int32)), .unset, .val (.int (1 : Int32)), .unset] [(.int (1 : Int32))])) _
        refine XS.ifNo X2.here hx rfl (hb hby at_49) rfl ((if0 _ _).trans (feq (by decide : ¬ ((1 : Int32) = (0 : Int32)))).1) ?_
        show Steps p.tables e below (T2.setTop (mkF m 52 #[.val (.int i0), .val (.int i1), .val (.int (1 : Int32)), .val (.int (1 : Int32)), .unset, .val (.int (1 : Int32)), .unset] [])) _
        refine XS.iloadN X2.here hx rfl (hb hby at_52) rfl ?_
        show Steps p.tables e below (T2.setTop (mkF m 53 #[.val (.int i0), .val (.int i1), .val (.int (1 : Int32)), .val (.int (1 : Int32)), .unset, .val (.int (1 : Int32)), .unset] [(.int (1 : Int32))])) _
        refine st3 _ ?_
        show Steps p.tables e below (T3.setTop (mkF m 56 #[.val (.int i0), .val (.int i1), .val (.int (1 : Int32)), .val (.int (1 : Int32)), .unset, .val (.int (1 : Int32)), .unset] [(.int (1 : Int32))])) _
        refine XS.ifNo X3.here hx rfl (hb hby at_56) rfl ((if0 _ _).trans (feq (by decide : ¬ ((1 : Int32) = (0 : Int32)))).1) ?_
        show Steps p.tables e below (T3.setTop (mkF m 59 #[.val (.int i0), .val (.int i1), .val (.int (1 : Int32)), .val (.int (1 : Int32)), .unset, .val (.int (1 : Int32)), .unset] [])) _
        refine XS.iconst X3.here hx rfl (hb hby at_59) ?_
        show Steps p.tables e below (T3.setTop (mkF m 60 #[.val (.int i0), .val (.int i1), .val (.int (1 : Int32)), .val (.int (1 : Int32)), .unset, .val (.int (1 : Int32)), .unset] [(.int (1 : Int32))])) _
        refine XS.goto X3.here hx rfl (pc0 := 60) (pc' := 64) rfl (hb hby at_60) (by decide) (by decide) ?_
        show Steps p.tables e below (T3.setTop (mkF m 64 #[.val (.int i0), .val (.int i1), .val (.int (1 : Int32)), .val (.int (1 : Int32)), .unset, .val (.int (1 : Int32)), .unset] [(.int (1 : Int32))])) _
        refine XS.istore X3.here hx rfl (hb hby at_64) rfl (l' := #[.val (.int i0), .val (.int i1), .val (.int (1 : Int32)), .val (.int (1 : Int32)), .unset, .val (.int (1 : Int32)), .val (.int (1 : Int32))]) rfl ?_
        show Steps p.tables e below (T3.setTop (mkF m 66 #[.val (.int i0), .val (.int i1), .val (.int (1 : Int32)), .val (.int (1 : Int32)), .unset, .val (.int (1 : Int32)), .val (.int (1 : Int32))] [])) _
        refine XS.iload X3.here hx rfl (hb hby at_66) rfl ?_
        show Steps p.tables e below (T3.setTop (mkF m 68 #[.val (.int i0), .val (.int i1), .val (.int (1 : Int32)), .val (.int (1 : Int32)), .unset, .val (.int (1 : Int32)), .val (.int (1 : Int32))] [(.int (1 : Int32))])) _
        refine XS.ifNo X3.here hx rfl (hb hby at_68) rfl ((if0 _ _).trans (feq (by decide : ¬ ((1 : Int32) = (0 : Int32)))).1) ?_
        show Steps p.tables e below (T3.setTop (mkF m 71 #[.val (.int i0), .val (.int i1), .val (.int (1 : Int32)), .val (.int (1 : Int32)), .unset, .val (.int (1 : Int32)), .val (.int (1 : Int32))] [])) _
        refine XS.iload X3.here hx rfl (hb hby at_71) rfl ?_
        show Steps p.tables e below (T3.setTop (mkF m 73 #[.val (.int i0), .val (.int i1), .val (.int (1 : Int32)), .val (.int (1 : Int32)), .unset, .val (.int (1 : Int32)), .val (.int (1 : Int32))] [(.int (1 : Int32))])) _
        refine XS.ifNo X3.here hx rfl (hb hby at_73) rfl ((if0 _ _).trans (feq (by decide : ¬ ((1 : Int32) = (0 : Int32)))).1) ?_
        show Steps p.tables e below (T3.setTop (mkF m 76 #[.val (.int i0), .val (.int i1), .val (.int (1 : Int32)), .val (.int (1 : Int32)), .unset, .val (.int (1 : Int32)), .val (.int (1 : Int32))] [])) _
        refine XS.iconst X3.here hx rfl (hb hby at_76) ?_
        show Steps p.tables e below (T3.setTop (mkF m 77 #[.val (.int i0), .val (.int i1), .val (.int (1 : Int32)), .val (.int (1 : Int32)), .unset, .val (.int (1 : Int32)), .val (.int (1 : Int32))] [(.int (1 : Int32))])) _
        refine XS.goto X3.here hx rfl (pc0 := 77) (pc' := 81) rfl (hb hby at_77) (by decide) (by decide) ?_
        show Steps p.tables e below (T3.setTop (mkF m 81 #[.val (.int i0), .val (.int i1), .val (.int (1 : Int32)), .val (.int (1 : Int32)), .unset, .val (.int (1 : Int32)), .val (.int (1 : Int32))] [(.int (1 : Int32))])) _
        refine XS.istore X3.here hx rfl (hb hby at_81) rfl (l' := #[.val (.int i0), .val (.int i1), .val (.int (1 : Int32)), .val (.int (1 : Int32)), .val (.int (1 : Int32)), .val (.int (1 : Int32)), .val (.int (1 : Int32))]) rfl ?_
        show Steps p.tables e below (T3.setTop (mkF m 83 #[.val (.int i0), .val (.int i1), .val (.int (1 : Int32)), .val (.int (1 : Int32)), .val (.int (1 : Int32)), .val (.int (1 : Int32)), .val (.int (1 : Int32))] [])) _
        refine XS.iloadN X3.here hx rfl (hb hby at_83) rfl ?_
        show Steps p.tables e below (T3.setTop (mkF m 84 #[.val (.int i0), .val (.int i1), .val (.int (1 : Int32)), .val (.int (1 : Int32)), .val (.int (1 : Int32)), .val (.int (1 : Int32)), .val (.int (1 : Int32))] [(.int (1 : Int32))])) _
        refine st4 _ ?_
        show Steps p.tables e below (T4.setTop (mkF m 87 #[.val (.int i0), .val (.int i1), .val (.int (1 : Int32)), .val (.int (1 : Int32)), .val (.int (1 : Int32)), .val (.int (1 : Int32)), .val (.int (1 : Int32))] [(.ref w0)])) _
        refine XS.iloadN X4.here hx rfl (hb hby at_87) rfl ?_
        show Steps p.tables e below (T4.setTop (mkF m 88 #[.val (.int i0), .val (.int i1), .val (.int (1 : Int32)), .val (.int (1 : Int32)), .val (.int (1 : Int32)), .val (.int (1 : Int32)), .val (.int (1 : Int32))] [(.int (1 : Int32)), (.ref w0)])) _
        refine st5 _ ?_
        show Steps p.tables e below (T5.setTop (mkF m 91 #[.val (.int i0), .val (.int i1), .val (.int (1 : Int32)), .val (.int (1 : Int32)), .val (.int (1 : Int32)), .val (.int (1 : Int32)), .val (.int (1 : Int32))] [(.ref w0), (.ref w0)])) _
        refine st6 _ ?_
        show Steps p.tables e below (T6.setTop (mkF m 94 #[.val (.int i0), .val (.int i1), .val (.int (1 : Int32)), .val (.int (1 : Int32)), .val (.int (1 : Int32)), .val (.int (1 : Int32)), .val (.int (1 : Int32))] [(.int (1 : Int32))])) _
        refine XS.iload X6.here hx rfl (hb hby at_94) rfl ?_
        show Steps p.tables e below (T6.setTop (mkF m 96 #[.val (.int i0), .val (.int i1), .val (.int (1 : Int32)), .val (.int (1 : Int32)), .val (.int (1 : Int32)), .val (.int (1 : Int32)), .val (.int (1 : Int32))] [(.int (1 : Int32)), (.int (1 : Int32))])) _
        refine XS.icmpNo X6.here hx rfl (hb hby at_96) rfl (teq (by decide : (1 : Int32) = (1 : Int32))).2 ?_
        show Steps p.tables e below (T6.setTop (mkF m 99 #[.val (.int i0), .val (.int i1), .val (.int (1 : Int32)), .val (.int (1 : Int32)), .val (.int (1 : Int32)), .val (.int (1 : Int32)), .val (.int (1 : Int32))] [])) _
        refine XS.iconst X6.here hx rfl (hb hby at_99) ?_
        show Steps p.tables e below (T6.setTop (mkF m 100 #[.val (.int i0), .val (.int i1), .val (.int (1 : Int32)), .val (.int (1 : Int32)), .val (.int (1 : Int32)), .val (.int (1 : Int32)), .val (.int (1 : Int32))] [(.int (1 : Int32))])) _
        refine XS.goto X6.here hx rfl (pc0 := 100) (pc' := 104) rfl (hb hby at_100) (by decide) (by decide) ?_
        show Steps p.tables e below (T6.setTop (mkF m 104 #[.val (.int i0), .val (.int i1), .val (.int (1 : Int32)), .val (.int (1 : Int32)), .val (.int (1 : Int32)), .val (.int (1 : Int32)), .val (.int (1 : Int32))] [(.int (1 : Int32))])) _
        exact retN X6 hx (t := .boolean) Bd.returns (by simp) (hb hby at_104) hr
      · show QL n0 _ T6.heap _
        exact ⟨rfl, N6⟩
    · obtain ⟨_, T1, L1, hQ1, X1, st1⟩ := own_callS X0 hx hZ (W := 0) hown (hw _ m15) (hw _ m16) (hw _ m2) (hw _ m17) (by decide) (rm9 l Z a0 hw w0 w1 w2 w3 hS [] h0 n0 O0) e0 (g := (mkF m 25 #[.val (.int i0), .val (.int i1), .val (.int (1 : Int32)), .val (.int (2 : Int32)), .unset, .unset, .unset] [(.int (2 : Int32))])) rfl (by rw [hml]; rfl) (argsL := [(.int (2 : Int32))]) (rest := []) (lenOf pd11 rfl) rfl rfl (by show 2 * 0 + _ ≤ _; exact Nat.le_of_eq rfl) (hb hby at_25) (by decide) (by decide) (by decide) (by decide)
      obtain ⟨rfl, N1q, e1⟩ := hQ1
      have N1 := Fr.app N0 N1q
      have e1' : T1.heap = h0 := e1
      obtain ⟨_, T2, L2, hQ2, X2, st2⟩ := own_callS X1 hx hZ (W := 0) hown (hw _ m15) (hw _ m16) (hw _ m2) (hw _ m17) (by decide) (rm5 l Z a0 hw w0 w1 w2 w3 hS [] h0 n0 O0) e1' (g := (mkF m 32 #[.val (.int i0), .val (.int i1), .val (.int (1 : Int32)), .val (.int (2 : Int32)), .unset, .unset, .unset] [(.int (1 : Int32))])) rfl (by rw [hml]; rfl) (argsL := [(.int (1 : Int32))]) (rest := []) (lenOf pd11 rfl) rfl rfl (by show 2 * 0 + _ ≤ _; exact Nat.le_of_eq rfl) (hb hby at_32) (by decide) (by decide) (by decide) (by decide)
      obtain ⟨rfl, N2q, e2⟩ := hQ2
      have N2 := Fr.app N1 N2q
      have e2' : T2.heap = h0 := e2
      obtain ⟨_, T3, L3, hQ3, X3, st3⟩ := own_callS X2 hx hZ (W := 0) hown (hw _ m18) (hw _ m19) (hw _ m2) (hw _ m20) (by decide) (rm10 l Z a0 hw w0 w1 w2 w3 hS [] h0 n0 O0) e2' (g := (mkF m 46 #[.val (.int i0), .val (.int i1), .val (.int (1 : Int32)), .val (.int (2 : Int32)), .unset, .val (.int (0 : Int32)), .unset] [(.int (2 : Int32))])) rfl (by rw [hml]; rfl) (argsL := [(.int (2 : Int32))]) (rest := []) (lenOf pd11 rfl) rfl rfl (by show 2 * 0 + _ ≤ _; exact Nat.le_of_eq rfl) (hb hby at_46) (by decide) (by decide) (by decide) (by decide)
      obtain ⟨rfl, N3q, e3⟩ := hQ3
      have N3 := Fr.app N2 N3q
      have e3' : T3.heap = h0 := e3
      obtain ⟨_, T4, L4, hQ4, X4, st4⟩ := own_callS X3 hx hZ (W := 0) hown (hw _ m18) (hw _ m19) (hw _ m2) (hw _ m20) (by decide) (rm6 l Z a0 hw w0 w1 w2 w3 hS [] h0 n0 O0) e3' (g := (mkF m 53 #[.val (.int i0), .val (.int i1), .val (.int (1 : Int32)), .val (.int (2 : Int32)), .unset, .val (.int (0 : Int32)), .unset] [(.int (1 : Int32))])) rfl (by rw [hml]; rfl) (argsL := [(.int (1 : Int32))]) (rest := []) (lenOf pd11 rfl) rfl rfl (by show 2 * 0 + _ ≤ _; exact Nat.le_of_eq rfl) (hb hby at_53) (by decide) (by decide) (by decide) (by decide)
      obtain ⟨rfl, N4q, e4⟩ := hQ4
      have N4 := Fr.app N3 N4q
      have e4' : T4.heap = h0 := e4
      obtain ⟨_, T5, L5, hQ5, X5, st5⟩ := own_callS X4 hx hZ (W := 0) hown (hw _ m0) (hw _ m1) (hw _ m2) (hw _ m3) (by decide) (rm7 l Z a0 hw w0 w1 w2 w3 hS [] h0 n0 O0) e4' (g := (mkF m 84 #[.val (.int i0), .val (.int i1), .val (.int (1 : Int32)), .val (.int (2 : Int32)), .val (.int (0 : Int32)), .val (.int (0 : Int32)), .val (.int (1 : Int32))] [(.int (1 : Int32))])) rfl (by rw [hml]; rfl) (argsL := [(.int (1 : Int32))]) (rest := []) (lenOf pd31 rfl) rfl rfl (by show 2 * 0 + _ ≤ _; exact Nat.le_of_eq rfl) (hb hby at_84) (by decide) (by decide) (by decide) (by decide)
      obtain ⟨rfl, N5q, e5⟩ := hQ5
      have N5 := Fr.app N4 N5q
      have e5' : T5.heap = h0 := e5
      obtain ⟨_, T6, L6, hQ6, X6, st6⟩ := own_callS X5 hx hZ (W := 1) hown (hw _ m0) (hw _ m1) (hw _ m2) (hw _ m3) (by decide) (rm11 l Z a0 hw w0 w1 w2 w3 hS [] h0 n0 O0) e5' (g := (mkF m 88 #[.val (.int i0), .val (.int i1), .val (.int (1 : Int32)), .val (.int (2 : Int32)), .val (.int (0 : Int32)), .val (.int (0 : Int32)), .val (.int (1 : Int32))] [(.int (2 : Int32)), (.ref w0)])) rfl (by rw [hml]; rfl) (argsL := [(.int (2 : Int32))]) (rest := [(.ref w0)]) (lenOf pd31 rfl) rfl rfl (by show 2 * 0 + _ ≤ _; exact Nat.le_of_eq rfl) (hb hby at_88) (by decide) (by decide) (by decide) (by decide)
      obtain ⟨rfl, N6q, e6⟩ := hQ6
      have N6 := Fr.app N5 N6q
      have e6' : T6.heap = h0 := e6
      obtain ⟨_, T7, L7, hQ7, X7, st7⟩ := own_virtual X6 hx hZ (W := 0) hown (hw _ m9) (hw _ m10) (notFace_of_selects (args := #[]) (mvT hZ (hw _ m12))) (hw _ m12) (hw _ m11) (hw _ m5) (hw _ m13) (by decide) (rm17 l Z a0 hw w0 w1 w2 w3 hS [] h0 n0 O0) e6' (hS.2.1.ext O0.2) (g := (mkF m 91 #[.val (.int i0), .val (.int i1), .val (.int (1 : Int32)), .val (.int (2 : Int32)), .val (.int (0 : Int32)), .val (.int (0 : Int32)), .val (.int (1 : Int32))] [(.ref w2), (.ref w0)])) rfl (by rw [hml]; rfl) (argsL := [(.ref w2)]) (rest := []) (lenOf pd56 rfl) rfl rfl (by show 2 * 0 + _ ≤ _; exact Nat.le_of_eq rfl) (hb hby at_91) (by decide) (by decide) (by decide) (by decide)
      obtain ⟨rfl, N7q, e7⟩ := hQ7
      have N7 := Fr.app N6 N7q
      have e7' : T7.heap = h0 := e7
      obtain ⟨fs, hr, hrun, hended, hW, hsame⟩ := X7.leave (v := some (.int (1 : Int32))) (fun h => by rw [Bd.returns] at h; cases h)
      refine ⟨_, _, pre2 _ ?_, hrun, hended, _, _, rfl, ?_, ⟨_, rfl⟩, hW, hsame.mono (by decide) (by decide)⟩
      · show Steps p.tables e below (s₁.setTop (mkF m 6 #[.val (.int i0), .val (.int i1), .val (.int (1 : Int32)), .unset, .unset, .unset, .unset] [(.int (3 : Int32)), (.int i1)])) _
        refine Own.iand X0.here hx rfl (hb hby at_6) rfl hp1 ?_
        show Steps p.tables e below (s₁.setTop (mkF m 7 #[.val (.int i0), .val (.int i1), .val (.int (1 : Int32)), .unset, .unset, .unset, .unset] [(.int (2 : Int32))])) _
        refine XS.istoreN X0.here hx rfl (hb hby at_7) rfl (l' := #[.val (.int i0), .val (.int i1), .val (.int (1 : Int32)), .val (.int (2 : Int32)), .unset, .unset, .unset]) rfl ?_
        show Steps p.tables e below (s₁.setTop (mkF m 8 #[.val (.int i0), .val (.int i1), .val (.int (1 : Int32)), .val (.int (2 : Int32)), .unset, .unset, .unset] [])) _
        refine XS.iloadN X0.here hx rfl (hb hby at_8) rfl ?_
        show Steps p.tables e below (s₁.setTop (mkF m 9 #[.val (.int i0), .val (.int i1), .val (.int (1 : Int32)), .val (.int (2 : Int32)), .unset, .unset, .unset] [(.int (1 : Int32))])) _
        refine XS.iconst X0.here hx rfl (hb hby at_9) ?_
        show Steps p.tables e below (s₁.setTop (mkF m 10 #[.val (.int i0), .val (.int i1), .val (.int (1 : Int32)), .val (.int (2 : Int32)), .unset, .unset, .unset] [(.int (3 : Int32)), (.int (1 : Int32))])) _
        refine XS.icmpNo X0.here hx rfl (hb hby at_10) rfl (feq (by decide : ¬ ((1 : Int32) = (3 : Int32)))).1 ?_
        show Steps p.tables e below (s₁.setTop (mkF m 13 #[.val (.int i0), .val (.int i1), .val (.int (1 : Int32)), .val (.int (2 : Int32)), .unset, .unset, .unset] [])) _
        refine XS.iloadN X0.here hx rfl (hb hby at_13) rfl ?_
        show Steps p.tables e below (s₁.setTop (mkF m 14 #[.val (.int i0), .val (.int i1), .val (.int (1 : Int32)), .val (.int (2 : Int32)), .unset, .unset, .unset] [(.int (2 : Int32))])) _
        refine XS.iconst X0.here hx rfl (hb hby at_14) ?_
        show Steps p.tables e below (s₁.setTop (mkF m 15 #[.val (.int i0), .val (.int i1), .val (.int (1 : Int32)), .val (.int (2 : Int32)), .unset, .unset, .unset] [(.int (3 : Int32)), (.int (2 : Int32))])) _
        refine XS.icmpYes X0.here hx rfl (pc0 := 15) (pc' := 24) rfl (hb hby at_15) rfl (feq (by decide : ¬ ((2 : Int32) = (3 : Int32)))).2 (by decide) (by decide) ?_
        show Steps p.tables e below (s₁.setTop (mkF m 24 #[.val (.int i0), .val (.int i1), .val (.int (1 : Int32)), .val (.int (2 : Int32)), .unset, .unset, .unset] [])) _
        refine XS.iloadN X0.here hx rfl (hb hby at_24) rfl ?_
        show Steps p.tables e below (s₁.setTop (mkF m 25 #[.val (.int i0), .val (.int i1), .val (.int (1 : Int32)), .val (.int (2 : Int32)), .unset, .unset, .unset] [(.int (2 : Int32))])) _
        refine st1 _ ?_
        show Steps p.tables e below (T1.setTop (mkF m 28 #[.val (.int i0), .val (.int i1), .val (.int (1 : Int32)), .val (.int (2 : Int32)), .unset, .unset, .unset] [(.int (1 : Int32))])) _
        refine XS.ifNo X1.here hx rfl (hb hby at_28) rfl ((if0 _ _).trans (feq (by decide : ¬ ((1 : Int32) = (0 : Int32)))).1) ?_
        show Steps p.tables e below (T1.setTop (mkF m 31 #[.val (.int i0), .val (.int i1), .val (.int (1 : Int32)), .val (.int (2 : Int32)), .unset, .unset, .unset] [])) _
        refine XS.iloadN X1.here hx rfl (hb hby at_31) rfl ?_
        show Steps p.tables e below (T1.setTop (mkF m 32 #[.val (.int i0), .val (.int i1), .val (.int (1 : Int32)), .val (.int (2 : Int32)), .unset, .unset, .unset] [(.int (1 : Int32))])) _
        refine st2 _ ?_
        show Steps p.tables e below (T2.setTop (mkF m 35 #[.val (.int i0), .val (.int i1), .val (.int (1 : Int32)), .val (.int (2 : Int32)), .unset, .unset, .unset] [(.int (0 : Int32))])) _
        refine XS.ifYes X2.here hx rfl (pc0 := 35) (pc' := 42) rfl (hb hby at_35) rfl ((if0 _ _).trans (teq (by decide : (0 : Int32) = (0 : Int32))).1) (by decide) (by decide) ?_
        show Steps p.tables e below (T2.setTop (mkF m 42 #[.val (.int i0), .val (.int i1), .val (.int (1 : Int32)), .val (.int (2 : Int32)), .unset, .unset, .unset] [])) _
        refine XS.iconst X2.here hx rfl (hb hby at_42) ?_
        show Steps p.tables e below (T2.setTop (mkF m 43 #[.val (.int i0), .val (.int i1), .val (.int (1 : Int32)), .val (.int (2 : Int32)), .unset, .unset, .unset] [(.int (0 : Int32))])) _
        refine XS.istore X2.here hx rfl (hb hby at_43) rfl (l' := #[.val (.int i0), .val (.int i1), .val (.int (1 : Int32)), .val (.int (2 : Int32)), .unset, .val (.int (0 : Int32)), .unset]) rfl ?_
        show Steps p.tables e below (T2.setTop (mkF m 45 #[.val (.int i0), .val (.int i1), .val (.int (1 : Int32)), .val (.int (2 : Int32)), .unset, .val (.int (0 : Int32)), .unset] [])) _
        refine XS.iloadN X2.here hx rfl (hb hby at_45) rfl ?_
        show Steps p.tables e below (T2.setTop (mkF m 46 #[.val (.int i0), .val (.int i1), .val (.int (1 : Int32)), .val (.int (2 : Int32)), .unset, .val (.int (0 : Int32)), .unset] [(.int (2 : Int32))])) _
        refine st3 _ ?_
        show Steps p.tables e below (T3.setTop (mkF m 49 #[.val (.int i0), .val (.int i1), .val (.int (1 : Int32)), .val (.int (2 : Int32)), .unset, .val (.int (0 : Int32)), .unset] [(.int (1 : Int32))])) _
        refine XS.ifNo X3.here hx rfl (hb hby at_49) rfl ((if0 _ _).trans (feq (by decide : ¬ ((1 : Int32) = (0 : Int32)))).1) ?_
        show Steps p.tables e below (T3.setTop (mkF m 52 #[.val (.int i0), .val (.int i1), .val (.int (1 : Int32)), .val (.int (2 : Int32)), .unset, .val (.int (0 : Int32)), .unset] [])) _
        refine XS.iloadN X3.here hx rfl (hb hby at_52) rfl ?_
        show Steps p.tables e below (T3.setTop (mkF m 53 #[.val (.int i0), .val (.int i1), .val (.int (1 : Int32)), .val (.int (2 : Int32)), .unset, .val (.int (0 : Int32)), .unset] [(.int (1 : Int32))])) _
        refine st4 _ ?_
        show Steps p.tables e below (T4.setTop (mkF m 56 #[.val (.int i0), .val (.int i1), .val (.int (1 : Int32)), .val (.int (2 : Int32)), .unset, .val (.int (0 : Int32)), .unset] [(.int (1 : Int32))])) _
        refine XS.ifNo X4.here hx rfl (hb hby at_56) rfl ((if0 _ _).trans (feq (by decide : ¬ ((1 : Int32) = (0 : Int32)))).1) ?_
        show Steps p.tables e below (T4.setTop (mkF m 59 #[.val (.int i0), .val (.int i1), .val (.int (1 : Int32)), .val (.int (2 : Int32)), .unset, .val (.int (0 : Int32)), .unset] [])) _
        refine XS.iconst X4.here hx rfl (hb hby at_59) ?_
        show Steps p.tables e below (T4.setTop (mkF m 60 #[.val (.int i0), .val (.int i1), .val (.int (1 : Int32)), .val (.int (2 : Int32)), .unset, .val (.int (0 : Int32)), .unset] [(.int (1 : Int32))])) _
        refine XS.goto X4.here hx rfl (pc0 := 60) (pc' := 64) rfl (hb hby at_60) (by decide) (by decide) ?_
        show Steps p.tables e below (T4.setTop (mkF m 64 #[.val (.int i0), .val (.int i1), .val (.int (1 : Int32)), .val (.int (2 : Int32)), .unset, .val (.int (0 : Int32)), .unset] [(.int (1 : Int32))])) _
        refine XS.istore X4.here hx rfl (hb hby at_64) rfl (l' := #[.val (.int i0), .val (.int i1), .val (.int (1 : Int32)), .val (.int (2 : Int32)), .unset, .val (.int (0 : Int32)), .val (.int (1 : Int32))]) rfl ?_
        show Steps p.tables e below (T4.setTop (mkF m 66 #[.val (.int i0), .val (.int i1), .val (.int (1 : Int32)), .val (.int (2 : Int32)), .unset, .val (.int (0 : Int32)), .val (.int (1 : Int32))] [])) _
        refine XS.iload X4.here hx rfl (hb hby at_66) rfl ?_
        show Steps p.tables e below (T4.setTop (mkF m 68 #[.val (.int i0), .val (.int i1), .val (.int (1 : Int32)), .val (.int (2 : Int32)), .unset, .val (.int (0 : Int32)), .val (.int (1 : Int32))] [(.int (0 : Int32))])) _
        refine XS.ifYes X4.here hx rfl (pc0 := 68) (pc' := 80) rfl (hb hby at_68) rfl ((if0 _ _).trans (teq (by decide : (0 : Int32) = (0 : Int32))).1) (by decide) (by decide) ?_
        show Steps p.tables e below (T4.setTop (mkF m 80 #[.val (.int i0), .val (.int i1), .val (.int (1 : Int32)), .val (.int (2 : Int32)), .unset, .val (.int (0 : Int32)), .val (.int (1 : Int32))] [])) _
        refine XS.iconst X4.here hx rfl (hb hby at_80) ?_
        show Steps p.tables e below (T4.setTop (mkF m 81 #[.val (.int i0), .val (.int i1), .val (.int (1 : Int32)), .val (.int (2 : Int32)), .unset, .val (.int (0 : Int32)), .val (.int (1 : Int32))] [(.int (0 : Int32))])) _
        refine XS.istore X4.here hx rfl (hb hby at_81) rfl (l' := #[.val (.int i0), .val (.int i1), .val (.int (1 : Int32)), .val (.int (2 : Int32)), .val (.int (0 : Int32)), .val (.int (0 : Int32)), .val (.int (1 : Int32))]) rfl ?_
        show Steps p.tables e below (T4.setTop (mkF m 83 #[.val (.int i0), .val (.int i1), .val (.int (1 : Int32)), .val (.int (2 : Int32)), .val (.int (0 : Int32)), .val (.int (0 : Int32)), .val (.int (1 : Int32))] [])) _
        refine XS.iloadN X4.here hx rfl (hb hby at_83) rfl ?_
        show Steps p.tables e below (T4.setTop (mkF m 84 #[.val (.int i0), .val (.int i1), .val (.int (1 : Int32)), .val (.int (2 : Int32)), .val (.int (0 : Int32)), .val (.int (0 : Int32)), .val (.int (1 : Int32))] [(.int (1 : Int32))])) _
        refine st5 _ ?_
        show Steps p.tables e below (T5.setTop (mkF m 87 #[.val (.int i0), .val (.int i1), .val (.int (1 : Int32)), .val (.int (2 : Int32)), .val (.int (0 : Int32)), .val (.int (0 : Int32)), .val (.int (1 : Int32))] [(.ref w0)])) _
        refine XS.iloadN X5.here hx rfl (hb hby at_87) rfl ?_
        show Steps p.tables e below (T5.setTop (mkF m 88 #[.val (.int i0), .val (.int i1), .val (.int (1 : Int32)), .val (.int (2 : Int32)), .val (.int (0 : Int32)), .val (.int (0 : Int32)), .val (.int (1 : Int32))] [(.int (2 : Int32)), (.ref w0)])) _
        refine st6 _ ?_
        show Steps p.tables e below (T6.setTop (mkF m 91 #[.val (.int i0), .val (.int i1), .val (.int (1 : Int32)), .val (.int (2 : Int32)), .val (.int (0 : Int32)), .val (.int (0 : Int32)), .val (.int (1 : Int32))] [(.ref w2), (.ref w0)])) _
        refine st7 _ ?_
        show Steps p.tables e below (T7.setTop (mkF m 94 #[.val (.int i0), .val (.int i1), .val (.int (1 : Int32)), .val (.int (2 : Int32)), .val (.int (0 : Int32)), .val (.int (0 : Int32)), .val (.int (1 : Int32))] [(.int (0 : Int32))])) _
        refine XS.iload X7.here hx rfl (hb hby at_94) rfl ?_
        show Steps p.tables e below (T7.setTop (mkF m 96 #[.val (.int i0), .val (.int i1), .val (.int (1 : Int32)), .val (.int (2 : Int32)), .val (.int (0 : Int32)), .val (.int (0 : Int32)), .val (.int (1 : Int32))] [(.int (0 : Int32)), (.int (0 : Int32))])) _
        refine XS.icmpNo X7.here hx rfl (hb hby at_96) rfl (teq (by decide : (0 : Int32) = (0 : Int32))).2 ?_
        show Steps p.tables e below (T7.setTop (mkF m 99 #[.val (.int i0), .val (.int i1), .val (.int (1 : Int32)), .val (.int (2 : Int32)), .val (.int (0 : Int32)), .val (.int (0 : Int32)), .val (.int (1 : Int32))] [])) _
        refine XS.iconst X7.here hx rfl (hb hby at_99) ?_
        show Steps p.tables e below (T7.setTop (mkF m 100 #[.val (.int i0), .val (.int i1), .val (.int (1 : Int32)), .val (.int (2 : Int32)), .val (.int (0 : Int32)), .val (.int (0 : Int32)), .val (.int (1 : Int32))] [(.int (1 : Int32))])) _
        refine XS.goto X7.here hx rfl (pc0 := 100) (pc' := 104) rfl (hb hby at_100) (by decide) (by decide) ?_
        show Steps p.tables e below (T7.setTop (mkF m 104 #[.val (.int i0), .val (.int i1), .val (.int (1 : Int32)), .val (.int (2 : Int32)), .val (.int (0 : Int32)), .val (.int (0 : Int32)), .val (.int (1 : Int32))] [(.int (1 : Int32))])) _
        exact retN X7 hx (t := .boolean) Bd.returns (by simp) (hb hby at_104) hr
      · show QL n0 _ T7.heap _
        exact ⟨rfl, N7⟩
    · obtain ⟨_, T1, L1, hQ1, X1, st1⟩ := own_callS X0 hx hZ (W := 0) hown (hw _ m0) (hw _ m1) (hw _ m2) (hw _ m3) (by decide) (rm7 l Z a0 hw w0 w1 w2 w3 hS [] h0 n0 O0) e0 (g := (mkF m 84 #[.val (.int i0), .val (.int i1), .val (.int (1 : Int32)), .val (.int (3 : Int32)), .val (.int (0 : Int32)), .unset, .unset] [(.int (1 : Int32))])) rfl (by rw [hml]; rfl) (argsL := [(.int (1 : Int32))]) (rest := []) (lenOf pd31 rfl) rfl rfl (by show 2 * 0 + _ ≤ _; exact Nat.le_of_eq rfl) (hb hby at_84) (by decide) (by decide) (by decide) (by decide)
      obtain ⟨rfl, N1q, e1⟩ := hQ1
      have N1 := Fr.app N0 N1q
      have e1' : T1.heap = h0 := e1
      obtain ⟨_, T2, L2, hQ2, X2, st2⟩ := own_callS X1 hx hZ (W := 1) hown (hw _ m0) (hw _ m1) (hw _ m2) (hw _ m3) (by decide) (rm13 l Z a0 hw w0 w1 w2 w3 hS [] h0 n0 O0) e1' (g := (mkF m 88 #[.val (.int i0), .val (.int i1), .val (.int (1 : Int32)), .val (.int (3 : Int32)), .val (.int (0 : Int32)), .unset, .unset] [(.int (3 : Int32)), (.ref w0)])) rfl (by rw [hml]; rfl) (argsL := [(.int (3 : Int32))]) (rest := [(.ref w0)]) (lenOf pd31 rfl) rfl rfl (by show 2 * 0 + _ ≤ _; exact Nat.le_of_eq rfl) (hb hby at_88) (by decide) (by decide) (by decide) (by decide)
      obtain ⟨rfl, N2q, e2⟩ := hQ2
      have N2 := Fr.app N1 N2q
      have e2' : T2.heap = h0 := e2
      obtain ⟨_, T3, L3, hQ3, X3, st3⟩ := own_virtual X2 hx hZ (W := 0) hown (hw _ m9) (hw _ m10) (notFace_of_selects (args := #[]) (mvT hZ (hw _ m12))) (hw _ m12) (hw _ m11) (hw _ m5) (hw _ m13) (by decide) (rm18 l Z a0 hw w0 w1 w2 w3 hS [] h0 n0 O0) e2' (hS.2.1.ext O0.2) (g := (mkF m 91 #[.val (.int i0), .val (.int i1), .val (.int (1 : Int32)), .val (.int (3 : Int32)), .val (.int (0 : Int32)), .unset, .unset] [(.ref w1), (.ref w0)])) rfl (by rw [hml]; rfl) (argsL := [(.ref w1)]) (rest := []) (lenOf pd56 rfl) rfl rfl (by show 2 * 0 + _ ≤ _; exact Nat.le_of_eq rfl) (hb hby at_91) (by decide) (by decide) (by decide) (by decide)
      obtain ⟨rfl, N3q, e3⟩ := hQ3
      have N3 := Fr.app N2 N3q
      have e3' : T3.heap = h0 := e3
      obtain ⟨fs, hr, hrun, hended, hW, hsame⟩ := X3.leave (v := some (.int (1 : Int32))) (fun h => by rw [Bd.returns] at h; cases h)
      refine ⟨_, _, pre2 _ ?_, hrun, hended, _, _, rfl, ?_, ⟨_, rfl⟩, hW, hsame.mono (by decide) (by decide)⟩
      · show Steps p.tables e below (s₁.setTop (mkF m 6 #[.val (.int i0), .val (.int i1), .val (.int (1 : Int32)), .unset, .unset, .unset, .unset] [(.int (3 : Int32)), (.int i1)])) _
        refine Own.iand X0.here hx rfl (hb hby at_6) rfl hp1 ?_
        show Steps p.tables e below (s₁.setTop (mkF m 7 #[.val (.int i0), .val (.int i1), .val (.int (1 : Int32)), .unset, .unset, .unset, .unset] [(.int (3 : Int32))])) _
        refine XS.istoreN X0.here hx rfl (hb hby at_7) rfl (l' := #[.val (.int i0), .val (.int i1), .val (.int (1 : Int32)), .val (.int (3 : Int32)), .unset, .unset, .unset]) rfl ?_
        show Steps p.tables e below (s₁.setTop (mkF m 8 #[.val (.int i0), .val (.int i1), .val (.int (1 : Int32)), .val (.int (3 : Int32)), .unset, .unset, .unset] [])) _
        refine XS.iloadN X0.here hx rfl (hb hby at_8) rfl ?_
        show Steps p.tables e below (s₁.setTop (mkF m 9 #[.val (.int i0), .val (.int i1), .val (.int (1 : Int32)), .val (.int (3 : Int32)), .unset, .unset, .unset] [(.int (1 : Int32))])) _
        refine XS.iconst X0.here hx rfl (hb hby at_9) ?_
        show Steps p.tables e below (s₁.setTop (mkF m 10 #[.val (.int i0), .val (.int i1), .val (.int (1 : Int32)), .val (.int (3 : Int32)), .unset, .unset, .unset] [(.int (3 : Int32)), (.int (1 : Int32))])) _
        refine XS.icmpNo X0.here hx rfl (hb hby at_10) rfl (feq (by decide : ¬ ((1 : Int32) = (3 : Int32)))).1 ?_
        show Steps p.tables e below (s₁.setTop (mkF m 13 #[.val (.int i0), .val (.int i1), .val (.int (1 : Int32)), .val (.int (3 : Int32)), .unset, .unset, .unset] [])) _
        refine XS.iloadN X0.here hx rfl (hb hby at_13) rfl ?_
        show Steps p.tables e below (s₁.setTop (mkF m 14 #[.val (.int i0), .val (.int i1), .val (.int (1 : Int32)), .val (.int (3 : Int32)), .unset, .unset, .unset] [(.int (3 : Int32))])) _
        refine XS.iconst X0.here hx rfl (hb hby at_14) ?_
        show Steps p.tables e below (s₁.setTop (mkF m 15 #[.val (.int i0), .val (.int i1), .val (.int (1 : Int32)), .val (.int (3 : Int32)), .unset, .unset, .unset] [(.int (3 : Int32)), (.int (3 : Int32))])) _
        refine XS.icmpNo X0.here hx rfl (hb hby at_15) rfl (teq (by decide : (3 : Int32) = (3 : Int32))).2 ?_
        show Steps p.tables e below (s₁.setTop (mkF m 18 #[.val (.int i0), .val (.int i1), .val (.int (1 : Int32)), .val (.int (3 : Int32)), .unset, .unset, .unset] [])) _
        refine XS.iconst X0.here hx rfl (hb hby at_18) ?_
        show Steps p.tables e below (s₁.setTop (mkF m 19 #[.val (.int i0), .val (.int i1), .val (.int (1 : Int32)), .val (.int (3 : Int32)), .unset, .unset, .unset] [(.int (0 : Int32))])) _
        refine XS.istore X0.here hx rfl (hb hby at_19) rfl (l' := #[.val (.int i0), .val (.int i1), .val (.int (1 : Int32)), .val (.int (3 : Int32)), .val (.int (0 : Int32)), .unset, .unset]) rfl ?_
        show Steps p.tables e below (s₁.setTop (mkF m 21 #[.val (.int i0), .val (.int i1), .val (.int (1 : Int32)), .val (.int (3 : Int32)), .val (.int (0 : Int32)), .unset, .unset] [])) _
        refine XS.goto X0.here hx rfl (pc0 := 21) (pc' := 83) rfl (hb hby at_21) (by decide) (by decide) ?_
        show Steps p.tables e below (s₁.setTop (mkF m 83 #[.val (.int i0), .val (.int i1), .val (.int (1 : Int32)), .val (.int (3 : Int32)), .val (.int (0 : Int32)), .unset, .unset] [])) _
        refine XS.iloadN X0.here hx rfl (hb hby at_83) rfl ?_
        show Steps p.tables e below (s₁.setTop (mkF m 84 #[.val (.int i0), .val (.int i1), .val (.int (1 : Int32)), .val (.int (3 : Int32)), .val (.int (0 : Int32)), .unset, .unset] [(.int (1 : Int32))])) _
        refine st1 _ ?_
        show Steps p.tables e below (T1.setTop (mkF m 87 #[.val (.int i0), .val (.int i1), .val (.int (1 : Int32)), .val (.int (3 : Int32)), .val (.int (0 : Int32)), .unset, .unset] [(.ref w0)])) _
        refine XS.iloadN X1.here hx rfl (hb hby at_87) rfl ?_
        show Steps p.tables e below (T1.setTop (mkF m 88 #[.val (.int i0), .val (.int i1), .val (.int (1 : Int32)), .val (.int (3 : Int32)), .val (.int (0 : Int32)), .unset, .unset] [(.int (3 : Int32)), (.ref w0)])) _
        refine st2 _ ?_
        show Steps p.tables e below (T2.setTop (mkF m 91 #[.val (.int i0), .val (.int i1), .val (.int (1 : Int32)), .val (.int (3 : Int32)), .val (.int (0 : Int32)), .unset, .unset] [(.ref w1), (.ref w0)])) _
        refine st3 _ ?_
        show Steps p.tables e below (T3.setTop (mkF m 94 #[.val (.int i0), .val (.int i1), .val (.int (1 : Int32)), .val (.int (3 : Int32)), .val (.int (0 : Int32)), .unset, .unset] [(.int (0 : Int32))])) _
        refine XS.iload X3.here hx rfl (hb hby at_94) rfl ?_
        show Steps p.tables e below (T3.setTop (mkF m 96 #[.val (.int i0), .val (.int i1), .val (.int (1 : Int32)), .val (.int (3 : Int32)), .val (.int (0 : Int32)), .unset, .unset] [(.int (0 : Int32)), (.int (0 : Int32))])) _
        refine XS.icmpNo X3.here hx rfl (hb hby at_96) rfl (teq (by decide : (0 : Int32) = (0 : Int32))).2 ?_
        show Steps p.tables e below (T3.setTop (mkF m 99 #[.val (.int i0), .val (.int i1), .val (.int (1 : Int32)), .val (.int (3 : Int32)), .val (.int (0 : Int32)), .unset, .unset] [])) _
        refine XS.iconst X3.here hx rfl (hb hby at_99) ?_
        show Steps p.tables e below (T3.setTop (mkF m 100 #[.val (.int i0), .val (.int i1), .val (.int (1 : Int32)), .val (.int (3 : Int32)), .val (.int (0 : Int32)), .unset, .unset] [(.int (1 : Int32))])) _
        refine XS.goto X3.here hx rfl (pc0 := 100) (pc' := 104) rfl (hb hby at_100) (by decide) (by decide) ?_
        show Steps p.tables e below (T3.setTop (mkF m 104 #[.val (.int i0), .val (.int i1), .val (.int (1 : Int32)), .val (.int (3 : Int32)), .val (.int (0 : Int32)), .unset, .unset] [(.int (1 : Int32))])) _
        exact retN X3 hx (t := .boolean) Bd.returns (by simp) (hb hby at_104) hr
      · show QL n0 _ T3.heap _
        exact ⟨rfl, N3⟩
  · have pre2 : ∀ t, Steps p.tables e below (s₁.setTop (mkF m 6 #[.val (.int i0), .val (.int i1), .val (.int (2 : Int32)), .unset, .unset, .unset, .unset] [(.int (3 : Int32)), (.int i1)])) t → Steps p.tables e below (s₁.setTop (entryFrame m #[(.int i0), (.int i1)] maxLocals)) t := fun t kt => pre1 _ (by
        show Steps p.tables e below (s₁.setTop (mkF m 2 #[.val (.int i0), .val (.int i1), .unset, .unset, .unset, .unset, .unset] [(.int (3 : Int32)), (.int i0)])) _
        refine Own.iand X0.here hx rfl (hb hby at_2) rfl hp0 ?_
        show Steps p.tables e below (s₁.setTop (mkF m 3 #[.val (.int i0), .val (.int i1), .unset, .unset, .unset, .unset, .unset] [(.int (2 : Int32))])) _
        refine XS.istoreN X0.here hx rfl (hb hby at_3) rfl (l' := #[.val (.int i0), .val (.int i1), .val (.int (2 : Int32)), .unset, .unset, .unset, .unset]) rfl ?_
        show Steps p.tables e below (s₁.setTop (mkF m 4 #[.val (.int i0), .val (.int i1), .val (.int (2 : Int32)), .unset, .unset, .unset, .unset] [])) _
        refine XS.iloadN X0.here hx rfl (hb hby at_4) rfl ?_
        show Steps p.tables e below (s₁.setTop (mkF m 5 #[.val (.int i0), .val (.int i1), .val (.int (2 : Int32)), .unset, .unset, .unset, .unset] [(.int i1)])) _
        refine XS.iconst X0.here hx rfl (hb hby at_5) ?_
        exact kt)
    rcases en_0 (i1 &&& (3 : Int32)) (by have q0 := (own_mask i1 (3 : Int32) (by decide) : 0 ≤ ((i1 &&& (3 : Int32))).toInt ∧ ((i1 &&& (3 : Int32))).toInt ≤ 3); omega) with hp1 | hp1 | hp1 | hp1
    · obtain ⟨_, T1, L1, hQ1, X1, st1⟩ := own_callS X0 hx hZ (W := 0) hown (hw _ m15) (hw _ m16) (hw _ m2) (hw _ m17) (by decide) (rm1 l Z a0 hw w0 w1 w2 w3 hS [] h0 n0 O0) e0 (g := (mkF m 25 #[.val (.int i0), .val (.int i1), .val (.int (2 : Int32)), .val (.int (0 : Int32)), .unset, .unset, .unset] [(.int (0 : Int32))])) rfl (by rw [hml]; rfl) (argsL := [(.int (0 : Int32))]) (rest := []) (lenOf pd11 rfl) rfl rfl (by show 2 * 0 + _ ≤ _; exact Nat.le_of_eq rfl) (hb hby at_25) (by decide) (by decide) (by decide) (by decide)
      obtain ⟨rfl, N1q, e1⟩ := hQ1
      have N1 := Fr.app N0 N1q
      have e1' : T1.heap = h0 := e1
      obtain ⟨_, T2, L2, hQ2, X2, st2⟩ := own_callS X1 hx hZ (W := 0) hown (hw _ m15) (hw _ m16) (hw _ m2) (hw _ m17) (by decide) (rm9 l Z a0 hw w0 w1 w2 w3 hS [] h0 n0 O0) e1' (g := (mkF m 32 #[.val (.int i0), .val (.int i1), .val (.int (2 : Int32)), .val (.int (0 : Int32)), .unset, .unset, .unset] [(.int (2 : Int32))])) rfl (by rw [hml]; rfl) (argsL := [(.int (2 : Int32))]) (rest := []) (lenOf pd11 rfl) rfl rfl (by show 2 * 0 + _ ≤ _; exact Nat.le_of_eq rfl) (hb hby at_32) (by decide) (by decide) (by decide) (by decide)
      obtain ⟨rfl, N2q, e2⟩ := hQ2
      have N2 := Fr.app N1 N2q
      have e2' : T2.heap = h0 := e2
      obtain ⟨_, T3, L3, hQ3, X3, st3⟩ := own_callS X2 hx hZ (W := 0) hown (hw _ m18) (hw _ m19) (hw _ m2) (hw _ m20) (by decide) (rm2 l Z a0 hw w0 w1 w2 w3 hS [] h0 n0 O0) e2' (g := (mkF m 46 #[.val (.int i0), .val (.int i1), .val (.int (2 : Int32)), .val (.int (0 : Int32)), .unset, .val (.int (1 : Int32)), .unset] [(.int (0 : Int32))])) rfl (by rw [hml]; rfl) (argsL := [(.int (0 : Int32))]) (rest := []) (lenOf pd11 rfl) rfl rfl (by show 2 * 0 + _ ≤ _; exact Nat.le_of_eq rfl) (hb hby at_46) (by decide) (by decide) (by decide) (by decide)
      obtain ⟨rfl, N3q, e3⟩ := hQ3
      have N3 := Fr.app N2 N3q
      have e3' : T3.heap = h0 := e3
      obtain ⟨_, T4, L4, hQ4, X4, st4⟩ := own_callS X3 hx hZ (W := 0) hown (hw _ m0) (hw _ m1) (hw _ m2) (hw _ m3) (by decide) (rm11 l Z a0 hw w0 w1 w2 w3 hS [] h0 n0 O0) e3' (g := (mkF m 84 #[.val (.int i0), .val (.int i1), .val (.int (2 : Int32)), .val (.int (0 : Int32)), .val (.int (1 : Int32)), .val (.int (1 : Int32)), .val (.int (1 : Int32))] [(.int (2 : Int32))])) rfl (by rw [hml]; rfl) (argsL := [(.int (2 : Int32))]) (rest := []) (lenOf pd31 rfl) rfl rfl (by show 2 * 0 + _ ≤ _; exact Nat.le_of_eq rfl) (hb hby at_84) (by decide) (by decide) (by decide) (by decide)
      obtain ⟨rfl, N4q, e4⟩ := hQ4
      have N4 := Fr.app N3 N4q
      have e4' : T4.heap = h0 := e4
      obtain ⟨_, T5, L5, hQ5, X5, st5⟩ := own_callS X4 hx hZ (W := 1) hown (hw _ m0) (hw _ m1) (hw _ m2) (hw _ m3) (by decide) (rm3 l Z a0 hw w0 w1 w2 w3 hS [] h0 n0 O0) e4' (g := (mkF m 88 #[.val (.int i0), .val (.int i1), .val (.int (2 : Int32)), .val (.int (0 : Int32)), .val (.int (1 : Int32)), .val (.int (1 : Int32)), .val (.int (1 : Int32))] [(.int (0 : Int32)), (.ref w2)])) rfl (by rw [hml]; rfl) (argsL := [(.int (0 : Int32))]) (rest := [(.ref w2)]) (lenOf pd31 rfl) rfl rfl (by show 2 * 0 + _ ≤ _; exact Nat.le_of_eq rfl) (hb hby at_88) (by decide) (by decide) (by decide) (by decide)
      obtain ⟨rfl, N5q, e5⟩ := hQ5
      have N5 := Fr.app N4 N5q
      have e5' : T5.heap = h0 := e5
      obtain ⟨_, T6, L6, hQ6, X6, st6⟩ := own_virtual X5 hx hZ (W := 0) hown (hw _ m9) (hw _ m10) (notFace_of_selects (args := #[]) (mvT hZ (hw _ m12))) (hw _ m12) (hw _ m11) (hw _ m5) (hw _ m13) (by decide) (rm19 l Z a0 hw w0 w1 w2 w3 hS [] h0 n0 O0) e5' (hS.2.2.2.2.2.2.2.1.ext O0.2) (g := (mkF m 91 #[.val (.int i0), .val (.int i1), .val (.int (2 : Int32)), .val (.int (0 : Int32)), .val (.int (1 : Int32)), .val (.int (1 : Int32)), .val (.int (1 : Int32))] [(.ref w3), (.ref w2)])) rfl (by rw [hml]; rfl) (argsL := [(.ref w3)]) (rest := []) (lenOf pd56 rfl) rfl rfl (by show 2 * 0 + _ ≤ _; exact Nat.le_of_eq rfl) (hb hby at_91) (by decide) (by decide) (by decide) (by decide)
      obtain ⟨rfl, N6q, e6⟩ := hQ6
      have N6 := Fr.app N5 N6q
      have e6' : T6.heap = h0 := e6
      obtain ⟨fs, hr, hrun, hended, hW, hsame⟩ := X6.leave (v := some (.int (1 : Int32))) (fun h => by rw [Bd.returns] at h; cases h)
      refine ⟨_, _, pre2 _ ?_, hrun, hended, _, _, rfl, ?_, ⟨_, rfl⟩, hW, hsame.mono (by decide) (by decide)⟩
      · show Steps p.tables e below (s₁.setTop (mkF m 6 #[.val (.int i0), .val (.int i1), .val (.int (2 : Int32)), .unset, .unset, .unset, .unset] [(.int (3 : Int32)), (.int i1)])) _
        refine Own.iand X0.here hx rfl (hb hby at_6) rfl hp1 ?_
        show Steps p.tables e below (s₁.setTop (mkF m 7 #[.val (.int i0), .val (.int i1), .val (.int (2 : Int32)), .unset, .unset, .unset, .unset] [(.int (0 : Int32))])) _
        refine XS.istoreN X0.here hx rfl (hb hby at_7) rfl (l' := #[.val (.int i0), .val (.int i1), .val (.int (2 : Int32)), .val (.int (0 : Int32)), .unset, .unset, .unset]) rfl ?_
        show Steps p.tables e below (s₁.setTop (mkF m 8 #[.val (.int i0), .val (.int i1), .val (.int (2 : Int32)), .val (.int (0 : Int32)), .unset, .unset, .unset] [])) _
        refine XS.iloadN X0.here hx rfl (hb hby at_8) rfl ?_
        show Steps p.tables e below (s₁.setTop (mkF m 9 #[.val (.int i0), .val (.int i1), .val (.int (2 : Int32)), .val (.int (0 : Int32)), .unset, .unset, .unset] [(.int (2 : Int32))])) _
        refine XS.iconst X0.here hx rfl (hb hby at_9) ?_
        show Steps p.tables e below (s₁.setTop (mkF m 10 #[.val (.int i0), .val (.int i1), .val (.int (2 : Int32)), .val (.int (0 : Int32)), .unset, .unset, .unset] [(.int (3 : Int32)), (.int (2 : Int32))])) _
        refine XS.icmpNo X0.here hx rfl (hb hby at_10) rfl (feq (by decide : ¬ ((2 : Int32) = (3 : Int32)))).1 ?_
        show Steps p.tables e below (s₁.setTop (mkF m 13 #[.val (.int i0), .val (.int i1), .val (.int (2 : Int32)), .val (.int (0 : Int32)), .unset, .unset, .unset] [])) _
        refine XS.iloadN X0.here hx rfl (hb hby at_13) rfl ?_
        show Steps p.tables e below (s₁.setTop (mkF m 14 #[.val (.int i0), .val (.int i1), .val (.int (2 : Int32)), .val (.int (0 : Int32)), .unset, .unset, .unset] [(.int (0 : Int32))])) _
        refine XS.iconst X0.here hx rfl (hb hby at_14) ?_
        show Steps p.tables e below (s₁.setTop (mkF m 15 #[.val (.int i0), .val (.int i1), .val (.int (2 : Int32)), .val (.int (0 : Int32)), .unset, .unset, .unset] [(.int (3 : Int32)), (.int (0 : Int32))])) _
        refine XS.icmpYes X0.here hx rfl (pc0 := 15) (pc' := 24) rfl (hb hby at_15) rfl (feq (by decide : ¬ ((0 : Int32) = (3 : Int32)))).2 (by decide) (by decide) ?_
        show Steps p.tables e below (s₁.setTop (mkF m 24 #[.val (.int i0), .val (.int i1), .val (.int (2 : Int32)), .val (.int (0 : Int32)), .unset, .unset, .unset] [])) _
        refine XS.iloadN X0.here hx rfl (hb hby at_24) rfl ?_
        show Steps p.tables e below (s₁.setTop (mkF m 25 #[.val (.int i0), .val (.int i1), .val (.int (2 : Int32)), .val (.int (0 : Int32)), .unset, .unset, .unset] [(.int (0 : Int32))])) _
        refine st1 _ ?_
        show Steps p.tables e below (T1.setTop (mkF m 28 #[.val (.int i0), .val (.int i1), .val (.int (2 : Int32)), .val (.int (0 : Int32)), .unset, .unset, .unset] [(.int (1 : Int32))])) _
        refine XS.ifNo X1.here hx rfl (hb hby at_28) rfl ((if0 _ _).trans (feq (by decide : ¬ ((1 : Int32) = (0 : Int32)))).1) ?_
        show Steps p.tables e below (T1.setTop (mkF m 31 #[.val (.int i0), .val (.int i1), .val (.int (2 : Int32)), .val (.int (0 : Int32)), .unset, .unset, .unset] [])) _
        refine XS.iloadN X1.here hx rfl (hb hby at_31) rfl ?_
        show Steps p.tables e below (T1.setTop (mkF m 32 #[.val (.int i0), .val (.int i1), .val (.int (2 : Int32)), .val (.int (0 : Int32)), .unset, .unset, .unset] [(.int (2 : Int32))])) _
        refine st2 _ ?_
        show Steps p.tables e below (T2.setTop (mkF m 35 #[.val (.int i0), .val (.int i1), .val (.int (2 : Int32)), .val (.int (0 : Int32)), .unset, .unset, .unset] [(.int (1 : Int32))])) _
        refine XS.ifNo X2.here hx rfl (hb hby at_35) rfl ((if0 _ _).trans (feq (by decide : ¬ ((1 : Int32) = (0 : Int32)))).1) ?_
        show Steps p.tables e below (T2.setTop (mkF m 38 #[.val (.int i0), .val (.int i1), .val (.int (2 : Int32)), .val (.int (0 : Int32)), .unset, .unset, .unset] [])) _
        refine XS.iconst X2.here hx rfl (hb hby at_38) ?_
        show Steps p.tables e below (T2.setTop (mkF m 39 #[.val (.int i0), .val (.int i1), .val (.int (2 : Int32)), .val (.int (0 : Int32)), .unset, .unset, .unset] [(.int (1 : Int32))])) _
        refine XS.goto X2.here hx rfl (pc0 := 39) (pc' := 43) rfl (hb hby at_39) (by decide) (by decide) ?_
        show Steps p.tables e below (T2.setTop (mkF m 43 #[.val (.int i0), .val (.int i1), .val (.int (2 : Int32)), .val (.int (0 : Int32)), .unset, .unset, .unset] [(.int (1 : Int32))])) _
        refine XS.istore X2.here hx rfl (hb hby at_43) rfl (l' := #[.val (.int i0), .val (.int i1), .val (.int (2 : Int32)), .val (.int (0 : Int32)), .unset, .val (.int (1 : Int32)), .unset]) rfl ?_
        show Steps p.tables e below (T2.setTop (mkF m 45 #[.val (.int i0), .val (.int i1), .val (.int (2 : Int32)), .val (.int (0 : Int32)), .unset, .val (.int (1 : Int32)), .unset] [])) _
        refine XS.iloadN X2.here hx rfl (hb hby at_45) rfl ?_
        show Steps p.tables e below (T2.setTop (mkF m 46 #[.val (.int i0), .val (.int i1), .val (.int (2 : Int32)), .val (.int (0 : Int32)), .unset, .val (.int (1 : Int32)), .unset] [(.int (0 : Int32))])) _
        refine st3 _ ?_
        show Steps p.tables e below (T3.setTop (mkF m 49 #[.val (.int i0), .val (.int i1), .val (.int (2 : Int32)), .val (.int (0 : Int32)), .unset, .val (.int (1 : Int32)), .unset] [(.int (0 : Int32))])) _
        refine XS.ifYes X3.here hx rfl (pc0 := 49) (pc' := 59) rfl (hb hby at_49) rfl ((if0 _ _).trans (teq (by decide : (0 : Int32) = (0 : Int32))).1) (by decide) (by decide) ?_
        show Steps p.tables e below (T3.setTop (mkF m 59 #[.val (.int i0), .val (.int i1), .val (.int (2 : Int32)), .val (.int (0 : Int32)), .unset, .val (.int (1 : Int32)), .unset] [])) _
        refine XS.iconst X3.here hx rfl (hb hby at_59) ?_
        show Steps p.tables e below (T3.setTop (mkF m 60 #[.val (.int i0), .val (.int i1), .val (.int (2 : Int32)), .val (.int (0 : Int32)), .unset, .val (.int (1 : Int32)), .unset] [(.int (1 : Int32))])) _
        refine XS.goto X3.here hx rfl (pc0 := 60) (pc' := 64) rfl (hb hby at_60) (by decide) (by decide) ?_
        show Steps p.tables e below (T3.setTop (mkF m 64 #[.val (.int i0), .val (.int i1), .val (.int (2 : Int32)), .val (.int (0 : Int32)), .unset, .val (.int (1 : Int32)), .unset] [(.int (1 : Int32))])) _
        refine XS.istore X3.here hx rfl (hb hby at_64) rfl (l' := #[.val (.int i0), .val (.int i1), .val (.int (2 : Int32)), .val (.int (0 : Int32)), .unset, .val (.int (1 : Int32)), .val (.int (1 : Int32))]) rfl ?_
        show Steps p.tables e below (T3.setTop (mkF m 66 #[.val (.int i0), .val (.int i1), .val (.int (2 : Int32)), .val (.int (0 : Int32)), .unset, .val (.int (1 : Int32)), .val (.int (1 : Int32))] [])) _
        refine XS.iload X3.here hx rfl (hb hby at_66) rfl ?_
        show Steps p.tables e below (T3.setTop (mkF m 68 #[.val (.int i0), .val (.int i1), .val (.int (2 : Int32)), .val (.int (0 : Int32)), .unset, .val (.int (1 : Int32)), .val (.int (1 : Int32))] [(.int (1 : Int32))])) _
        refine XS.ifNo X3.here hx rfl (hb hby at_68) rfl ((if0 _ _).trans (feq (by decide : ¬ ((1 : Int32) = (0 : Int32)))).1) ?_
        show Steps p.tables e below (T3.setTop (mkF m 71 #[.val (.int i0), .val (.int i1), .val (.int (2 : Int32)), .val (.int (0 : Int32)), .unset, .val (.int (1 : Int32)), .val (.int (1 : Int32))] [])) _
        refine XS.iload X3.here hx rfl (hb hby at_71) rfl ?_
        show Steps p.tables e below (T3.setTop (mkF m 73 #[.val (.int i0), .val (.int i1), .val (.int (2 : Int32)), .val (.int (0 : Int32)), .unset, .val (.int (1 : Int32)), .val (.int (1 : Int32))] [(.int (1 : Int32))])) _
        refine XS.ifNo X3.here hx rfl (hb hby at_73) rfl ((if0 _ _).trans (feq (by decide : ¬ ((1 : Int32) = (0 : Int32)))).1) ?_
        show Steps p.tables e below (T3.setTop (mkF m 76 #[.val (.int i0), .val (.int i1), .val (.int (2 : Int32)), .val (.int (0 : Int32)), .unset, .val (.int (1 : Int32)), .val (.int (1 : Int32))] [])) _
        refine XS.iconst X3.here hx rfl (hb hby at_76) ?_
        show Steps p.tables e below (T3.setTop (mkF m 77 #[.val (.int i0), .val (.int i1), .val (.int (2 : Int32)), .val (.int (0 : Int32)), .unset, .val (.int (1 : Int32)), .val (.int (1 : Int32))] [(.int (1 : Int32))])) _
        refine XS.goto X3.here hx rfl (pc0 := 77) (pc' := 81) rfl (hb hby at_77) (by decide) (by decide) ?_
        show Steps p.tables e below (T3.setTop (mkF m 81 #[.val (.int i0), .val (.int i1), .val (.int (2 : Int32)), .val (.int (0 : Int32)), .unset, .val (.int (1 : Int32)), .val (.int (1 : Int32))] [(.int (1 : Int32))])) _
        refine XS.istore X3.here hx rfl (hb hby at_81) rfl (l' := #[.val (.int i0), .val (.int i1), .val (.int (2 : Int32)), .val (.int (0 : Int32)), .val (.int (1 : Int32)), .val (.int (1 : Int32)), .val (.int (1 : Int32))]) rfl ?_
        show Steps p.tables e below (T3.setTop (mkF m 83 #[.val (.int i0), .val (.int i1), .val (.int (2 : Int32)), .val (.int (0 : Int32)), .val (.int (1 : Int32)), .val (.int (1 : Int32)), .val (.int (1 : Int32))] [])) _
        refine XS.iloadN X3.here hx rfl (hb hby at_83) rfl ?_
        show Steps p.tables e below (T3.setTop (mkF m 84 #[.val (.int i0), .val (.int i1), .val (.int (2 : Int32)), .val (.int (0 : Int32)), .val (.int (1 : Int32)), .val (.int (1 : Int32)), .val (.int (1 : Int32))] [(.int (2 : Int32))])) _
        refine st4 _ ?_
        show Steps p.tables e below (T4.setTop (mkF m 87 #[.val (.int i0), .val (.int i1), .val (.int (2 : Int32)), .val (.int (0 : Int32)), .val (.int (1 : Int32)), .val (.int (1 : Int32)), .val (.int (1 : Int32))] [(.ref w2)])) _
        refine XS.iloadN X4.here hx rfl (hb hby at_87) rfl ?_
        show Steps p.tables e below (T4.setTop (mkF m 88 #[.val (.int i0), .val (.int i1), .val (.int (2 : Int32)), .val (.int (0 : Int32)), .val (.int (1 : Int32)), .val (.int (1 : Int32)), .val (.int (1 : Int32))] [(.int (0 : Int32)), (.ref w2)])) _
        refine st5 _ ?_
        show Steps p.tables e below (T5.setTop (mkF m 91 #[.val (.int i0), .val (.int i1), .val (.int (2 : Int32)), .val (.int (0 : Int32)), .val (.int (1 : Int32)), .val (.int (1 : Int32)), .val (.int (1 : Int32))] [(.ref w3), (.ref w2)])) _
        refine st6 _ ?_
        show Steps p.tables e below (T6.setTop (mkF m 94 #[.val (.int i0), .val (.int i1), .val (.int (2 : Int32)), .val (.int (0 : Int32)), .val (.int (1 : Int32)), .val (.int (1 : Int32)), .val (.int (1 : Int32))] [(.int (1 : Int32))])) _
        refine XS.iload X6.here hx rfl (hb hby at_94) rfl ?_
        show Steps p.tables e below (T6.setTop (mkF m 96 #[.val (.int i0), .val (.int i1), .val (.int (2 : Int32)), .val (.int (0 : Int32)), .val (.int (1 : Int32)), .val (.int (1 : Int32)), .val (.int (1 : Int32))] [(.int (1 : Int32)), (.int (1 : Int32))])) _
        refine XS.icmpNo X6.here hx rfl (hb hby at_96) rfl (teq (by decide : (1 : Int32) = (1 : Int32))).2 ?_
        show Steps p.tables e below (T6.setTop (mkF m 99 #[.val (.int i0), .val (.int i1), .val (.int (2 : Int32)), .val (.int (0 : Int32)), .val (.int (1 : Int32)), .val (.int (1 : Int32)), .val (.int (1 : Int32))] [])) _
        refine XS.iconst X6.here hx rfl (hb hby at_99) ?_
        show Steps p.tables e below (T6.setTop (mkF m 100 #[.val (.int i0), .val (.int i1), .val (.int (2 : Int32)), .val (.int (0 : Int32)), .val (.int (1 : Int32)), .val (.int (1 : Int32)), .val (.int (1 : Int32))] [(.int (1 : Int32))])) _
        refine XS.goto X6.here hx rfl (pc0 := 100) (pc' := 104) rfl (hb hby at_100) (by decide) (by decide) ?_
        show Steps p.tables e below (T6.setTop (mkF m 104 #[.val (.int i0), .val (.int i1), .val (.int (2 : Int32)), .val (.int (0 : Int32)), .val (.int (1 : Int32)), .val (.int (1 : Int32)), .val (.int (1 : Int32))] [(.int (1 : Int32))])) _
        exact retN X6 hx (t := .boolean) Bd.returns (by simp) (hb hby at_104) hr
      · show QL n0 _ T6.heap _
        exact ⟨rfl, N6⟩
    · obtain ⟨_, T1, L1, hQ1, X1, st1⟩ := own_callS X0 hx hZ (W := 0) hown (hw _ m15) (hw _ m16) (hw _ m2) (hw _ m17) (by decide) (rm5 l Z a0 hw w0 w1 w2 w3 hS [] h0 n0 O0) e0 (g := (mkF m 25 #[.val (.int i0), .val (.int i1), .val (.int (2 : Int32)), .val (.int (1 : Int32)), .unset, .unset, .unset] [(.int (1 : Int32))])) rfl (by rw [hml]; rfl) (argsL := [(.int (1 : Int32))]) (rest := []) (lenOf pd11 rfl) rfl rfl (by show 2 * 0 + _ ≤ _; exact Nat.le_of_eq rfl) (hb hby at_25) (by decide) (by decide) (by decide) (by decide)
      obtain ⟨rfl, N1q, e1⟩ := hQ1
      have N1 := Fr.app N0 N1q
      have e1' : T1.heap = h0 := e1
      obtain ⟨_, T2, L2, hQ2, X2, st2⟩ := own_callS X1 hx hZ (W := 0) hown (hw _ m18) (hw _ m19) (hw _ m2) (hw _ m20) (by decide) (rm6 l Z a0 hw w0 w1 w2 w3 hS [] h0 n0 O0) e1' (g := (mkF m 46 #[.val (.int i0), .val (.int i1), .val (.int (2 : Int32)), .val (.int (1 : Int32)), .unset, .val (.int (1 : Int32)), .unset] [(.int (1 : Int32))])) rfl (by rw [hml]; rfl) (argsL := [(.int (1 : Int32))]) (rest := []) (lenOf pd11 rfl) rfl rfl (by show 2 * 0 + _ ≤ _; exact Nat.le_of_eq rfl) (hb hby at_46) (by decide) (by decide) (by decide) (by decide)
      obtain ⟨rfl, N2q, e2⟩ := hQ2
      have N2 := Fr.app N1 N2q
      have e2' : T2.heap = h0 := e2
      obtain ⟨_, T3, L3, hQ3, X3, st3⟩ := own_callS X2 hx hZ (W := 0) hown (hw _ m18) (hw _ m19) (hw _ m2) (hw _ m20) (by decide) (rm10 l Z a0 hw w0 w1 w2 w3 hS [] h0 n0 O0) e2' (g := (mkF m 53 #[.val (.int i0), .val (.int i1), .val (.int (2 : Int32)), .val (.int (1 : Int32)), .unset, .val (.int (1 : Int32)), .unset] [(.int (2 : Int32))])) rfl (by rw [hml]; rfl) (argsL := [(.int (2 : Int32))]) (rest := []) (lenOf pd11 rfl) rfl rfl (by show 2 * 0 + _ ≤ _; exact Nat.le_of_eq rfl) (hb hby at_53) (by decide) (by decide) (by decide) (by decide)
      obtain ⟨rfl, N3q, e3⟩ := hQ3
      have N3 := Fr.app N2 N3q
      have e3' : T3.heap = h0 := e3
      obtain ⟨_, T4, L4, hQ4, X4, st4⟩ := own_callS X3 hx hZ (W := 0) hown (hw _ m0) (hw _ m1) (hw _ m2) (hw _ m3) (by decide) (rm11 l Z a0 hw w0 w1 w2 w3 hS [] h0 n0 O0) e3' (g := (mkF m 84 #[.val (.int i0), .val (.int i1), .val (.int (2 : Int32)), .val (.int (1 : Int32)), .val (.int (1 : Int32)), .val (.int (1 : Int32)), .val (.int (1 : Int32))] [(.int (2 : Int32))])) rfl (by rw [hml]; rfl) (argsL := [(.int (2 : Int32))]) (rest := []) (lenOf pd31 rfl) rfl rfl (by show 2 * 0 + _ ≤ _; exact Nat.le_of_eq rfl) (hb hby at_84) (by decide) (by decide) (by decide) (by decide)
      obtain ⟨rfl, N4q, e4⟩ := hQ4
      have N4 := Fr.app N3 N4q
      have e4' : T4.heap = h0 := e4
      obtain ⟨_, T5, L5, hQ5, X5, st5⟩ := own_callS X4 hx hZ (W := 1) hown (hw _ m0) (hw _ m1) (hw _ m2) (hw _ m3) (by decide) (rm7 l Z a0 hw w0 w1 w2 w3 hS [] h0 n0 O0) e4' (g := (mkF m 88 #[.val (.int i0), .val (.int i1), .val (.int (2 : Int32)), .val (.int (1 : Int32)), .val (.int (1 : Int32)), .val (.int (1 : Int32)), .val (.int (1 : Int32))] [(.int (1 : Int32)), (.ref w2)])) rfl (by rw [hml]; rfl) (argsL := [(.int (1 : Int32))]) (rest := [(.ref w2)]) (lenOf pd31 rfl) rfl rfl (by show 2 * 0 + _ ≤ _; exact Nat.le_of_eq rfl) (hb hby at_88) (by decide) (by decide) (by decide) (by decide)
      obtain ⟨rfl, N5q, e5⟩ := hQ5
      have N5 := Fr.app N4 N5q
      have e5' : T5.heap = h0 := e5
      obtain ⟨_, T6, L6, hQ6, X6, st6⟩ := own_virtual X5 hx hZ (W := 0) hown (hw _ m9) (hw _ m10) (notFace_of_selects (args := #[]) (mvT hZ (hw _ m12))) (hw _ m12) (hw _ m11) (hw _ m5) (hw _ m13) (by decide) (rm20 l Z a0 hw w0 w1 w2 w3 hS [] h0 n0 O0) e5' (hS.2.2.2.2.2.2.2.1.ext O0.2) (g := (mkF m 91 #[.val (.int i0), .val (.int i1), .val (.int (2 : Int32)), .val (.int (1 : Int32)), .val (.int (1 : Int32)), .val (.int (1 : Int32)), .val (.int (1 : Int32))] [(.ref w0), (.ref w2)])) rfl (by rw [hml]; rfl) (argsL := [(.ref w0)]) (rest := []) (lenOf pd56 rfl) rfl rfl (by show 2 * 0 + _ ≤ _; exact Nat.le_of_eq rfl) (hb hby at_91) (by decide) (by decide) (by decide) (by decide)
      obtain ⟨rfl, N6q, e6⟩ := hQ6
      have N6 := Fr.app N5 N6q
      have e6' : T6.heap = h0 := e6
      obtain ⟨fs, hr, hrun, hended, hW, hsame⟩ := X6.leave (v := some (.int (1 : Int32))) (fun h => by rw [Bd.returns] at h; cases h)
      refine ⟨_, _, pre2 _ ?_, hrun, hended, _, _, rfl, ?_, ⟨_, rfl⟩, hW, hsame.mono (by decide) (by decide)⟩
      · show Steps p.tables e below (s₁.setTop (mkF m 6 #[.val (.int i0), .val (.int i1), .val (.int (2 : Int32)), .unset, .unset, .unset, .unset] [(.int (3 : Int32)), (.int i1)])) _
        refine Own.iand X0.here hx rfl (hb hby at_6) rfl hp1 ?_
        show Steps p.tables e below (s₁.setTop (mkF m 7 #[.val (.int i0), .val (.int i1), .val (.int (2 : Int32)), .unset, .unset, .unset, .unset] [(.int (1 : Int32))])) _
        refine XS.istoreN X0.here hx rfl (hb hby at_7) rfl (l' := #[.val (.int i0), .val (.int i1), .val (.int (2 : Int32)), .val (.int (1 : Int32)), .unset, .unset, .unset]) rfl ?_
        show Steps p.tables e below (s₁.setTop (mkF m 8 #[.val (.int i0), .val (.int i1), .val (.int (2 : Int32)), .val (.int (1 : Int32)), .unset, .unset, .unset] [])) _
        refine XS.iloadN X0.here hx rfl (hb hby at_8) rfl ?_
        show Steps p.tables e below (s₁.setTop (mkF m 9 #[.val (.int i0), .val (.int i1), .val (.int (2 : Int32)), .val (.int (1 : Int32)), .unset, .unset, .unset] [(.int (2 : Int32))])) _
        refine XS.iconst X0.here hx rfl (hb hby at_9) ?_
        show Steps p.tables e below (s₁.setTop (mkF m 10 #[.val (.int i0), .val (.int i1), .val (.int (2 : Int32)), .val (.int (1 : Int32)), .unset, .unset, .unset] [(.int (3 : Int32)), (.int (2 : Int32))])) _
        refine XS.icmpNo X0.here hx rfl (hb hby at_10) rfl (feq (by decide : ¬ ((2 : Int32) = (3 : Int32)))).1 ?_
        show Steps p.tables e below (s₁.setTop (mkF m 13 #[.val (.int i0), .val (.int i1), .val (.int (2 : Int32)), .val (.int (1 : Int32)), .unset, .unset, .unset] [])) _
        refine XS.iloadN X0.here hx rfl (hb hby at_13) rfl ?_
        show Steps p.tables e below (s₁.setTop (mkF m 14 #[.val (.int i0), .val (.int i1), .val (.int (2 : Int32)), .val (.int (1 : Int32)), .unset, .unset, .unset] [(.int (1 : Int32))])) _
        refine XS.iconst X0.here hx rfl (hb hby at_14) ?_
        show Steps p.tables e below (s₁.setTop (mkF m 15 #[.val (.int i0), .val (.int i1), .val (.int (2 : Int32)), .val (.int (1 : Int32)), .unset, .unset, .unset] [(.int (3 : Int32)), (.int (1 : Int32))])) _
        refine XS.icmpYes X0.here hx rfl (pc0 := 15) (pc' := 24) rfl (hb hby at_15) rfl (feq (by decide : ¬ ((1 : Int32) = (3 : Int32)))).2 (by decide) (by decide) ?_
        show Steps p.tables e below (s₁.setTop (mkF m 24 #[.val (.int i0), .val (.int i1), .val (.int (2 : Int32)), .val (.int (1 : Int32)), .unset, .unset, .unset] [])) _
        refine XS.iloadN X0.here hx rfl (hb hby at_24) rfl ?_
        show Steps p.tables e below (s₁.setTop (mkF m 25 #[.val (.int i0), .val (.int i1), .val (.int (2 : Int32)), .val (.int (1 : Int32)), .unset, .unset, .unset] [(.int (1 : Int32))])) _
        refine st1 _ ?_
        show Steps p.tables e below (T1.setTop (mkF m 28 #[.val (.int i0), .val (.int i1), .val (.int (2 : Int32)), .val (.int (1 : Int32)), .unset, .unset, .unset] [(.int (0 : Int32))])) _
        refine XS.ifYes X1.here hx rfl (pc0 := 28) (pc' := 38) rfl (hb hby at_28) rfl ((if0 _ _).trans (teq (by decide : (0 : Int32) = (0 : Int32))).1) (by decide) (by decide) ?_
        show Steps p.tables e below (T1.setTop (mkF m 38 #[.val (.int i0), .val (.int i1), .val (.int (2 : Int32)), .val (.int (1 : Int32)), .unset, .unset, .unset] [])) _
        refine XS.iconst X1.here hx rfl (hb hby at_38) ?_
        show Steps p.tables e below (T1.setTop (mkF m 39 #[.val (.int i0), .val (.int i1), .val (.int (2 : Int32)), .val (.int (1 : Int32)), .unset, .unset, .unset] [(.int (1 : Int32))])) _
        refine XS.goto X1.here hx rfl (pc0 := 39) (pc' := 43) rfl (hb hby at_39) (by decide) (by decide) ?_
        show Steps p.tables e below (T1.setTop (mkF m 43 #[.val (.int i0), .val (.int i1), .val (.int (2 : Int32)), .val (.int (1 : Int32)), .unset, .unset, .unset] [(.int (1 : Int32))])) _
        refine XS.istore X1.here hx rfl (hb hby at_43) rfl (l' := #[.val (.int i0), .val (.int i1), .val (.int (2 : Int32)), .val (.int (1 : Int32)), .unset, .val (.int (1 : Int32)), .unset]) rfl ?_
        show Steps p.tables e below (T1.setTop (mkF m 45 #[.val (.int i0), .val (.int i1), .val (.int (2 : Int32)), .val (.int (1 : Int32)), .unset, .val (.int (1 : Int32)), .unset] [])) _
        refine XS.iloadN X1.here hx rfl (hb hby at_45) rfl ?_
        show Steps p.tables e below (T1.setTop (mkF m 46 #[.val (.int i0), .val (.int i1), .val (.int (2 : Int32)), .val (.int (1 : Int32)), .unset, .val (.int (1 : Int32)), .unset] [(.int (1 : Int32))])) _
        refine st2 _ ?_
        show Steps p.tables e below (T2.setTop (mkF m 49 #[.val (.int i0), .val (.int i1), .val (.int (2 : Int32)), .val (.int (1 : Int32)), .unset, .val (.int (1 : Int32)), .unset] [(.int (1 : Int32))])) _
        refine XS.ifNo X2.here hx rfl (hb hby at_49) rfl ((if0 _ _).trans (feq (by decide : ¬ ((1 : Int32) = (0 : Int32)))).1) ?_
        show Steps p.tables e below (T2.setTop (mkF m 52 #[.val (.int i0), .val (.int i1), .val (.int (2 : Int32)), .val (.int (1 : Int32)), .unset, .val (.int (1 : Int32)), .unset] [])) _
        refine XS.iloadN X2.here hx rfl (hb hby at_52) rfl ?_
        show Steps p.tables e below (T2.setTop (mkF m 53 #[.val (.int i0), .val (.int i1), .val (.int (2 : Int32)), .val (.int (1 : Int32)), .unset, .val (.int (1 : Int32)), .unset] [(.int (2 : Int32))])) _
        refine st3 _ ?_
        show Steps p.tables e below (T3.setTop (mkF m 56 #[.val (.int i0), .val (.int i1), .val (.int (2 : Int32)), .val (.int (1 : Int32)), .unset, .val (.int (1 : Int32)), .unset] [(.int (1 : Int32))])) _
        refine XS.ifNo X3.here hx rfl (hb hby at_56) rfl ((if0 _ _).trans (feq (by decide : ¬ ((1 : Int32) = (0 : Int32)))).1) ?_
        show Steps p.tables e below (T3.setTop (mkF m 59 #[.val (.int i0), .val (.int i1), .val (.int (2 : Int32)), .val (.int (1 : Int32)), .unset, .val (.int (1 : Int32)), .unset] [])) _
        refine XS.iconst X3.here hx rfl (hb hby at_59) ?_
        show Steps p.tables e below (T3.setTop (mkF m 60 #[.val (.int i0), .val (.int i1), .val (.int (2 : Int32)), .val (.int (1 : Int32)), .unset, .val (.int (1 : Int32)), .unset] [(.int (1 : Int32))])) _
        refine XS.goto X3.here hx rfl (pc0 := 60) (pc' := 64) rfl (hb hby at_60) (by decide) (by decide) ?_
        show Steps p.tables e below (T3.setTop (mkF m 64 #[.val (.int i0), .val (.int i1), .val (.int (2 : Int32)), .val (.int (1 : Int32)), .unset, .val (.int (1 : Int32)), .unset] [(.int (1 : Int32))])) _
        refine XS.istore X3.here hx rfl (hb hby at_64) rfl (l' := #[.val (.int i0), .val (.int i1), .val (.int (2 : Int32)), .val (.int (1 : Int32)), .unset, .val (.int (1 : Int32)), .val (.int (1 : Int32))]) rfl ?_
        show Steps p.tables e below (T3.setTop (mkF m 66 #[.val (.int i0), .val (.int i1), .val (.int (2 : Int32)), .val (.int (1 : Int32)), .unset, .val (.int (1 : Int32)), .val (.int (1 : Int32))] [])) _
        refine XS.iload X3.here hx rfl (hb hby at_66) rfl ?_
        show Steps p.tables e below (T3.setTop (mkF m 68 #[.val (.int i0), .val (.int i1), .val (.int (2 : Int32)), .val (.int (1 : Int32)), .unset, .val (.int (1 : Int32)), .val (.int (1 : Int32))] [(.int (1 : Int32))])) _
        refine XS.ifNo X3.here hx rfl (hb hby at_68) rfl ((if0 _ _).trans (feq (by decide : ¬ ((1 : Int32) = (0 : Int32)))).1) ?_
        show Steps p.tables e below (T3.setTop (mkF m 71 #[.val (.int i0), .val (.int i1), .val (.int (2 : Int32)), .val (.int (1 : Int32)), .unset, .val (.int (1 : Int32)), .val (.int (1 : Int32))] [])) _
        refine XS.iload X3.here hx rfl (hb hby at_71) rfl ?_
        show Steps p.tables e below (T3.setTop (mkF m 73 #[.val (.int i0), .val (.int i1), .val (.int (2 : Int32)), .val (.int (1 : Int32)), .unset, .val (.int (1 : Int32)), .val (.int (1 : Int32))] [(.int (1 : Int32))])) _
        refine XS.ifNo X3.here hx rfl (hb hby at_73) rfl ((if0 _ _).trans (feq (by decide : ¬ ((1 : Int32) = (0 : Int32)))).1) ?_
        show Steps p.tables e below (T3.setTop (mkF m 76 #[.val (.int i0), .val (.int i1), .val (.int (2 : Int32)), .val (.int (1 : Int32)), .unset, .val (.int (1 : Int32)), .val (.int (1 : Int32))] [])) _
        refine XS.iconst X3.here hx rfl (hb hby at_76) ?_
        show Steps p.tables e below (T3.setTop (mkF m 77 #[.val (.int i0), .val (.int i1), .val (.int (2 : Int32)), .val (.int (1 : Int32)), .unset, .val (.int (1 : Int32)), .val (.int (1 : Int32))] [(.int (1 : Int32))])) _
        refine XS.goto X3.here hx rfl (pc0 := 77) (pc' := 81) rfl (hb hby at_77) (by decide) (by decide) ?_
        show Steps p.tables e below (T3.setTop (mkF m 81 #[.val (.int i0), .val (.int i1), .val (.int (2 : Int32)), .val (.int (1 : Int32)), .unset, .val (.int (1 : Int32)), .val (.int (1 : Int32))] [(.int (1 : Int32))])) _
        refine XS.istore X3.here hx rfl (hb hby at_81) rfl (l' := #[.val (.int i0), .val (.int i1), .val (.int (2 : Int32)), .val (.int (1 : Int32)), .val (.int (1 : Int32)), .val (.int (1 : Int32)), .val (.int (1 : Int32))]) rfl ?_
        show Steps p.tables e below (T3.setTop (mkF m 83 #[.val (.int i0), .val (.int i1), .val (.int (2 : Int32)), .val (.int (1 : Int32)), .val (.int (1 : Int32)), .val (.int (1 : Int32)), .val (.int (1 : Int32))] [])) _
        refine XS.iloadN X3.here hx rfl (hb hby at_83) rfl ?_
        show Steps p.tables e below (T3.setTop (mkF m 84 #[.val (.int i0), .val (.int i1), .val (.int (2 : Int32)), .val (.int (1 : Int32)), .val (.int (1 : Int32)), .val (.int (1 : Int32)), .val (.int (1 : Int32))] [(.int (2 : Int32))])) _
        refine st4 _ ?_
        show Steps p.tables e below (T4.setTop (mkF m 87 #[.val (.int i0), .val (.int i1), .val (.int (2 : Int32)), .val (.int (1 : Int32)), .val (.int (1 : Int32)), .val (.int (1 : Int32)), .val (.int (1 : Int32))] [(.ref w2)])) _
        refine XS.iloadN X4.here hx rfl (hb hby at_87) rfl ?_
        show Steps p.tables e below (T4.setTop (mkF m 88 #[.val (.int i0), .val (.int i1), .val (.int (2 : Int32)), .val (.int (1 : Int32)), .val (.int (1 : Int32)), .val (.int (1 : Int32)), .val (.int (1 : Int32))] [(.int (1 : Int32)), (.ref w2)])) _
        refine st5 _ ?_
        show Steps p.tables e below (T5.setTop (mkF m 91 #[.val (.int i0), .val (.int i1), .val (.int (2 : Int32)), .val (.int (1 : Int32)), .val (.int (1 : Int32)), .val (.int (1 : Int32)), .val (.int (1 : Int32))] [(.ref w0), (.ref w2)])) _
        refine st6 _ ?_
        show Steps p.tables e below (T6.setTop (mkF m 94 #[.val (.int i0), .val (.int i1), .val (.int (2 : Int32)), .val (.int (1 : Int32)), .val (.int (1 : Int32)), .val (.int (1 : Int32)), .val (.int (1 : Int32))] [(.int (1 : Int32))])) _
        refine XS.iload X6.here hx rfl (hb hby at_94) rfl ?_
        show Steps p.tables e below (T6.setTop (mkF m 96 #[.val (.int i0), .val (.int i1), .val (.int (2 : Int32)), .val (.int (1 : Int32)), .val (.int (1 : Int32)), .val (.int (1 : Int32)), .val (.int (1 : Int32))] [(.int (1 : Int32)), (.int (1 : Int32))])) _
        refine XS.icmpNo X6.here hx rfl (hb hby at_96) rfl (teq (by decide : (1 : Int32) = (1 : Int32))).2 ?_
        show Steps p.tables e below (T6.setTop (mkF m 99 #[.val (.int i0), .val (.int i1), .val (.int (2 : Int32)), .val (.int (1 : Int32)), .val (.int (1 : Int32)), .val (.int (1 : Int32)), .val (.int (1 : Int32))] [])) _
        refine XS.iconst X6.here hx rfl (hb hby at_99) ?_
        show Steps p.tables e below (T6.setTop (mkF m 100 #[.val (.int i0), .val (.int i1), .val (.int (2 : Int32)), .val (.int (1 : Int32)), .val (.int (1 : Int32)), .val (.int (1 : Int32)), .val (.int (1 : Int32))] [(.int (1 : Int32))])) _
        refine XS.goto X6.here hx rfl (pc0 := 100) (pc' := 104) rfl (hb hby at_100) (by decide) (by decide) ?_
        show Steps p.tables e below (T6.setTop (mkF m 104 #[.val (.int i0), .val (.int i1), .val (.int (2 : Int32)), .val (.int (1 : Int32)), .val (.int (1 : Int32)), .val (.int (1 : Int32)), .val (.int (1 : Int32))] [(.int (1 : Int32))])) _
        exact retN X6 hx (t := .boolean) Bd.returns (by simp) (hb hby at_104) hr
      · show QL n0 _ T6.heap _
        exact ⟨rfl, N6⟩
    · obtain ⟨_, T1, L1, hQ1, X1, st1⟩ := own_callS X0 hx hZ (W := 0) hown (hw _ m15) (hw _ m16) (hw _ m2) (hw _ m17) (by decide) (rm9 l Z a0 hw w0 w1 w2 w3 hS [] h0 n0 O0) e0 (g := (mkF m 25 #[.val (.int i0), .val (.int i1), .val (.int (2 : Int32)), .val (.int (2 : Int32)), .unset, .unset, .unset] [(.int (2 : Int32))])) rfl (by rw [hml]; rfl) (argsL := [(.int (2 : Int32))]) (rest := []) (lenOf pd11 rfl) rfl rfl (by show 2 * 0 + _ ≤ _; exact Nat.le_of_eq rfl) (hb hby at_25) (by decide) (by decide) (by decide) (by decide)
      obtain ⟨rfl, N1q, e1⟩ := hQ1
      have N1 := Fr.app N0 N1q
      have e1' : T1.heap = h0 := e1
      obtain ⟨_, T2, L2, hQ2, X2, st2⟩ := own_callS X1 hx hZ (W := 0) hown (hw _ m15) (hw _ m16) (hw _ m2) (hw _ m17) (by decide) (rm9 l Z a0 hw w0 w1 w2 w3 hS [] h0 n0 O0) e1' (g := (mkF m 32 #[.val (.int i0), .val (.int i1), .val (.int (2 : Int32)), .val (.int (2 : Int32)), .unset, .unset, .unset] [(.int (2 : Int32))])) rfl (by rw [hml]; rfl) (argsL := [(.int (2 : Int32))]) (rest := []) (lenOf pd11 rfl) rfl rfl (by show 2 * 0 + _ ≤ _; exact Nat.le_of_eq rfl) (hb hby at_32) (by decide) (by decide) (by decide) (by decide)
      obtain ⟨rfl, N2q, e2⟩ := hQ2
      have N2 := Fr.app N1 N2q
      have e2' : T2.heap = h0 := e2
      obtain ⟨_, T3, L3, hQ3, X3, st3⟩ := own_callS X2 hx hZ (W := 0) hown (hw _ m18) (hw _ m19) (hw _ m2) (hw _ m20) (by decide) (rm10 l Z a0 hw w0 w1 w2 w3 hS [] h0 n0 O0) e2' (g := (mkF m 46 #[.val (.int i0), .val (.int i1), .val (.int (2 : Int32)), .val (.int (2 : Int32)), .unset, .val (.int (1 : Int32)), .unset] [(.int (2 : Int32))])) rfl (by rw [hml]; rfl) (argsL := [(.int (2 : Int32))]) (rest := []) (lenOf pd11 rfl) rfl rfl (by show 2 * 0 + _ ≤ _; exact Nat.le_of_eq rfl) (hb hby at_46) (by decide) (by decide) (by decide) (by decide)
      obtain ⟨rfl, N3q, e3⟩ := hQ3
      have N3 := Fr.app N2 N3q
      have e3' : T3.heap = h0 := e3
      obtain ⟨_, T4, L4, hQ4, X4, st4⟩ := own_callS X3 hx hZ (W := 0) hown (hw _ m18) (hw _ m19) (hw _ m2) (hw _ m20) (by decide) (rm10 l Z a0 hw w0 w1 w2 w3 hS [] h0 n0 O0) e3' (g := (mkF m 53 #[.val (.int i0), .val (.int i1), .val (.int (2 : Int32)), .val (.int (2 : Int32)), .unset, .val (.int (1 : Int32)), .unset] [(.int (2 : Int32))])) rfl (by rw [hml]; rfl) (argsL := [(.int (2 : Int32))]) (rest := []) (lenOf pd11 rfl) rfl rfl (by show 2 * 0 + _ ≤ _; exact Nat.le_of_eq rfl) (hb hby at_53) (by decide) (by decide) (by decide) (by decide)
      obtain ⟨rfl, N4q, e4⟩ := hQ4
      have N4 := Fr.app N3 N4q
      have e4' : T4.heap = h0 := e4
      obtain ⟨_, T5, L5, hQ5, X5, st5⟩ := own_callS X4 hx hZ (W := 0) hown (hw _ m0) (hw _ m1) (hw _ m2) (hw _ m3) (by decide) (rm11 l Z a0 hw w0 w1 w2 w3 hS [] h0 n0 O0) e4' (g := (mkF m 84 #[.val (.int i0), .val (.int i1), .val (.int (2 : Int32)), .val (.int (2 : Int32)), .val (.int (1 : Int32)), .val (.int (1 : Int32)), .val (.int (1 : Int32))] [(.int (2 : Int32))])) rfl (by rw [hml]; rfl) (argsL := [(.int (2 : Int32))]) (rest := []) (lenOf pd31 rfl) rfl rfl (by show 2 * 0 + _ ≤ _; exact Nat.le_of_eq rfl) (hb hby at_84) (by decide) (by decide) (by decide) (by decide)
      obtain ⟨rfl, N5q, e5⟩ := hQ5
      have N5 := Fr.app N4 N5q
      have e5' : T5.heap = h0 := e5
      obtain ⟨_, T6, L6, hQ6, X6, st6⟩ := own_callS X5 hx hZ (W := 1) hown (hw _ m0) (hw _ m1) (hw _ m2) (hw _ m3) (by decide) (rm11 l Z a0 hw w0 w1 w2 w3 hS [] h0 n0 O0) e5' (g := (mkF m 88 #[.val (.int i0), .val (.int i1), .val (.int (2 : Int32)), .val (.int (2 : Int32)), .val (.int (1 : Int32)), .val (.int (1 : Int32)), .val (.int (1 : Int32))] [(.int (2 : Int32)), (.ref w2)])) rfl (by rw [hml]; rfl) (argsL := [(.int (2 : Int32))]) (rest := [(.ref w2)]) (lenOf pd31 rfl) rfl rfl (by show 2 * 0 + _ ≤ _; exact Nat.le_of_eq rfl) (hb hby at_88) (by decide) (by decide) (by decide) (by decide)
      obtain ⟨rfl, N6q, e6⟩ := hQ6
      have N6 := Fr.app N5 N6q
      have e6' : T6.heap = h0 := e6
      obtain ⟨_, T7, L7, hQ7, X7, st7⟩ := own_virtual X6 hx hZ (W := 0) hown (hw _ m9) (hw _ m10) (notFace_of_selects (args := #[]) (mvT hZ (hw _ m12))) (hw _ m12) (hw _ m11) (hw _ m5) (hw _ m13) (by decide) (rm21 l Z a0 hw w0 w1 w2 w3 hS [] h0 n0 O0) e6' (hS.2.2.2.2.2.2.2.1.ext O0.2) (g := (mkF m 91 #[.val (.int i0), .val (.int i1), .val (.int (2 : Int32)), .val (.int (2 : Int32)), .val (.int (1 : Int32)), .val (.int (1 : Int32)), .val (.int (1 : Int32))] [(.ref w2), (.ref w2)])) rfl (by rw [hml]; rfl) (argsL := [(.ref w2)]) (rest := []) (lenOf pd56 rfl) rfl rfl (by show 2 * 0 + _ ≤ _; exact Nat.le_of_eq rfl) (hb hby at_91) (by decide) (by decide) (by decide) (by decide)
      obtain ⟨rfl, N7q, e7⟩ := hQ7
      have N7 := Fr.app N6 N7q
      have e7' : T7.heap = h0 := e7
      obtain ⟨fs, hr, hrun, hended, hW, hsame⟩ := X7.leave (v := some (.int (1 : Int32))) (fun h => by rw [Bd.returns] at h; cases h)
      refine ⟨_, _, pre2 _ ?_, hrun, hended, _, _, rfl, ?_, ⟨_, rfl⟩, hW, hsame.mono (by decide) (by decide)⟩
      · show Steps p.tables e below (s₁.setTop (mkF m 6 #[.val (.int i0), .val (.int i1), .val (.int (2 : Int32)), .unset, .unset, .unset, .unset] [(.int (3 : Int32)), (.int i1)])) _
        refine Own.iand X0.here hx rfl (hb hby at_6) rfl hp1 ?_
        show Steps p.tables e below (s₁.setTop (mkF m 7 #[.val (.int i0), .val (.int i1), .val (.int (2 : Int32)), .unset, .unset, .unset, .unset] [(.int (2 : Int32))])) _
        refine XS.istoreN X0.here hx rfl (hb hby at_7) rfl (l' := #[.val (.int i0), .val (.int i1), .val (.int (2 : Int32)), .val (.int (2 : Int32)), .unset, .unset, .unset]) rfl ?_
        show Steps p.tables e below (s₁.setTop (mkF m 8 #[.val (.int i0), .val (.int i1), .val (.int (2 : Int32)), .val (.int (2 : Int32)), .unset, .unset, .unset] [])) _
        refine XS.iloadN X0.here hx rfl (hb hby at_8) rfl ?_
        show Steps p.tables e below (s₁.setTop (mkF m 9 #[.val (.int i0), .val (.int i1), .val (.int (2 : Int32)), .val (.int (2 : Int32)), .unset, .unset, .unset] [(.int (2 : Int32))])) _
        refine XS.iconst X0.here hx rfl (hb hby at_9) ?_
        show Steps p.tables e below (s₁.setTop (mkF m 10 #[.val (.int i0), .val (.int i1), .val (.int (2 : Int32)), .val (.int (2 : Int32)), .unset, .unset, .unset] [(.int (3 : Int32)), (.int (2 : Int32))])) _
        refine XS.icmpNo X0.here hx rfl (hb hby at_10) rfl (feq (by decide : ¬ ((2 : Int32) = (3 : Int32)))).1 ?_
        show Steps p.tables e below (s₁.setTop (mkF m 13 #[.val (.int i0), .val (.int i1), .val (.int (2 : Int32)), .val (.int (2 : Int32)), .unset, .unset, .unset] [])) _
        refine XS.iloadN X0.here hx rfl (hb hby at_13) rfl ?_
        show Steps p.tables e below (s₁.setTop (mkF m 14 #[.val (.int i0), .val (.int i1), .val (.int (2 : Int32)), .val (.int (2 : Int32)), .unset, .unset, .unset] [(.int (2 : Int32))])) _
        refine XS.iconst X0.here hx rfl (hb hby at_14) ?_
        show Steps p.tables e below (s₁.setTop (mkF m 15 #[.val (.int i0), .val (.int i1), .val (.int (2 : Int32)), .val (.int (2 : Int32)), .unset, .unset, .unset] [(.int (3 : Int32)), (.int (2 : Int32))])) _
        refine XS.icmpYes X0.here hx rfl (pc0 := 15) (pc' := 24) rfl (hb hby at_15) rfl (feq (by decide : ¬ ((2 : Int32) = (3 : Int32)))).2 (by decide) (by decide) ?_
        show Steps p.tables e below (s₁.setTop (mkF m 24 #[.val (.int i0), .val (.int i1), .val (.int (2 : Int32)), .val (.int (2 : Int32)), .unset, .unset, .unset] [])) _
        refine XS.iloadN X0.here hx rfl (hb hby at_24) rfl ?_
        show Steps p.tables e below (s₁.setTop (mkF m 25 #[.val (.int i0), .val (.int i1), .val (.int (2 : Int32)), .val (.int (2 : Int32)), .unset, .unset, .unset] [(.int (2 : Int32))])) _
        refine st1 _ ?_
        show Steps p.tables e below (T1.setTop (mkF m 28 #[.val (.int i0), .val (.int i1), .val (.int (2 : Int32)), .val (.int (2 : Int32)), .unset, .unset, .unset] [(.int (1 : Int32))])) _
        refine XS.ifNo X1.here hx rfl (hb hby at_28) rfl ((if0 _ _).trans (feq (by decide : ¬ ((1 : Int32) = (0 : Int32)))).1) ?_
        show Steps p.tables e below (T1.setTop (mkF m 31 #[.val (.int i0), .val (.int i1), .val (.int (2 : Int32)), .val (.int (2 : Int32)), .unset, .unset, .unset] [])) _
        refine XS.iloadN X1.here hx rfl (hb hby at_31) rfl ?_
        show Steps p.tables e below (T1.setTop (mkF m 32 #[.val (.int i0), .val (.int i1), .val (.int (2 : Int32)), .val (.int (2 : Int32)), .unset, .unset, .unset] [(.int (2 : Int32))])) _
        refine st2 _ ?_
        show Steps p.tables e below (T2.setTop (mkF m 35 #[.val (.int i0), .val (.int i1), .val (.int (2 : Int32)), .val (.int (2 : Int32)), .unset, .unset, .unset] [(.int (1 : Int32))])) _
        refine XS.ifNo X2.here hx rfl (hb hby at_35) rfl ((if0 _ _).trans (feq (by decide : ¬ ((1 : Int32) = (0 : Int32)))).1) ?_
        show Steps p.tables e below (T2.setTop (mkF m 38 #[.val (.int i0), .val (.int i1), .val (.int (2 : Int32)), .val (.int (2 : Int32)), .unset, .unset, .unset] [])) _
        refine XS.iconst X2.here hx rfl (hb hby at_38) ?_
        show Steps p.tables e below (T2.setTop (mkF m 39 #[.val (.int i0), .val (.int i1), .val (.int (2 : Int32)), .val (.int (2 : Int32)), .unset, .unset, .unset] [(.int (1 : Int32))])) _
        refine XS.goto X2.here hx rfl (pc0 := 39) (pc' := 43) rfl (hb hby at_39) (by decide) (by decide) ?_
        show Steps p.tables e below (T2.setTop (mkF m 43 #[.val (.int i0), .val (.int i1), .val (.int (2 : Int32)), .val (.int (2 : Int32)), .unset, .unset, .unset] [(.int (1 : Int32))])) _
        refine XS.istore X2.here hx rfl (hb hby at_43) rfl (l' := #[.val (.int i0), .val (.int i1), .val (.int (2 : Int32)), .val (.int (2 : Int32)), .unset, .val (.int (1 : Int32)), .unset]) rfl ?_
        show Steps p.tables e below (T2.setTop (mkF m 45 #[.val (.int i0), .val (.int i1), .val (.int (2 : Int32)), .val (.int (2 : Int32)), .unset, .val (.int (1 : Int32)), .unset] [])) _
        refine XS.iloadN X2.here hx rfl (hb hby at_45) rfl ?_
        show Steps p.tables e below (T2.setTop (mkF m 46 #[.val (.int i0), .val (.int i1), .val (.int (2 : Int32)), .val (.int (2 : Int32)), .unset, .val (.int (1 : Int32)), .unset] [(.int (2 : Int32))])) _
        refine st3 _ ?_
        show Steps p.tables e below (T3.setTop (mkF m 49 #[.val (.int i0), .val (.int i1), .val (.int (2 : Int32)), .val (.int (2 : Int32)), .unset, .val (.int (1 : Int32)), .unset] [(.int (1 : Int32))])) _
        refine XS.ifNo X3.here hx rfl (hb hby at_49) rfl ((if0 _ _).trans (feq (by decide : ¬ ((1 : Int32) = (0 : Int32)))).1) ?_
        show Steps p.tables e below (T3.setTop (mkF m 52 #[.val (.int i0), .val (.int i1), .val (.int (2 : Int32)), .val (.int (2 : Int32)), .unset, .val (.int (1 : Int32)), .unset] [])) _
        refine XS.iloadN X3.here hx rfl (hb hby at_52) rfl ?_
        show Steps p.tables e below (T3.setTop (mkF m 53 #[.val (.int i0), .val (.int i1), .val (.int (2 : Int32)), .val (.int (2 : Int32)), .unset, .val (.int (1 : Int32)), .unset] [(.int (2 : Int32))])) _
        refine st4 _ ?_
        show Steps p.tables e below (T4.setTop (mkF m 56 #[.val (.int i0), .val (.int i1), .val (.int (2 : Int32)), .val (.int (2 : Int32)), .unset, .val (.int (1 : Int32)), .unset] [(.int (1 : Int32))])) _
        refine XS.ifNo X4.here hx rfl (hb hby at_56) rfl ((if0 _ _).trans (feq (by decide : ¬ ((1 : Int32) = (0 : Int32)))).1) ?_
        show Steps p.tables e below (T4.setTop (mkF m 59 #[.val (.int i0), .val (.int i1), .val (.int (2 : Int32)), .val (.int (2 : Int32)), .unset, .val (.int (1 : Int32)), .unset] [])) _
        refine XS.iconst X4.here hx rfl (hb hby at_59) ?_
        show Steps p.tables e below (T4.setTop (mkF m 60 #[.val (.int i0), .val (.int i1), .val (.int (2 : Int32)), .val (.int (2 : Int32)), .unset, .val (.int (1 : Int32)), .unset] [(.int (1 : Int32))])) _
        refine XS.goto X4.here hx rfl (pc0 := 60) (pc' := 64) rfl (hb hby at_60) (by decide) (by decide) ?_
        show Steps p.tables e below (T4.setTop (mkF m 64 #[.val (.int i0), .val (.int i1), .val (.int (2 : Int32)), .val (.int (2 : Int32)), .unset, .val (.int (1 : Int32)), .unset] [(.int (1 : Int32))])) _
        refine XS.istore X4.here hx rfl (hb hby at_64) rfl (l' := #[.val (.int i0), .val (.int i1), .val (.int (2 : Int32)), .val (.int (2 : Int32)), .unset, .val (.int (1 : Int32)), .val (.int (1 : Int32))]) rfl ?_
        show Steps p.tables e below (T4.setTop (mkF m 66 #[.val (.int i0), .val (.int i1), .val (.int (2 : Int32)), .val (.int (2 : Int32)), .unset, .val (.int (1 : Int32)), .val (.int (1 : Int32))] [])) _
        refine XS.iload X4.here hx rfl (hb hby at_66) rfl ?_
        show Steps p.tables e below (T4.setTop (mkF m 68 #[.val (.int i0), .val (.int i1), .val (.int (2 : Int32)), .val (.int (2 : Int32)), .unset, .val (.int (1 : Int32)), .val (.int (1 : Int32))] [(.int (1 : Int32))])) _
        refine XS.ifNo X4.here hx rfl (hb hby at_68) rfl ((if0 _ _).trans (feq (by decide : ¬ ((1 : Int32) = (0 : Int32)))).1) ?_
        show Steps p.tables e below (T4.setTop (mkF m 71 #[.val (.int i0), .val (.int i1), .val (.int (2 : Int32)), .val (.int (2 : Int32)), .unset, .val (.int (1 : Int32)), .val (.int (1 : Int32))] [])) _
        refine XS.iload X4.here hx rfl (hb hby at_71) rfl ?_
        show Steps p.tables e below (T4.setTop (mkF m 73 #[.val (.int i0), .val (.int i1), .val (.int (2 : Int32)), .val (.int (2 : Int32)), .unset, .val (.int (1 : Int32)), .val (.int (1 : Int32))] [(.int (1 : Int32))])) _
        refine XS.ifNo X4.here hx rfl (hb hby at_73) rfl ((if0 _ _).trans (feq (by decide : ¬ ((1 : Int32) = (0 : Int32)))).1) ?_
        show Steps p.tables e below (T4.setTop (mkF m 76 #[.val (.int i0), .val (.int i1), .val (.int (2 : Int32)), .val (.int (2 : Int32)), .unset, .val (.int (1 : Int32)), .val (.int (1 : Int32))] [])) _
        refine XS.iconst X4.here hx rfl (hb hby at_76) ?_
        show Steps p.tables e below (T4.setTop (mkF m 77 #[.val (.int i0), .val (.int i1), .val (.int (2 : Int32)), .val (.int (2 : Int32)), .unset, .val (.int (1 : Int32)), .val (.int (1 : Int32))] [(.int (1 : Int32))])) _
        refine XS.goto X4.here hx rfl (pc0 := 77) (pc' := 81) rfl (hb hby at_77) (by decide) (by decide) ?_
        show Steps p.tables e below (T4.setTop (mkF m 81 #[.val (.int i0), .val (.int i1), .val (.int (2 : Int32)), .val (.int (2 : Int32)), .unset, .val (.int (1 : Int32)), .val (.int (1 : Int32))] [(.int (1 : Int32))])) _
        refine XS.istore X4.here hx rfl (hb hby at_81) rfl (l' := #[.val (.int i0), .val (.int i1), .val (.int (2 : Int32)), .val (.int (2 : Int32)), .val (.int (1 : Int32)), .val (.int (1 : Int32)), .val (.int (1 : Int32))]) rfl ?_
        show Steps p.tables e below (T4.setTop (mkF m 83 #[.val (.int i0), .val (.int i1), .val (.int (2 : Int32)), .val (.int (2 : Int32)), .val (.int (1 : Int32)), .val (.int (1 : Int32)), .val (.int (1 : Int32))] [])) _
        refine XS.iloadN X4.here hx rfl (hb hby at_83) rfl ?_
        show Steps p.tables e below (T4.setTop (mkF m 84 #[.val (.int i0), .val (.int i1), .val (.int (2 : Int32)), .val (.int (2 : Int32)), .val (.int (1 : Int32)), .val (.int (1 : Int32)), .val (.int (1 : Int32))] [(.int (2 : Int32))])) _
        refine st5 _ ?_
        show Steps p.tables e below (T5.setTop (mkF m 87 #[.val (.int i0), .val (.int i1), .val (.int (2 : Int32)), .val (.int (2 : Int32)), .val (.int (1 : Int32)), .val (.int (1 : Int32)), .val (.int (1 : Int32))] [(.ref w2)])) _
        refine XS.iloadN X5.here hx rfl (hb hby at_87) rfl ?_
        show Steps p.tables e below (T5.setTop (mkF m 88 #[.val (.int i0), .val (.int i1), .val (.int (2 : Int32)), .val (.int (2 : Int32)), .val (.int (1 : Int32)), .val (.int (1 : Int32)), .val (.int (1 : Int32))] [(.int (2 : Int32)), (.ref w2)])) _
        refine st6 _ ?_
        show Steps p.tables e below (T6.setTop (mkF m 91 #[.val (.int i0), .val (.int i1), .val (.int (2 : Int32)), .val (.int (2 : Int32)), .val (.int (1 : Int32)), .val (.int (1 : Int32)), .val (.int (1 : Int32))] [(.ref w2), (.ref w2)])) _
        refine st7 _ ?_
        show Steps p.tables e below (T7.setTop (mkF m 94 #[.val (.int i0), .val (.int i1), .val (.int (2 : Int32)), .val (.int (2 : Int32)), .val (.int (1 : Int32)), .val (.int (1 : Int32)), .val (.int (1 : Int32))] [(.int (1 : Int32))])) _
        refine XS.iload X7.here hx rfl (hb hby at_94) rfl ?_
        show Steps p.tables e below (T7.setTop (mkF m 96 #[.val (.int i0), .val (.int i1), .val (.int (2 : Int32)), .val (.int (2 : Int32)), .val (.int (1 : Int32)), .val (.int (1 : Int32)), .val (.int (1 : Int32))] [(.int (1 : Int32)), (.int (1 : Int32))])) _
        refine XS.icmpNo X7.here hx rfl (hb hby at_96) rfl (teq (by decide : (1 : Int32) = (1 : Int32))).2 ?_
        show Steps p.tables e below (T7.setTop (mkF m 99 #[.val (.int i0), .val (.int i1), .val (.int (2 : Int32)), .val (.int (2 : Int32)), .val (.int (1 : Int32)), .val (.int (1 : Int32)), .val (.int (1 : Int32))] [])) _
        refine XS.iconst X7.here hx rfl (hb hby at_99) ?_
        show Steps p.tables e below (T7.setTop (mkF m 100 #[.val (.int i0), .val (.int i1), .val (.int (2 : Int32)), .val (.int (2 : Int32)), .val (.int (1 : Int32)), .val (.int (1 : Int32)), .val (.int (1 : Int32))] [(.int (1 : Int32))])) _
        refine XS.goto X7.here hx rfl (pc0 := 100) (pc' := 104) rfl (hb hby at_100) (by decide) (by decide) ?_
        show Steps p.tables e below (T7.setTop (mkF m 104 #[.val (.int i0), .val (.int i1), .val (.int (2 : Int32)), .val (.int (2 : Int32)), .val (.int (1 : Int32)), .val (.int (1 : Int32)), .val (.int (1 : Int32))] [(.int (1 : Int32))])) _
        exact retN X7 hx (t := .boolean) Bd.returns (by simp) (hb hby at_104) hr
      · show QL n0 _ T7.heap _
        exact ⟨rfl, N7⟩
    · obtain ⟨_, T1, L1, hQ1, X1, st1⟩ := own_callS X0 hx hZ (W := 0) hown (hw _ m0) (hw _ m1) (hw _ m2) (hw _ m3) (by decide) (rm11 l Z a0 hw w0 w1 w2 w3 hS [] h0 n0 O0) e0 (g := (mkF m 84 #[.val (.int i0), .val (.int i1), .val (.int (2 : Int32)), .val (.int (3 : Int32)), .val (.int (0 : Int32)), .unset, .unset] [(.int (2 : Int32))])) rfl (by rw [hml]; rfl) (argsL := [(.int (2 : Int32))]) (rest := []) (lenOf pd31 rfl) rfl rfl (by show 2 * 0 + _ ≤ _; exact Nat.le_of_eq rfl) (hb hby at_84) (by decide) (by decide) (by decide) (by decide)
      obtain ⟨rfl, N1q, e1⟩ := hQ1
      have N1 := Fr.app N0 N1q
      have e1' : T1.heap = h0 := e1
      obtain ⟨_, T2, L2, hQ2, X2, st2⟩ := own_callS X1 hx hZ (W := 1) hown (hw _ m0) (hw _ m1) (hw _ m2) (hw _ m3) (by decide) (rm13 l Z a0 hw w0 w1 w2 w3 hS [] h0 n0 O0) e1' (g := (mkF m 88 #[.val (.int i0), .val (.int i1), .val (.int (2 : Int32)), .val (.int (3 : Int32)), .val (.int (0 : Int32)), .unset, .unset] [(.int (3 : Int32)), (.ref w2)])) rfl (by rw [hml]; rfl) (argsL := [(.int (3 : Int32))]) (rest := [(.ref w2)]) (lenOf pd31 rfl) rfl rfl (by show 2 * 0 + _ ≤ _; exact Nat.le_of_eq rfl) (hb hby at_88) (by decide) (by decide) (by decide) (by decide)
      obtain ⟨rfl, N2q, e2⟩ := hQ2
      have N2 := Fr.app N1 N2q
      have e2' : T2.heap = h0 := e2
      obtain ⟨_, T3, L3, hQ3, X3, st3⟩ := own_virtual X2 hx hZ (W := 0) hown (hw _ m9) (hw _ m10) (notFace_of_selects (args := #[]) (mvT hZ (hw _ m12))) (hw _ m12) (hw _ m11) (hw _ m5) (hw _ m13) (by decide) (rm22 l Z a0 hw w0 w1 w2 w3 hS [] h0 n0 O0) e2' (hS.2.2.2.2.2.2.2.1.ext O0.2) (g := (mkF m 91 #[.val (.int i0), .val (.int i1), .val (.int (2 : Int32)), .val (.int (3 : Int32)), .val (.int (0 : Int32)), .unset, .unset] [(.ref w1), (.ref w2)])) rfl (by rw [hml]; rfl) (argsL := [(.ref w1)]) (rest := []) (lenOf pd56 rfl) rfl rfl (by show 2 * 0 + _ ≤ _; exact Nat.le_of_eq rfl) (hb hby at_91) (by decide) (by decide) (by decide) (by decide)
      obtain ⟨rfl, N3q, e3⟩ := hQ3
      have N3 := Fr.app N2 N3q
      have e3' : T3.heap = h0 := e3
      obtain ⟨fs, hr, hrun, hended, hW, hsame⟩ := X3.leave (v := some (.int (1 : Int32))) (fun h => by rw [Bd.returns] at h; cases h)
      refine ⟨_, _, pre2 _ ?_, hrun, hended, _, _, rfl, ?_, ⟨_, rfl⟩, hW, hsame.mono (by decide) (by decide)⟩
      · show Steps p.tables e below (s₁.setTop (mkF m 6 #[.val (.int i0), .val (.int i1), .val (.int (2 : Int32)), .unset, .unset, .unset, .unset] [(.int (3 : Int32)), (.int i1)])) _
        refine Own.iand X0.here hx rfl (hb hby at_6) rfl hp1 ?_
        show Steps p.tables e below (s₁.setTop (mkF m 7 #[.val (.int i0), .val (.int i1), .val (.int (2 : Int32)), .unset, .unset, .unset, .unset] [(.int (3 : Int32))])) _
        refine XS.istoreN X0.here hx rfl (hb hby at_7) rfl (l' := #[.val (.int i0), .val (.int i1), .val (.int (2 : Int32)), .val (.int (3 : Int32)), .unset, .unset, .unset]) rfl ?_
        show Steps p.tables e below (s₁.setTop (mkF m 8 #[.val (.int i0), .val (.int i1), .val (.int (2 : Int32)), .val (.int (3 : Int32)), .unset, .unset, .unset] [])) _
        refine XS.iloadN X0.here hx rfl (hb hby at_8) rfl ?_
        show Steps p.tables e below (s₁.setTop (mkF m 9 #[.val (.int i0), .val (.int i1), .val (.int (2 : Int32)), .val (.int (3 : Int32)), .unset, .unset, .unset] [(.int (2 : Int32))])) _
        refine XS.iconst X0.here hx rfl (hb hby at_9) ?_
        show Steps p.tables e below (s₁.setTop (mkF m 10 #[.val (.int i0), .val (.int i1), .val (.int (2 : Int32)), .val (.int (3 : Int32)), .unset, .unset, .unset] [(.int (3 : Int32)), (.int (2 : Int32))])) _
        refine XS.icmpNo X0.here hx rfl (hb hby at_10) rfl (feq (by decide : ¬ ((2 : Int32) = (3 : Int32)))).1 ?_
        show Steps p.tables e below (s₁.setTop (mkF m 13 #[.val (.int i0), .val (.int i1), .val (.int (2 : Int32)), .val (.int (3 : Int32)), .unset, .unset, .unset] [])) _
        refine XS.iloadN X0.here hx rfl (hb hby at_13) rfl ?_
        show Steps p.tables e below (s₁.setTop (mkF m 14 #[.val (.int i0), .val (.int i1), .val (.int (2 : Int32)), .val (.int (3 : Int32)), .unset, .unset, .unset] [(.int (3 : Int32))])) _
        refine XS.iconst X0.here hx rfl (hb hby at_14) ?_
        show Steps p.tables e below (s₁.setTop (mkF m 15 #[.val (.int i0), .val (.int i1), .val (.int (2 : Int32)), .val (.int (3 : Int32)), .unset, .unset, .unset] [(.int (3 : Int32)), (.int (3 : Int32))])) _
        refine XS.icmpNo X0.here hx rfl (hb hby at_15) rfl (teq (by decide : (3 : Int32) = (3 : Int32))).2 ?_
        show Steps p.tables e below (s₁.setTop (mkF m 18 #[.val (.int i0), .val (.int i1), .val (.int (2 : Int32)), .val (.int (3 : Int32)), .unset, .unset, .unset] [])) _
        refine XS.iconst X0.here hx rfl (hb hby at_18) ?_
        show Steps p.tables e below (s₁.setTop (mkF m 19 #[.val (.int i0), .val (.int i1), .val (.int (2 : Int32)), .val (.int (3 : Int32)), .unset, .unset, .unset] [(.int (0 : Int32))])) _
        refine XS.istore X0.here hx rfl (hb hby at_19) rfl (l' := #[.val (.int i0), .val (.int i1), .val (.int (2 : Int32)), .val (.int (3 : Int32)), .val (.int (0 : Int32)), .unset, .unset]) rfl ?_
        show Steps p.tables e below (s₁.setTop (mkF m 21 #[.val (.int i0), .val (.int i1), .val (.int (2 : Int32)), .val (.int (3 : Int32)), .val (.int (0 : Int32)), .unset, .unset] [])) _
        refine XS.goto X0.here hx rfl (pc0 := 21) (pc' := 83) rfl (hb hby at_21) (by decide) (by decide) ?_
        show Steps p.tables e below (s₁.setTop (mkF m 83 #[.val (.int i0), .val (.int i1), .val (.int (2 : Int32)), .val (.int (3 : Int32)), .val (.int (0 : Int32)), .unset, .unset] [])) _
        refine XS.iloadN X0.here hx rfl (hb hby at_83) rfl ?_
        show Steps p.tables e below (s₁.setTop (mkF m 84 #[.val (.int i0), .val (.int i1), .val (.int (2 : Int32)), .val (.int (3 : Int32)), .val (.int (0 : Int32)), .unset, .unset] [(.int (2 : Int32))])) _
        refine st1 _ ?_
        show Steps p.tables e below (T1.setTop (mkF m 87 #[.val (.int i0), .val (.int i1), .val (.int (2 : Int32)), .val (.int (3 : Int32)), .val (.int (0 : Int32)), .unset, .unset] [(.ref w2)])) _
        refine XS.iloadN X1.here hx rfl (hb hby at_87) rfl ?_
        show Steps p.tables e below (T1.setTop (mkF m 88 #[.val (.int i0), .val (.int i1), .val (.int (2 : Int32)), .val (.int (3 : Int32)), .val (.int (0 : Int32)), .unset, .unset] [(.int (3 : Int32)), (.ref w2)])) _
        refine st2 _ ?_
        show Steps p.tables e below (T2.setTop (mkF m 91 #[.val (.int i0), .val (.int i1), .val (.int (2 : Int32)), .val (.int (3 : Int32)), .val (.int (0 : Int32)), .unset, .unset] [(.ref w1), (.ref w2)])) _
        refine st3 _ ?_
        show Steps p.tables e below (T3.setTop (mkF m 94 #[.val (.int i0), .val (.int i1), .val (.int (2 : Int32)), .val (.int (3 : Int32)), .val (.int (0 : Int32)), .unset, .unset] [(.int (0 : Int32))])) _
        refine XS.iload X3.here hx rfl (hb hby at_94) rfl ?_
        show Steps p.tables e below (T3.setTop (mkF m 96 #[.val (.int i0), .val (.int i1), .val (.int (2 : Int32)), .val (.int (3 : Int32)), .val (.int (0 : Int32)), .unset, .unset] [(.int (0 : Int32)), (.int (0 : Int32))])) _
        refine XS.icmpNo X3.here hx rfl (hb hby at_96) rfl (teq (by decide : (0 : Int32) = (0 : Int32))).2 ?_
        show Steps p.tables e below (T3.setTop (mkF m 99 #[.val (.int i0), .val (.int i1), .val (.int (2 : Int32)), .val (.int (3 : Int32)), .val (.int (0 : Int32)), .unset, .unset] [])) _
        refine XS.iconst X3.here hx rfl (hb hby at_99) ?_
        show Steps p.tables e below (T3.setTop (mkF m 100 #[.val (.int i0), .val (.int i1), .val (.int (2 : Int32)), .val (.int (3 : Int32)), .val (.int (0 : Int32)), .unset, .unset] [(.int (1 : Int32))])) _
        refine XS.goto X3.here hx rfl (pc0 := 100) (pc' := 104) rfl (hb hby at_100) (by decide) (by decide) ?_
        show Steps p.tables e below (T3.setTop (mkF m 104 #[.val (.int i0), .val (.int i1), .val (.int (2 : Int32)), .val (.int (3 : Int32)), .val (.int (0 : Int32)), .unset, .unset] [(.int (1 : Int32))])) _
        exact retN X3 hx (t := .boolean) Bd.returns (by simp) (hb hby at_104) hr
      · show QL n0 _ T3.heap _
        exact ⟨rfl, N3⟩
  · have pre2 : ∀ t, Steps p.tables e below (s₁.setTop (mkF m 6 #[.val (.int i0), .val (.int i1), .val (.int (3 : Int32)), .unset, .unset, .unset, .unset] [(.int (3 : Int32)), (.int i1)])) t → Steps p.tables e below (s₁.setTop (entryFrame m #[(.int i0), (.int i1)] maxLocals)) t := fun t kt => pre1 _ (by
        show Steps p.tables e below (s₁.setTop (mkF m 2 #[.val (.int i0), .val (.int i1), .unset, .unset, .unset, .unset, .unset] [(.int (3 : Int32)), (.int i0)])) _
        refine Own.iand X0.here hx rfl (hb hby at_2) rfl hp0 ?_
        show Steps p.tables e below (s₁.setTop (mkF m 3 #[.val (.int i0), .val (.int i1), .unset, .unset, .unset, .unset, .unset] [(.int (3 : Int32))])) _
        refine XS.istoreN X0.here hx rfl (hb hby at_3) rfl (l' := #[.val (.int i0), .val (.int i1), .val (.int (3 : Int32)), .unset, .unset, .unset, .unset]) rfl ?_
        show Steps p.tables e below (s₁.setTop (mkF m 4 #[.val (.int i0), .val (.int i1), .val (.int (3 : Int32)), .unset, .unset, .unset, .unset] [])) _
        refine XS.iloadN X0.here hx rfl (hb hby at_4) rfl ?_
        show Steps p.tables e below (s₁.setTop (mkF m 5 #[.val (.int i0), .val (.int i1), .val (.int (3 : Int32)), .unset, .unset, .unset, .unset] [(.int i1)])) _
        refine XS.iconst X0.here hx rfl (hb hby at_5) ?_
        exact kt)
    rcases en_0 (i1 &&& (3 : Int32)) (by have q0 := (own_mask i1 (3 : Int32) (by decide) : 0 ≤ ((i1 &&& (3 : Int32))).toInt ∧ ((i1 &&& (3 : Int32))).toInt ≤ 3); omega) with hp1 | hp1 | hp1 | hp1
    · obtain ⟨_, T1, L1, hQ1, X1, st1⟩ := own_callS X0 hx hZ (W := 0) hown (hw _ m0) (hw _ m1) (hw _ m2) (hw _ m3) (by decide) (rm13 l Z a0 hw w0 w1 w2 w3 hS [] h0 n0 O0) e0 (g := (mkF m 84 #[.val (.int i0), .val (.int i1), .val (.int (3 : Int32)), .val (.int (0 : Int32)), .val (.int (0 : Int32)), .unset, .unset] [(.int (3 : Int32))])) rfl (by rw [hml]; rfl) (argsL := [(.int (3 : Int32))]) (rest := []) (lenOf pd31 rfl) rfl rfl (by show 2 * 0 + _ ≤ _; exact Nat.le_of_eq rfl) (hb hby at_84) (by decide) (by decide) (by decide) (by decide)
      obtain ⟨rfl, N1q, e1⟩ := hQ1
      have N1 := Fr.app N0 N1q
      have e1' : T1.heap = h0 := e1
      obtain ⟨_, T2, L2, hQ2, X2, st2⟩ := own_callS X1 hx hZ (W := 1) hown (hw _ m0) (hw _ m1) (hw _ m2) (hw _ m3) (by decide) (rm3 l Z a0 hw w0 w1 w2 w3 hS [] h0 n0 O0) e1' (g := (mkF m 88 #[.val (.int i0), .val (.int i1), .val (.int (3 : Int32)), .val (.int (0 : Int32)), .val (.int (0 : Int32)), .unset, .unset] [(.int (0 : Int32)), (.ref w1)])) rfl (by rw [hml]; rfl) (argsL := [(.int (0 : Int32))]) (rest := [(.ref w1)]) (lenOf pd31 rfl) rfl rfl (by show 2 * 0 + _ ≤ _; exact Nat.le_of_eq rfl) (hb hby at_88) (by decide) (by decide) (by decide) (by decide)
      obtain ⟨rfl, N2q, e2⟩ := hQ2
      have N2 := Fr.app N1 N2q
      have e2' : T2.heap = h0 := e2
      obtain ⟨_, T3, L3, hQ3, X3, st3⟩ := own_virtual X2 hx hZ (W := 0) hown (hw _ m9) (hw _ m10) (notFace_of_selects (args := #[]) (mvT hZ (hw _ m12))) (hw _ m12) (hw _ m11) (hw _ m5) (hw _ m13) (by decide) (rm23 l Z a0 hw w0 w1 w2 w3 hS [] h0 n0 O0) e2' (hS.2.2.2.2.1.ext O0.2) (g := (mkF m 91 #[.val (.int i0), .val (.int i1), .val (.int (3 : Int32)), .val (.int (0 : Int32)), .val (.int (0 : Int32)), .unset, .unset] [(.ref w3), (.ref w1)])) rfl (by rw [hml]; rfl) (argsL := [(.ref w3)]) (rest := []) (lenOf pd56 rfl) rfl rfl (by show 2 * 0 + _ ≤ _; exact Nat.le_of_eq rfl) (hb hby at_91) (by decide) (by decide) (by decide) (by decide)
      obtain ⟨rfl, N3q, e3⟩ := hQ3
      have N3 := Fr.app N2 N3q
      have e3' : T3.heap = h0 := e3
      obtain ⟨fs, hr, hrun, hended, hW, hsame⟩ := X3.leave (v := some (.int (1 : Int32))) (fun h => by rw [Bd.returns] at h; cases h)
      refine ⟨_, _, pre2 _ ?_, hrun, hended, _, _, rfl, ?_, ⟨_, rfl⟩, hW, hsame.mono (by decide) (by decide)⟩
      · show Steps p.tables e below (s₁.setTop (mkF m 6 #[.val (.int i0), .val (.int i1), .val (.int (3 : Int32)), .unset, .unset, .unset, .unset] [(.int (3 : Int32)), (.int i1)])) _
        refine Own.iand X0.here hx rfl (hb hby at_6) rfl hp1 ?_
        show Steps p.tables e below (s₁.setTop (mkF m 7 #[.val (.int i0), .val (.int i1), .val (.int (3 : Int32)), .unset, .unset, .unset, .unset] [(.int (0 : Int32))])) _
        refine XS.istoreN X0.here hx rfl (hb hby at_7) rfl (l' := #[.val (.int i0), .val (.int i1), .val (.int (3 : Int32)), .val (.int (0 : Int32)), .unset, .unset, .unset]) rfl ?_
        show Steps p.tables e below (s₁.setTop (mkF m 8 #[.val (.int i0), .val (.int i1), .val (.int (3 : Int32)), .val (.int (0 : Int32)), .unset, .unset, .unset] [])) _
        refine XS.iloadN X0.here hx rfl (hb hby at_8) rfl ?_
        show Steps p.tables e below (s₁.setTop (mkF m 9 #[.val (.int i0), .val (.int i1), .val (.int (3 : Int32)), .val (.int (0 : Int32)), .unset, .unset, .unset] [(.int (3 : Int32))])) _
        refine XS.iconst X0.here hx rfl (hb hby at_9) ?_
        show Steps p.tables e below (s₁.setTop (mkF m 10 #[.val (.int i0), .val (.int i1), .val (.int (3 : Int32)), .val (.int (0 : Int32)), .unset, .unset, .unset] [(.int (3 : Int32)), (.int (3 : Int32))])) _
        refine XS.icmpYes X0.here hx rfl (pc0 := 10) (pc' := 18) rfl (hb hby at_10) rfl (teq (by decide : (3 : Int32) = (3 : Int32))).1 (by decide) (by decide) ?_
        show Steps p.tables e below (s₁.setTop (mkF m 18 #[.val (.int i0), .val (.int i1), .val (.int (3 : Int32)), .val (.int (0 : Int32)), .unset, .unset, .unset] [])) _
        refine XS.iconst X0.here hx rfl (hb hby at_18) ?_
        show Steps p.tables e below (s₁.setTop (mkF m 19 #[.val (.int i0), .val (.int i1), .val (.int (3 : Int32)), .val (.int (0 : Int32)), .unset, .unset, .unset] [(.int (0 : Int32))])) _
        refine XS.istore X0.here hx rfl (hb hby at_19) rfl (l' := #[.val (.int i0), .val (.int i1), .val (.int (3 : Int32)), .val (.int (0 : Int32)), .val (.int (0 : Int32)), .unset, .unset]) rfl ?_
        show Steps p.tables e below (s₁.setTop (mkF m 21 #[.val (.int i0), .val (.int i1), .val (.int (3 : Int32)), .val (.int (0 : Int32)), .val (.int (0 : Int32)), .unset, .unset] [])) _
        refine XS.goto X0.here hx rfl (pc0 := 21) (pc' := 83) rfl (hb hby at_21) (by decide) (by decide) ?_
        show Steps p.tables e below (s₁.setTop (mkF m 83 #[.val (.int i0), .val (.int i1), .val (.int (3 : Int32)), .val (.int (0 : Int32)), .val (.int (0 : Int32)), .unset, .unset] [])) _
        refine XS.iloadN X0.here hx rfl (hb hby at_83) rfl ?_
        show Steps p.tables e below (s₁.setTop (mkF m 84 #[.val (.int i0), .val (.int i1), .val (.int (3 : Int32)), .val (.int (0 : Int32)), .val (.int (0 : Int32)), .unset, .unset] [(.int (3 : Int32))])) _
        refine st1 _ ?_
        show Steps p.tables e below (T1.setTop (mkF m 87 #[.val (.int i0), .val (.int i1), .val (.int (3 : Int32)), .val (.int (0 : Int32)), .val (.int (0 : Int32)), .unset, .unset] [(.ref w1)])) _
        refine XS.iloadN X1.here hx rfl (hb hby at_87) rfl ?_
        show Steps p.tables e below (T1.setTop (mkF m 88 #[.val (.int i0), .val (.int i1), .val (.int (3 : Int32)), .val (.int (0 : Int32)), .val (.int (0 : Int32)), .unset, .unset] [(.int (0 : Int32)), (.ref w1)])) _
        refine st2 _ ?_
        show Steps p.tables e below (T2.setTop (mkF m 91 #[.val (.int i0), .val (.int i1), .val (.int (3 : Int32)), .val (.int (0 : Int32)), .val (.int (0 : Int32)), .unset, .unset] [(.ref w3), (.ref w1)])) _
        refine st3 _ ?_
        show Steps p.tables e below (T3.setTop (mkF m 94 #[.val (.int i0), .val (.int i1), .val (.int (3 : Int32)), .val (.int (0 : Int32)), .val (.int (0 : Int32)), .unset, .unset] [(.int (0 : Int32))])) _
        refine XS.iload X3.here hx rfl (hb hby at_94) rfl ?_
        show Steps p.tables e below (T3.setTop (mkF m 96 #[.val (.int i0), .val (.int i1), .val (.int (3 : Int32)), .val (.int (0 : Int32)), .val (.int (0 : Int32)), .unset, .unset] [(.int (0 : Int32)), (.int (0 : Int32))])) _
        refine XS.icmpNo X3.here hx rfl (hb hby at_96) rfl (teq (by decide : (0 : Int32) = (0 : Int32))).2 ?_
        show Steps p.tables e below (T3.setTop (mkF m 99 #[.val (.int i0), .val (.int i1), .val (.int (3 : Int32)), .val (.int (0 : Int32)), .val (.int (0 : Int32)), .unset, .unset] [])) _
        refine XS.iconst X3.here hx rfl (hb hby at_99) ?_
        show Steps p.tables e below (T3.setTop (mkF m 100 #[.val (.int i0), .val (.int i1), .val (.int (3 : Int32)), .val (.int (0 : Int32)), .val (.int (0 : Int32)), .unset, .unset] [(.int (1 : Int32))])) _
        refine XS.goto X3.here hx rfl (pc0 := 100) (pc' := 104) rfl (hb hby at_100) (by decide) (by decide) ?_
        show Steps p.tables e below (T3.setTop (mkF m 104 #[.val (.int i0), .val (.int i1), .val (.int (3 : Int32)), .val (.int (0 : Int32)), .val (.int (0 : Int32)), .unset, .unset] [(.int (1 : Int32))])) _
        exact retN X3 hx (t := .boolean) Bd.returns (by simp) (hb hby at_104) hr
      · show QL n0 _ T3.heap _
        exact ⟨rfl, N3⟩
    · obtain ⟨_, T1, L1, hQ1, X1, st1⟩ := own_callS X0 hx hZ (W := 0) hown (hw _ m0) (hw _ m1) (hw _ m2) (hw _ m3) (by decide) (rm13 l Z a0 hw w0 w1 w2 w3 hS [] h0 n0 O0) e0 (g := (mkF m 84 #[.val (.int i0), .val (.int i1), .val (.int (3 : Int32)), .val (.int (1 : Int32)), .val (.int (0 : Int32)), .unset, .unset] [(.int (3 : Int32))])) rfl (by rw [hml]; rfl) (argsL := [(.int (3 : Int32))]) (rest := []) (lenOf pd31 rfl) rfl rfl (by show 2 * 0 + _ ≤ _; exact Nat.le_of_eq rfl) (hb hby at_84) (by decide) (by decide) (by decide) (by decide)
      obtain ⟨rfl, N1q, e1⟩ := hQ1
      have N1 := Fr.app N0 N1q
      have e1' : T1.heap = h0 := e1
      obtain ⟨_, T2, L2, hQ2, X2, st2⟩ := own_callS X1 hx hZ (W := 1) hown (hw _ m0) (hw _ m1) (hw _ m2) (hw _ m3) (by decide) (rm7 l Z a0 hw w0 w1 w2 w3 hS [] h0 n0 O0) e1' (g := (mkF m 88 #[.val (.int i0), .val (.int i1), .val (.int (3 : Int32)), .val (.int (1 : Int32)), .val (.int (0 : Int32)), .unset, .unset] [(.int (1 : Int32)), (.ref w1)])) rfl (by rw [hml]; rfl) (argsL := [(.int (1 : Int32))]) (rest := [(.ref w1)]) (lenOf pd31 rfl) rfl rfl (by show 2 * 0 + _ ≤ _; exact Nat.le_of_eq rfl) (hb hby at_88) (by decide) (by decide) (by decide) (by decide)
      obtain ⟨rfl, N2q, e2⟩ := hQ2
      have N2 := Fr.app N1 N2q
      have e2' : T2.heap = h0 := e2
      obtain ⟨_, T3, L3, hQ3, X3, st3⟩ := own_virtual X2 hx hZ (W := 0) hown (hw _ m9) (hw _ m10) (notFace_of_selects (args := #[]) (mvT hZ (hw _ m12))) (hw _ m12) (hw _ m11) (hw _ m5) (hw _ m13) (by decide) (rm24 l Z a0 hw w0 w1 w2 w3 hS [] h0 n0 O0) e2' (hS.2.2.2.2.1.ext O0.2) (g := (mkF m 91 #[.val (.int i0), .val (.int i1), .val (.int (3 : Int32)), .val (.int (1 : Int32)), .val (.int (0 : Int32)), .unset, .unset] [(.ref w0), (.ref w1)])) rfl (by rw [hml]; rfl) (argsL := [(.ref w0)]) (rest := []) (lenOf pd56 rfl) rfl rfl (by show 2 * 0 + _ ≤ _; exact Nat.le_of_eq rfl) (hb hby at_91) (by decide) (by decide) (by decide) (by decide)
      obtain ⟨rfl, N3q, e3⟩ := hQ3
      have N3 := Fr.app N2 N3q
      have e3' : T3.heap = h0 := e3
      obtain ⟨fs, hr, hrun, hended, hW, hsame⟩ := X3.leave (v := some (.int (1 : Int32))) (fun h => by rw [Bd.returns] at h; cases h)
      refine ⟨_, _, pre2 _ ?_, hrun, hended, _, _, rfl, ?_, ⟨_, rfl⟩, hW, hsame.mono (by decide) (by decide)⟩
      · show Steps p.tables e below (s₁.setTop (mkF m 6 #[.val (.int i0), .val (.int i1), .val (.int (3 : Int32)), .unset, .unset, .unset, .unset] [(.int (3 : Int32)), (.int i1)])) _
        refine Own.iand X0.here hx rfl (hb hby at_6) rfl hp1 ?_
        show Steps p.tables e below (s₁.setTop (mkF m 7 #[.val (.int i0), .val (.int i1), .val (.int (3 : Int32)), .unset, .unset, .unset, .unset] [(.int (1 : Int32))])) _
        refine XS.istoreN X0.here hx rfl (hb hby at_7) rfl (l' := #[.val (.int i0), .val (.int i1), .val (.int (3 : Int32)), .val (.int (1 : Int32)), .unset, .unset, .unset]) rfl ?_
        show Steps p.tables e below (s₁.setTop (mkF m 8 #[.val (.int i0), .val (.int i1), .val (.int (3 : Int32)), .val (.int (1 : Int32)), .unset, .unset, .unset] [])) _
        refine XS.iloadN X0.here hx rfl (hb hby at_8) rfl ?_
        show Steps p.tables e below (s₁.setTop (mkF m 9 #[.val (.int i0), .val (.int i1), .val (.int (3 : Int32)), .val (.int (1 : Int32)), .unset, .unset, .unset] [(.int (3 : Int32))])) _
        refine XS.iconst X0.here hx rfl (hb hby at_9) ?_
        show Steps p.tables e below (s₁.setTop (mkF m 10 #[.val (.int i0), .val (.int i1), .val (.int (3 : Int32)), .val (.int (1 : Int32)), .unset, .unset, .unset] [(.int (3 : Int32)), (.int (3 : Int32))])) _
        refine XS.icmpYes X0.here hx rfl (pc0 := 10) (pc' := 18) rfl (hb hby at_10) rfl (teq (by decide : (3 : Int32) = (3 : Int32))).1 (by decide) (by decide) ?_
        show Steps p.tables e below (s₁.setTop (mkF m 18 #[.val (.int i0), .val (.int i1), .val (.int (3 : Int32)), .val (.int (1 : Int32)), .unset, .unset, .unset] [])) _
        refine XS.iconst X0.here hx rfl (hb hby at_18) ?_
        show Steps p.tables e below (s₁.setTop (mkF m 19 #[.val (.int i0), .val (.int i1), .val (.int (3 : Int32)), .val (.int (1 : Int32)), .unset, .unset, .unset] [(.int (0 : Int32))])) _
        refine XS.istore X0.here hx rfl (hb hby at_19) rfl (l' := #[.val (.int i0), .val (.int i1), .val (.int (3 : Int32)), .val (.int (1 : Int32)), .val (.int (0 : Int32)), .unset, .unset]) rfl ?_
        show Steps p.tables e below (s₁.setTop (mkF m 21 #[.val (.int i0), .val (.int i1), .val (.int (3 : Int32)), .val (.int (1 : Int32)), .val (.int (0 : Int32)), .unset, .unset] [])) _
        refine XS.goto X0.here hx rfl (pc0 := 21) (pc' := 83) rfl (hb hby at_21) (by decide) (by decide) ?_
        show Steps p.tables e below (s₁.setTop (mkF m 83 #[.val (.int i0), .val (.int i1), .val (.int (3 : Int32)), .val (.int (1 : Int32)), .val (.int (0 : Int32)), .unset, .unset] [])) _
        refine XS.iloadN X0.here hx rfl (hb hby at_83) rfl ?_
        show Steps p.tables e below (s₁.setTop (mkF m 84 #[.val (.int i0), .val (.int i1), .val (.int (3 : Int32)), .val (.int (1 : Int32)), .val (.int (0 : Int32)), .unset, .unset] [(.int (3 : Int32))])) _
        refine st1 _ ?_
        show Steps p.tables e below (T1.setTop (mkF m 87 #[.val (.int i0), .val (.int i1), .val (.int (3 : Int32)), .val (.int (1 : Int32)), .val (.int (0 : Int32)), .unset, .unset] [(.ref w1)])) _
        refine XS.iloadN X1.here hx rfl (hb hby at_87) rfl ?_
        show Steps p.tables e below (T1.setTop (mkF m 88 #[.val (.int i0), .val (.int i1), .val (.int (3 : Int32)), .val (.int (1 : Int32)), .val (.int (0 : Int32)), .unset, .unset] [(.int (1 : Int32)), (.ref w1)])) _
        refine st2 _ ?_
        show Steps p.tables e below (T2.setTop (mkF m 91 #[.val (.int i0), .val (.int i1), .val (.int (3 : Int32)), .val (.int (1 : Int32)), .val (.int (0 : Int32)), .unset, .unset] [(.ref w0), (.ref w1)])) _
        refine st3 _ ?_
        show Steps p.tables e below (T3.setTop (mkF m 94 #[.val (.int i0), .val (.int i1), .val (.int (3 : Int32)), .val (.int (1 : Int32)), .val (.int (0 : Int32)), .unset, .unset] [(.int (0 : Int32))])) _
        refine XS.iload X3.here hx rfl (hb hby at_94) rfl ?_
        show Steps p.tables e below (T3.setTop (mkF m 96 #[.val (.int i0), .val (.int i1), .val (.int (3 : Int32)), .val (.int (1 : Int32)), .val (.int (0 : Int32)), .unset, .unset] [(.int (0 : Int32)), (.int (0 : Int32))])) _
        refine XS.icmpNo X3.here hx rfl (hb hby at_96) rfl (teq (by decide : (0 : Int32) = (0 : Int32))).2 ?_
        show Steps p.tables e below (T3.setTop (mkF m 99 #[.val (.int i0), .val (.int i1), .val (.int (3 : Int32)), .val (.int (1 : Int32)), .val (.int (0 : Int32)), .unset, .unset] [])) _
        refine XS.iconst X3.here hx rfl (hb hby at_99) ?_
        show Steps p.tables e below (T3.setTop (mkF m 100 #[.val (.int i0), .val (.int i1), .val (.int (3 : Int32)), .val (.int (1 : Int32)), .val (.int (0 : Int32)), .unset, .unset] [(.int (1 : Int32))])) _
        refine XS.goto X3.here hx rfl (pc0 := 100) (pc' := 104) rfl (hb hby at_100) (by decide) (by decide) ?_
        show Steps p.tables e below (T3.setTop (mkF m 104 #[.val (.int i0), .val (.int i1), .val (.int (3 : Int32)), .val (.int (1 : Int32)), .val (.int (0 : Int32)), .unset, .unset] [(.int (1 : Int32))])) _
        exact retN X3 hx (t := .boolean) Bd.returns (by simp) (hb hby at_104) hr
      · show QL n0 _ T3.heap _
        exact ⟨rfl, N3⟩
    · obtain ⟨_, T1, L1, hQ1, X1, st1⟩ := own_callS X0 hx hZ (W := 0) hown (hw _ m0) (hw _ m1) (hw _ m2) (hw _ m3) (by decide) (rm13 l Z a0 hw w0 w1 w2 w3 hS [] h0 n0 O0) e0 (g := (mkF m 84 #[.val (.int i0), .val (.int i1), .val (.int (3 : Int32)), .val (.int (2 : Int32)), .val (.int (0 : Int32)), .unset, .unset] [(.int (3 : Int32))])) rfl (by rw [hml]; rfl) (argsL := [(.int (3 : Int32))]) (rest := []) (lenOf pd31 rfl) rfl rfl (by show 2 * 0 + _ ≤ _; exact Nat.le_of_eq rfl) (hb hby at_84) (by decide) (by decide) (by decide) (by decide)
      obtain ⟨rfl, N1q, e1⟩ := hQ1
      have N1 := Fr.app N0 N1q
      have e1' : T1.heap = h0 := e1
      obtain ⟨_, T2, L2, hQ2, X2, st2⟩ := own_callS X1 hx hZ (W := 1) hown (hw _ m0) (hw _ m1) (hw _ m2) (hw _ m3) (by decide) (rm11 l Z a0 hw w0 w1 w2 w3 hS [] h0 n0 O0) e1' (g := (mkF m 88 #[.val (.int i0), .val (.int i1), .val (.int (3 : Int32)), .val (.int (2 : Int32)), .val (.int (0 : Int32)), .unset, .unset] [(.int (2 : Int32)), (.ref w1)])) rfl (by rw [hml]; rfl) (argsL := [(.int (2 : Int32))]) (rest := [(.ref w1)]) (lenOf pd31 rfl) rfl rfl (by show 2 * 0 + _ ≤ _; exact Nat.le_of_eq rfl) (hb hby at_88) (by decide) (by decide) (by decide) (by decide)
      obtain ⟨rfl, N2q, e2⟩ := hQ2
      have N2 := Fr.app N1 N2q
      have e2' : T2.heap = h0 := e2
      obtain ⟨_, T3, L3, hQ3, X3, st3⟩ := own_virtual X2 hx hZ (W := 0) hown (hw _ m9) (hw _ m10) (notFace_of_selects (args := #[]) (mvT hZ (hw _ m12))) (hw _ m12) (hw _ m11) (hw _ m5) (hw _ m13) (by decide) (rm25 l Z a0 hw w0 w1 w2 w3 hS [] h0 n0 O0) e2' (hS.2.2.2.2.1.ext O0.2) (g := (mkF m 91 #[.val (.int i0), .val (.int i1), .val (.int (3 : Int32)), .val (.int (2 : Int32)), .val (.int (0 : Int32)), .unset, .unset] [(.ref w2), (.ref w1)])) rfl (by rw [hml]; rfl) (argsL := [(.ref w2)]) (rest := []) (lenOf pd56 rfl) rfl rfl (by show 2 * 0 + _ ≤ _; exact Nat.le_of_eq rfl) (hb hby at_91) (by decide) (by decide) (by decide) (by decide)
      obtain ⟨rfl, N3q, e3⟩ := hQ3
      have N3 := Fr.app N2 N3q
      have e3' : T3.heap = h0 := e3
      obtain ⟨fs, hr, hrun, hended, hW, hsame⟩ := X3.leave (v := some (.int (1 : Int32))) (fun h => by rw [Bd.returns] at h; cases h)
      refine ⟨_, _, pre2 _ ?_, hrun, hended, _, _, rfl, ?_, ⟨_, rfl⟩, hW, hsame.mono (by decide) (by decide)⟩
      · show Steps p.tables e below (s₁.setTop (mkF m 6 #[.val (.int i0), .val (.int i1), .val (.int (3 : Int32)), .unset, .unset, .unset, .unset] [(.int (3 : Int32)), (.int i1)])) _
        refine Own.iand X0.here hx rfl (hb hby at_6) rfl hp1 ?_
        show Steps p.tables e below (s₁.setTop (mkF m 7 #[.val (.int i0), .val (.int i1), .val (.int (3 : Int32)), .unset, .unset, .unset, .unset] [(.int (2 : Int32))])) _
        refine XS.istoreN X0.here hx rfl (hb hby at_7) rfl (l' := #[.val (.int i0), .val (.int i1), .val (.int (3 : Int32)), .val (.int (2 : Int32)), .unset, .unset, .unset]) rfl ?_
        show Steps p.tables e below (s₁.setTop (mkF m 8 #[.val (.int i0), .val (.int i1), .val (.int (3 : Int32)), .val (.int (2 : Int32)), .unset, .unset, .unset] [])) _
        refine XS.iloadN X0.here hx rfl (hb hby at_8) rfl ?_
        show Steps p.tables e below (s₁.setTop (mkF m 9 #[.val (.int i0), .val (.int i1), .val (.int (3 : Int32)), .val (.int (2 : Int32)), .unset, .unset, .unset] [(.int (3 : Int32))])) _
        refine XS.iconst X0.here hx rfl (hb hby at_9) ?_
        show Steps p.tables e below (s₁.setTop (mkF m 10 #[.val (.int i0), .val (.int i1), .val (.int (3 : Int32)), .val (.int (2 : Int32)), .unset, .unset, .unset] [(.int (3 : Int32)), (.int (3 : Int32))])) _
        refine XS.icmpYes X0.here hx rfl (pc0 := 10) (pc' := 18) rfl (hb hby at_10) rfl (teq (by decide : (3 : Int32) = (3 : Int32))).1 (by decide) (by decide) ?_
        show Steps p.tables e below (s₁.setTop (mkF m 18 #[.val (.int i0), .val (.int i1), .val (.int (3 : Int32)), .val (.int (2 : Int32)), .unset, .unset, .unset] [])) _
        refine XS.iconst X0.here hx rfl (hb hby at_18) ?_
        show Steps p.tables e below (s₁.setTop (mkF m 19 #[.val (.int i0), .val (.int i1), .val (.int (3 : Int32)), .val (.int (2 : Int32)), .unset, .unset, .unset] [(.int (0 : Int32))])) _
        refine XS.istore X0.here hx rfl (hb hby at_19) rfl (l' := #[.val (.int i0), .val (.int i1), .val (.int (3 : Int32)), .val (.int (2 : Int32)), .val (.int (0 : Int32)), .unset, .unset]) rfl ?_
        show Steps p.tables e below (s₁.setTop (mkF m 21 #[.val (.int i0), .val (.int i1), .val (.int (3 : Int32)), .val (.int (2 : Int32)), .val (.int (0 : Int32)), .unset, .unset] [])) _
        refine XS.goto X0.here hx rfl (pc0 := 21) (pc' := 83) rfl (hb hby at_21) (by decide) (by decide) ?_
        show Steps p.tables e below (s₁.setTop (mkF m 83 #[.val (.int i0), .val (.int i1), .val (.int (3 : Int32)), .val (.int (2 : Int32)), .val (.int (0 : Int32)), .unset, .unset] [])) _
        refine XS.iloadN X0.here hx rfl (hb hby at_83) rfl ?_
        show Steps p.tables e below (s₁.setTop (mkF m 84 #[.val (.int i0), .val (.int i1), .val (.int (3 : Int32)), .val (.int (2 : Int32)), .val (.int (0 : Int32)), .unset, .unset] [(.int (3 : Int32))])) _
        refine st1 _ ?_
        show Steps p.tables e below (T1.setTop (mkF m 87 #[.val (.int i0), .val (.int i1), .val (.int (3 : Int32)), .val (.int (2 : Int32)), .val (.int (0 : Int32)), .unset, .unset] [(.ref w1)])) _
        refine XS.iloadN X1.here hx rfl (hb hby at_87) rfl ?_
        show Steps p.tables e below (T1.setTop (mkF m 88 #[.val (.int i0), .val (.int i1), .val (.int (3 : Int32)), .val (.int (2 : Int32)), .val (.int (0 : Int32)), .unset, .unset] [(.int (2 : Int32)), (.ref w1)])) _
        refine st2 _ ?_
        show Steps p.tables e below (T2.setTop (mkF m 91 #[.val (.int i0), .val (.int i1), .val (.int (3 : Int32)), .val (.int (2 : Int32)), .val (.int (0 : Int32)), .unset, .unset] [(.ref w2), (.ref w1)])) _
        refine st3 _ ?_
        show Steps p.tables e below (T3.setTop (mkF m 94 #[.val (.int i0), .val (.int i1), .val (.int (3 : Int32)), .val (.int (2 : Int32)), .val (.int (0 : Int32)), .unset, .unset] [(.int (0 : Int32))])) _
        refine XS.iload X3.here hx rfl (hb hby at_94) rfl ?_
        show Steps p.tables e below (T3.setTop (mkF m 96 #[.val (.int i0), .val (.int i1), .val (.int (3 : Int32)), .val (.int (2 : Int32)), .val (.int (0 : Int32)), .unset, .unset] [(.int (0 : Int32)), (.int (0 : Int32))])) _
        refine XS.icmpNo X3.here hx rfl (hb hby at_96) rfl (teq (by decide : (0 : Int32) = (0 : Int32))).2 ?_
        show Steps p.tables e below (T3.setTop (mkF m 99 #[.val (.int i0), .val (.int i1), .val (.int (3 : Int32)), .val (.int (2 : Int32)), .val (.int (0 : Int32)), .unset, .unset] [])) _
        refine XS.iconst X3.here hx rfl (hb hby at_99) ?_
        show Steps p.tables e below (T3.setTop (mkF m 100 #[.val (.int i0), .val (.int i1), .val (.int (3 : Int32)), .val (.int (2 : Int32)), .val (.int (0 : Int32)), .unset, .unset] [(.int (1 : Int32))])) _
        refine XS.goto X3.here hx rfl (pc0 := 100) (pc' := 104) rfl (hb hby at_100) (by decide) (by decide) ?_
        show Steps p.tables e below (T3.setTop (mkF m 104 #[.val (.int i0), .val (.int i1), .val (.int (3 : Int32)), .val (.int (2 : Int32)), .val (.int (0 : Int32)), .unset, .unset] [(.int (1 : Int32))])) _
        exact retN X3 hx (t := .boolean) Bd.returns (by simp) (hb hby at_104) hr
      · show QL n0 _ T3.heap _
        exact ⟨rfl, N3⟩
    · obtain ⟨_, T1, L1, hQ1, X1, st1⟩ := own_callS X0 hx hZ (W := 0) hown (hw _ m0) (hw _ m1) (hw _ m2) (hw _ m3) (by decide) (rm13 l Z a0 hw w0 w1 w2 w3 hS [] h0 n0 O0) e0 (g := (mkF m 84 #[.val (.int i0), .val (.int i1), .val (.int (3 : Int32)), .val (.int (3 : Int32)), .val (.int (0 : Int32)), .unset, .unset] [(.int (3 : Int32))])) rfl (by rw [hml]; rfl) (argsL := [(.int (3 : Int32))]) (rest := []) (lenOf pd31 rfl) rfl rfl (by show 2 * 0 + _ ≤ _; exact Nat.le_of_eq rfl) (hb hby at_84) (by decide) (by decide) (by decide) (by decide)
      obtain ⟨rfl, N1q, e1⟩ := hQ1
      have N1 := Fr.app N0 N1q
      have e1' : T1.heap = h0 := e1
      obtain ⟨_, T2, L2, hQ2, X2, st2⟩ := own_callS X1 hx hZ (W := 1) hown (hw _ m0) (hw _ m1) (hw _ m2) (hw _ m3) (by decide) (rm13 l Z a0 hw w0 w1 w2 w3 hS [] h0 n0 O0) e1' (g := (mkF m 88 #[.val (.int i0), .val (.int i1), .val (.int (3 : Int32)), .val (.int (3 : Int32)), .val (.int (0 : Int32)), .unset, .unset] [(.int (3 : Int32)), (.ref w1)])) rfl (by rw [hml]; rfl) (argsL := [(.int (3 : Int32))]) (rest := [(.ref w1)]) (lenOf pd31 rfl) rfl rfl (by show 2 * 0 + _ ≤ _; exact Nat.le_of_eq rfl) (hb hby at_88) (by decide) (by decide) (by decide) (by decide)
      obtain ⟨rfl, N2q, e2⟩ := hQ2
      have N2 := Fr.app N1 N2q
      have e2' : T2.heap = h0 := e2
      obtain ⟨_, T3, L3, hQ3, X3, st3⟩ := own_virtual X2 hx hZ (W := 0) hown (hw _ m9) (hw _ m10) (notFace_of_selects (args := #[]) (mvT hZ (hw _ m12))) (hw _ m12) (hw _ m11) (hw _ m5) (hw _ m13) (by decide) (rm26 l Z a0 hw w0 w1 w2 w3 hS [] h0 n0 O0) e2' (hS.2.2.2.2.1.ext O0.2) (g := (mkF m 91 #[.val (.int i0), .val (.int i1), .val (.int (3 : Int32)), .val (.int (3 : Int32)), .val (.int (0 : Int32)), .unset, .unset] [(.ref w1), (.ref w1)])) rfl (by rw [hml]; rfl) (argsL := [(.ref w1)]) (rest := []) (lenOf pd56 rfl) rfl rfl (by show 2 * 0 + _ ≤ _; exact Nat.le_of_eq rfl) (hb hby at_91) (by decide) (by decide) (by decide) (by decide)
      obtain ⟨rfl, N3q, e3⟩ := hQ3
      have N3 := Fr.app N2 N3q
      have e3' : T3.heap = h0 := e3
      obtain ⟨fs, hr, hrun, hended, hW, hsame⟩ := X3.leave (v := some (.int (1 : Int32))) (fun h => by rw [Bd.returns] at h; cases h)
      refine ⟨_, _, pre2 _ ?_, hrun, hended, _, _, rfl, ?_, ⟨_, rfl⟩, hW, hsame.mono (by decide) (by decide)⟩
      · show Steps p.tables e below (s₁.setTop (mkF m 6 #[.val (.int i0), .val (.int i1), .val (.int (3 : Int32)), .unset, .unset, .unset, .unset] [(.int (3 : Int32)), (.int i1)])) _
        refine Own.iand X0.here hx rfl (hb hby at_6) rfl hp1 ?_
        show Steps p.tables e below (s₁.setTop (mkF m 7 #[.val (.int i0), .val (.int i1), .val (.int (3 : Int32)), .unset, .unset, .unset, .unset] [(.int (3 : Int32))])) _
        refine XS.istoreN X0.here hx rfl (hb hby at_7) rfl (l' := #[.val (.int i0), .val (.int i1), .val (.int (3 : Int32)), .val (.int (3 : Int32)), .unset, .unset, .unset]) rfl ?_
        show Steps p.tables e below (s₁.setTop (mkF m 8 #[.val (.int i0), .val (.int i1), .val (.int (3 : Int32)), .val (.int (3 : Int32)), .unset, .unset, .unset] [])) _
        refine XS.iloadN X0.here hx rfl (hb hby at_8) rfl ?_
        show Steps p.tables e below (s₁.setTop (mkF m 9 #[.val (.int i0), .val (.int i1), .val (.int (3 : Int32)), .val (.int (3 : Int32)), .unset, .unset, .unset] [(.int (3 : Int32))])) _
        refine XS.iconst X0.here hx rfl (hb hby at_9) ?_
        show Steps p.tables e below (s₁.setTop (mkF m 10 #[.val (.int i0), .val (.int i1), .val (.int (3 : Int32)), .val (.int (3 : Int32)), .unset, .unset, .unset] [(.int (3 : Int32)), (.int (3 : Int32))])) _
        refine XS.icmpYes X0.here hx rfl (pc0 := 10) (pc' := 18) rfl (hb hby at_10) rfl (teq (by decide : (3 : Int32) = (3 : Int32))).1 (by decide) (by decide) ?_
        show Steps p.tables e below (s₁.setTop (mkF m 18 #[.val (.int i0), .val (.int i1), .val (.int (3 : Int32)), .val (.int (3 : Int32)), .unset, .unset, .unset] [])) _
        refine XS.iconst X0.here hx rfl (hb hby at_18) ?_
        show Steps p.tables e below (s₁.setTop (mkF m 19 #[.val (.int i0), .val (.int i1), .val (.int (3 : Int32)), .val (.int (3 : Int32)), .unset, .unset, .unset] [(.int (0 : Int32))])) _
        refine XS.istore X0.here hx rfl (hb hby at_19) rfl (l' := #[.val (.int i0), .val (.int i1), .val (.int (3 : Int32)), .val (.int (3 : Int32)), .val (.int (0 : Int32)), .unset, .unset]) rfl ?_
        show Steps p.tables e below (s₁.setTop (mkF m 21 #[.val (.int i0), .val (.int i1), .val (.int (3 : Int32)), .val (.int (3 : Int32)), .val (.int (0 : Int32)), .unset, .unset] [])) _
        refine XS.goto X0.here hx rfl (pc0 := 21) (pc' := 83) rfl (hb hby at_21) (by decide) (by decide) ?_
        show Steps p.tables e below (s₁.setTop (mkF m 83 #[.val (.int i0), .val (.int i1), .val (.int (3 : Int32)), .val (.int (3 : Int32)), .val (.int (0 : Int32)), .unset, .unset] [])) _
        refine XS.iloadN X0.here hx rfl (hb hby at_83) rfl ?_
        show Steps p.tables e below (s₁.setTop (mkF m 84 #[.val (.int i0), .val (.int i1), .val (.int (3 : Int32)), .val (.int (3 : Int32)), .val (.int (0 : Int32)), .unset, .unset] [(.int (3 : Int32))])) _
        refine st1 _ ?_
        show Steps p.tables e below (T1.setTop (mkF m 87 #[.val (.int i0), .val (.int i1), .val (.int (3 : Int32)), .val (.int (3 : Int32)), .val (.int (0 : Int32)), .unset, .unset] [(.ref w1)])) _
        refine XS.iloadN X1.here hx rfl (hb hby at_87) rfl ?_
        show Steps p.tables e below (T1.setTop (mkF m 88 #[.val (.int i0), .val (.int i1), .val (.int (3 : Int32)), .val (.int (3 : Int32)), .val (.int (0 : Int32)), .unset, .unset] [(.int (3 : Int32)), (.ref w1)])) _
        refine st2 _ ?_
        show Steps p.tables e below (T2.setTop (mkF m 91 #[.val (.int i0), .val (.int i1), .val (.int (3 : Int32)), .val (.int (3 : Int32)), .val (.int (0 : Int32)), .unset, .unset] [(.ref w1), (.ref w1)])) _
        refine st3 _ ?_
        show Steps p.tables e below (T3.setTop (mkF m 94 #[.val (.int i0), .val (.int i1), .val (.int (3 : Int32)), .val (.int (3 : Int32)), .val (.int (0 : Int32)), .unset, .unset] [(.int (0 : Int32))])) _
        refine XS.iload X3.here hx rfl (hb hby at_94) rfl ?_
        show Steps p.tables e below (T3.setTop (mkF m 96 #[.val (.int i0), .val (.int i1), .val (.int (3 : Int32)), .val (.int (3 : Int32)), .val (.int (0 : Int32)), .unset, .unset] [(.int (0 : Int32)), (.int (0 : Int32))])) _
        refine XS.icmpNo X3.here hx rfl (hb hby at_96) rfl (teq (by decide : (0 : Int32) = (0 : Int32))).2 ?_
        show Steps p.tables e below (T3.setTop (mkF m 99 #[.val (.int i0), .val (.int i1), .val (.int (3 : Int32)), .val (.int (3 : Int32)), .val (.int (0 : Int32)), .unset, .unset] [])) _
        refine XS.iconst X3.here hx rfl (hb hby at_99) ?_
        show Steps p.tables e below (T3.setTop (mkF m 100 #[.val (.int i0), .val (.int i1), .val (.int (3 : Int32)), .val (.int (3 : Int32)), .val (.int (0 : Int32)), .unset, .unset] [(.int (1 : Int32))])) _
        refine XS.goto X3.here hx rfl (pc0 := 100) (pc' := 104) rfl (hb hby at_100) (by decide) (by decide) ?_
        show Steps p.tables e below (T3.setTop (mkF m 104 #[.val (.int i0), .val (.int i1), .val (.int (3 : Int32)), .val (.int (3 : Int32)), .val (.int (0 : Int32)), .unset, .unset] [(.int (1 : Int32))])) _
        exact retN X3 hx (t := .boolean) Bd.returns (by simp) (hb hby at_104) hr
      · show QL n0 _ T3.heap _
        exact ⟨rfl, N3⟩
set_option maxRecDepth 65536 in
set_option maxHeartbeats 40000000 in
theorem comes_1 {Post : Tables → Env → Array Value → State → Outcome → State → Prop} (hpost : ∀ tb e args s v u, (limb_1_1.after args s (.returned v) u = true ∧ limb_1_2.after args s (.returned v) u = true ∧ True) → FrameEnd s (.returned v) u (Jvm.fieldLocs frame_1_writes args s ++ Jvm.arrayLocs frame_1_arrays args s ++ Jvm.staticLocs frame_1_statics s) 0 0 → Post tb e args s (.returned v) u) :
    ArmFor flags0 classFile x code maxLocals ret World_1 tables_1 room_1 Calls_1 rest_1 Pre_1 Post := by
  intro l hfl _ _ p e ha hc hk s m args below hf hA hF happ hP
  obtain ⟨hcalls, hrest, hpre⟩ := hP
  obtain ⟨-, -, -, hnamed, -, -, -, hat⟩ := (Spec.applies_iff hf).mp happ
  obtain ⟨hg, hn⟩ := and_e (Cond.before_iff.mp (show (Jvm.Cond.and given_1 narrow_1).before args s = true from hpre))
  obtain ⟨g1a, g1b⟩ := and_e hg
  obtain ⟨g2a, g2b⟩ := and_e g1b
  obtain ⟨n3a, n3b⟩ := and_e hn
  obtain ⟨n4a, n4b⟩ := and_e n3b
  obtain ⟨n5a, n5b⟩ := and_e n4b
  obtain ⟨n6a, n6b⟩ := and_e n5b
  obtain ⟨n7a, n7b⟩ := and_e n6b
  obtain ⟨n8a, n8b⟩ := and_e n7b
  obtain ⟨n9a, n9b⟩ := and_e n8b
  obtain ⟨v0, v1, rfl⟩ : ∃ v0 v1 : Value, args = #[v0, v1] := by
    have hs : args.size = 2 := by simpa [Cond.value, given_1] using g1a
    obtain ⟨L⟩ := args
    match L, hs with
    | [v0, v1], _ => exact ⟨v0, v1, rfl⟩
  have hw := fun d (hd : d ∈ tables_1) => atoms_spec (ws := Jvm.Cond.code x code maxLocals ret :: tables_1) hat d (List.mem_cons_of_mem _ hd)
  have hfit : Fit s := fun {y c} hc i hi => by
    obtain ⟨ha, rfl⟩ := Array.getElem?_eq_some_iff.mp hc
    have q := List.all_eq_true.mp ((Array.all_eq_true_iff_forall_mem.mp hF) _ (Array.getElem_mem ha)) i (List.mem_range.mpr hi)
    simpa [Array.getElem?_eq_getElem hi] using q
  obtain ⟨i0, ei0⟩ := is_v g2a
  obtain rfl : v0 = (.int i0) := Option.some.inj ei0
  obtain ⟨i1, ei1⟩ := is_v g2b
  obtain rfl : v1 = (.int i1) := Option.some.inj ei1
  obtain ⟨w0, evw0⟩ := exa_v n8a
  obtain ⟨w1, evw1⟩ := exa_v n4a
  obtain ⟨w2, evw2⟩ := exa_v n7a
  obtain ⟨w3, evw3⟩ := exa_v n3a
  have hS : SF s w0 w1 w2 w3 := ⟨Sta.start evw0 (Or.inr ⟨(hw _ m5), (hw _ m24)⟩), Exa.start evw0 n8a, own_fld evw0 n9b, Sta.start evw1 (Or.inr ⟨(hw _ m5), (hw _ m8)⟩), Exa.start evw1 n4a, own_fld evw1 n6a, Sta.start evw2 (Or.inr ⟨(hw _ m5), (hw _ m22)⟩), Exa.start evw2 n7a, own_fld evw2 n9a, Sta.start evw3 (Or.inr ⟨(hw _ m5), (hw _ m6)⟩), Exa.start evw3 n3a, own_fld evw3 n5a⟩
  obtain ⟨n, o, h1, h2, h3, _, L, rfl, ⟨rfl, N⟩, hq⟩ := rm0 l s _ hw w0 w1 w2 w3 hS tables_1 i0 i1 s.heap s.heap.size (Old.start s) p e ha hc hk s m _ below hf ((Spec.applies_iff_loose hf).mp happ).1 ⟨rfl, State.Warmed39.refl s, rfl⟩ trivial
  refine ⟨n, _, h1, h2, h3, hpost _ _ _ _ _ _ ⟨Cond.after_iff.mpr rfl, Cond.after_iff.mpr (eq_i res_at (Term.int_eval (1)) rfl), trivial⟩ ⟨hq.1, hq.2.1, (hq.2.2.sift fun y hy => Or.inr (N y hy)).mono (by decide) (by decide)⟩⟩
theorem main_1_1 : Claimed_1_1 := comes_1 fun _ _ _ _ _ _ h hF => ⟨h.1, hF⟩
theorem main_1_2 : Claimed_1_2 := comes_1 fun _ _ _ _ _ _ h hF => ⟨h.2.1, hF⟩
end Jvm.Pilot.@@N@@
namespace Jvm.Pilot.@@N@@
open Jvm Jvm.ClassFile Sem Op Lib Jvm.Free Jvm.Stand Jvm.Pilot.@@N@@.Jvm.D
/-! MADE BY PROGRAM (witnessworld.py) out of the Statement's table words and the real class files: 12 classes; the members and pool entries that the words name. The judged class is class 1, her method 4. -/
namespace start1
open Jvm.ClassFile
def u (s : String) : CpInfo := .utf8 (stringToUtf16 s)
/-- a pool by its gaps: so many unusable entries, then the entry; so many at the end -/
def gap : Nat → List CpInfo → List CpInfo
  | 0, r => r
  | n + 1, r => .unusable :: gap n r
def poolList (es : List (Nat × CpInfo)) (last : Nat) : List CpInfo := es.foldr (fun e r => gap e.1 (e.2 :: r)) (gap last [])
def pool (es : List (Nat × CpInfo)) (last : Nat) : Array CpInfo := ⟨poolList es last⟩
def fileOf (pool : Array CpInfo) (this : Nat) (attrs : Array Attribute := #[]) (ms : Array MethodInfo := #[]) (fl : Nat := 33) (sup : Nat := 0) (ifs : Array Nat := #[]) (fds : Array FieldInfo := #[]) : ClassFile where
  minorVersion := 0
  majorVersion := 65
  constantPool := pool
  accessFlags := fl
  thisClass := this
  superClass := sup
  interfaces := ifs
  fields := fds
  methods := ms
  attributes := attrs
def plain (name : String) (sup : Option ClassId) : Class where
  name := name
  kind := .ordinary
  loader := none
  accessFlags := 33
  super := sup
  interfaces := #[]
  cf := none
  fields := #[]
  methods := #[]
  instanceTypes := #[]
  staticTypes := #[]
  resolved := #[]
  callSites := []
  init := .initialized
  statics := none
  mirror := none

def pool0 : Array CpInfo := pool [(5, u "<init>"), (0, u "()V"), (1, .class_ 10), (1, u "java/lang/Object")] 113

def k0m0 : Method := { name := "<init>", desc := "()V", sig := { parameters := [], returnType := none }, accessFlags := 1, code := none }
/-- java/lang/Object -/
def k0 : Class := { plain "java/lang/Object" none with
  accessFlags := 33
  interfaces := #[]
  cf := some (fileOf pool0 8 #[] #[{ accessFlags := 1, nameIndex := 5, descriptorIndex := 6, attributes := #[] }] 33 0 #[] #[])
  fields := #[]
  methods := #[k0m0]
  instanceTypes := #[]
  staticTypes := #[]
  resolved := Array.replicate 124 none
  statics := none }

def pool1 : Array CpInfo := pool [(2, .class_ 4), (1, u "java/lang/Object"), (0, u "<init>"), (0, u "()V"), (0, .fieldref 8 9), (0, .class_ 10), (0, .nameAndType 11 12), (0, u "com/example/arbiter/arbiter/engine/LockKind"), (0, u "RECORD"), (0, u "Lcom/example/arbiter/arbiter/engine/LockKind;"), (0, .fieldref 8 14), (0, .nameAndType 15 12), (0, u "GAP"), (0, .fieldref 8 17), (0, .nameAndType 18 12), (0, u "NEXT_KEY"), (0, .fieldref 8 20), (0, .nameAndType 21 12), (0, u "INSERT_INTENTION"), (0, .methodref 23 24), (0, .class_ 25), (0, .nameAndType 26 27), (0, u "com/example/arbiter/arbiter/engine/LockKindCoversPinLaw"), (0, u "hasRecord"), (0, u "(I)Z"), (0, .methodref 23 29), (0, .nameAndType 30 27), (0, u "hasGap"), (0, .methodref 23 32), (0, .nameAndType 33 34), (0, u "kind"), (0, u "(I)Lcom/example/arbiter/arbiter/engine/LockKind;"), (0, .methodref 8 36), (0, .nameAndType 37 38), (0, u "covers"), (0, u "(Lcom/example/arbiter/arbiter/engine/LockKind;)Z"), (3, u "law"), (0, u "(II)Z")] 2

def k1m0 : Method := { name := "<init>", desc := "()V", sig := { parameters := [], returnType := none }, accessFlags := 2, code := none }
def k1c1 : Code := { maxStack := 2, maxLocals := 1, code := method_2_code, exceptionTable := #[], attributes := #[] }
def k1m1 : Method := { name := "kind", desc := "(I)Lcom/example/arbiter/arbiter/engine/LockKind;", sig := { parameters := [.int], returnType := some (.object "com/example/arbiter/arbiter/engine/LockKind") }, accessFlags := 10, code := some k1c1 }
def k1c2 : Code := { maxStack := 2, maxLocals := 1, code := method_3_code, exceptionTable := #[], attributes := #[] }
def k1m2 : Method := { name := "hasRecord", desc := "(I)Z", sig := { parameters := [.int], returnType := some .boolean }, accessFlags := 10, code := some k1c2 }
def k1c3 : Code := { maxStack := 2, maxLocals := 1, code := method_4_code, exceptionTable := #[], attributes := #[] }
def k1m3 : Method := { name := "hasGap", desc := "(I)Z", sig := { parameters := [.int], returnType := some .boolean }, accessFlags := 10, code := some k1c3 }
def k1c4 : Code := { maxStack := 2, maxLocals := 7, code := code, exceptionTable := #[], attributes := #[] }
def k1m4 : Method := { name := "law", desc := "(II)Z", sig := { parameters := [.int, .int], returnType := some .boolean }, accessFlags := 9, code := some k1c4 }
/-- com/example/arbiter/arbiter/engine/LockKindCoversPinLaw -/
def k1 : Class := { plain "com/example/arbiter/arbiter/engine/LockKindCoversPinLaw" (some 0) with
  accessFlags := 49
  interfaces := #[]
  cf := some (fileOf pool1 23 #[] #[{ accessFlags := 2, nameIndex := 5, descriptorIndex := 6, attributes := #[] }, { accessFlags := 10, nameIndex := 33, descriptorIndex := 34, attributes := #[] }, { accessFlags := 10, nameIndex := 26, descriptorIndex := 27, attributes := #[] }, { accessFlags := 10, nameIndex := 30, descriptorIndex := 27, attributes := #[] }, { accessFlags := 9, nameIndex := 42, descriptorIndex := 43, attributes := #[] }] 49 2 #[] #[])
  fields := #[]
  methods := #[k1m0, k1m1, k1m2, k1m3, k1m4]
  instanceTypes := #[]
  staticTypes := #[]
  resolved := Array.replicate 46 none
  statics := none }

def pool2 : Array CpInfo := pool [(1, .class_ 2), (0, u "java/lang/constant/Constable"), (0, .class_ 4), (0, u "java/lang/Object")] 6

/-- java/lang/constant/Constable -/
def k2 : Class := { plain "java/lang/constant/Constable" (some 0) with
  accessFlags := 1537
  interfaces := #[]
  cf := some (fileOf pool2 1 #[] #[] 1537 3 #[] #[])
  fields := #[]
  methods := #[]
  instanceTypes := #[]
  staticTypes := #[]
  resolved := Array.replicate 11 none
  statics := none }

def pool3 : Array CpInfo := pool [(1, .class_ 2), (0, u "java/lang/Comparable"), (0, .class_ 4), (0, u "java/lang/Object")] 7

/-- java/lang/Comparable -/
def k3 : Class := { plain "java/lang/Comparable" (some 0) with
  accessFlags := 1537
  interfaces := #[]
  cf := some (fileOf pool3 1 #[] #[] 1537 3 #[] #[])
  fields := #[]
  methods := #[]
  instanceTypes := #[]
  staticTypes := #[]
  resolved := Array.replicate 12 none
  statics := none }

def pool4 : Array CpInfo := pool [(1, .class_ 2), (0, u "java/io/Serializable"), (0, .class_ 4), (0, u "java/lang/Object")] 2

/-- java/io/Serializable -/
def k4 : Class := { plain "java/io/Serializable" (some 0) with
  accessFlags := 1537
  interfaces := #[]
  cf := some (fileOf pool4 1 #[] #[] 1537 3 #[] #[])
  fields := #[]
  methods := #[]
  instanceTypes := #[]
  staticTypes := #[]
  resolved := Array.replicate 7 none
  statics := none }

def pool5 : Array CpInfo := pool [(2, .class_ 4), (1, u "java/lang/Enum"), (0, u "name"), (0, u "Ljava/lang/String;"), (2, u "ordinal"), (0, u "I"), (1, .class_ 14), (1, u "java/lang/Object"), (4, u "hash"), (86, .class_ 108), (1, u "java/lang/Enum$EnumDesc"), (2, .class_ 112), (0, u "java/lang/constant/Constable"), (0, .class_ 114), (0, u "java/lang/Comparable"), (0, .class_ 116), (0, u "java/io/Serializable")] 87

/-- java/lang/Enum -/
def k5 : Class := { plain "java/lang/Enum" (some 0) with
  accessFlags := 1057
  interfaces := #[2, 3, 4]
  cf := some (fileOf pool5 2 #[.nestMembers #[106]] #[] 1057 12 #[111, 113, 115] #[{ accessFlags := 18, nameIndex := 5, descriptorIndex := 6, attributes := #[] }, { accessFlags := 18, nameIndex := 9, descriptorIndex := 10, attributes := #[] }, { accessFlags := 2, nameIndex := 19, descriptorIndex := 10, attributes := #[] }])
  fields := #[{ name := "name", type := (.object "java/lang/String"), accessFlags := 18, slot := 0, constantValue := 0 }, { name := "ordinal", type := .int, accessFlags := 18, slot := 1, constantValue := 0 }, { name := "hash", type := .int, accessFlags := 2, slot := 2, constantValue := 0 }]
  methods := #[]
  instanceTypes := #[(.object "java/lang/String"), .int, .int]
  staticTypes := #[]
  resolved := Array.replicate 204 none
  statics := none }

def pool6 : Array CpInfo := pool [(1, .class_ 2), (0, u "com/example/arbiter/arbiter/engine/LockKind"), (2, u "RECORD"), (0, u "Lcom/example/arbiter/arbiter/engine/LockKind;"), (2, u "GAP"), (0, .fieldref 1 11), (0, .nameAndType 12 6), (0, u "NEXT_KEY"), (0, .fieldref 1 14), (0, .nameAndType 15 6), (0, u "INSERT_INTENTION"), (2, u "$VALUES"), (0, u "[Lcom/example/arbiter/arbiter/engine/LockKind;"), (6, .class_ 28), (1, u "java/lang/Enum"), (8, u "record"), (0, u "Z"), (2, u "gap"), (2, u "suffix"), (0, u "Ljava/lang/String;"), (41, u "covers"), (0, u "(Lcom/example/arbiter/arbiter/engine/LockKind;)Z")] 21

def k6c0 : Code := { maxStack := 2, maxLocals := 3, code := prog_12_method_7_code, exceptionTable := #[], attributes := #[] }
def k6m0 : Method := { name := "covers", desc := "(Lcom/example/arbiter/arbiter/engine/LockKind;)Z", sig := { parameters := [(.object "com/example/arbiter/arbiter/engine/LockKind")], returnType := some .boolean }, accessFlags := 0, code := some k6c0 }
/-- com/example/arbiter/arbiter/engine/LockKind -/
def k6 : Class := { plain "com/example/arbiter/arbiter/engine/LockKind" (some 5) with
  accessFlags := 16432
  interfaces := #[]
  cf := some (fileOf pool6 1 #[] #[{ accessFlags := 0, nameIndex := 87, descriptorIndex := 88, attributes := #[] }] 16432 26 #[] #[{ accessFlags := 16409, nameIndex := 5, descriptorIndex := 6, attributes := #[] }, { accessFlags := 16409, nameIndex := 9, descriptorIndex := 6, attributes := #[] }, { accessFlags := 16409, nameIndex := 12, descriptorIndex := 6, attributes := #[] }, { accessFlags := 16409, nameIndex := 15, descriptorIndex := 6, attributes := #[] }, { accessFlags := 18, nameIndex := 37, descriptorIndex := 38, attributes := #[] }, { accessFlags := 18, nameIndex := 41, descriptorIndex := 38, attributes := #[] }, { accessFlags := 18, nameIndex := 44, descriptorIndex := 45, attributes := #[] }, { accessFlags := 4122, nameIndex := 18, descriptorIndex := 19, attributes := #[] }])
  fields := #[{ name := "RECORD", type := (.object "com/example/arbiter/arbiter/engine/LockKind"), accessFlags := 16409, slot := 0, constantValue := 0 }, { name := "GAP", type := (.object "com/example/arbiter/arbiter/engine/LockKind"), accessFlags := 16409, slot := 1, constantValue := 0 }, { name := "NEXT_KEY", type := (.object "com/example/arbiter/arbiter/engine/LockKind"), accessFlags := 16409, slot := 2, constantValue := 0 }, { name := "INSERT_INTENTION", type := (.object "com/example/arbiter/arbiter/engine/LockKind"), accessFlags := 16409, slot := 3, constantValue := 0 }, { name := "record", type := .boolean, accessFlags := 18, slot := 3, constantValue := 0 }, { name := "gap", type := .boolean, accessFlags := 18, slot := 4, constantValue := 0 }, { name := "suffix", type := (.object "java/lang/String"), accessFlags := 18, slot := 5, constantValue := 0 }, { name := "$VALUES", type := (.array (.object "com/example/arbiter/arbiter/engine/LockKind")), accessFlags := 4122, slot := 4, constantValue := 0 }]
  methods := #[k6m0]
  instanceTypes := #[(.object "java/lang/String"), .int, .int, .boolean, .boolean, (.object "java/lang/String")]
  staticTypes := #[(.object "com/example/arbiter/arbiter/engine/LockKind"), (.object "com/example/arbiter/arbiter/engine/LockKind"), (.object "com/example/arbiter/arbiter/engine/LockKind"), (.object "com/example/arbiter/arbiter/engine/LockKind"), (.array (.object "com/example/arbiter/arbiter/engine/LockKind"))]
  resolved := Array.replicate 110 none
  statics := some 0 }

def pool7 : Array CpInfo := pool [(1, u "java/lang/Cloneable"), (0, .class_ 1), (0, u "java/lang/Object"), (0, .class_ 3)] 3

/-- java/lang/Cloneable -/
def k7 : Class := { plain "java/lang/Cloneable" (some 0) with
  accessFlags := 1537
  interfaces := #[]
  cf := some (fileOf pool7 2 #[] #[] 1537 4 #[] #[])
  fields := #[]
  methods := #[]
  instanceTypes := #[]
  staticTypes := #[]
  resolved := Array.replicate 8 none
  statics := none }

/-- the primitive byte -/
def k8 : Class := { plain "byte" none with kind := .primitive 'B', accessFlags := 0x411 }
/-- [B -/
def k9 : Class := { plain "[B" (some 0) with kind := .array 8 .byte, interfaces := #[7, 4], accessFlags := 1041 }

/-- the primitive int -/
def k10 : Class := { plain "int" none with kind := .primitive 'I', accessFlags := 0x411 }
/-- [I -/
def k11 : Class := { plain "[I" (some 0) with kind := .array 10 .int, interfaces := #[7, 4], accessFlags := 1041 }

def heap : Heap := #[{ cls := 6, slots := #[.ref 4, .ref 1, .ref 3, .ref 2, .null], vm := .statics 6 },
  { cls := 6, slots := #[.null, .int 1, .int 0, .int 0, .int 0, .null], vm := .none },
  { cls := 6, slots := #[.null, .int 3, .int 0, .int 0, .int 0, .null], vm := .none },
  { cls := 6, slots := #[.null, .int 2, .int 0, .int 0, .int 0, .null], vm := .none },
  { cls := 6, slots := #[.null, .int 0, .int 0, .int 0, .int 0, .null], vm := .none }]
def classes : Array Class := #[k0, k1, k2, k3, k4, k5, k6, k7, k8, k9, k10, k11]
def interned : List (Array UInt16 × Addr) := []
def slotsUsed : Nat := 29
def theMethod : MethodId := ⟨1, 4⟩
def args0 : Array Value := #[.int 5, .int 5]
def aboutOver (below : List Frame) : State where
  vm := { classes := classes, interned := interned.toArray }
  heap := heap
  slotsUsed := slotsUsed
  threads := #[{ frames := .invoking theMethod args0 :: below }]
def below0 : List Frame := [.native { method := ⟨0, 0⟩, args := #[] }]
def about1 : State := aboutOver below0
def p0 : Program := .bare "" "" ""
def e0 : Env := launch0.env 0 0 0
theorem w_frames : about1.frames = Frame.invoking theMethod args0 :: below0 := rfl
set_option maxRecDepth 65536 in
theorem w_args : argsFit about1.vm theMethod args0 = true := by decide +kernel
set_option maxRecDepth 65536 in
theorem w_heap : heapFits about1 = true := by decide +kernel
set_option maxRecDepth 65536 in
theorem w_runnable : about1.curStatus? = some .runnable := by decide +kernel
set_option maxRecDepth 65536 in
theorem w_alone : about1.alone = true := by decide +kernel
set_option maxRecDepth 65536 in
theorem w_named : about1.methodNamed? x = some theMethod := by decide +kernel
set_option maxRecDepth 65536 in
theorem w_hears : about1.hears theMethod below0 = true := by decide +kernel
set_option maxRecDepth 65536 in
theorem w_ripe : about1.ripe theMethod args0 below0 = true := by decide +kernel
theorem w_running : about1.status = .running := rfl
set_option maxRecDepth 65536 in
theorem w_room : about1.hasRoom e0.platform room_1 = true :=
  launch0.hasRoom_least _ room_1 (by decide +kernel) (by decide +kernel) (by decide +kernel) (by decide +kernel) (by decide +kernel) (by decide +kernel)
theorem allAtoms_all (ts : List Jvm.Cond) (a : Array Jvm.Value) (st : Jvm.State) : (allAtoms ts).before a st = ts.all (fun c => c.before a st) := by
  induction ts with
  | nil => rfl
  | cons c t ih =>
    show (Jvm.Cond.and c (allAtoms t)).before a st = _
    rw [Jvm.Cond.before_and, ih, List.all_cons]
def words1 : List Jvm.Cond := Jvm.Cond.code x code maxLocals ret :: tables_1
/-- a 'code' word, met by the world's own term for the bytes: nothing is compared byte by byte -/
theorem code_word {y : MethodName} {bytes : ByteArray} {mx : Nat} {rt : Option FieldType} {a : Array Value} {s : State} {m : MethodId} {meth : Method} {c : Code} (h1 : s.methodNamed? y = some m) (h2 : s.vm.method? m = some meth) (h3 : meth.code = some c) (h4 : c.code = bytes)
    (h5 : (c.maxLocals == mx && c.exceptionTable.isEmpty && decide (c.maxStack ≤ mostOperands) && decide (meth.sig.returnType = rt) && !meth.locks && decide (parseMethodDescriptor y.desc = some meth.sig)) = true) : (Jvm.Cond.code y bytes mx rt).before a s = true := by
  simp only [Bool.and_eq_true, beq_iff_eq, Bool.not_eq_true', decide_eq_true_eq] at h5
  obtain ⟨⟨⟨⟨⟨g1, g2⟩, g3⟩, g4⟩, g5⟩, g6⟩ := h5
  simp [Cond.before, Cond.holds, Cond.value, h1, h2, h3, h4, g1, g2, g3, g4, g5, g6]
def isCode : Jvm.Cond → Bool
  | .code _ _ _ _ => true
  | _ => false
theorem all_split {L : List Jvm.Cond} {P : Jvm.Cond → Bool} (h1 : L.all (fun c => isCode c || P c) = true) (h2 : ∀ c ∈ L.filter isCode, P c = true) : L.all P = true := by
  refine List.all_eq_true.mpr fun c hc => ?_
  have h := List.all_eq_true.mp h1 c hc
  rcases Bool.eq_false_or_eq_true (isCode c) with hi | hi
  · exact h2 c (List.mem_filter.mpr ⟨hc, hi⟩)
  · simpa [hi] using h
set_option maxRecDepth 65536 in
theorem w_c0 : (Jvm.Cond.code x code maxLocals ret).before args0 about1 = true := code_word (m := ⟨1, 4⟩) (meth := k1m4) (c := k1c4) (by decide +kernel) rfl rfl rfl (by decide +kernel)
set_option maxRecDepth 65536 in
theorem w_c1 : (Jvm.Cond.code ({ cls := "com/example/arbiter/arbiter/engine/LockKindCoversPinLaw", name := "kind", desc := "(I)Lcom/example/arbiter/arbiter/engine/LockKind;" } : Jvm.MethodName) method_2_code (1 : Nat) (Option.some (Jvm.ClassFile.FieldType.object "com/example/arbiter/arbiter/engine/LockKind"))).before args0 about1 = true := code_word (m := ⟨1, 1⟩) (meth := k1m1) (c := k1c1) (by decide +kernel) rfl rfl rfl (by decide +kernel)
set_option maxRecDepth 65536 in
theorem w_c2 : (Jvm.Cond.code ({ cls := "com/example/arbiter/arbiter/engine/LockKind", name := "covers", desc := "(Lcom/example/arbiter/arbiter/engine/LockKind;)Z" } : Jvm.MethodName) prog_12_method_7_code (3 : Nat) (Option.some Jvm.ClassFile.FieldType.boolean)).before args0 about1 = true := code_word (m := ⟨6, 0⟩) (meth := k6m0) (c := k6c0) (by decide +kernel) rfl rfl rfl (by decide +kernel)
set_option maxRecDepth 65536 in
theorem w_c3 : (Jvm.Cond.code ({ cls := "com/example/arbiter/arbiter/engine/LockKindCoversPinLaw", name := "hasRecord", desc := "(I)Z" } : Jvm.MethodName) method_3_code (1 : Nat) (Option.some Jvm.ClassFile.FieldType.boolean)).before args0 about1 = true := code_word (m := ⟨1, 2⟩) (meth := k1m2) (c := k1c2) (by decide +kernel) rfl rfl rfl (by decide +kernel)
set_option maxRecDepth 65536 in
theorem w_c4 : (Jvm.Cond.code ({ cls := "com/example/arbiter/arbiter/engine/LockKindCoversPinLaw", name := "hasGap", desc := "(I)Z" } : Jvm.MethodName) method_4_code (1 : Nat) (Option.some Jvm.ClassFile.FieldType.boolean)).before args0 about1 = true := code_word (m := ⟨1, 3⟩) (meth := k1m3) (c := k1c3) (by decide +kernel) rfl rfl rfl (by decide +kernel)
def codes1 : List Jvm.Cond := [Jvm.Cond.code x code maxLocals ret, Jvm.Cond.code ({ cls := "com/example/arbiter/arbiter/engine/LockKindCoversPinLaw", name := "kind", desc := "(I)Lcom/example/arbiter/arbiter/engine/LockKind;" } : Jvm.MethodName) method_2_code (1 : Nat) (Option.some (Jvm.ClassFile.FieldType.object "com/example/arbiter/arbiter/engine/LockKind")), Jvm.Cond.code ({ cls := "com/example/arbiter/arbiter/engine/LockKind", name := "covers", desc := "(Lcom/example/arbiter/arbiter/engine/LockKind;)Z" } : Jvm.MethodName) prog_12_method_7_code (3 : Nat) (Option.some Jvm.ClassFile.FieldType.boolean), Jvm.Cond.code ({ cls := "com/example/arbiter/arbiter/engine/LockKindCoversPinLaw", name := "hasRecord", desc := "(I)Z" } : Jvm.MethodName) method_3_code (1 : Nat) (Option.some Jvm.ClassFile.FieldType.boolean), Jvm.Cond.code ({ cls := "com/example/arbiter/arbiter/engine/LockKindCoversPinLaw", name := "hasGap", desc := "(I)Z" } : Jvm.MethodName) method_4_code (1 : Nat) (Option.some Jvm.ClassFile.FieldType.boolean)]
set_option maxRecDepth 65536 in
theorem codes_eq : words1.filter isCode = codes1 := rfl
theorem w_codes : ∀ c ∈ words1.filter isCode, c.before args0 about1 = true := by
  rw [codes_eq]
  intro c hc
  simp only [codes1, List.mem_cons, List.not_mem_nil, or_false] at hc
  rcases hc with rfl | rfl | rfl | rfl | rfl
  · exact w_c0
  · exact w_c1
  · exact w_c2
  · exact w_c3
  · exact w_c4
set_option maxRecDepth 65536 in
theorem w_t1 : (words1.take 24).all (fun c => isCode c || c.before args0 about1) = true := by decide +kernel
set_option maxRecDepth 65536 in
theorem w_t2 : (words1.drop 24).all (fun c => isCode c || c.before args0 about1) = true := by decide +kernel
theorem w_tables : (allAtoms (Jvm.Cond.code x code maxLocals ret :: tables_1)).before args0 about1 = true := by
  rw [allAtoms_all]
  show words1.all (fun c => c.before args0 about1) = true
  refine all_split ?_ w_codes
  rw [← List.take_append_drop 24 words1, List.all_append, w_t1, w_t2]
  rfl
set_option maxRecDepth 65536 in
theorem w_case : (Jvm.Cond.and given_1 narrow_1).before args0 about1 = true := by decide +kernel
theorem w_applies : (headSpec (Jvm.Cond.code x code maxLocals ret :: tables_1) room_1).applies x e0.platform about1 = true :=
  (Spec.applies_iff w_frames).mpr ⟨w_running, w_runnable, w_alone, w_named, w_hears, w_ripe, w_room, w_tables⟩
theorem atStart : AtStart classFile x code maxLocals ret World_1 tables_1 room_1 Calls_1 rest_1 Pre_1 launch0 p0 e0 about1 theMethod args0 below0 :=
  ⟨lists_1, trivial, launch0.admits_env _ _ _, launch0.least_env, fairChoices_fair.cas, fairChoices_fair.clock, w_frames, w_args, w_heap, w_applies, trivial, trivial, w_case⟩
end start1
theorem witness_1 : WitnessClaimed_1 := ⟨start1.p0, start1.e0, start1.about1, start1.theMethod, start1.args0, start1.below0, start1.atStart⟩
end Jvm.Pilot.@@N@@
