import JvmDerived
import JvmDerived.Pilot.@@N@@Statement
import JvmDerived.Pilot.@@N@@Code
set_option linter.unusedVariables false
set_option linter.unusedSimpArgs false
set_option maxHeartbeats 4000000
namespace Jvm.OwnK
open Sem ClassFile Op Lib Jvm.Free Jvm.Stand Jvm.LawKit Jvm.RoadKit
theorem iadd {tb : Tables} [Ours tb] {e : Env} {below : List Frame} {T target : State} {m : MethodId} {c : Code} {g : JFrame} (h : At T m c below) (hx : tb.exec = Jvm.exec) (hg : g.method = m) {x v : Int32} {y : Int32} {rest : List Value} (hd : decode c.code g.pc = .ok (.iadd, 1)) (hs : g.stack = .int y :: .int x :: rest) (hv : x + y = v)
    (hr : Steps tb e below (T.setTop { g with pc := g.pc + 1, stack := .int v :: rest }) target) : Steps tb e below (T.setTop g) target := by
  subst hv
  exact XS.iadd h hx hg hd hs hr
theorem isub {tb : Tables} [Ours tb] {e : Env} {below : List Frame} {T target : State} {m : MethodId} {c : Code} {g : JFrame} (h : At T m c below) (hx : tb.exec = Jvm.exec) (hg : g.method = m) {x v : Int32} {y : Int32} {rest : List Value} (hd : decode c.code g.pc = .ok (.isub, 1)) (hs : g.stack = .int y :: .int x :: rest) (hv : x - y = v)
    (hr : Steps tb e below (T.setTop { g with pc := g.pc + 1, stack := .int v :: rest }) target) : Steps tb e below (T.setTop g) target := by
  subst hv
  exact XS.isub h hx hg hd hs hr
theorem imul {tb : Tables} [Ours tb] {e : Env} {below : List Frame} {T target : State} {m : MethodId} {c : Code} {g : JFrame} (h : At T m c below) (hx : tb.exec = Jvm.exec) (hg : g.method = m) {x v : Int32} {y : Int32} {rest : List Value} (hd : decode c.code g.pc = .ok (.imul, 1)) (hs : g.stack = .int y :: .int x :: rest) (hv : x * y = v)
    (hr : Steps tb e below (T.setTop { g with pc := g.pc + 1, stack := .int v :: rest }) target) : Steps tb e below (T.setTop g) target := by
  subst hv
  exact XS.imul h hx hg hd hs hr
theorem iand {tb : Tables} [Ours tb] {e : Env} {below : List Frame} {T target : State} {m : MethodId} {c : Code} {g : JFrame} (h : At T m c below) (hx : tb.exec = Jvm.exec) (hg : g.method = m) {x v : Int32} {y : Int32} {rest : List Value} (hd : decode c.code g.pc = .ok (.iand, 1)) (hs : g.stack = .int y :: .int x :: rest) (hv : x &&& y = v)
    (hr : Steps tb e below (T.setTop { g with pc := g.pc + 1, stack := .int v :: rest }) target) : Steps tb e below (T.setTop g) target := by
  subst hv
  exact XS.iand h hx hg hd hs hr
theorem ior {tb : Tables} [Ours tb] {e : Env} {below : List Frame} {T target : State} {m : MethodId} {c : Code} {g : JFrame} (h : At T m c below) (hx : tb.exec = Jvm.exec) (hg : g.method = m) {x v : Int32} {y : Int32} {rest : List Value} (hd : decode c.code g.pc = .ok (.ior, 1)) (hs : g.stack = .int y :: .int x :: rest) (hv : x ||| y = v)
    (hr : Steps tb e below (T.setTop { g with pc := g.pc + 1, stack := .int v :: rest }) target) : Steps tb e below (T.setTop g) target := by
  subst hv
  exact XS.ior h hx hg hd hs hr
theorem ixor {tb : Tables} [Ours tb] {e : Env} {below : List Frame} {T target : State} {m : MethodId} {c : Code} {g : JFrame} (h : At T m c below) (hx : tb.exec = Jvm.exec) (hg : g.method = m) {x v : Int32} {y : Int32} {rest : List Value} (hd : decode c.code g.pc = .ok (.ixor, 1)) (hs : g.stack = .int y :: .int x :: rest) (hv : x ^^^ y = v)
    (hr : Steps tb e below (T.setTop { g with pc := g.pc + 1, stack := .int v :: rest }) target) : Steps tb e below (T.setTop g) target := by
  subst hv
  exact XS.ixor h hx hg hd hs hr
theorem ishl {tb : Tables} [Ours tb] {e : Env} {below : List Frame} {T target : State} {m : MethodId} {c : Code} {g : JFrame} (h : At T m c below) (hx : tb.exec = Jvm.exec) (hg : g.method = m) {x v : Int32} {y : Int32} {rest : List Value} (hd : decode c.code g.pc = .ok (.ishl, 1)) (hs : g.stack = .int y :: .int x :: rest) (hv : x <<< (y &&& 31) = v)
    (hr : Steps tb e below (T.setTop { g with pc := g.pc + 1, stack := .int v :: rest }) target) : Steps tb e below (T.setTop g) target := by
  subst hv
  exact XS.ishl h hx hg hd hs hr
theorem ishr {tb : Tables} [Ours tb] {e : Env} {below : List Frame} {T target : State} {m : MethodId} {c : Code} {g : JFrame} (h : At T m c below) (hx : tb.exec = Jvm.exec) (hg : g.method = m) {x v : Int32} {y : Int32} {rest : List Value} (hd : decode c.code g.pc = .ok (.ishr, 1)) (hs : g.stack = .int y :: .int x :: rest) (hv : x >>> (y &&& 31) = v)
    (hr : Steps tb e below (T.setTop { g with pc := g.pc + 1, stack := .int v :: rest }) target) : Steps tb e below (T.setTop g) target := by
  subst hv
  exact XS.ishr h hx hg hd hs hr
theorem iushr {tb : Tables} [Ours tb] {e : Env} {below : List Frame} {T target : State} {m : MethodId} {c : Code} {g : JFrame} (h : At T m c below) (hx : tb.exec = Jvm.exec) (hg : g.method = m) {x v : Int32} {y : Int32} {rest : List Value} (hd : decode c.code g.pc = .ok (.iushr, 1)) (hs : g.stack = .int y :: .int x :: rest) (hv : (x.toUInt32 >>> (y &&& 31).toUInt32).toInt32 = v)
    (hr : Steps tb e below (T.setTop { g with pc := g.pc + 1, stack := .int v :: rest }) target) : Steps tb e below (T.setTop g) target := by
  subst hv
  exact XS.iushr h hx hg hd hs hr
theorem idiv {tb : Tables} [Ours tb] {e : Env} {below : List Frame} {T target : State} {m : MethodId} {c : Code} {g : JFrame} (h : At T m c below) (hx : tb.exec = Jvm.exec) (hg : g.method = m) {x v : Int32} {y : Int32} {rest : List Value} (hd : decode c.code g.pc = .ok (.idiv, 1)) (hs : g.stack = .int y :: .int x :: rest) (hy : ¬ y = 0) (hv : x / y = v)
    (hr : Steps tb e below (T.setTop { g with pc := g.pc + 1, stack := .int v :: rest }) target) : Steps tb e below (T.setTop g) target := by
  subst hv
  exact XS.idiv h hx hg hd hs hy hr
theorem irem {tb : Tables} [Ours tb] {e : Env} {below : List Frame} {T target : State} {m : MethodId} {c : Code} {g : JFrame} (h : At T m c below) (hx : tb.exec = Jvm.exec) (hg : g.method = m) {x v : Int32} {y : Int32} {rest : List Value} (hd : decode c.code g.pc = .ok (.irem, 1)) (hs : g.stack = .int y :: .int x :: rest) (hy : ¬ y = 0) (hv : x % y = v)
    (hr : Steps tb e below (T.setTop { g with pc := g.pc + 1, stack := .int v :: rest }) target) : Steps tb e below (T.setTop g) target := by
  subst hv
  have q : x - x / y * y = x % y := irem_eq_mod x y
  exact XS.irem h hx hg hd hs hy (by rw [q]; exact hr)
theorem ladd {tb : Tables} [Ours tb] {e : Env} {below : List Frame} {T target : State} {m : MethodId} {c : Code} {g : JFrame} (h : At T m c below) (hx : tb.exec = Jvm.exec) (hg : g.method = m) {x v : Int64} {y : Int64} {rest : List Value} (hd : decode c.code g.pc = .ok (.ladd, 1)) (hs : g.stack = .long y :: .long x :: rest) (hv : x + y = v)
    (hr : Steps tb e below (T.setTop { g with pc := g.pc + 1, stack := .long v :: rest }) target) : Steps tb e below (T.setTop g) target := by
  subst hv
  exact XS.ladd h hx hg hd hs hr
theorem lsub {tb : Tables} [Ours tb] {e : Env} {below : List Frame} {T target : State} {m : MethodId} {c : Code} {g : JFrame} (h : At T m c below) (hx : tb.exec = Jvm.exec) (hg : g.method = m) {x v : Int64} {y : Int64} {rest : List Value} (hd : decode c.code g.pc = .ok (.lsub, 1)) (hs : g.stack = .long y :: .long x :: rest) (hv : x - y = v)
    (hr : Steps tb e below (T.setTop { g with pc := g.pc + 1, stack := .long v :: rest }) target) : Steps tb e below (T.setTop g) target := by
  subst hv
  exact XS.lsub h hx hg hd hs hr
theorem lmul {tb : Tables} [Ours tb] {e : Env} {below : List Frame} {T target : State} {m : MethodId} {c : Code} {g : JFrame} (h : At T m c below) (hx : tb.exec = Jvm.exec) (hg : g.method = m) {x v : Int64} {y : Int64} {rest : List Value} (hd : decode c.code g.pc = .ok (.lmul, 1)) (hs : g.stack = .long y :: .long x :: rest) (hv : x * y = v)
    (hr : Steps tb e below (T.setTop { g with pc := g.pc + 1, stack := .long v :: rest }) target) : Steps tb e below (T.setTop g) target := by
  subst hv
  exact XS.lmul h hx hg hd hs hr
theorem land {tb : Tables} [Ours tb] {e : Env} {below : List Frame} {T target : State} {m : MethodId} {c : Code} {g : JFrame} (h : At T m c below) (hx : tb.exec = Jvm.exec) (hg : g.method = m) {x v : Int64} {y : Int64} {rest : List Value} (hd : decode c.code g.pc = .ok (.land, 1)) (hs : g.stack = .long y :: .long x :: rest) (hv : x &&& y = v)
    (hr : Steps tb e below (T.setTop { g with pc := g.pc + 1, stack := .long v :: rest }) target) : Steps tb e below (T.setTop g) target := by
  subst hv
  exact XS.land h hx hg hd hs hr
theorem lor {tb : Tables} [Ours tb] {e : Env} {below : List Frame} {T target : State} {m : MethodId} {c : Code} {g : JFrame} (h : At T m c below) (hx : tb.exec = Jvm.exec) (hg : g.method = m) {x v : Int64} {y : Int64} {rest : List Value} (hd : decode c.code g.pc = .ok (.lor, 1)) (hs : g.stack = .long y :: .long x :: rest) (hv : x ||| y = v)
    (hr : Steps tb e below (T.setTop { g with pc := g.pc + 1, stack := .long v :: rest }) target) : Steps tb e below (T.setTop g) target := by
  subst hv
  exact XS.lor h hx hg hd hs hr
theorem lxor {tb : Tables} [Ours tb] {e : Env} {below : List Frame} {T target : State} {m : MethodId} {c : Code} {g : JFrame} (h : At T m c below) (hx : tb.exec = Jvm.exec) (hg : g.method = m) {x v : Int64} {y : Int64} {rest : List Value} (hd : decode c.code g.pc = .ok (.lxor, 1)) (hs : g.stack = .long y :: .long x :: rest) (hv : x ^^^ y = v)
    (hr : Steps tb e below (T.setTop { g with pc := g.pc + 1, stack := .long v :: rest }) target) : Steps tb e below (T.setTop g) target := by
  subst hv
  exact XS.lxor h hx hg hd hs hr
theorem lshl {tb : Tables} [Ours tb] {e : Env} {below : List Frame} {T target : State} {m : MethodId} {c : Code} {g : JFrame} (h : At T m c below) (hx : tb.exec = Jvm.exec) (hg : g.method = m) {x v : Int64} {y : Int32} {rest : List Value} (hd : decode c.code g.pc = .ok (.lshl, 1)) (hs : g.stack = .int y :: .long x :: rest) (hv : x <<< (y &&& 0x3f).toInt64 = v)
    (hr : Steps tb e below (T.setTop { g with pc := g.pc + 1, stack := .long v :: rest }) target) : Steps tb e below (T.setTop g) target := by
  subst hv
  exact XS.lshl h hx hg hd hs hr
theorem lshr {tb : Tables} [Ours tb] {e : Env} {below : List Frame} {T target : State} {m : MethodId} {c : Code} {g : JFrame} (h : At T m c below) (hx : tb.exec = Jvm.exec) (hg : g.method = m) {x v : Int64} {y : Int32} {rest : List Value} (hd : decode c.code g.pc = .ok (.lshr, 1)) (hs : g.stack = .int y :: .long x :: rest) (hv : x >>> (y &&& 0x3f).toInt64 = v)
    (hr : Steps tb e below (T.setTop { g with pc := g.pc + 1, stack := .long v :: rest }) target) : Steps tb e below (T.setTop g) target := by
  subst hv
  exact XS.lshr h hx hg hd hs hr
theorem lushr {tb : Tables} [Ours tb] {e : Env} {below : List Frame} {T target : State} {m : MethodId} {c : Code} {g : JFrame} (h : At T m c below) (hx : tb.exec = Jvm.exec) (hg : g.method = m) {x v : Int64} {y : Int32} {rest : List Value} (hd : decode c.code g.pc = .ok (.lushr, 1)) (hs : g.stack = .int y :: .long x :: rest) (hv : (x.toUInt64 >>> (y &&& 0x3f).toInt64.toUInt64).toInt64 = v)
    (hr : Steps tb e below (T.setTop { g with pc := g.pc + 1, stack := .long v :: rest }) target) : Steps tb e below (T.setTop g) target := by
  subst hv
  exact XS.lushr h hx hg hd hs hr
theorem ldiv {tb : Tables} [Ours tb] {e : Env} {below : List Frame} {T target : State} {m : MethodId} {c : Code} {g : JFrame} (h : At T m c below) (hx : tb.exec = Jvm.exec) (hg : g.method = m) {x v : Int64} {y : Int64} {rest : List Value} (hd : decode c.code g.pc = .ok (.ldiv, 1)) (hs : g.stack = .long y :: .long x :: rest) (hy : ¬ y = 0) (hv : x / y = v)
    (hr : Steps tb e below (T.setTop { g with pc := g.pc + 1, stack := .long v :: rest }) target) : Steps tb e below (T.setTop g) target := by
  subst hv
  exact XS.ldiv h hx hg hd hs hy hr
theorem lrem {tb : Tables} [Ours tb] {e : Env} {below : List Frame} {T target : State} {m : MethodId} {c : Code} {g : JFrame} (h : At T m c below) (hx : tb.exec = Jvm.exec) (hg : g.method = m) {x v : Int64} {y : Int64} {rest : List Value} (hd : decode c.code g.pc = .ok (.lrem, 1)) (hs : g.stack = .long y :: .long x :: rest) (hy : ¬ y = 0) (hv : x % y = v)
    (hr : Steps tb e below (T.setTop { g with pc := g.pc + 1, stack := .long v :: rest }) target) : Steps tb e below (T.setTop g) target := by
  subst hv
  have q : x - x / y * y = x % y := lrem_mod x y
  exact XS.lrem h hx hg hd hs hy (by rw [q]; exact hr)
theorem ineg {tb : Tables} [Ours tb] {e : Env} {below : List Frame} {T target : State} {m : MethodId} {c : Code} {g : JFrame} (h : At T m c below) (hx : tb.exec = Jvm.exec) (hg : g.method = m) {x : Int32} {v : Int32} {rest : List Value} (hd : decode c.code g.pc = .ok (.ineg, 1)) (hs : g.stack = .int x :: rest) (hv : -x = v)
    (hr : Steps tb e below (T.setTop { g with pc := g.pc + 1, stack := .int v :: rest }) target) : Steps tb e below (T.setTop g) target := by
  subst hv
  exact XS.ineg h hx hg hd hs hr
theorem lneg {tb : Tables} [Ours tb] {e : Env} {below : List Frame} {T target : State} {m : MethodId} {c : Code} {g : JFrame} (h : At T m c below) (hx : tb.exec = Jvm.exec) (hg : g.method = m) {x : Int64} {v : Int64} {rest : List Value} (hd : decode c.code g.pc = .ok (.lneg, 1)) (hs : g.stack = .long x :: rest) (hv : -x = v)
    (hr : Steps tb e below (T.setTop { g with pc := g.pc + 1, stack := .long v :: rest }) target) : Steps tb e below (T.setTop g) target := by
  subst hv
  exact XS.lneg h hx hg hd hs hr
theorem i2l {tb : Tables} [Ours tb] {e : Env} {below : List Frame} {T target : State} {m : MethodId} {c : Code} {g : JFrame} (h : At T m c below) (hx : tb.exec = Jvm.exec) (hg : g.method = m) {x : Int32} {v : Int64} {rest : List Value} (hd : decode c.code g.pc = .ok (.i2l, 1)) (hs : g.stack = .int x :: rest) (hv : x.toInt64 = v)
    (hr : Steps tb e below (T.setTop { g with pc := g.pc + 1, stack := .long v :: rest }) target) : Steps tb e below (T.setTop g) target := by
  subst hv
  exact XS.i2l h hx hg hd hs hr
theorem l2i {tb : Tables} [Ours tb] {e : Env} {below : List Frame} {T target : State} {m : MethodId} {c : Code} {g : JFrame} (h : At T m c below) (hx : tb.exec = Jvm.exec) (hg : g.method = m) {x : Int64} {v : Int32} {rest : List Value} (hd : decode c.code g.pc = .ok (.l2i, 1)) (hs : g.stack = .long x :: rest) (hv : x.toInt32 = v)
    (hr : Steps tb e below (T.setTop { g with pc := g.pc + 1, stack := .int v :: rest }) target) : Steps tb e below (T.setTop g) target := by
  subst hv
  exact XS.l2i h hx hg hd hs hr
theorem i2b {tb : Tables} [Ours tb] {e : Env} {below : List Frame} {T target : State} {m : MethodId} {c : Code} {g : JFrame} (h : At T m c below) (hx : tb.exec = Jvm.exec) (hg : g.method = m) {x : Int32} {v : Int32} {rest : List Value} (hd : decode c.code g.pc = .ok (.i2b, 1)) (hs : g.stack = .int x :: rest) (hv : x.toInt8.toInt32 = v)
    (hr : Steps tb e below (T.setTop { g with pc := g.pc + 1, stack := .int v :: rest }) target) : Steps tb e below (T.setTop g) target := by
  subst hv
  exact XS.i2b h hx hg hd hs hr
theorem i2s {tb : Tables} [Ours tb] {e : Env} {below : List Frame} {T target : State} {m : MethodId} {c : Code} {g : JFrame} (h : At T m c below) (hx : tb.exec = Jvm.exec) (hg : g.method = m) {x : Int32} {v : Int32} {rest : List Value} (hd : decode c.code g.pc = .ok (.i2s, 1)) (hs : g.stack = .int x :: rest) (hv : x.toInt16.toInt32 = v)
    (hr : Steps tb e below (T.setTop { g with pc := g.pc + 1, stack := .int v :: rest }) target) : Steps tb e below (T.setTop g) target := by
  subst hv
  exact XS.i2s h hx hg hd hs hr
theorem dadd {tb : Tables} [Ours tb] {e : Env} {below : List Frame} {T target : State} {m : MethodId} {c : Code} {g : JFrame} (h : At T m c below) (hx : tb.exec = Jvm.exec) (hg : g.method = m) {x y v : UInt64} {rest : List Value} (hd : decode c.code g.pc = .ok (.dadd, 1)) (hs : g.stack = .double y :: .double x :: rest) (hv : FP.dadd x y = v) (hn : Jvm.Free.Fl.NoNaN64 v)
    (hr : Steps tb e below (T.setTop { g with pc := g.pc + 1, stack := .double v :: rest }) target) : Steps tb e below (T.setTop g) target := by
  subst hv
  exact XS.daddS h hx hg hd hs hn rfl hr
theorem dsub {tb : Tables} [Ours tb] {e : Env} {below : List Frame} {T target : State} {m : MethodId} {c : Code} {g : JFrame} (h : At T m c below) (hx : tb.exec = Jvm.exec) (hg : g.method = m) {x y v : UInt64} {rest : List Value} (hd : decode c.code g.pc = .ok (.dsub, 1)) (hs : g.stack = .double y :: .double x :: rest) (hv : FP.dsub x y = v) (hn : Jvm.Free.Fl.NoNaN64 v)
    (hr : Steps tb e below (T.setTop { g with pc := g.pc + 1, stack := .double v :: rest }) target) : Steps tb e below (T.setTop g) target := by
  subst hv
  exact XS.dsubS h hx hg hd hs hn rfl hr
theorem dmul {tb : Tables} [Ours tb] {e : Env} {below : List Frame} {T target : State} {m : MethodId} {c : Code} {g : JFrame} (h : At T m c below) (hx : tb.exec = Jvm.exec) (hg : g.method = m) {x y v : UInt64} {rest : List Value} (hd : decode c.code g.pc = .ok (.dmul, 1)) (hs : g.stack = .double y :: .double x :: rest) (hv : FP.dmul x y = v) (hn : Jvm.Free.Fl.NoNaN64 v)
    (hr : Steps tb e below (T.setTop { g with pc := g.pc + 1, stack := .double v :: rest }) target) : Steps tb e below (T.setTop g) target := by
  subst hv
  exact XS.dmulS h hx hg hd hs hn rfl hr
theorem ddiv {tb : Tables} [Ours tb] {e : Env} {below : List Frame} {T target : State} {m : MethodId} {c : Code} {g : JFrame} (h : At T m c below) (hx : tb.exec = Jvm.exec) (hg : g.method = m) {x y v : UInt64} {rest : List Value} (hd : decode c.code g.pc = .ok (.ddiv, 1)) (hs : g.stack = .double y :: .double x :: rest) (hv : FP.ddiv x y = v) (hn : Jvm.Free.Fl.NoNaN64 v)
    (hr : Steps tb e below (T.setTop { g with pc := g.pc + 1, stack := .double v :: rest }) target) : Steps tb e below (T.setTop g) target := by
  subst hv
  exact XS.ddivS h hx hg hd hs hn rfl hr
theorem drem {tb : Tables} [Ours tb] {e : Env} {below : List Frame} {T target : State} {m : MethodId} {c : Code} {g : JFrame} (h : At T m c below) (hx : tb.exec = Jvm.exec) (hg : g.method = m) {x y v : UInt64} {rest : List Value} (hd : decode c.code g.pc = .ok (.drem, 1)) (hs : g.stack = .double y :: .double x :: rest) (hv : FP.drem x y = v) (hn : Jvm.Free.Fl.NoNaN64 v)
    (hr : Steps tb e below (T.setTop { g with pc := g.pc + 1, stack := .double v :: rest }) target) : Steps tb e below (T.setTop g) target := by
  subst hg
  subst hv
  obtain ⟨gm, gp, gl, gs, gk, ge, gr⟩ := g
  simp only at hs hd
  subst hs
  jvm_step h [h.top, hx, hd, Op.drem.at_number h.top hn]
  exact hr
theorem lcmp {tb : Tables} [Ours tb] {e : Env} {below : List Frame} {T target : State} {m : MethodId} {c : Code} {g : JFrame} (h : At T m c below) (hx : tb.exec = Jvm.exec) (hg : g.method = m) {x y : Int64} {v : Int32} {rest : List Value} (hd : decode c.code g.pc = .ok (.lcmp, 1)) (hs : g.stack = .long y :: .long x :: rest) (hv : lcmpW x y = v)
    (hr : Steps tb e below (T.setTop { g with pc := g.pc + 1, stack := .int v :: rest }) target) : Steps tb e below (T.setTop g) target := by
  subst hv
  exact XS.lcmp h hx hg hd hs hr
theorem iinc {tb : Tables} [Ours tb] {e : Env} {below : List Frame} {T target : State} {m : MethodId} {c : Code} {g : JFrame} (h : At T m c below) (hx : tb.exec = Jvm.exec) (hg : g.method = m) {k : Nat} {cst : Int} {x v : Int32} {l' : Array Slot} (hd : decode c.code g.pc = .ok (.iinc k cst, 3)) (hl : g.locals[k]? = some (.val (.int x))) (hv : x + Int32.ofInt cst = v) (hl' : storeLocals g.locals k (.int v) = some l')
    (hr : Steps tb e below (T.setTop { g with pc := g.pc + 3, locals := l' }) target) : Steps tb e below (T.setTop g) target := by
  subst hv
  exact XS.iinc h hx hg hd hl hl' hr
theorem dup2 {tb : Tables} [Ours tb] {e : Env} {below : List Frame} {T target : State} {m : MethodId} {c : Code} {g : JFrame} (h : At T m c below) (hx : tb.exec = Jvm.exec) (hg : g.method = m) {x y : Value} {rest : List Value} (hd : decode c.code g.pc = .ok (.dup2, 1)) (hs : g.stack = x :: y :: rest) (hc : x.category = 1) (hc' : y.category = 1)
    (hr : Steps tb e below (T.setTop { g with pc := g.pc + 1, stack := x :: y :: x :: y :: rest }) target) : Steps tb e below (T.setTop g) target := Jvm.Free.XT.dup2 h hx hg hd hs hc hc' hr
theorem dup2W {tb : Tables} [Ours tb] {e : Env} {below : List Frame} {T target : State} {m : MethodId} {c : Code} {g : JFrame} (h : At T m c below) (hx : tb.exec = Jvm.exec) (hg : g.method = m) {x : Value} {rest : List Value} (hd : decode c.code g.pc = .ok (.dup2, 1)) (hs : g.stack = x :: rest) (hc : x.category = 2)
    (hr : Steps tb e below (T.setTop { g with pc := g.pc + 1, stack := x :: x :: rest }) target) : Steps tb e below (T.setTop g) target := by
  subst hg
  jvm_step h [h.top, hx, hd, hs, hc]
  exact hr
theorem Sta_keep {Z : State} {h h' : Heap} {C n d : String} {w : Value} {ws : List Addr} (F : Sta Z h C n d w) (K : Keep h h' ws) (hn : ∀ x ∈ ws, ∀ cell : Cell, h[x]? = some cell → cell.vm.isStatics = false) : Sta Z h' C n d w := by
  obtain ⟨cf, i, k, f, st, cell, h1, h2, h3, h4, h5, h6, h7⟩ := F
  refine ⟨cf, i, k, f, st, cell, h1, h2, h3, h4, K.2.1 st cell h5 (fun q => ?_), h6, h7⟩
  rw [hn st q cell h5] at h6; cases h6
end Jvm.OwnK
namespace Jvm.OwnF
open Jvm.FP Jvm.FP.Core
/-! doubles as whole numbers of units of 2^-1074 -/
def V (a : UInt64) : Int := zval b64 (val64 a)
def BIG : Nat := 2 ^ 2000
/-- the rounding of n / d, in units -/
def rnd (n : Int) (d : Nat) : Int := zval b64 (roundRatio b64 (decide (n < 0)) n.natAbs d (-1074))
theorem zval_zero (s : Bool) (d : Nat) (e : Int) : zval b64 (roundRatio b64 s 0 d e) = 0 := by
  unfold roundRatio
  rw [if_pos rfl]
  show signed s (0 * 2 ^ (b64.qmin - b64.qmin).toNat) = 0
  rw [Nat.zero_mul, signed_zero]
theorem rnd_signed (s : Bool) (N d : Nat) : zval b64 (roundRatio b64 s N d (-1074)) = rnd (signed s N) d := by
  unfold rnd
  rw [natAbs_signed]
  by_cases h : N = 0
  · subst h; rw [zval_zero, zval_zero]
  · rw [signed_lt_zero s (by omega)]
theorem signed_natAbs (n : Int) : signed (decide (n < 0)) n.natAbs = n := by
  unfold signed
  by_cases h : n < 0 <;> simp [h] <;> omega
theorem bigV : Jvm.FP.Core.fits b64 (.fin false (2 ^ 52) 874) := by refine ⟨?_, ?_, ?_, ?_⟩ <;> decide
theorem bigZ : zmag b64 (.fin false (2 ^ 52) 874) = BIG := by
  show 2 ^ 52 * 2 ^ (874 - b64.qmin).toNat = 2 ^ 2000
  rw [qmin_b64, show (874 - (-1074) : Int).toNat = 1948 from rfl, ← Nat.pow_add]
theorem big_lt : BIG < b64.tails * 2 ^ (b64.exps - 2) := by
  rw [tails_b64, show b64.exps - 2 = 2046 by decide, ← Nat.pow_add]
  exact Nat.pow_lt_pow_right (by decide) (by decide)
theorem un0 (A : Nat) : inUnits A (-1074) (-1074) = A := by unfold inUnits; simp
theorem round_le_big {s : Bool} {A B : Nat} (hB : 0 < B) (h : A ≤ BIG * B) : zmag b64 (roundRatio b64 s A B (-1074)) ≤ BIG := by
  have := zmag_roundRatio_le good_b64 (s := s) (A := A) (B := B) (e := -1074) (e0 := -1074) hB bigV Datum.noConfusion (by rw [qmin_b64]; decide) (by decide) (by rw [bigZ, un0, qmin_b64]; simpa using h)
  rwa [bigZ] at this
theorem fin_round {s : Bool} {A B : Nat} (hB : 0 < B) (h : A ≤ BIG * B) : ∃ c q, roundRatio b64 s A B (-1074) = .fin s c q := by
  rcases roundRatio_cases b64 s A B (-1074) with h1 | h1
  · exact h1
  · exfalso
    have h2 := round_le_big (s := s) hB h
    rw [h1] at h2
    have h3 : zmag b64 (.inf s) = b64.tails * 2 ^ (b64.exps - 2) := rfl
    have := big_lt
    omega
theorem noNaN_fin {a : UInt64} (h : DFin a) : Jvm.Free.Fl.NoNaN64 a := by
  rw [Jvm.Free.Fl.val64_no]; obtain ⟨s, c, q, e⟩ := h; rw [e]; exact Datum.noConfusion
theorem V_dadd {a b : UInt64} (ha : DFin a) (hb : DFin b) (h : (V a + V b).natAbs ≤ BIG) : DFin (FP.dadd a b) ∧ V (FP.dadd a b) = rnd (V a + V b) 1 := by
  obtain ⟨s, c, q, ea⟩ := ha
  obtain ⟨t, d, r, eb⟩ := hb
  have fa : Jvm.FP.Core.fits b64 (.fin s c q) := ea ▸ val64_fits a
  have fb : Jvm.FP.Core.fits b64 (.fin t d r) := eb ▸ val64_fits b
  obtain ⟨sg, n, e, p1, p2, p3⟩ := sum_units fa fb
  rw [qmin_b64] at p2 p3
  have hv : val64 (FP.dadd a b) = roundRatio b64 sg (inUnits n e (-1074)) 1 (-1074) := by
    rw [show FP.dadd a b = Core.dadd a b from rfl, val64_dadd, ea, eb, p1]
    show roundRatio b64 sg n 1 e = _
    refine roundRatio_congr (by decide) (by decide) ?_
    rw [show (-1074 - e).toNat = 0 by omega]
    unfold inUnits; simp
  have hS : signed sg (inUnits n e (-1074)) = V a + V b := by unfold V; rw [ea, eb]; exact p3
  have hN : inUnits n e (-1074) = (V a + V b).natAbs := by rw [← hS, natAbs_signed]
  obtain ⟨c', q', hh⟩ := fin_round (s := sg) (A := inUnits n e (-1074)) (B := 1) (by decide) (by rw [Nat.mul_one, hN]; exact h)
  refine ⟨⟨sg, c', q', hv.trans hh⟩, ?_⟩
  show zval b64 (val64 (FP.dadd a b)) = _
  rw [hv, rnd_signed, hS]
theorem V_neg (a : UInt64) : V (Core.dneg a) = -V a := by unfold V; rw [Core.val64_dneg, zval_negate]
theorem fin_neg {a : UInt64} (h : DFin a) : DFin (Core.dneg a) := by
  obtain ⟨s, c, q, e⟩ := h
  exact ⟨!s, c, q, by rw [Core.val64_dneg, e]; rfl⟩
theorem V_dsub {a b : UInt64} (ha : DFin a) (hb : DFin b) (h : (V a - V b).natAbs ≤ BIG) : DFin (FP.dsub a b) ∧ V (FP.dsub a b) = rnd (V a - V b) 1 := by
  have e : FP.dsub a b = FP.dadd a (Core.dneg b) := dsub_eq a b
  rw [e]
  have := V_dadd ha (fin_neg hb) (by rw [V_neg]; exact h)
  rw [V_neg] at this
  exact this
theorem zmag_V (a : UInt64) : zmag b64 (val64 a) = (V a).natAbs := by unfold V zval; rw [natAbs_signed]
theorem V_dmul {a b : UInt64} (ha : DFin a) (hb : DFin b) (h : (V a * V b).natAbs ≤ BIG * one64) : DFin (FP.dmul a b) ∧ V (FP.dmul a b) = rnd (V a * V b) one64 := by
  have za := zmag_V a
  have zb := zmag_V b
  obtain ⟨s, c, q, ea⟩ := ha
  obtain ⟨t, d, r, eb⟩ := hb
  have fa : Jvm.FP.Core.fits b64 (.fin s c q) := ea ▸ val64_fits a
  have fb : Jvm.FP.Core.fits b64 (.fin t d r) := eb ▸ val64_fits b
  obtain ⟨p1, p2, p3⟩ := product_units fa fb
  rw [← ea, ← eb, za, zb, ← Int.natAbs_mul] at p3
  rw [qmin_b64] at p2 p3
  have hv : val64 (FP.dmul a b) = roundRatio b64 (s != t) (V a * V b).natAbs one64 (-1074) := by
    rw [show FP.dmul a b = Core.dmul a b from rfl, val64_dmul, ea, eb, p1]
    show roundRatio b64 (s != t) (c * d) 1 (q + r) = _
    refine roundRatio_congr (by decide) one64_pos ?_
    rw [← p3]
    unfold inUnits one64
    rw [Nat.mul_one, Nat.mul_assoc (c * d), Nat.mul_assoc (c * d), ← Nat.pow_add, ← Nat.pow_add]
    congr 2
    omega
  have hS : signed (s != t) (V a * V b).natAbs = V a * V b := by
    rw [Int.natAbs_mul, signed_xor, ← za, ← zb]
    unfold V zval
    rw [ea, eb]
    rfl
  obtain ⟨c', q', hh⟩ := fin_round (s := s != t) (A := (V a * V b).natAbs) (B := one64) one64_pos h
  refine ⟨⟨_, c', q', hv.trans hh⟩, ?_⟩
  show zval b64 (val64 (FP.dmul a b)) = _
  rw [hv, rnd_signed, hS]
theorem pw2 (c d x y : Nat) : c * (d * 2 ^ x) * 2 ^ y = c * d * 2 ^ (x + y) := by rw [Nat.pow_add]; ac_rfl
theorem pw3 (c d x y z : Nat) : c * 2 ^ x * 2 ^ y * d * 2 ^ z = c * d * 2 ^ (x + y + z) := by rw [Nat.pow_add, Nat.pow_add]; ac_rfl
theorem V_ddiv {a b : UInt64} (ha : DFin a) (hb : DFin b) (h0 : V b ≠ 0) (h : (V a).natAbs * one64 ≤ BIG * (V b).natAbs) : DFin (FP.ddiv a b) ∧ V (FP.ddiv a b) = rnd (V a * (one64 : Int) * (V b).sign) (V b).natAbs := by
  have za := zmag_V a
  have zb := zmag_V b
  have sb : (V b).sign = signed (sgn (val64 b)) 1 := by
    unfold V zval at h0 ⊢
    cases hsg : sgn (val64 b) <;> rw [hsg] at h0 <;> simp only [signed, if_true, Bool.false_eq_true, if_false] at h0 ⊢
    · exact Int.sign_eq_one_of_pos (by omega)
    · exact Int.sign_eq_neg_one_of_neg (by omega)
  obtain ⟨s, c, q, ea⟩ := ha
  obtain ⟨t, d, r, eb⟩ := hb
  have fa : Jvm.FP.Core.fits b64 (.fin s c q) := ea ▸ val64_fits a
  have fb : Jvm.FP.Core.fits b64 (.fin t d r) := eb ▸ val64_fits b
  have hq1 := fa.2.1
  have hr1 := fb.2.1
  rw [qmin_b64] at hq1 hr1
  have ma : (V a).natAbs = c * 2 ^ (q - (-1074)).toNat := by rw [← za, ea]; show inUnits c q b64.qmin = _; rw [qmin_b64]; rfl
  have mb : (V b).natAbs = d * 2 ^ (r - (-1074)).toNat := by rw [← zb, eb]; show inUnits d r b64.qmin = _; rw [qmin_b64]; rfl
  have hd0 : d ≠ 0 := by
    rintro rfl
    rw [Nat.zero_mul] at mb; omega
  have hBp : 0 < (V b).natAbs := by omega
  have hv : val64 (FP.ddiv a b) = roundRatio b64 (s != t) ((V a).natAbs * one64) (V b).natAbs (-1074) := by
    rw [show FP.ddiv a b = Core.ddiv a b from rfl, val64_ddiv, ea, eb]
    simp only [quotient, if_neg hd0]
    refine roundRatio_congr (by omega) hBp ?_
    rw [ma, mb]
    unfold one64
    rw [pw2, pw3]
    congr 2
    omega
  have hS : signed (s != t) ((V a).natAbs * one64) = V a * (one64 : Int) * (V b).sign := by
    rw [sb, eb]
    show _ = _ * signed t 1
    have : signed (s != t) ((V a).natAbs * one64 * 1) = signed s ((V a).natAbs * one64) * signed t 1 := signed_xor s t _ 1
    rw [Nat.mul_one] at this
    rw [this, signed_mul]
    congr 2
    rw [← za]
    unfold V zval
    rw [ea]
    rfl
  obtain ⟨c', q', hh⟩ := fin_round (s := s != t) (A := (V a).natAbs * one64) (B := (V b).natAbs) hBp h
  refine ⟨⟨_, c', q', hv.trans hh⟩, ?_⟩
  show zval b64 (val64 (FP.ddiv a b)) = _
  rw [hv, rnd_signed, hS]
theorem V_of_int {a : UInt64} {n : Int} (ha : val64 a = round b64 (ofInt n)) (h : n.natAbs ≤ 2 ^ 64) : DFin a ∧ V a = rnd (n * (one64 : Int)) 1 := by
  have hv : val64 a = roundRatio b64 (decide (n < 0)) (n.natAbs * one64) 1 (-1074) := by
    rw [ha]
    show roundRatio b64 (decide (n < 0)) n.natAbs 1 0 = _
    refine roundRatio_congr (by decide) (by decide) ?_
    unfold one64
    rw [show (0 - (-1074) : Int).toNat = 1074 from rfl, show (-1074 - 0 : Int).toNat = 0 from rfl]
    simp
  have hS : signed (decide (n < 0)) (n.natAbs * one64) = n * (one64 : Int) := by rw [signed_mul, signed_natAbs]
  have hB : n.natAbs * one64 ≤ BIG := by
    refine Nat.le_trans (Nat.mul_le_mul_right _ h) ?_
    unfold one64 BIG
    rw [← Nat.pow_add]
    exact Nat.pow_le_pow_right (by decide) (by decide)
  obtain ⟨c', q', hh⟩ := fin_round (s := decide (n < 0)) (A := n.natAbs * one64) (B := 1) (by decide) (by rw [Nat.mul_one]; exact hB)
  refine ⟨⟨_, c', q', hv.trans hh⟩, ?_⟩
  show zval b64 (val64 a) = _
  rw [hv, rnd_signed, hS]
theorem V_l2d (n : Int64) : DFin (FP.l2d n) ∧ V (FP.l2d n) = rnd (n.toInt * (one64 : Int)) 1 :=
  V_of_int (val64_l2d n) (Nat.le_trans (int64_abs n) (by decide))
theorem V_i2d (n : Int32) : DFin (FP.i2d n) ∧ V (FP.i2d n) = rnd (n.toInt * (one64 : Int)) 1 :=
  V_of_int (val64_i2d n) (Nat.le_trans (int32_abs n) (by decide))
theorem V_drem {a b : UInt64} (ha : DFin a) (hb : DFin b) (h0 : V b ≠ 0) : DFin (FP.drem a b) ∧ V (FP.drem a b) = (V a).tmod (V b) := by
  have za := zmag_V a
  have zb := zmag_V b
  obtain ⟨s, c, q, ea⟩ := ha
  obtain ⟨t, d, r, eb⟩ := hb
  have fa : Jvm.FP.Core.fits b64 (.fin s c q) := ea ▸ val64_fits a
  have fb : Jvm.FP.Core.fits b64 (.fin t d r) := eb ▸ val64_fits b
  have hd0 : d ≠ 0 := by
    rintro rfl
    rw [eb] at zb
    have : zmag b64 (.fin t 0 r) = 0 := Nat.zero_mul _
    omega
  obtain ⟨c', q', h1, h2⟩ := remainder_exact good_b64 fa fb hd0
  have hv : val64 (FP.drem a b) = .fin s c' q' := by rw [show FP.drem a b = Core.drem a b from rfl, val64_drem, ea, eb, h1]
  refine ⟨⟨_, _, _, hv⟩, ?_⟩
  have h3 : zmag b64 (.fin s c' q') = (V a).natAbs % (V b).natAbs := by rw [← za, ← zb, ea, eb]; exact h2
  have hVa : V a = signed s (V a).natAbs := by rw [← za]; unfold V zval; rw [ea]; rfl
  show zval b64 (val64 (FP.drem a b)) = _
  rw [hv]
  show signed s (zmag b64 (.fin s c' q')) = _
  rw [h3]
  have hb2 : ∀ x : Int, x.tmod (V b) = x.tmod ((V b).natAbs : Int) := by
    intro x
    rcases Int.natAbs_eq (V b) with e | e
    · rw [← e]
    · rw [e, Int.tmod_neg]; simp
  rw [hb2]
  generalize (V b).natAbs = B at *
  generalize (V a).natAbs = A at *
  rw [hVa]
  cases s <;> simp [signed] <;> exact (Int.tmod_eq_emod_of_nonneg (Int.natCast_nonneg A)).symm
theorem cmp_V {a b : UInt64} (ha : DFin a) (hb : DFin b) : FP.dcmp a b = some (compare (V a) (V b)) := by
  obtain ⟨s, c, q, ea⟩ := ha
  obtain ⟨t, d, r, eb⟩ := hb
  exact dcmp_zval (by rw [ea]; exact Datum.noConfusion) (by rw [eb]; exact Datum.noConfusion)
/-! the rounding -/
theorem rnd_congr {n n' : Int} {d d' : Nat} (hd : 0 < d) (hd' : 0 < d') (h : n * (d' : Int) = n' * (d : Int)) : rnd n d = rnd n' d' := by
  have hs : (n < 0) ↔ (n' < 0) := by
    have p1 : (0 : Int) < d := by omega
    have p2 : (0 : Int) < d' := by omega
    constructor
    · intro q
      have := Int.mul_neg_of_neg_of_pos q p2
      refine Int.lt_of_not_ge fun q' => ?_
      have := Int.mul_nonneg q' (Int.le_of_lt p1)
      omega
    · intro q
      have := Int.mul_neg_of_neg_of_pos q p1
      refine Int.lt_of_not_ge fun q' => ?_
      have := Int.mul_nonneg q' (Int.le_of_lt p2)
      omega
  have hm : n.natAbs * d' = n'.natAbs * d := by
    have := congrArg Int.natAbs h
    rwa [Int.natAbs_mul, Int.natAbs_mul, Int.natAbs_natCast, Int.natAbs_natCast] at this
  unfold rnd
  rw [show decide (n < 0) = decide (n' < 0) from decide_eq_decide.mpr hs]
  congr 1
  exact roundRatio_congr hd hd' (by simpa using hm)
/-- at most 53 binary digits -/
def Rep (r : Int) : Prop := ∃ (m : Int) (e : Nat), r = m * ((2 ^ e : Nat) : Int) ∧ m.natAbs < 2 ^ 53 ∧ e ≤ 2045
theorem rnd_exact {n : Int} {d : Nat} {r : Int} (hd : 0 < d) (h : n = r * (d : Int)) (hr : Rep r) : rnd n d = r := by
  rw [rnd_congr (n' := r) (d' := 1) hd (by decide) (by rw [h]; simp)]
  obtain ⟨m, e, rfl, hm, he⟩ := hr
  have hsg : ∀ k : Nat, signed (decide (m < 0)) (m.natAbs * k) = m * (k : Int) := fun k => by rw [signed_mul, signed_natAbs]
  have h1 : rnd (m * ((2 ^ e : Nat) : Int)) 1 = zval b64 (roundRatio b64 (decide (m < 0)) (m.natAbs * 2 ^ e) 1 (-1074)) := by rw [rnd_signed, hsg]
  rw [h1]
  obtain ⟨c', q', h2, h3⟩ := round_exact good_b64 (decide (m < 0)) (c := m.natAbs) (q := (e : Int) - 1074) hm (by rw [qmin_b64]; omega) (by rw [show b64.qmax = 971 by decide]; omega)
  have h4 : roundRatio b64 (decide (m < 0)) (m.natAbs * 2 ^ e) 1 (-1074) = roundRatio b64 (decide (m < 0)) m.natAbs 1 ((e : Int) - 1074) := by
    refine roundRatio_congr (by decide) (by decide) ?_
    rw [show (-1074 - ((e : Int) - 1074)).toNat = 0 by omega, show ((e : Int) - 1074 - -1074).toNat = e by omega]
    simp
  rw [h4]
  have h5 : roundRatio b64 (decide (m < 0)) m.natAbs 1 ((e : Int) - 1074) = .fin (decide (m < 0)) c' q' := h2
  rw [h5]
  show signed _ (inUnits c' q' b64.qmin) = _
  rw [h3, ← hsg]
  unfold inUnits
  rw [qmin_b64, show ((e : Int) - 1074 - -1074).toNat = e by omega]
  rfl
theorem rep_V {a : UInt64} (ha : DFin a) : Rep (V a) := by
  obtain ⟨s, c, q, ea⟩ := ha
  have fa : Jvm.FP.Core.fits b64 (.fin s c q) := ea ▸ val64_fits a
  obtain ⟨h1, h2, h3, -⟩ := fa
  rw [qmin_b64] at h2
  rw [show b64.qmax = 971 by decide] at h3
  refine ⟨signed s c, (q - (-1074)).toNat, ?_, by rw [natAbs_signed]; exact h1, by omega⟩
  unfold V zval
  rw [ea]
  show signed s (c * 2 ^ (q - b64.qmin).toNat) = _
  rw [signed_mul, qmin_b64]
theorem V_le {a : UInt64} : (V a).natAbs ≤ (V a).natAbs := Nat.le_refl _
end Jvm.OwnF
namespace Jvm.OwnF
open Jvm.FP Jvm.FP.Core
/-! exact values: a is n / 2^k -/
def R53 (n : Int) : Prop := ∃ (m : Int) (e : Nat), n = m * ((2 ^ e : Nat) : Int) ∧ m.natAbs ≤ 2 ^ 53 ∧ e ≤ 800
def DV (n : Int) (k : Nat) (a : UInt64) : Prop := DFin a ∧ k ≤ 1074 ∧ V a = n * ((2 ^ (1074 - k) : Nat) : Int)
theorem r53 {n : Int} (h : n.natAbs ≤ 2 ^ 53) : R53 n := ⟨n, 0, by simp, h, by decide⟩
theorem rep_of {m : Int} {e : Nat} (hm : m.natAbs ≤ 2 ^ 53) (he : e ≤ 1900) : Rep (m * ((2 ^ e : Nat) : Int)) := by
  by_cases h : m.natAbs < 2 ^ 53
  · exact ⟨m, e, rfl, h, by omega⟩
  · refine ⟨m.sign, e + 53, ?_, ?_, by omega⟩
    · have h1 : m.natAbs = 2 ^ 53 := by omega
      have h2 : m = m.sign * (m.natAbs : Int) := (Int.sign_mul_natAbs m).symm
      conv => lhs; rw [h2, h1]
      rw [Nat.pow_add, Int.natCast_mul, Int.mul_assoc]
      congr 1
      rw [Int.mul_comm]
    · have : m.sign.natAbs ≤ 1 := by
        rcases Int.lt_trichotomy m 0 with q | q | q
        · rw [Int.sign_eq_neg_one_of_neg q]; decide
        · rw [q]; decide
        · rw [Int.sign_eq_one_of_pos q]; decide
      omega
theorem rep_R {n : Int} (h : R53 n) {k : Nat} (hk : k ≤ 1074) : Rep (n * ((2 ^ k : Nat) : Int)) := by
  obtain ⟨m, e, rfl, hm, he⟩ := h
  rw [Int.mul_assoc, ← Int.natCast_mul, ← Nat.pow_add]
  exact rep_of hm (by omega)
theorem big_R {n : Int} (h : R53 n) {k : Nat} (hk : k ≤ 1074) : (n * ((2 ^ k : Nat) : Int)).natAbs ≤ BIG := by
  obtain ⟨m, e, rfl, hm, he⟩ := h
  rw [Int.natAbs_mul, Int.natAbs_mul, Int.natAbs_natCast, Int.natAbs_natCast, Nat.mul_assoc, ← Nat.pow_add]
  refine Nat.le_trans (Nat.mul_le_mul_right _ hm) ?_
  unfold BIG
  rw [← Nat.pow_add]
  exact Nat.pow_le_pow_right (by decide) (by omega)
theorem DV.fin {n : Int} {k : Nat} {a : UInt64} (h : DV n k a) : DFin a := h.1
theorem DV.nn {n : Int} {k : Nat} {a : UInt64} (h : DV n k a) : Jvm.Free.Fl.NoNaN64 a := noNaN_fin h.1
theorem DV.of_eq {n m : Int} {k : Nat} {a : UInt64} (h : DV n k a) (e : n = m) : DV m k a := e ▸ h
theorem DV.up {n : Int} {k : Nat} {a : UInt64} (h : DV n k a) (j : Nat) (hj : k + j ≤ 1074) : DV (n * ((2 ^ j : Nat) : Int)) (k + j) a := by
  refine ⟨h.1, hj, ?_⟩
  rw [h.2.2, Int.mul_assoc, ← Int.natCast_mul, ← Nat.pow_add]
  congr 4
  omega
theorem DV.down {n : Int} {k j : Nat} {a : UInt64} (h : DV (n * ((2 ^ j : Nat) : Int)) (k + j) a) : DV n k a := by
  refine ⟨h.1, by have := h.2.1; omega, ?_⟩
  rw [h.2.2, Int.mul_assoc, ← Int.natCast_mul, ← Nat.pow_add]
  congr 4
  have := h.2.1; omega
theorem DV_of_V {n : Int} {k : Nat} {a : UInt64} (hf : DFin a) (hk : k ≤ 1074) (hn : R53 n) (h : V a = rnd (n * ((2 ^ (1074 - k) : Nat) : Int)) 1) : DV n k a :=
  ⟨hf, hk, by rw [h]; exact rnd_exact (by decide) (by simp) (rep_R hn (by omega))⟩
theorem DV_add {n m : Int} {k : Nat} {a b : UInt64} (ha : DV n k a) (hb : DV m k b) (h : R53 (n + m)) : DV (n + m) k (FP.dadd a b) := by
  have e : V a + V b = (n + m) * ((2 ^ (1074 - k) : Nat) : Int) := by rw [ha.2.2, hb.2.2, Int.add_mul]
  obtain ⟨h1, h2⟩ := V_dadd ha.1 hb.1 (by rw [e]; exact big_R h (by omega))
  exact DV_of_V h1 ha.2.1 h (by rw [h2, e])
theorem DV_sub {n m : Int} {k : Nat} {a b : UInt64} (ha : DV n k a) (hb : DV m k b) (h : R53 (n - m)) : DV (n - m) k (FP.dsub a b) := by
  have e : V a - V b = (n - m) * ((2 ^ (1074 - k) : Nat) : Int) := by rw [ha.2.2, hb.2.2, Int.sub_mul]
  obtain ⟨h1, h2⟩ := V_dsub ha.1 hb.1 (by rw [e]; exact big_R h (by omega))
  exact DV_of_V h1 ha.2.1 h (by rw [h2, e])
theorem DV_mul {n m : Int} {k j : Nat} {a b : UInt64} (ha : DV n k a) (hb : DV m j b) (hkj : k + j ≤ 1074) (h : R53 (n * m)) : DV (n * m) (k + j) (FP.dmul a b) := by
  have e : V a * V b = (n * m) * ((2 ^ (1074 - (k + j)) : Nat) : Int) * (one64 : Int) := by
    rw [ha.2.2, hb.2.2]
    have : ((2 ^ (1074 - (k + j)) : Nat) : Int) * (one64 : Int) = ((2 ^ (1074 - k) : Nat) : Int) * ((2 ^ (1074 - j) : Nat) : Int) := by
      rw [← Int.natCast_mul, ← Int.natCast_mul]
      unfold one64
      rw [← Nat.pow_add, ← Nat.pow_add]
      congr 2
      have := ha.2.1; have := hb.2.1; omega
    rw [Int.mul_assoc (n * m), this]
    ac_rfl
  obtain ⟨h1, h2⟩ := V_dmul ha.1 hb.1 (by
    rw [e, Int.natAbs_mul, Int.natAbs_natCast]
    exact Nat.mul_le_mul_right _ (big_R h (by omega)))
  refine ⟨h1, hkj, ?_⟩
  rw [h2]
  exact rnd_exact one64_pos e (rep_R h (by omega))
theorem divalg {n c m P Q X U I J : Int} (h : n * P = c * m * Q) (e2 : X * Q = U) (e3 : I * J * P = U * U) : n * X * U * (Q * P) = c * I * (m * J) * (Q * P) := by
  have l : n * X * U * (Q * P) = (n * P) * (X * Q) * U := by ac_rfl
  have r : c * I * (m * J) * (Q * P) = c * m * Q * (I * J * P) := by ac_rfl
  rw [l, r, h, e2, e3, Int.mul_assoc (c * m * Q)]
theorem DV_div {n m c : Int} {k j i : Nat} {a b : UInt64} (ha : DV n k a) (hb : DV m j b) (hi : i ≤ 1074) (hm : m ≠ 0) (hc : R53 c) (h : n * ((2 ^ (j + i) : Nat) : Int) = c * m * ((2 ^ k : Nat) : Int)) : DV c i (FP.ddiv a b) := by
  have hb0 : V b ≠ 0 := by
    rw [hb.2.2]
    intro q
    rcases Int.mul_eq_zero.mp q with q | q
    · exact hm q
    · have := Nat.two_pow_pos (1074 - j); omega
  have hk := ha.2.1
  have hj := hb.2.1
  -- V a * U = (c * 2^(1074 - i)) * V b
  have e : V a * (one64 : Int) = c * ((2 ^ (1074 - i) : Nat) : Int) * V b := by
    have pp : ((2 ^ (k + j + i) : Nat) : Int) ≠ 0 := by have := Nat.two_pow_pos (k + j + i); omega
    refine Int.eq_of_mul_eq_mul_right pp ?_
    rw [ha.2.2, hb.2.2]
    have e1 : ((2 ^ (k + j + i) : Nat) : Int) = ((2 ^ k : Nat) : Int) * ((2 ^ (j + i) : Nat) : Int) := by rw [← Int.natCast_mul, ← Nat.pow_add, Nat.add_assoc]
    have e2 : ((2 ^ (1074 - k) : Nat) : Int) * ((2 ^ k : Nat) : Int) = (one64 : Int) := by rw [← Int.natCast_mul, ← Nat.pow_add, Nat.sub_add_cancel hk]; rfl
    have e3 : ((2 ^ (1074 - i) : Nat) : Int) * ((2 ^ (1074 - j) : Nat) : Int) * ((2 ^ (j + i) : Nat) : Int) = (one64 : Int) * (one64 : Int) := by
      rw [← Int.natCast_mul, ← Int.natCast_mul, ← Int.natCast_mul]
      unfold one64
      rw [← Nat.pow_add, ← Nat.pow_add, ← Nat.pow_add]
      congr 2
      omega
    rw [e1]
    exact divalg h e2 e3
  have ea : (V a).natAbs * one64 = (c * ((2 ^ (1074 - i) : Nat) : Int)).natAbs * (V b).natAbs := by
    have := congrArg Int.natAbs e
    rwa [Int.natAbs_mul, Int.natAbs_mul, Int.natAbs_natCast] at this
  obtain ⟨h1, h2⟩ := V_ddiv ha.1 hb.1 hb0 (by rw [ea]; exact Nat.mul_le_mul_right _ (big_R hc (by omega)))
  refine ⟨h1, hi, ?_⟩
  rw [h2]
  refine rnd_exact (by omega) ?_ (rep_R hc (by omega))
  rw [e, Int.mul_assoc, Int.mul_sign_self]
theorem DV_l2d {n : Int64} (h : R53 n.toInt) : DV n.toInt 0 (FP.l2d n) := by
  obtain ⟨h1, h2⟩ := V_l2d n
  exact DV_of_V h1 (by decide) h h2
theorem DV_i2d (n : Int32) : DV n.toInt 0 (FP.i2d n) := by
  obtain ⟨h1, h2⟩ := V_i2d n
  exact DV_of_V h1 (by decide) (r53 (Nat.le_trans (int32_abs n) (by decide))) h2
theorem DV_const {a : UInt64} {n : Int} {k : Nat} (h1 : a.toNat % 2 ^ 63 < 9218868437227405312) (hk : k ≤ 1074) (h2 : V a = n * ((2 ^ (1074 - k) : Nat) : Int)) : DV n k a := ⟨(fin_bits a).mpr h1, hk, h2⟩
theorem DV_0 : DV 0 0 FP.dconst0 := DV_const (by decide) (by decide) (by decide +kernel)
theorem DV_1 : DV 1 0 FP.dconst1 := DV_const (by decide) (by decide) (by decide +kernel)
theorem DV_z : DV 0 0 (0 : UInt64) := DV_const (by decide) (by decide) (by decide +kernel)
theorem cmpv_V {a b : UInt64} (ha : DFin a) (hb : DFin b) (o : ClassFile.CmpOp) : (V a < V b → Op.cmpValue (FP.dcmp a b) o = -1) ∧ (V a = V b → Op.cmpValue (FP.dcmp a b) o = 0) ∧ (V b < V a → Op.cmpValue (FP.dcmp a b) o = 1) := by
  rw [cmp_V ha hb]
  refine ⟨fun h => ?_, fun h => ?_, fun h => ?_⟩
  · rw [(compare_lt_iff _ _).mpr h]; rfl
  · rw [(compare_eq_iff _ _).mpr h]; rfl
  · rw [(compare_gt_iff _ _).mpr h]; rfl
theorem DV_le {n m : Int} {k : Nat} {a b : UInt64} (ha : DV n k a) (hb : DV m k b) : (V a < V b ↔ n < m) ∧ (V a = V b ↔ n = m) := by
  rw [ha.2.2, hb.2.2]
  have hp : (0 : Int) < ((2 ^ (1074 - k) : Nat) : Int) := by have := Nat.two_pow_pos (1074 - k); omega
  exact ⟨Int.mul_lt_mul_right hp, ⟨fun q => Int.eq_of_mul_eq_mul_right (by omega) q, fun q => by rw [q]⟩⟩
theorem DV_cmp {n m : Int} {k : Nat} {a b : UInt64} (ha : DV n k a) (hb : DV m k b) (o : ClassFile.CmpOp) : (n < m → Op.cmpValue (FP.dcmp a b) o = -1) ∧ (n = m → Op.cmpValue (FP.dcmp a b) o = 0) ∧ (m < n → Op.cmpValue (FP.dcmp a b) o = 1) := by
  obtain ⟨h1, h2, h3⟩ := cmpv_V ha.1 hb.1 o
  exact ⟨fun q => h1 ((DV_le ha hb).1.mpr q), fun q => h2 ((DV_le ha hb).2.mpr q), fun q => h3 ((DV_le hb ha).1.mpr q)⟩
theorem DV_eq0 {n : Int} {k : Nat} {a b : UInt64} (ha : DV n k a) (hb : DV n k b) (o : ClassFile.CmpOp) : Op.cmpValue (FP.dcmp a b) o = 0 := (DV_cmp ha hb o).2.1 rfl
theorem DV_d2l {n : Int} {a : UInt64} (h : DV n 0 a) (h1 : -9223372036854775808 ≤ n) (h2 : n < 9223372036854775808) : (FP.d2l a).toInt = n := by
  obtain ⟨hf, -, hv⟩ := h
  have hn : val64 a ≠ .nan := by obtain ⟨s, c, q, e⟩ := hf; rw [e]; exact Datum.noConfusion
  rw [show FP.d2l a = Core.d2l a from rfl, d2l_val hn, zmag_V]
  have hs : signed (sgn (val64 a)) (V a).natAbs = V a := by rw [← zmag_V]; rfl
  have ho : (1074 - 0 : Nat) = 1074 := rfl
  rw [ho, show (2 ^ 1074 : Nat) = one64 from rfl] at hv
  have hm : (V a).natAbs = n.natAbs * one64 := by rw [hv, Int.natAbs_mul, Int.natAbs_natCast]
  have hd : (V a).natAbs / one64 = n.natAbs := by rw [hm, Nat.mul_div_cancel _ one64_pos]
  rw [hd]
  have hsn : signed (sgn (val64 a)) n.natAbs = n := by
    rw [hm, signed_mul, hv] at hs
    exact Int.eq_of_mul_eq_mul_right (by have := one64_pos; omega) hs
  rw [hsn]
  omega
end Jvm.OwnF
namespace Jvm.OwnF
open Jvm.RoadKit
/-! ints and longs as whole numbers -/
theorem mul_bd {a b : Int} {A B : Nat} (ha : a.natAbs ≤ A) (hb : b.natAbs ≤ B) : (a * b).natAbs ≤ A * B := by rw [Int.natAbs_mul]; exact Nat.mul_le_mul ha hb
theorem iadd_v {x y z : Int32} (h : x + y = z) (hb : (x.toInt + y.toInt).natAbs < 2147483648) : z.toInt = x.toInt + y.toInt := by rw [← h, Int32.toInt_add]; exact Int.bmod_eq_of_le (by omega) (by omega)
theorem isub_v {x y z : Int32} (h : x - y = z) (hb : (x.toInt - y.toInt).natAbs < 2147483648) : z.toInt = x.toInt - y.toInt := by rw [← h, Int32.toInt_sub]; exact Int.bmod_eq_of_le (by omega) (by omega)
theorem imul_v {x y z : Int32} (h : x * y = z) (hb : (x.toInt * y.toInt).natAbs < 2147483648) : z.toInt = x.toInt * y.toInt := by rw [← h, Int32.toInt_mul]; exact Int.bmod_eq_of_le (by omega) (by omega)
theorem ladd_v {x y z : Int64} (h : x + y = z) (hb : (x.toInt + y.toInt).natAbs < 9223372036854775808) : z.toInt = x.toInt + y.toInt := by rw [← h, Int64.toInt_add]; exact Int.bmod_eq_of_le (by omega) (by omega)
theorem lsub_v {x y z : Int64} (h : x - y = z) (hb : (x.toInt - y.toInt).natAbs < 9223372036854775808) : z.toInt = x.toInt - y.toInt := by rw [← h, Int64.toInt_sub]; exact Int.bmod_eq_of_le (by omega) (by omega)
theorem lmul_v {x y z : Int64} (h : x * y = z) (hb : (x.toInt * y.toInt).natAbs < 9223372036854775808) : z.toInt = x.toInt * y.toInt := by rw [← h, Int64.toInt_mul]; exact Int.bmod_eq_of_le (by omega) (by omega)
theorem i2l_v {x : Int32} {z : Int64} (h : x.toInt64 = z) : z.toInt = x.toInt := by rw [← h]; exact c_i2l x
theorem l2i_v {x : Int64} {z : Int32} (h : x.toInt32 = z) (hb : -2147483648 ≤ x.toInt ∧ x.toInt < 2147483648) : z.toInt = x.toInt := by
  rw [← h]; have h1 := c_l2i x; have h2 := rng32 x.toInt32; omega
theorem rng32b (x : Int32) : x.toInt.natAbs ≤ 2147483648 := by have := rng32 x; omega
theorem rng64b (x : Int64) : x.toInt.natAbs ≤ 9223372036854775808 := by have := rng64 x; omega
theorem ishr16 {p z : Int32} (h : p >>> ((16 : Int32) &&& 31) = z) : z.toInt = p.toInt / 65536 := by
  rw [← h, c_ishr p 16 16 (by decide)]; rfl
theorem i2s_b {x z : Int32} (h : x.toInt16.toInt32 = z) : -32768 ≤ z.toInt ∧ z.toInt < 32768 := by rw [← h]; exact (c_i2s x).2
/-- x % y, y > 0, x ≥ 0 -/
theorem irem_v {x y z : Int32} (h : x % y = z) (hx : 0 ≤ x.toInt) : z.toInt = x.toInt % y.toInt := by rw [← h, Int32.toInt_mod]; exact Int.tmod_eq_emod_of_nonneg hx
theorem lrem_v {x y z : Int64} (h : x % y = z) (hx : 0 ≤ x.toInt) : z.toInt = x.toInt % y.toInt := by rw [← h, Int64.toInt_mod]; exact Int.tmod_eq_emod_of_nonneg hx
theorem mask31 {x z : Int32} (h : x &&& (2147483647 : Int32) = z) : 0 ≤ z.toInt ∧ z.toInt < 2147483648 := by
  rw [← h, c_mask x 2147483647 31 (by decide) (by decide)]
  have e : ((2 ^ 31 : Nat) : Int) = 2147483648 := by decide
  rw [e]; omega
/-- x << q, q < 64, no overflow -/
theorem lshl_v {x z : Int64} {q : Int32} (h : x <<< (q &&& 0x3f).toInt64 = z) {k : Nat} (hq : q.toInt = (k : Int)) (hk : k < 64) (hb : (x.toInt * ((2 ^ k : Nat) : Int)).natAbs < 9223372036854775808) : z.toInt = x.toInt * ((2 ^ k : Nat) : Int) := by
  have hn : q.toBitVec.toNat % 64 = k := by
    have e : q.toBitVec.toNat = k := by
      have h1 : q.toBitVec.toInt = (k : Int) := hq
      have h2 := BitVec.toInt_eq_toNat_bmod q.toBitVec
      rw [h1] at h2
      have h3 := q.toBitVec.isLt
      have h4 := Int.bmod_emod (x := (q.toBitVec.toNat : Int)) (m := 2 ^ 32)
      omega
    omega
  have := c_lshl x q k hn
  rw [h] at this
  have r := rng64 z
  omega
end Jvm.OwnF
namespace Jvm.OwnF
open Jvm.RoadKit
theorem nat32 {q : Int32} {k : Nat} (hq : q.toInt = (k : Int)) : q.toBitVec.toNat = k := by
  have h1 : q.toBitVec.toInt = (k : Int) := hq
  have h2 := BitVec.toInt_eq_toNat_bmod q.toBitVec
  rw [h1] at h2
  have h3 := q.toBitVec.isLt
  have h5 := rng32 q
  have h4 := Int.bmod_emod (x := (q.toBitVec.toNat : Int)) (m := 2 ^ 32)
  omega
theorem ishl_v {x z q : Int32} (h : x <<< (q &&& 31) = z) {k : Nat} (hq : q.toInt = (k : Int)) (hk : k < 32) (hb : (x.toInt * ((2 ^ k : Nat) : Int)).natAbs < 2147483648) : z.toInt = x.toInt * ((2 ^ k : Nat) : Int) := by
  have hn : q.toBitVec.toNat % 32 = k := by rw [nat32 hq]; omega
  have := c_ishl x q k hn
  rw [h] at this
  have r := rng32 z
  omega
theorem ishl_1 {z q : Int32} (h : (1 : Int32) <<< (q &&& 31) = z) {k : Nat} (hq : q.toInt = (k : Int)) (hk : k < 31) : z.toInt = ((2 ^ k : Nat) : Int) := by
  have p : 2 ^ k ≤ 2 ^ 30 := Nat.pow_le_pow_right (by decide) (by omega)
  have := ishl_v h hq (by omega) (by rw [show (1 : Int32).toInt = 1 by decide, Int.one_mul, Int.natAbs_natCast]; omega)
  rw [show (1 : Int32).toInt = 1 by decide, Int.one_mul] at this
  exact this
end Jvm.OwnF
namespace Jvm.OwnF
open Jvm.FP Jvm.FP.Core
/-! the rounding is a nearest one; the sum's error -/
def RepU (r : Int) : Prop := ∃ (m : Int) (e : Nat), r = m * ((2 ^ e : Nat) : Int) ∧ m.natAbs < 2 ^ 53
theorem Rep.u {r : Int} (h : Rep r) : RepU r := by obtain ⟨m, e, h1, h2, -⟩ := h; exact ⟨m, e, h1, h2⟩
theorem RepU.rep {r : Int} (h : RepU r) (hb : r.natAbs ≤ BIG) : Rep r := by
  obtain ⟨m, e, rfl, hm⟩ := h
  by_cases h0 : m = 0
  · subst h0; exact ⟨0, 0, by simp, by decide, by decide⟩
  · refine ⟨m, e, rfl, hm, ?_⟩
    rw [Int.natAbs_mul, Int.natAbs_natCast] at hb
    have h1 : 1 ≤ m.natAbs := by omega
    have h2 : 2 ^ e ≤ 2 ^ 2000 := Nat.le_trans (Nat.le_mul_of_pos_left _ h1) hb
    have := (Nat.pow_le_pow_iff_right (by decide : 1 < 2)).mp h2
    omega
theorem RepU.neg {r : Int} (h : RepU r) : RepU (-r) := by
  obtain ⟨m, e, rfl, hm⟩ := h
  exact ⟨-m, e, by rw [Int.neg_mul], by rwa [Int.natAbs_neg]⟩
theorem RepU.zero : RepU 0 := ⟨0, 0, by simp, by decide⟩
theorem repU_of {m : Int} {e : Nat} (hm : m.natAbs ≤ 2 ^ 53) : RepU (m * ((2 ^ e : Nat) : Int)) := by
  by_cases h : m.natAbs < 2 ^ 53
  · exact ⟨m, e, rfl, h⟩
  · refine ⟨m.sign, e + 53, ?_, ?_⟩
    · have h1 : m.natAbs = 2 ^ 53 := by omega
      have h2 : m = m.sign * (m.natAbs : Int) := (Int.sign_mul_natAbs m).symm
      conv => lhs; rw [h2, h1]
      rw [Nat.pow_add, Int.natCast_mul, Int.mul_assoc]
      congr 1
      rw [Int.mul_comm]
    · have : m.sign.natAbs ≤ 1 := by
        rcases Int.lt_trichotomy m 0 with q | q | q
        · rw [Int.sign_eq_neg_one_of_neg q]; decide
        · rw [q]; decide
        · rw [Int.sign_eq_one_of_pos q]; decide
      omega
theorem rnd_fin {n : Int} {d : Nat} (hd : 0 < d) (hn : n.natAbs ≤ BIG * d) : ∃ c q, roundRatio b64 (decide (n < 0)) n.natAbs d (-1074) = .fin (decide (n < 0)) c q ∧ Jvm.FP.Core.fits b64 (.fin (decide (n < 0)) c q) ∧ rnd n d = signed (decide (n < 0)) (inUnits c q (-1074)) := by
  obtain ⟨c, q, h⟩ := fin_round (s := decide (n < 0)) hd hn
  refine ⟨c, q, h, h ▸ roundRatio_fits good_b64 _ _ hd _, ?_⟩
  unfold rnd
  rw [h]
  show signed _ (inUnits c q b64.qmin) = _
  rw [qmin_b64]
  rfl
theorem rnd_rep {n : Int} {d : Nat} (hd : 0 < d) (hn : n.natAbs ≤ BIG * d) : RepU (rnd n d) := by
  obtain ⟨c, q, -, h2, h3⟩ := rnd_fin hd hn
  rw [h3]
  unfold inUnits
  rw [signed_mul]
  exact ⟨_, _, rfl, by rw [natAbs_signed]; exact h2.1⟩
theorem rnd_near {n : Int} {d : Nat} {r : Int} (hd : 0 < d) (hn : n.natAbs ≤ BIG * d) (hr : RepU r) : (n - rnd n d * (d : Int)).natAbs ≤ (n - r * (d : Int)).natAbs := by
  obtain ⟨c, q, h1, h2, h3⟩ := rnd_fin hd hn
  have near : ∀ (c' : Nat) (e' : Nat), c' < 2 ^ 53 → ((n.natAbs : Int) - (inUnits c q (-1074) : Int) * (d : Int)).natAbs ≤ ((n.natAbs : Int) - ((c' * 2 ^ e' : Nat) : Int) * (d : Int)).natAbs := by
    intro c' e' hc'
    have := roundRatio_nearest good_b64 (e0 := -1074) (q' := (e' : Int) - 1074) hd h1 (c' := c') hc' (by rw [qmin_b64]; omega) (by rw [qmin_b64]; decide) (by decide)
    unfold distance at this
    rw [un0] at this
    unfold inUnits at this ⊢
    rw [show ((e' : Int) - 1074 - -1074).toNat = e' by omega] at this
    exact this
  have hrn : rnd n d * (d : Int) = signed (decide (n < 0)) (inUnits c q (-1074) * d) := by rw [h3, signed_mul]
  rw [hrn]
  have n0 := near 0 0 (by decide)
  obtain ⟨m, e, rfl, hm⟩ := hr
  have nm := near m.natAbs e hm
  have e1 : ((inUnits c q (-1074) : Nat) : Int) * (d : Int) = ((inUnits c q (-1074) * d : Nat) : Int) := by simp
  have e2 : ((m.natAbs * 2 ^ e : Nat) : Int) * (d : Int) = ((m.natAbs * 2 ^ e * d : Nat) : Int) := by simp
  rw [e1] at n0 nm
  rw [e2] at nm
  have e3 : m * ((2 ^ e : Nat) : Int) * (d : Int) = signed (decide (m < 0)) (m.natAbs * 2 ^ e * d) := by rw [Nat.mul_assoc, signed_mul, signed_natAbs, Int.natCast_mul, Int.mul_assoc]
  rw [e3]
  simp only [Nat.zero_mul, Int.natCast_zero, Int.zero_mul, Int.sub_zero] at n0
  generalize inUnits c q (-1074) * d = x at *
  generalize m.natAbs * 2 ^ e * d = y at *
  by_cases hn0 : n < 0 <;> by_cases hm0 : m < 0 <;> simp only [hn0, hm0, decide_true, decide_false, signed, if_true, Bool.false_eq_true, if_false] <;> omega
theorem rnd_mono {n n' : Int} {d d' : Nat} (hd : 0 < d) (hd' : 0 < d') (hn : n.natAbs ≤ BIG * d) (hn' : n'.natAbs ≤ BIG * d') (h : n * (d' : Int) ≤ n' * (d : Int)) : rnd n d ≤ rnd n' d' := by
  refine Int.le_of_not_gt fun hlt => ?_
  have r1 := rnd_near hd hn (rnd_rep hd' hn')
  have r2 := rnd_near hd' hn' (rnd_rep hd hn)
  have hne : n * (d' : Int) ≠ n' * (d : Int) := fun q => by
    have := rnd_congr hd hd' q
    omega
  generalize rnd n d = a at *
  generalize rnd n' d' = b at *
  have pd : (0 : Int) < d := by omega
  have pd' : (0 : Int) < d' := by omega
  have k1 : b * (d : Int) < a * (d : Int) := Int.mul_lt_mul_of_pos_right hlt pd
  have k2 : b * (d' : Int) < a * (d' : Int) := Int.mul_lt_mul_of_pos_right hlt pd'
  -- 2 n ≥ (a + b) d and 2 n' ≤ (a + b) d'
  have q1 : (a + b) * (d : Int) ≤ 2 * n := by rw [Int.add_mul]; omega
  have q2 : 2 * n' ≤ (a + b) * (d' : Int) := by rw [Int.add_mul]; omega
  have q3 := Int.mul_le_mul_of_nonneg_right q1 (Int.le_of_lt pd')
  have q4 := Int.mul_le_mul_of_nonneg_right q2 (Int.le_of_lt pd)
  have q3' : (a + b) * ((d : Int) * (d' : Int)) ≤ 2 * (n * (d' : Int)) := by rw [← Int.mul_assoc (a + b), ← Int.mul_assoc 2 n]; exact q3
  have q4' : 2 * (n' * (d : Int)) ≤ (a + b) * ((d : Int) * (d' : Int)) := by rw [← Int.mul_assoc 2 n', Int.mul_comm (d : Int) d', ← Int.mul_assoc (a + b)]; exact q4
  omega
theorem rnd_neg (n : Int) {d : Nat} (hd : 0 < d) : rnd (-n) d = -rnd n d := by
  by_cases h0 : n = 0
  · subst h0
    have : rnd 0 d = 0 := zval_zero _ _ _
    simp [this]
  · unfold rnd
    rw [Int.natAbs_neg, ← zval_negate, negate_roundRatio]
    congr 2
    by_cases h : n < 0
    · simp [h, show ¬ (0 < n) by omega]
    · simp [h, show 0 < n by omega]
/-- multiples of 2^e up to 2^53 of them -/
theorem g1 {r : Int} {e : Nat} (h : ((2 ^ e : Nat) : Int) ∣ r) (hb : r.natAbs ≤ 2 ^ 53 * 2 ^ e) : RepU r := by
  obtain ⟨k, rfl⟩ := h
  rw [Int.mul_comm]
  refine repU_of ?_
  rw [Int.natAbs_mul, Int.natAbs_natCast, Nat.mul_comm] at hb
  exact Nat.le_of_mul_le_mul_right hb (Nat.two_pow_pos e)
theorem g2 {r : Int} {e : Nat} (h : RepU r) (hb : 2 ^ 52 * 2 ^ e ≤ r.natAbs) : ((2 ^ e : Nat) : Int) ∣ r := by
  obtain ⟨m, f, rfl, hm⟩ := h
  rw [Int.natAbs_mul, Int.natAbs_natCast] at hb
  have h1 : 2 ^ (52 + e) < 2 ^ (53 + f) := by
    rw [Nat.pow_add, Nat.pow_add]
    exact Nat.lt_of_le_of_lt hb (Nat.mul_lt_mul_of_pos_right hm (Nat.two_pow_pos f))
  have h2 := (Nat.pow_lt_pow_iff_right (by decide : 1 < 2)).mp h1
  have h3 : 2 ^ f = 2 ^ e * 2 ^ (f - e) := by rw [← Nat.pow_add]; congr 1; omega
  rw [h3, Int.natCast_mul, ← Int.mul_assoc, Int.mul_comm m, Int.mul_assoc]
  exact Int.dvd_mul_right _ _
theorem floor_bd {n G : Int} (hp : 0 < G) (hb : (n.natAbs : Int) ≤ G * 9007199254740992) (hz : n % G ≠ 0) : -9007199254740992 ≤ n / G ∧ n / G < 9007199254740992 := by
  have hdm := Int.mul_ediv_add_emod n G
  have h0 := Int.emod_nonneg n (Int.ne_of_gt hp)
  have h1 := Int.emod_lt_of_pos n hp
  generalize n / G = k at *
  generalize n % G = x at *
  constructor
  · refine Int.le_of_not_gt fun q => ?_
    have : G * k ≤ G * (-9007199254740993) := Int.mul_le_mul_of_nonneg_left (by omega) (Int.le_of_lt hp)
    rw [Int.mul_neg] at this
    have e1 : G * 9007199254740993 = G * 9007199254740992 + G := by rw [show (9007199254740993 : Int) = 9007199254740992 + 1 from rfl, Int.mul_add, Int.mul_one]
    omega
  · refine Int.lt_of_not_ge fun q => ?_
    have : G * 9007199254740992 ≤ G * k := Int.mul_le_mul_of_nonneg_left q (Int.le_of_lt hp)
    omega
theorem g3 {n : Int} {e : Nat} (hn : n.natAbs ≤ BIG) (hb : n.natAbs ≤ 2 ^ 53 * 2 ^ e) : 2 * (n - rnd n 1).natAbs ≤ 2 ^ e := by
  have hn' : n.natAbs ≤ BIG * 1 := by omega
  have hp : (0 : Int) < ((2 ^ e : Nat) : Int) := by have := Nat.two_pow_pos e; omega
  have near : ∀ {r : Int}, RepU r → (n - rnd n 1).natAbs ≤ (n - r).natAbs := fun {r} hr => by
    have := rnd_near (by decide) hn' hr
    simpa using this
  by_cases hz : n % ((2 ^ e : Nat) : Int) = 0
  · have := near (g1 (Int.dvd_of_emod_eq_zero hz) hb)
    rw [Int.sub_self] at this
    have h2 : (n - rnd n 1).natAbs = 0 := by simpa using this
    rw [h2]; exact Nat.zero_le _
  · have hbI : (n.natAbs : Int) ≤ ((2 ^ e : Nat) : Int) * 9007199254740992 := by
      have : ((n.natAbs : Nat) : Int) ≤ ((2 ^ 53 * 2 ^ e : Nat) : Int) := Int.ofNat_le.mpr hb
      rw [Int.natCast_mul, Int.mul_comm] at this
      exact this
    obtain ⟨k1, k2⟩ := floor_bd hp hbI hz
    have lo := near (repU_of (m := n / ((2 ^ e : Nat) : Int)) (e := e) (by omega))
    have hi := near (repU_of (m := n / ((2 ^ e : Nat) : Int) + 1) (e := e) (by omega))
    have hdm := Int.mul_ediv_add_emod n ((2 ^ e : Nat) : Int)
    have h0 := Int.emod_nonneg n (Int.ne_of_gt hp)
    have h1 := Int.emod_lt_of_pos n hp
    rw [Int.add_mul, Int.one_mul] at hi
    rw [Int.mul_comm] at lo hi
    generalize ((2 ^ e : Nat) : Int) * (n / ((2 ^ e : Nat) : Int)) = f at *
    generalize n % ((2 ^ e : Nat) : Int) = x at *
    generalize (n - rnd n 1).natAbs = w at *
    generalize 2 ^ e = G at *
    omega
theorem near1 {n r : Int} (hn : n.natAbs ≤ BIG) (hr : RepU r) : (n - rnd n 1).natAbs ≤ (n - r).natAbs := by
  have := rnd_near (n := n) (d := 1) (by decide) (by omega) hr
  simpa using this
theorem rep1 {n : Int} (hn : n.natAbs ≤ BIG) : RepU (rnd n 1) := rnd_rep (by decide) (by omega)
theorem exact1 {n : Int} (hn : n.natAbs ≤ BIG) (hr : RepU n) : rnd n 1 = n := rnd_exact (by decide) (by simp) (hr.rep hn)
theorem twice1 {n : Int} (hn : n.natAbs ≤ BIG) : (rnd n 1).natAbs ≤ 2 * n.natAbs := by
  have := near1 hn RepU.zero
  rw [Int.sub_zero] at this
  omega
/-- a number as great as a power rounds to one as great -/
theorem ge1 {n : Int} {e : Nat} (hn : n.natAbs ≤ BIG) (h : 2 ^ e ≤ n.natAbs) : 2 ^ e ≤ (rnd n 1).natAbs := by
  have r1 : RepU ((2 ^ e : Nat) : Int) := ⟨1, e, by simp, by decide⟩
  have n1 := near1 hn r1
  have n2 := near1 hn r1.neg
  omega
/-- the least grid for a number: 2^f with |n| ≤ 2^53 * 2^f, and |n| > 2^52 * 2^f unless f = 0 -/
theorem grid (n : Nat) : ∃ f : Nat, n ≤ 2 ^ 53 * 2 ^ f ∧ (f = 0 ∨ 2 ^ 52 * 2 ^ f < n) := by
  by_cases h : n ≤ 2 ^ 53
  · exact ⟨0, by omega, Or.inl rfl⟩
  · have h1 : 2 ^ (n - 1).log2 ≤ n - 1 := Nat.log2_self_le (by omega)
    have h2 : n - 1 < 2 ^ ((n - 1).log2 + 1) := Nat.lt_log2_self
    have h3 : 53 ≤ (n - 1).log2 := by
      refine Nat.le_of_not_lt fun q => ?_
      have : 2 ^ ((n - 1).log2 + 1) ≤ 2 ^ 53 := Nat.pow_le_pow_right (by decide) (by omega)
      omega
    refine ⟨(n - 1).log2 - 52, ?_, Or.inr ?_⟩
    · rw [← Nat.pow_add, show 53 + ((n - 1).log2 - 52) = (n - 1).log2 + 1 by omega]; omega
    · rw [← Nat.pow_add, show 52 + ((n - 1).log2 - 52) = (n - 1).log2 by omega]; omega
theorem dvd_le {a b : Nat} (h : a ≤ b) : ((2 ^ a : Nat) : Int) ∣ ((2 ^ b : Nat) : Int) := Int.natCast_dvd_natCast.mpr (Nat.pow_dvd_pow 2 h)
/-- the error of a sum is a double -/
theorem err_rep {a b : Int} (ha : RepU a) (hb : RepU b) (hn : (a + b).natAbs ≤ BIG) : RepU (a + b - rnd (a + b) 1) := by
  have na := near1 hn ha
  have nb := near1 hn hb
  obtain ⟨ma, ea, ea', hma⟩ := id ha
  obtain ⟨mb, eb, eb', hmb⟩ := id hb
  -- the lesser of the two exponents
  have key : ∀ e : Nat, e ≤ ea → e ≤ eb → (a.natAbs ≤ 2 ^ 53 * 2 ^ e ∨ b.natAbs ≤ 2 ^ 53 * 2 ^ e) → RepU (a + b - rnd (a + b) 1) := by
    intro e h1 h2 h3
    have da : ((2 ^ e : Nat) : Int) ∣ a := by rw [ea']; exact Int.dvd_trans (dvd_le h1) (Int.dvd_mul_left _ _)
    have db : ((2 ^ e : Nat) : Int) ∣ b := by rw [eb']; exact Int.dvd_trans (dvd_le h2) (Int.dvd_mul_left _ _)
    have ds : ((2 ^ e : Nat) : Int) ∣ a + b := Int.dvd_add da db
    by_cases hs : (a + b).natAbs ≤ 2 ^ 53 * 2 ^ e
    · rw [exact1 hn (g1 ds hs), Int.sub_self]; exact RepU.zero
    · have h4 : 2 ^ (52 + e) ≤ (a + b).natAbs := by rw [Nat.pow_add]; omega
      have h5 := ge1 hn h4
      rw [Nat.pow_add] at h5
      have dr := g2 (rep1 hn) h5
      refine g1 (Int.dvd_sub ds dr) ?_
      rw [show a + b - a = b by omega] at na
      rw [show a + b - b = a by omega] at nb
      omega
  by_cases hle : ea ≤ eb
  · refine key ea (Nat.le_refl _) hle (Or.inl ?_)
    rw [ea', Int.natAbs_mul, Int.natAbs_natCast]
    exact Nat.mul_le_mul_right _ (Nat.le_of_lt hma)
  · refine key eb (by omega) (Nat.le_refl _) (Or.inr ?_)
    rw [eb', Int.natAbs_mul, Int.natAbs_natCast]
    exact Nat.mul_le_mul_right _ (Nat.le_of_lt hmb)
/-- the greater summand taken off the rounded sum leaves a double -/
theorem fast_rep {a b : Int} (ha : RepU a) (hb : RepU b) (hab : b.natAbs ≤ a.natAbs) (hn : (a + b).natAbs ≤ BIG) : RepU (rnd (a + b) 1 - a) := by
  obtain ⟨f, hf1, hf2⟩ := grid (a + b).natAbs
  rcases Nat.eq_zero_or_pos f with h0 | h0
  · subst h0
    have : RepU (a + b) := g1 (e := 0) (by simp) hf1
    rw [exact1 hn this, show a + b - a = b by omega]; exact hb
  · have hf3 : 2 ^ 52 * 2 ^ f < (a + b).natAbs := by omega
    have hG : 2 ^ f = 2 * 2 ^ (f - 1) := by conv => lhs; rw [show f = f - 1 + 1 by omega, Nat.pow_succ, Nat.mul_comm]
    have h5 : 2 ^ 52 * 2 ^ f ≤ (rnd (a + b) 1).natAbs := by
      rw [← Nat.pow_add]
      exact ge1 hn (by rw [Nat.pow_add]; omega)
    have d3 := g3 hn hf1
    have ds := g2 (rep1 hn) h5
    by_cases hbig : 2 ^ 53 * 2 ^ (f - 1) ≤ b.natAbs
    · -- both lie on the grid of the sum: it is exact
      have db := g2 (e := f) hb (by omega)
      have da := g2 (e := f) ha (by omega)
      rw [exact1 hn (g1 (Int.dvd_add da db) hf1), show a + b - a = b by omega]; exact hb
    · have da : ((2 ^ (f - 1) : Nat) : Int) ∣ a := g2 (e := f - 1) ha (by omega)
      have ds' : ((2 ^ (f - 1) : Nat) : Int) ∣ rnd (a + b) 1 := Int.dvd_trans (dvd_le (by omega)) ds
      have dd := Int.dvd_sub ds' da
      obtain ⟨k, hk⟩ := dd
      rw [hk, Int.mul_comm]
      refine repU_of ?_
      have hkn : (rnd (a + b) 1 - a).natAbs = 2 ^ (f - 1) * k.natAbs := by rw [hk, Int.natAbs_mul, Int.natAbs_natCast]
      have hlt : 2 ^ (f - 1) * k.natAbs < 2 ^ (f - 1) * (2 ^ 53 + 1) := by
        rw [← hkn, Nat.mul_add, Nat.mul_one, Nat.mul_comm (2 ^ (f - 1)) (2 ^ 53)]
        generalize rnd (a + b) 1 = s at *
        omega
      have := Nat.lt_of_mul_lt_mul_left hlt
      omega
/-- the smaller summand first: what is taken from the rounded sum lies near the greater one -/
theorem near_rep {a b : Int} (ha : RepU a) (hb : RepU b) (hab : a.natAbs ≤ b.natAbs) (hn : (a + b).natAbs ≤ BIG) (hn2 : (rnd (a + b) 1 - a).natAbs ≤ BIG) : RepU (b - rnd (rnd (a + b) 1 - a) 1) := by
  obtain ⟨f, hf1, hf2⟩ := grid b.natAbs
  have d1 := g3 (e := f + 1) hn (by rw [Nat.pow_succ]; omega)
  rw [Nat.pow_succ] at d1
  have d2 := near1 hn2 hb
  have rx := rep1 hn2
  generalize hs : rnd (a + b) 1 = s at *
  generalize hx : rnd (s - a) 1 = x at *
  have hbx : (b - x).natAbs ≤ 2 * 2 ^ f := by omega
  rcases Nat.eq_zero_or_pos f with h0 | h0
  · subst h0
    exact g1 (e := 0) (by simp) (by omega)
  · have hG : 2 ^ f = 2 * 2 ^ (f - 1) := by conv => lhs; rw [show f = f - 1 + 1 by omega, Nat.pow_succ, Nat.mul_comm]
    have db := g2 (e := f - 1) hb (by omega)
    have hp := Nat.two_pow_pos (f - 1)
    have dx := g2 (e := f - 1) rx (by omega)
    exact g1 (Int.dvd_sub db dx) (by omega)
/-- KNUTH's two-sum -/
theorem two_sum {a b : Int} (ha : RepU a) (hb : RepU b) (ba : a.natAbs ≤ 2 ^ 1900) (bb : b.natAbs ≤ 2 ^ 1900) {s x aa da db r : Int} (hs : s = rnd (a + b) 1) (hx : x = rnd (s - a) 1) (haa : aa = rnd (s - x) 1) (hda : da = rnd (a - aa) 1) (hdb : db = rnd (b - x) 1) (hr : r = rnd (da + db) 1) : r = a + b - s := by
  have hB : 64 * 2 ^ 1900 ≤ BIG := by unfold BIG; rw [show (64 : Nat) = 2 ^ 6 from rfl, ← Nat.pow_add]; exact Nat.pow_le_pow_right (by decide) (by decide)
  generalize 2 ^ 1900 = M at *
  have n1 : (a + b).natAbs ≤ BIG := by omega
  have s2 : s.natAbs ≤ 4 * M := by have := twice1 n1; rw [← hs] at this; omega
  have n2 : (s - a).natAbs ≤ BIG := by omega
  have x2 : x.natAbs ≤ 10 * M := by have := twice1 n2; rw [← hx] at this; omega
  have n3 : (s - x).natAbs ≤ BIG := by omega
  have n4 : (b - x).natAbs ≤ BIG := by omega
  have rs : RepU s := hs ▸ rep1 n1
  have err := err_rep ha hb n1
  rw [← hs] at err
  have eb : (a + b - s).natAbs ≤ BIG := by omega
  -- what suffices: the three differences are exact
  have fin : aa = s - x → da = a - aa → db = b - x → r = a + b - s := by
    intro e1 e2 e3
    rw [hr, e2, e3, e1, show a - (s - x) + (b - x) = a + b - s by omega]
    exact exact1 eb err
  by_cases hab : b.natAbs ≤ a.natAbs
  · have rx := fast_rep ha hb hab n1
    rw [← hs] at rx
    have ex : x = s - a := by rw [hx]; exact exact1 n2 rx
    have e1 : aa = s - x := by rw [haa, ex, show s - (s - a) = a by omega]; exact exact1 (by omega) ha
    refine fin e1 ?_ ?_
    · rw [hda, e1, ex, show a - (s - (s - a)) = 0 by omega]; exact exact1 (Nat.zero_le _) RepU.zero
    · rw [hdb, ex, show b - (s - a) = a + b - s by omega]; exact exact1 eb err
  · have e3 : db = b - x := by
      have := near_rep ha hb (by omega) n1 (by rw [← hs]; exact n2)
      rw [← hs, ← hx] at this
      rw [hdb]; exact exact1 n4 this
    -- either the sum is exact, or it is as great as a
    have alt : s = a + b ∨ a.natAbs ≤ s.natAbs := by
      obtain ⟨f, hf1, hf2⟩ := grid a.natAbs
      have da' : ((2 ^ f : Nat) : Int) ∣ a := by
        rcases hf2 with h0 | h0
        · subst h0; simp
        · exact g2 ha (by omega)
      have db' : ((2 ^ f : Nat) : Int) ∣ b := by
        rcases hf2 with h0 | h0
        · subst h0; simp
        · exact g2 hb (by omega)
      by_cases hsm : (a + b).natAbs ≤ 2 ^ 53 * 2 ^ f
      · exact Or.inl (hs.trans (exact1 n1 (g1 (Int.dvd_add da' db') hsm)))
      · right
        have : 2 ^ (53 + f) ≤ (a + b).natAbs := by rw [Nat.pow_add]; omega
        have := ge1 n1 this
        rw [← hs, Nat.pow_add] at this
        omega
    rcases alt with es | hge
    · have ex : x = b := by rw [hx, es, show a + b - a = b by omega]; exact exact1 (by omega) hb
      have e1 : aa = s - x := by rw [haa, ex, es, show a + b - b = a by omega]; exact exact1 (by omega) ha
      refine fin e1 ?_ e3
      rw [hda, e1, ex, es, show a - (a + b - b) = 0 by omega]; exact exact1 (Nat.zero_le _) RepU.zero
    · have n2' : (s + -a).natAbs ≤ BIG := by rw [← Int.sub_eq_add_neg]; exact n2
      have r1 := fast_rep rs ha.neg (by rw [Int.natAbs_neg]; exact hge) n2'
      have r2 := err_rep rs ha.neg n2'
      rw [← Int.sub_eq_add_neg, ← hx] at r1 r2
      have e1 : aa = s - x := by
        rw [haa]; exact exact1 n3 (by have := r1.neg; rwa [show -(x - s) = s - x by omega] at this)
      refine fin e1 ?_ e3
      rw [hda, e1]
      exact exact1 (by omega) (by have := r2.neg; rwa [show -(s - a - x) = a - (s - x) by omega] at this)
/-- DEKKER's fast two-sum -/
theorem fast_two {a b : Int} (ha : RepU a) (hb : RepU b) (ba : a.natAbs ≤ 2 ^ 1900) (hab : b.natAbs ≤ a.natAbs) {s x r : Int} (hs : s = rnd (a + b) 1) (hx : x = rnd (s - a) 1) (hr : r = rnd (b - x) 1) : r = a + b - s := by
  have hB : 64 * 2 ^ 1900 ≤ BIG := by unfold BIG; rw [show (64 : Nat) = 2 ^ 6 from rfl, ← Nat.pow_add]; exact Nat.pow_le_pow_right (by decide) (by decide)
  generalize 2 ^ 1900 = M at *
  have n1 : (a + b).natAbs ≤ BIG := by omega
  have s2 : s.natAbs ≤ 4 * M := by have := twice1 n1; rw [← hs] at this; omega
  have n2 : (s - a).natAbs ≤ BIG := by omega
  have err := err_rep ha hb n1
  rw [← hs] at err
  have rx := fast_rep ha hb hab n1
  rw [← hs] at rx
  have ex : x = s - a := by rw [hx]; exact exact1 n2 rx
  rw [hr, ex, show b - (s - a) = a + b - s by omega]
  exact exact1 (by omega) err
end Jvm.OwnF
namespace Jvm.OwnF
open Jvm.FP Jvm.FP.Core
/-! rounded whole numbers; two-sum on doubles -/
theorem le1 {n : Int} {e : Nat} (hn : n.natAbs ≤ BIG) (h : n.natAbs ≤ 2 ^ e) : (rnd n 1).natAbs ≤ 2 ^ e := by
  have r1 : RepU ((2 ^ e : Nat) : Int) := ⟨1, e, by simp, by decide⟩
  have n1 := near1 hn r1
  have n2 := near1 hn r1.neg
  have n3 := near1 hn RepU.zero
  generalize 2 ^ e = P at *
  omega
theorem pow_big {k : Nat} (h : k ≤ 2000) : 2 ^ k ≤ BIG := by unfold BIG; exact Nat.pow_le_pow_right (by decide) h
theorem mulU {n : Int} {k : Nat} (h : n.natAbs ≤ 2 ^ k) (j : Nat) : (n * ((2 ^ j : Nat) : Int)).natAbs ≤ 2 ^ (k + j) := by
  rw [Int.natAbs_mul, Int.natAbs_natCast, Nat.pow_add]; exact Nat.mul_le_mul_right _ h
/-- rounding keeps the grid that both stand on -/
theorem dvd_round {n : Int} {j : Nat} (hn : n.natAbs ≤ BIG) (hd : ((2 ^ j : Nat) : Int) ∣ n) : ((2 ^ j : Nat) : Int) ∣ rnd n 1 := by
  by_cases h : n.natAbs ≤ 2 ^ 53 * 2 ^ j
  · rw [exact1 hn (g1 hd h)]; exact hd
  · have h1 : 2 ^ (53 + j) ≤ n.natAbs := by rw [Nat.pow_add]; omega
    have h2 := ge1 hn h1
    rw [Nat.pow_add] at h2
    exact g2 (rep1 hn) (by omega)
theorem DV.fl {n : Int} {k : Nat} {a : UInt64} (h : DV n k a) : RepU (V a) := (rep_V h.1).u
theorem DV_of_dvd {a : UInt64} {k : Nat} (hf : DFin a) (hk : k ≤ 1074) (hd : ((2 ^ (1074 - k) : Nat) : Int) ∣ V a) : ∃ n, DV n k a := by
  obtain ⟨n, hn⟩ := hd
  exact ⟨n, hf, hk, by rw [hn, Int.mul_comm]⟩
/-- a rounded value on the grid 2^-k -/
theorem round_int {a : UInt64} {n : Int} {k j : Nat} (hk : k ≤ 1074) (hj : j ≤ 900) (hf : DFin a) (hn : n.natAbs ≤ 2 ^ j) (hv : V a = rnd (n * ((2 ^ (1074 - k) : Nat) : Int)) 1) : ∃ A : Int, DV A k a ∧ A.natAbs ≤ 2 ^ j := by
  have hb : (n * ((2 ^ (1074 - k) : Nat) : Int)).natAbs ≤ 2 ^ (j + (1074 - k)) := mulU hn _
  have hB : (n * ((2 ^ (1074 - k) : Nat) : Int)).natAbs ≤ BIG := Nat.le_trans hb (pow_big (by omega))
  have hd := dvd_round hB (Int.dvd_mul_left n ((2 ^ (1074 - k) : Nat) : Int))
  rw [← hv] at hd
  obtain ⟨A, hA⟩ := DV_of_dvd hf hk hd
  refine ⟨A, hA, ?_⟩
  have := le1 hB hb
  rw [← hv, hA.2.2, Int.natAbs_mul, Int.natAbs_natCast, Nat.pow_add] at this
  exact Nat.le_of_mul_le_mul_right this (Nat.two_pow_pos _)
theorem V_bd {n : Int} {k j : Nat} {a : UInt64} (h : DV n k a) (hn : n.natAbs ≤ 2 ^ j) : (V a).natAbs ≤ 2 ^ (j + 1074) := by
  rw [h.2.2]
  exact Nat.le_trans (mulU hn _) (Nat.pow_le_pow_right (by decide) (by omega))
theorem V_dadd' {a b z : UInt64} (h : FP.dadd a b = z) (ha : DFin a) (hb : DFin b) (hB : (V a + V b).natAbs ≤ BIG) : DFin z ∧ V z = rnd (V a + V b) 1 := h ▸ V_dadd ha hb hB
theorem V_dsub' {a b z : UInt64} (h : FP.dsub a b = z) (ha : DFin a) (hb : DFin b) (hB : (V a - V b).natAbs ≤ BIG) : DFin z ∧ V z = rnd (V a - V b) 1 := h ▸ V_dsub ha hb hB
theorem bigM : 64 * 2 ^ 1900 ≤ BIG := by unfold BIG; rw [show (64 : Nat) = 2 ^ 6 from rfl, ← Nat.pow_add]; exact Nat.pow_le_pow_right (by decide) (by decide)
theorem tw {n : Int} {z : UInt64} {K : Nat} (hv : V z = rnd n 1) (hn : n.natAbs ≤ BIG) (h : n.natAbs ≤ K) : (V z).natAbs ≤ 2 * K := by
  have := twice1 hn; rw [← hv] at this; omega
theorem DV_two {a b s x aa da db r : UInt64} (fa : DFin a) (fb : DFin b) (ba : (V a).natAbs ≤ 2 ^ 1800) (bb : (V b).natAbs ≤ 2 ^ 1800) (hs : FP.dadd a b = s) (hx : FP.dsub s a = x) (haa : FP.dsub s x = aa) (hda : FP.dsub a aa = da) (hdb : FP.dsub b x = db) (hr : FP.dadd da db = r) :
    DFin s ∧ DFin x ∧ DFin aa ∧ DFin da ∧ DFin db ∧ DFin r ∧ V r = V a + V b - V s := by
  have hB : 1000 * 2 ^ 1800 ≤ BIG := by unfold BIG; refine Nat.le_trans (Nat.mul_le_mul_right _ (show 1000 ≤ 2 ^ 10 by decide)) ?_; rw [← Nat.pow_add]; exact Nat.pow_le_pow_right (by decide) (by decide)
  have hM : 2 ^ 1800 ≤ 2 ^ 1900 := Nat.pow_le_pow_right (by decide) (by decide)
  obtain ⟨fs, vs⟩ := V_dadd' hs fa fb (by omega)
  have b1 := tw (K := 2 * 2 ^ 1800) vs (by omega) (by omega)
  obtain ⟨fx, vx⟩ := V_dsub' hx fs fa (by omega)
  have b2 := tw (K := 5 * 2 ^ 1800) vx (by omega) (by omega)
  obtain ⟨faa, vaa⟩ := V_dsub' haa fs fx (by omega)
  have b3 := tw (K := 14 * 2 ^ 1800) vaa (by omega) (by omega)
  obtain ⟨fda, vda⟩ := V_dsub' hda fa faa (by omega)
  have b4 := tw (K := 29 * 2 ^ 1800) vda (by omega) (by omega)
  obtain ⟨fdb, vdb⟩ := V_dsub' hdb fb fx (by omega)
  have b5 := tw (K := 11 * 2 ^ 1800) vdb (by omega) (by omega)
  obtain ⟨fr, vr⟩ := V_dadd' hr fda fdb (by omega)
  exact ⟨fs, fx, faa, fda, fdb, fr, two_sum (rep_V fa).u (rep_V fb).u (by omega) (by omega) vs vx vaa vda vdb vr⟩
end Jvm.OwnF
namespace Jvm.OwnF
open Jvm.FP Jvm.FP.Core
/-! scaling by a power of two -/
theorem settle_shift {s : Bool} {c : Nat} {q : Int} {j : Nat} {t : Bool} {c' : Nat} {q' : Int} (h : settle b64 s c q = .fin t c' q') (hq : q + 1 + (j : Int) ≤ b64.qmax) : settle b64 s c (q + j) = .fin t c' (q' + j) := by
  unfold settle bound at h ⊢
  by_cases h1 : c < 2 ^ b64.p
  · rw [if_pos h1] at h ⊢
    rw [if_pos (by omega)] at h ⊢
    cases h; rfl
  · rw [if_neg h1] at h ⊢
    rw [if_pos (by omega)] at h ⊢
    cases h
    rw [show q + (j : Int) + 1 = q + 1 + (j : Int) by omega]
theorem rr_shift {s : Bool} {A B : Nat} {j : Nat} {c' : Nat} {q' : Int} {t : Bool} (hA : 0 < A) (hB : 0 < B) (hlead : 53 ≤ leading A B) (hup : leading A B + (j : Int) ≤ 1900) (h : roundRatio b64 s A B (-1074) = .fin t c' q') : roundRatio b64 s A B (-1074 + (j : Int)) = .fin t c' (q' + j) := by
  unfold roundRatio at h ⊢
  rw [if_neg (by omega)] at h ⊢
  have hq : quantum b64 A B (-1074 + (j : Int)) = quantum b64 A B (-1074) + j := by
    unfold quantum
    rw [qmin_b64, show ((b64.p : Nat) : Int) = 53 from rfl]
    omega
  have hqv : quantum b64 A B (-1074) = leading A B - 1126 := by
    unfold quantum
    rw [qmin_b64, show ((b64.p : Nat) : Int) = 53 from rfl]
    omega
  rw [hq]
  unfold roundAt at h ⊢
  have e1 : unitsNum A (-1074 + (j : Int)) (quantum b64 A B (-1074) + j) = unitsNum A (-1074) (quantum b64 A B (-1074)) := by
    unfold unitsNum; congr 3; omega
  have e2 : unitsDen B (-1074 + (j : Int)) (quantum b64 A B (-1074) + j) = unitsDen B (-1074) (quantum b64 A B (-1074)) := by
    unfold unitsDen; congr 3; omega
  rw [e1, e2]
  refine settle_shift h ?_
  rw [hqv, show b64.qmax = 971 by decide]
  omega
theorem leading_ge {A B k : Nat} (hA : 0 < A) (hB : 0 < B) (h : 2 ^ k * B ≤ A) : (k : Int) ≤ leading A B := by
  have h2 := (leading_spec hA hB).2
  refine Int.le_of_not_gt fun q => ?_
  have h3 : Below A B (k : Int) := below_mono (by omega) h2
  unfold Below at h3
  rw [show (-(k : Int)).toNat = 0 by omega, show (k : Int).toNat = k by omega, Nat.mul_comm] at h3
  rw [Nat.mul_comm B] at h3
  omega
theorem leading_le {A B k : Nat} (hA : 0 < A) (hB : 0 < B) (h : A < 2 ^ k * B) : leading A B < (k : Int) := by
  have h2 := (leading_spec hA hB).1
  refine Int.lt_of_not_ge fun q => ?_
  refine h2 (below_mono (a := (k : Int)) q ?_)
  unfold Below
  rw [show (-(k : Int)).toNat = 0 by omega, show (k : Int).toNat = k by omega]
  rw [Nat.mul_comm B]
  omega
/-- above the subnormals scaling by 2^j commutes with rounding -/
theorem rnd_scale {n : Int} {d j K : Nat} (hd : 0 < d) (h1 : 2 ^ 53 * d ≤ n.natAbs) (h2 : n.natAbs < 2 ^ K * d) (hj : K + j ≤ 1900) : rnd (n * ((2 ^ j : Nat) : Int)) d = rnd n d * ((2 ^ j : Nat) : Int) := by
  have hA : 0 < n.natAbs := Nat.lt_of_lt_of_le (Nat.mul_pos (by decide) hd) h1
  have hb : n.natAbs ≤ BIG * d := Nat.le_trans (Nat.le_of_lt h2) (Nat.mul_le_mul_right _ (pow_big (by omega)))
  have hP : (0 : Int) < ((2 ^ j : Nat) : Int) := by have := Nat.two_pow_pos j; omega
  obtain ⟨c, q, e1, e2, e3⟩ := rnd_fin hd hb
  have hl1 := leading_ge hA hd h1
  have hl2 := leading_le hA hd h2
  have hs := rr_shift (j := j) hA hd hl1 (by omega) e1
  have hneg : decide (n * ((2 ^ j : Nat) : Int) < 0) = decide (n < 0) := by
    rw [decide_eq_decide]
    constructor
    · intro t
      refine Int.lt_of_not_ge fun u => ?_
      have := Int.mul_nonneg u (Int.le_of_lt hP)
      omega
    · intro t; exact Int.mul_neg_of_neg_of_pos t hP
  have e4 : rnd (n * ((2 ^ j : Nat) : Int)) d = zval b64 (roundRatio b64 (decide (n < 0)) n.natAbs d (-1074 + (j : Int))) := by
    unfold rnd
    rw [hneg, Int.natAbs_mul, Int.natAbs_natCast]
    congr 1
    refine roundRatio_congr hd hd ?_
    rw [show (-1074 - (-1074 + (j : Int))).toNat = 0 by omega, show (-1074 + (j : Int) - -1074).toNat = j by omega, Nat.pow_zero, Nat.mul_one]
    ac_rfl
  rw [e4, hs, e3]
  show signed _ (inUnits c (q + j) b64.qmin) = _
  rw [← signed_mul, qmin_b64]
  congr 1
  unfold inUnits
  rw [Nat.mul_assoc, ← Nat.pow_add]
  congr 2
  have := e2.2.1
  rw [qmin_b64] at this
  omega
/-- on whole numbers of units scaling always commutes -/
theorem rnd_scale1 {n : Int} {j K : Nat} (h2 : n.natAbs < 2 ^ K) (hj : K + j ≤ 1900) (hj2 : j ≤ 1074) : rnd (n * ((2 ^ j : Nat) : Int)) 1 = rnd n 1 * ((2 ^ j : Nat) : Int) := by
  by_cases h : 2 ^ 53 ≤ n.natAbs
  · exact rnd_scale (K := K) (by decide) (by omega) (by omega) hj
  · have hr : R53 n := r53 (by omega)
    have b0 : n.natAbs ≤ BIG := Nat.le_trans (Nat.le_of_lt h2) (pow_big (by omega))
    have r0 : RepU n := by have := rep_R hr (k := 0) (by decide); rw [Nat.pow_zero] at this; simpa using this.u
    rw [exact1 b0 r0]
    exact exact1 (big_R hr (by omega)) (rep_R hr (by omega)).u
theorem DV.r53 {n : Int} {k j : Nat} {a : UInt64} (h : DV n k a) (hj : j ≤ 700) (hn : n.natAbs ≤ 2 ^ j) : R53 n := by
  obtain ⟨m, e, hm, hb⟩ := h.fl
  rw [h.2.2] at hm
  have hk := h.2.1
  have hP := Nat.two_pow_pos (1074 - k)
  by_cases hle : 1074 - k ≤ e
  · have e1 : n = m * ((2 ^ (e - (1074 - k)) : Nat) : Int) := by
      refine Int.eq_of_mul_eq_mul_right (a := ((2 ^ (1074 - k) : Nat) : Int)) (by omega) ?_
      rw [hm, Int.mul_assoc, ← Int.natCast_mul, ← Nat.pow_add]
      congr 4; omega
    by_cases hm0 : m = 0
    · exact ⟨0, 0, by rw [e1, hm0]; simp, by decide, by decide⟩
    · refine ⟨m, _, e1, Nat.le_of_lt hb, ?_⟩
      have h3 : 2 ^ (e - (1074 - k)) ≤ n.natAbs := by
        rw [e1, Int.natAbs_mul, Int.natAbs_natCast]; exact Nat.le_mul_of_pos_left _ (by omega)
      have h4 := (Nat.pow_le_pow_iff_right (by decide : 1 < 2)).mp (Nat.le_trans h3 hn)
      omega
  · refine Jvm.OwnF.r53 ?_
    have e1 : n * ((2 ^ (1074 - k - e) : Nat) : Int) = m := by
      have he := Nat.two_pow_pos e
      refine Int.eq_of_mul_eq_mul_right (a := ((2 ^ e : Nat) : Int)) (by omega) ?_
      rw [← hm, Int.mul_assoc, ← Int.natCast_mul, ← Nat.pow_add]
      congr 4; omega
    have h5 : n.natAbs ≤ m.natAbs := by
      rw [← e1, Int.natAbs_mul, Int.natAbs_natCast]; exact Nat.le_mul_of_pos_right _ (Nat.two_pow_pos _)
    omega
end Jvm.OwnF
namespace Jvm.OwnF
open Jvm.FP Jvm.FP.Core
theorem le_rep {n : Int} {r : Int} (hn : n.natAbs ≤ BIG) (hr : RepU r) (h : n.natAbs ≤ r.natAbs) : (rnd n 1).natAbs ≤ r.natAbs := by
  have n1 := near1 hn hr
  have n2 := near1 hn hr.neg
  have n3 := near1 hn RepU.zero
  omega
theorem round_int' {a : UInt64} {n B : Int} {k : Nat} (hk : k ≤ 1074) (hB : R53 B) (hf : DFin a) (hn : n.natAbs ≤ B.natAbs) (hv : V a = rnd (n * ((2 ^ (1074 - k) : Nat) : Int)) 1) : ∃ A : Int, DV A k a ∧ A.natAbs ≤ B.natAbs := by
  have hb : (n * ((2 ^ (1074 - k) : Nat) : Int)).natAbs ≤ (B * ((2 ^ (1074 - k) : Nat) : Int)).natAbs := by
    rw [Int.natAbs_mul, Int.natAbs_mul]; exact Nat.mul_le_mul_right _ hn
  have hBB := big_R hB (k := 1074 - k) (by omega)
  have hnB := Nat.le_trans hb hBB
  have hd := dvd_round hnB (Int.dvd_mul_left n ((2 ^ (1074 - k) : Nat) : Int))
  rw [← hv] at hd
  obtain ⟨A, hA⟩ := DV_of_dvd hf hk hd
  refine ⟨A, hA, ?_⟩
  have := le_rep hnB (rep_R hB (by omega)).u hb
  rw [← hv, hA.2.2, Int.natAbs_mul, Int.natAbs_mul, Int.natAbs_natCast] at this
  exact Nat.le_of_mul_le_mul_right this (Nat.two_pow_pos _)
theorem R53.mulp {n : Int} (h : n.natAbs ≤ 2 ^ 53) {e : Nat} (he : e ≤ 800) : R53 (n * ((2 ^ e : Nat) : Int)) := ⟨n, e, rfl, h, he⟩
theorem i32n {z : Int32} {K : Int} (h1 : 0 ≤ z.toInt) (h2 : z.toInt < K) : z.toInt = ((z.toInt.toNat : Nat) : Int) ∧ ((z.toInt.toNat : Nat) : Int) < K := by omega
theorem p2le {a b : Nat} (h : a ≤ b) : (2 : Nat) ^ a ≤ 2 ^ b := Nat.pow_le_pow_right (by decide) h
end Jvm.OwnF
namespace Jvm.OwnF
open Jvm.FP Jvm.FP.Core
/-- a quotient by a whole number -/
theorem V_divi {a c z : UInt64} {D : Int} (dc : DV D 0 c) (hD : 0 < D) (h : FP.ddiv a c = z) (ha : DFin a) (hb : (V a).natAbs ≤ BIG * D.natAbs) : DFin z ∧ V z = rnd (V a) D.natAbs := by
  have hU : (0 : Int) < (one64 : Int) := by have := one64_pos; omega
  have hvc : V c = D * (one64 : Int) := dc.2.2
  have hc0 : V c ≠ 0 := by rw [hvc]; exact Int.ne_of_gt (Int.mul_pos hD hU)
  have hcn : (V c).natAbs = D.natAbs * one64 := by rw [hvc, Int.natAbs_mul, Int.natAbs_natCast]
  have hDp : 0 < D.natAbs := by omega
  obtain ⟨fs, vs⟩ := V_ddiv ha dc.1 hc0 (by rw [hcn, ← Nat.mul_assoc]; exact Nat.mul_le_mul_right _ hb)
  rw [h] at fs vs
  have hsg : (V c).sign = 1 := by rw [hvc]; exact Int.sign_eq_one_of_pos (Int.mul_pos hD hU)
  refine ⟨fs, ?_⟩
  rw [vs, hsg, Int.mul_one, hcn]
  exact rnd_congr (Nat.mul_pos hDp one64_pos) hDp (by rw [Int.natCast_mul, Int.mul_assoc, Int.mul_comm (one64 : Int)])
/-- a positive divisor -/
theorem V_divp {a c z : UInt64} (fc : DFin c) (hc : 0 < V c) (h : FP.ddiv a c = z) (ha : DFin a) (hb : (V a).natAbs * one64 ≤ BIG * (V c).natAbs) : DFin z ∧ V z = rnd (V a * (one64 : Int)) (V c).natAbs := by
  obtain ⟨fs, vs⟩ := V_ddiv ha fc (by omega) hb
  rw [h] at fs vs
  rw [Int.sign_eq_one_of_pos hc, Int.mul_one] at vs
  exact ⟨fs, vs⟩
theorem V_dmul' {a b z : UInt64} (h : FP.dmul a b = z) (ha : DFin a) (hb : DFin b) (hB : (V a * V b).natAbs ≤ BIG * one64) : DFin z ∧ V z = rnd (V a * V b) one64 := h ▸ V_dmul ha hb hB
theorem leR {n : Int} {d e : Nat} (hd : 0 < d) (he : e ≤ 2000) (h : n.natAbs ≤ 2 ^ e * d) : (rnd n d).natAbs ≤ 2 ^ e := by
  have hn : n.natAbs ≤ BIG * d := Nat.le_trans h (Nat.mul_le_mul_right _ (pow_big he))
  have r1 : RepU ((2 ^ e : Nat) : Int) := ⟨1, e, by simp, by decide⟩
  have e1 : rnd ((2 ^ e : Nat) : Int) 1 = ((2 ^ e : Nat) : Int) := exact1 (by rw [Int.natAbs_natCast]; exact pow_big he) r1
  have b1 : (((2 ^ e : Nat) : Int)).natAbs ≤ BIG * 1 := by rw [Nat.mul_one, Int.natAbs_natCast]; exact pow_big he
  have hI : (n.natAbs : Int) ≤ ((2 ^ e : Nat) : Int) * (d : Int) := by rw [← Int.natCast_mul]; exact Int.ofNat_le.mpr h
  have u := rnd_mono hd (by decide) hn b1 (by rw [Int.natCast_one, Int.mul_one]; omega)
  have l := rnd_mono (n := -((2 ^ e : Nat) : Int)) (d := 1) (by decide) hd (by rw [Int.natAbs_neg]; exact b1) hn (by rw [Int.natCast_one, Int.mul_one, Int.neg_mul]; omega)
  rw [rnd_neg _ (by decide), e1] at l
  rw [e1] at u
  omega
theorem rnd_nonneg {n : Int} {d : Nat} (hd : 0 < d) (hn : n.natAbs ≤ BIG * d) (h : 0 ≤ n) : 0 ≤ rnd n d := by
  have e0 : rnd 0 1 = 0 := zval_zero _ _ _
  rw [← e0]
  exact rnd_mono (by decide) hd (Nat.zero_le _) hn (by simpa using h)
end Jvm.OwnF
namespace Jvm.OwnF
open Jvm.FP Jvm.FP.Core
/-! relative errors, in parts of 2^30 -/
def Rel (k : Nat) (x y : Int) : Prop := 1073741824 * (x - y).natAbs ≤ k * y.natAbs
theorem Rel.rfl' (k : Nat) (x : Int) : Rel k x x := by unfold Rel; rw [Int.sub_self]; exact Nat.zero_le _
theorem Rel.mono {k j : Nat} {x y : Int} (h : Rel k x y) (hkj : k ≤ j) : Rel j x y := Nat.le_trans h (Nat.mul_le_mul_right _ hkj)
theorem Rel.zero {k : Nat} {x : Int} (h : Rel k x 0) : x = 0 := by
  unfold Rel at h
  rw [Int.sub_zero, Int.natAbs_zero, Nat.mul_zero] at h
  omega
theorem Rel.mulr {k : Nat} {x y : Int} (h : Rel k x y) (c : Int) : Rel k (x * c) (y * c) := by
  unfold Rel at *
  rw [← Int.sub_mul, Int.natAbs_mul, Int.natAbs_mul, ← Nat.mul_assoc, ← Nat.mul_assoc]
  exact Nat.mul_le_mul_right _ h
theorem Rel.cancel {k : Nat} {x y c : Int} (hc : c ≠ 0) (h : Rel k (x * c) (y * c)) : Rel k x y := by
  unfold Rel at *
  rw [← Int.sub_mul, Int.natAbs_mul, Int.natAbs_mul, ← Nat.mul_assoc, ← Nat.mul_assoc] at h
  exact Nat.le_of_mul_le_mul_right h (by omega)
theorem Rel.trans {k j : Nat} {x y z : Int} (h1 : Rel k x y) (h2 : Rel j y z) (hkj : k * j ≤ 1073741824) : Rel (k + j + 1) x z := by
  unfold Rel at *
  have hY : y.natAbs ≤ z.natAbs + (y - z).natAbs := by omega
  have hc : (x - z).natAbs ≤ (x - y).natAbs + (y - z).natAbs := by omega
  generalize (x - y).natAbs = a at *
  generalize (y - z).natAbs = b at *
  generalize (x - z).natAbs = d at *
  generalize y.natAbs = Y at *
  generalize z.natAbs = W at *
  have p1 : k * Y ≤ k * W + k * b := by rw [← Nat.mul_add]; exact Nat.mul_le_mul_left _ hY
  have p2 : k * b ≤ W := by
    refine Nat.le_of_mul_le_mul_left (c := 1073741824) ?_ (by decide)
    have q1 : k * (1073741824 * b) ≤ k * (j * W) := Nat.mul_le_mul_left _ h2
    have q2 : k * j * W ≤ 1073741824 * W := Nat.mul_le_mul_right _ hkj
    rw [← Nat.mul_assoc] at q1
    rw [Nat.mul_comm k 1073741824, Nat.mul_assoc, ← Nat.mul_assoc k j W] at q1
    omega
  rw [Nat.add_mul, Nat.add_mul]
  omega
theorem Rel.symm {k : Nat} {x y : Int} (h : Rel k x y) (hk : k ≤ 30000) : Rel (k + 1) y x := by
  unfold Rel at *
  have hY : y.natAbs ≤ x.natAbs + (x - y).natAbs := by omega
  rw [show (y - x).natAbs = (x - y).natAbs by omega]
  generalize (x - y).natAbs = a at *
  generalize y.natAbs = Y at *
  generalize x.natAbs = X at *
  have p1 : k * Y ≤ k * X + k * a := by rw [← Nat.mul_add]; exact Nat.mul_le_mul_left _ hY
  have p2 : k * a ≤ 30000 * a := Nat.mul_le_mul_right _ hk
  -- 1073711824 a ≤ k X, so k a ≤ X
  have p3 : 1073711824 * a ≤ k * X := by omega
  have p4 : k * a ≤ X := by
    refine Nat.le_of_mul_le_mul_left (c := 1073711824) ?_ (by decide)
    have q1 : k * (1073711824 * a) ≤ k * (k * X) := Nat.mul_le_mul_left _ p3
    have q2 : k * k * X ≤ 30000 * 30000 * X := Nat.mul_le_mul_right _ (Nat.mul_le_mul hk hk)
    rw [← Nat.mul_assoc, Nat.mul_comm k 1073711824, Nat.mul_assoc, ← Nat.mul_assoc k k X] at q1
    omega
  rw [Nat.add_mul]
  omega
theorem Rel.mul {k j : Nat} {x y z w : Int} (h1 : Rel k x y) (h2 : Rel j z w) (hkj : k * j ≤ 1073741824) : Rel (k + j + 1) (x * z) (y * w) := by
  have a := h1.mulr z
  have b := h2.mulr y
  rw [Int.mul_comm z y, Int.mul_comm w y] at b
  exact a.trans b hkj
theorem Rel.add {k : Nat} {x y z w : Int} (h1 : Rel k x y) (h2 : Rel k z w) (hy : 0 ≤ y) (hw : 0 ≤ w) : Rel k (x + z) (y + w) := by
  unfold Rel at *
  have e : (y + w).natAbs = y.natAbs + w.natAbs := by omega
  have d : (x + z - (y + w)).natAbs ≤ (x - y).natAbs + (z - w).natAbs := by omega
  rw [e, Nat.mul_add]
  omega
theorem Rel.nonneg {k : Nat} {x y : Int} (h : Rel k x y) (hy : 0 ≤ y) (hk : k ≤ 30000) : 0 ≤ x := by
  unfold Rel at h
  have p : k * y.natAbs ≤ 30000 * y.natAbs := Nat.mul_le_mul_right _ hk
  omega
/-- at least a half, at most twice -/
theorem Rel.half {k : Nat} {x y : Int} (h : Rel k x y) (hk : k ≤ 30000) : y.natAbs ≤ 2 * x.natAbs ∧ x.natAbs ≤ 2 * y.natAbs := by
  unfold Rel at h
  have p : k * y.natAbs ≤ 30000 * y.natAbs := Nat.mul_le_mul_right _ hk
  omega
theorem near52p {m d : Nat} (hd : 0 < d) (hn : m ≤ BIG * d) (h : 2 ^ 52 * d ≤ m) : 2 ^ 52 * ((m : Int) - rnd (m : Int) d * (d : Int)).natAbs ≤ m := by
  have hx : 2 ^ 52 ≤ m / d := (Nat.le_div_iff_mul_le hd).mpr h
  have hx0 : m / d ≠ 0 := by omega
  have l1 : 2 ^ (m / d).log2 ≤ m / d := Nat.log2_self_le hx0
  have l2 : m / d < 2 ^ ((m / d).log2 + 1) := Nat.lt_log2_self
  have l3 : 52 ≤ (m / d).log2 := by
    refine Nat.le_of_not_lt fun q => ?_
    have : 2 ^ ((m / d).log2 + 1) ≤ 2 ^ 52 := Nat.pow_le_pow_right (by decide) (by omega)
    omega
  obtain ⟨e, he⟩ : ∃ e, (m / d).log2 = 52 + e := ⟨(m / d).log2 - 52, by omega⟩
  rw [he] at l1 l2
  rw [Nat.pow_add] at l1
  rw [show 52 + e + 1 = e + 53 by omega, Nat.pow_add] at l2
  have hq : m / d / 2 ^ e < 2 ^ 53 := Nat.div_lt_of_lt_mul l2
  have hr : RepU (((m / d / 2 ^ e : Nat) : Int) * ((2 ^ e : Nat) : Int)) := repU_of (by rw [Int.natAbs_natCast]; omega)
  have nr := rnd_near (n := (m : Int)) hd (by rw [Int.natAbs_natCast]; exact hn) hr
  refine Nat.le_trans (Nat.mul_le_mul_left _ nr) ?_
  -- m - q 2^e d < d 2^e
  have hp := Nat.two_pow_pos e
  have a1 : m / d / 2 ^ e * 2 ^ e ≤ m / d := Nat.div_mul_le_self _ _
  have a2 : m / d < (m / d / 2 ^ e + 1) * 2 ^ e := Nat.lt_mul_of_div_lt (Nat.lt_succ_self _) hp
  have b1 : m / d * d ≤ m := Nat.div_mul_le_self _ _
  have b2 : m < (m / d + 1) * d := Nat.lt_mul_of_div_lt (Nat.lt_succ_self _) hd
  generalize m / d / 2 ^ e = q at *
  generalize m / d = x at *
  generalize 2 ^ e = G at *
  have c1 : q * G * d ≤ x * d := Nat.mul_le_mul_right _ a1
  have c2 : (x + 1) * d ≤ (q + 1) * G * d := Nat.mul_le_mul_right _ a2
  have c3 : (q + 1) * G * d = q * G * d + G * d := by rw [Nat.add_mul, Nat.one_mul, Nat.add_mul]
  have c4 : 2 ^ 52 * G * d ≤ x * d := Nat.mul_le_mul_right _ l1
  have ee : (m : Int) - (q : Int) * (G : Int) * (d : Int) = (m : Int) - ((q * G * d : Nat) : Int) := by rw [Int.natCast_mul, Int.natCast_mul]
  rw [ee]
  have f : ((m : Int) - ((q * G * d : Nat) : Int)).natAbs ≤ G * d := by
    generalize q * G * d = Y at *
    omega
  refine Nat.le_trans (Nat.mul_le_mul_left _ f) ?_
  rw [← Nat.mul_assoc]
  omega
theorem near52 {n : Int} {d : Nat} (hd : 0 < d) (hn : n.natAbs ≤ BIG * d) (h : 2 ^ 52 * d ≤ n.natAbs) : 2 ^ 52 * (rnd n d * (d : Int) - n).natAbs ≤ n.natAbs := by
  rcases Int.natAbs_eq n with e | e
  · have := near52p hd hn h
    rw [← e] at this
    rwa [show (rnd n d * (d : Int) - n).natAbs = (n - rnd n d * (d : Int)).natAbs by omega]
  · have := near52p hd hn h
    have e' : (n.natAbs : Int) = -n := by omega
    rw [e', rnd_neg n hd, Int.neg_mul] at this
    rwa [show (rnd n d * (d : Int) - n).natAbs = (-n - -(rnd n d * (d : Int))).natAbs by omega]
theorem rel_rnd {n : Int} {d : Nat} (hd : 0 < d) (hn : n.natAbs ≤ BIG * d) (h : n = 0 ∨ 2 ^ 52 * d ≤ n.natAbs) : Rel 1 (rnd n d * (d : Int)) n := by
  rcases h with h | h
  · subst h
    have : rnd 0 d = 0 := zval_zero _ _ _
    rw [this, Int.zero_mul]; exact Rel.rfl' _ _
  · have := near52 hd hn h
    unfold Rel
    rw [Nat.one_mul]
    have q : 1073741824 * (rnd n d * (d : Int) - n).natAbs ≤ 2 ^ 52 * (rnd n d * (d : Int) - n).natAbs := Nat.mul_le_mul_right _ (by decide)
    omega
theorem E_add {x y s : UInt64} (h : FP.dadd x y = s) (fx : DFin x) (fy : DFin y) (hB : (V x + V y).natAbs ≤ BIG) (ok : V x + V y = 0 ∨ 2 ^ 52 ≤ (V x + V y).natAbs) : DFin s ∧ Rel 1 (V s) (V x + V y) := by
  obtain ⟨f, v⟩ := V_dadd' h fx fy hB
  refine ⟨f, ?_⟩
  have := rel_rnd (n := V x + V y) (d := 1) (by decide) (by omega) (by omega)
  rw [Int.natCast_one, Int.mul_one, ← v] at this
  exact this
theorem E_sub {x y s : UInt64} (h : FP.dsub x y = s) (fx : DFin x) (fy : DFin y) (hB : (V x - V y).natAbs ≤ BIG) (ok : V x - V y = 0 ∨ 2 ^ 52 ≤ (V x - V y).natAbs) : DFin s ∧ Rel 1 (V s) (V x - V y) := by
  obtain ⟨f, v⟩ := V_dsub' h fx fy hB
  refine ⟨f, ?_⟩
  have := rel_rnd (n := V x - V y) (d := 1) (by decide) (by omega) (by omega)
  rw [Int.natCast_one, Int.mul_one, ← v] at this
  exact this
theorem E_mul {x y s : UInt64} (h : FP.dmul x y = s) (fx : DFin x) (fy : DFin y) (hB : (V x * V y).natAbs ≤ BIG * one64) (ok : V x * V y = 0 ∨ 2 ^ 52 * one64 ≤ (V x * V y).natAbs) : DFin s ∧ Rel 1 (V s * (one64 : Int)) (V x * V y) := by
  obtain ⟨f, v⟩ := V_dmul' h fx fy hB
  exact ⟨f, v ▸ rel_rnd one64_pos hB ok⟩
theorem E_div {x y s : UInt64} (h : FP.ddiv x y = s) (fx : DFin x) (fy : DFin y) (hy : 0 < V y) (hB : (V x).natAbs * one64 ≤ BIG * (V y).natAbs) (ok : V x = 0 ∨ 2 ^ 52 * (V y).natAbs ≤ (V x).natAbs * one64) : DFin s ∧ Rel 1 (V s * V y) (V x * (one64 : Int)) := by
  obtain ⟨f, v⟩ := V_divp fy hy h fx hB
  refine ⟨f, ?_⟩
  have e : (V x * (one64 : Int)).natAbs = (V x).natAbs * one64 := by rw [Int.natAbs_mul, Int.natAbs_natCast]
  have := rel_rnd (n := V x * (one64 : Int)) (d := (V y).natAbs) (by omega) (by rw [e]; exact hB) (by
    rcases ok with q | q
    · left; rw [q, Int.zero_mul]
    · right; rw [e]; exact q)
  rw [← v, show ((V y).natAbs : Int) = V y by omega] at this
  exact this
theorem U200 : 2 ^ 200 ≤ one64 := by unfold one64; exact Nat.pow_le_pow_right (by decide) (by decide)
theorem UB {k : Nat} (hk : k ≤ 900) : 2 ^ k * one64 ≤ BIG := by
  unfold one64 BIG
  rw [← Nat.pow_add]
  exact Nat.pow_le_pow_right (by decide) (by omega)
end Jvm.OwnF
namespace Jvm.OwnF
open Jvm.FP Jvm.FP.Core
/-! one cell of the score: ((g - K h / N)^2) / (K h / N) -/
theorem ar1 {A N D G E U : Int} (hU : 1606938044258990275541962092341162602522202993782792835301376 ≤ U) (hA : 1 ≤ A ∧ A ≤ 67108864) (hN : 1 ≤ N ∧ N ≤ 12285) (hD0 : D ≠ 0) (hDb : D.natAbs ≤ 67108864) (hG : G * N = D * U + (A * U - E * N)) (n52 : 4503599627370496 * (E * N - A * U).natAbs ≤ (A * U).natAbs) :
    Rel 16 (G * N) (D * U) ∧ Rel 1 (E * N) (A * U) ∧ 0 < E ∧ 2 ^ 180 ≤ G.natAbs ∧ G.natAbs ≤ 2 ^ 28 * U.natAbs ∧ U.natAbs ≤ 65536 * E.natAbs ∧ E.natAbs ≤ 2 ^ 28 * U.natAbs := by
  have p1 : U ≤ A * U := by have := Int.mul_le_mul_of_nonneg_right hA.1 (show 0 ≤ U by omega); rwa [Int.one_mul] at this
  have p2 : A * U ≤ 67108864 * U := Int.mul_le_mul_of_nonneg_right hA.2 (show 0 ≤ U by omega)
  have t1 : (D * U).natAbs = D.natAbs * U.natAbs := Int.natAbs_mul _ _
  have t2 : U.natAbs ≤ D.natAbs * U.natAbs := Nat.le_mul_of_pos_left _ (by omega)
  have t3 : D.natAbs * U.natAbs ≤ 67108864 * U.natAbs := Nat.mul_le_mul_right _ hDb
  have g1 : (G * N).natAbs = G.natAbs * N.natAbs := Int.natAbs_mul _ _
  have g2 : G.natAbs * N.natAbs ≤ G.natAbs * 12285 := Nat.mul_le_mul_left _ (by omega)
  have g3 : G.natAbs ≤ G.natAbs * N.natAbs := Nat.le_mul_of_pos_right _ (by omega)
  have e1 : (E * N).natAbs = E.natAbs * N.natAbs := Int.natAbs_mul _ _
  have e2 : E.natAbs * N.natAbs ≤ E.natAbs * 12285 := Nat.mul_le_mul_left _ (by omega)
  have e3 : E.natAbs ≤ E.natAbs * N.natAbs := Nat.le_mul_of_pos_right _ (by omega)
  have eP : 0 < E := by
    refine Int.lt_of_not_ge fun q => ?_
    have : E * N ≤ 0 := Int.mul_nonpos_of_nonpos_of_nonneg q (by omega)
    omega
  generalize D.natAbs * U.natAbs = T at *
  generalize G.natAbs * N.natAbs = W at *
  generalize E.natAbs * N.natAbs = Q at *
  generalize A * U = P at *
  generalize E * N = Q' at *
  generalize G * N = W' at *
  generalize D * U = T' at *
  unfold Rel
  refine ⟨by omega, by omega, eP, by omega, by omega, by omega, by omega⟩
theorem ar2 {d D N : Int} {u : Nat} (hu : 2 ^ 200 ≤ u) (hN : 1 ≤ N ∧ N ≤ 12285) (hD0 : D ≠ 0) (hDb : D.natAbs ≤ 67108864) (h : Rel 18 (d * N) (D * (u : Int))) :
    2 ^ 52 * u ≤ (d * d).natAbs ∧ (d * d).natAbs ≤ 2 ^ 56 * u * u := by
  obtain ⟨h1, h2⟩ := h.half (by decide)
  rw [Int.natAbs_mul, Int.natAbs_mul, Int.natAbs_natCast] at h1 h2
  have t2 : u ≤ D.natAbs * u := Nat.le_mul_of_pos_left _ (by omega)
  have t3 : D.natAbs * u ≤ 67108864 * u := Nat.mul_le_mul_right _ hDb
  have g2 : d.natAbs * N.natAbs ≤ d.natAbs * 12285 := Nat.mul_le_mul_left _ (by omega)
  have g3 : d.natAbs ≤ d.natAbs * N.natAbs := Nat.le_mul_of_pos_right _ (by omega)
  have a : u ≤ 24570 * d.natAbs := by omega
  have b : d.natAbs ≤ 134217728 * u := by omega
  rw [Int.natAbs_mul]
  generalize d.natAbs = x at *
  have q1 : u * u ≤ 24570 * x * (24570 * x) := Nat.mul_le_mul a a
  have q2 : 24570 * x * (24570 * x) = 603684900 * (x * x) := by rw [Nat.mul_mul_mul_comm]
  have q3 : 2 ^ 200 * u ≤ u * u := Nat.mul_le_mul_right _ hu
  have q4 : x * x ≤ 134217728 * u * (134217728 * u) := Nat.mul_le_mul b b
  have q5 : 134217728 * u * (134217728 * u) = 18014398509481984 * (u * u) := by rw [Nat.mul_mul_mul_comm]
  have q6 : 2 ^ 56 * u * u = 72057594037927936 * (u * u) := Nat.mul_assoc _ _ _
  rw [q6]
  omega
theorem ar3 {s D N E : Int} {u : Nat} (hu : 2 ^ 200 ≤ u) (hN : 1 ≤ N ∧ N ≤ 12285) (hD0 : D ≠ 0) (hDb : D.natAbs ≤ 67108864) (hE1 : u ≤ 65536 * E.natAbs) (hE2 : E.natAbs ≤ 2 ^ 28 * u) (hB : 2 ^ 69 * u ≤ BIG) (h : Rel 39 (s * (u : Int) * (N * N)) (D * (u : Int) * (D * (u : Int)))) :
    2 ^ 52 * E.natAbs ≤ s.natAbs * u ∧ s.natAbs * u ≤ BIG * E.natAbs := by
  obtain ⟨h1, h2⟩ := h.half (by decide)
  rw [Int.natAbs_mul, Int.natAbs_mul, Int.natAbs_mul, Int.natAbs_mul, Int.natAbs_mul, Int.natAbs_natCast] at h1 h2
  have t2 : u ≤ D.natAbs * u := Nat.le_mul_of_pos_left _ (by omega)
  have t3 : D.natAbs * u ≤ 67108864 * u := Nat.mul_le_mul_right _ hDb
  have T2 : u * u ≤ D.natAbs * u * (D.natAbs * u) := Nat.mul_le_mul t2 t2
  have T3 : D.natAbs * u * (D.natAbs * u) ≤ 67108864 * u * (67108864 * u) := Nat.mul_le_mul t3 t3
  have T4 : 67108864 * u * (67108864 * u) = 4503599627370496 * (u * u) := by rw [Nat.mul_mul_mul_comm]
  have n1 : N.natAbs * N.natAbs ≤ 12285 * 12285 := Nat.mul_le_mul (by omega) (by omega)
  have n2 : 1 ≤ N.natAbs * N.natAbs := Nat.mul_le_mul (show 1 ≤ N.natAbs by omega) (show 1 ≤ N.natAbs by omega)
  have s1 : s.natAbs * u * (N.natAbs * N.natAbs) ≤ s.natAbs * u * (12285 * 12285) := Nat.mul_le_mul_left _ n1
  have s2 : s.natAbs * u ≤ s.natAbs * u * (N.natAbs * N.natAbs) := Nat.le_mul_of_pos_right _ n2
  have q3 : 2 ^ 200 * u ≤ u * u := Nat.mul_le_mul_right _ hu
  generalize D.natAbs * u * (D.natAbs * u) = X at *
  generalize s.natAbs * u * (N.natAbs * N.natAbs) = Y at *
  generalize s.natAbs * u = S at *
  constructor
  · omega
  · have b1 : 2 ^ 69 * u * u ≤ BIG * u := Nat.mul_le_mul_right _ hB
    have b2 : BIG * u ≤ BIG * (65536 * E.natAbs) := Nat.mul_le_mul_left _ hE1
    have b3 : BIG * (65536 * E.natAbs) = 65536 * (BIG * E.natAbs) := by rw [← Nat.mul_assoc, Nat.mul_comm BIG 65536, Nat.mul_assoc]
    have b4 : 2 ^ 69 * u * u = 590295810358705651712 * (u * u) := Nat.mul_assoc _ _ _
    generalize BIG * E.natAbs = Z at *
    generalize BIG * u = Z' at *
    generalize BIG * (65536 * E.natAbs) = Z'' at *
    omega
def CF (g h K N v : Int) : Prop := (g * N - K * h = 0 → v = 0) ∧ (K ≠ 0 → h ≠ 0 → Rel 44 (v * (N * (K * h))) ((g * N - K * h) * (g * N - K * h) * (one64 : Int)))
theorem cellR {g h K N : Int} {kd hd nd x E z1 z3 z17 z19 rv : UInt64} {z7 : Int32} (b0 : 0 ≤ g) (b1 : g ≤ h) (b2 : h ≤ 4095) (b3 : g ≤ K) (b4 : K ≤ N) (b5 : 1 ≤ N) (b6 : N ≤ 12285) (dk : DV K 0 kd) (dh : DV h 0 hd) (dn : DV N 0 nd) (dg : DV g 0 z1)
    (h66 : FP.dmul kd hd = x) (h69 : FP.ddiv x nd = E) (h3 : FP.dsub z1 E = z3) (h7 : Op.cmpValue (FP.dcmp E FP.dconst0) .l = z7) (h17 : FP.dmul z3 z3 = z17) (h19 : FP.ddiv z17 E = z19) (hrv : (if z7 = (0 : Int32) then FP.dconst0 else z19) = rv) :
    Jvm.Free.Fl.NoNaN64 x ∧ Jvm.Free.Fl.NoNaN64 E ∧ Jvm.Free.Fl.NoNaN64 z3 ∧ ((¬ z7 = (0 : Int32)) → Jvm.Free.Fl.NoNaN64 z17) ∧ ((¬ z7 = (0 : Int32)) → Jvm.Free.Fl.NoNaN64 z19) ∧ DFin rv ∧ 0 ≤ V rv ∧ CF g h K N (V rv) := by
  have hU := U200
  have mA : (K * h).natAbs ≤ 12285 * 4095 := mul_bd (by omega) (by omega)
  have A0 : 0 ≤ K * h := Int.mul_nonneg (by omega) (by omega)
  have mG : (g * N).natAbs ≤ 4095 * 12285 := mul_bd (by omega) (by omega)
  have mG0 : 0 ≤ g * N := Int.mul_nonneg (by omega) (by omega)
  have dA : DV (K * h) 0 x := h66 ▸ DV_mul dk dh (by decide) (r53 (by omega))
  have vx : V x = K * h * (one64 : Int) := dA.2.2
  have vg : V z1 = g * (one64 : Int) := dg.2.2
  have nN : (N.natAbs : Int) = N := by omega
  have bx : (K * h * (one64 : Int)).natAbs ≤ BIG * N.natAbs := by
    rw [Int.natAbs_mul, Int.natAbs_natCast]
    exact Nat.le_trans (Nat.mul_le_mul_right _ (Nat.le_trans mA (show 12285 * 4095 ≤ 2 ^ 26 by decide))) (Nat.le_trans (UB (by decide)) (Nat.le_mul_of_pos_right _ (by omega)))
  obtain ⟨fE, vE⟩ := V_divi dn (by omega) h69 dA.1 (by rw [vx]; exact bx)
  rw [vx] at vE
  have k0 : V FP.dconst0 = 0 := by have := DV_0.2.2; rw [Int.zero_mul] at this; exact this
  have cE := cmpv_V fE DV_0.1 .l
  rw [k0, h7] at cE
  have bg : (V z1).natAbs ≤ 2 ^ 12 * one64 := by rw [vg, Int.natAbs_mul, Int.natAbs_natCast]; exact Nat.mul_le_mul_right _ (by omega)
  unfold CF
  generalize hA : K * h = A at *
  by_cases hA0 : A = 0
  · have e0 : V E = 0 := by rw [vE, hA0, Int.zero_mul]; exact zval_zero _ _ _
    have z70 := cE.2.1 e0
    have hr : rv = FP.dconst0 := by rw [← hrv, if_pos z70]
    obtain ⟨f3, -⟩ := V_dsub' h3 dg.1 fE (by rw [e0, Int.sub_zero]; exact Nat.le_trans bg (UB (by decide)))
    refine ⟨dA.nn, noNaN_fin fE, noNaN_fin f3, fun q => absurd z70 q, fun q => absurd z70 q, hr ▸ DV_0.1, by rw [hr, k0]; exact Int.le_refl _, fun _ => by rw [hr, k0], fun q1 q2 => ?_⟩
    rw [hA0] at hA
    rcases Int.mul_eq_zero.mp hA with q | q
    · exact absurd q q1
    · exact absurd q q2
  · have lo : 2 ^ 52 * N.natAbs ≤ (A * (one64 : Int)).natAbs := by
      rw [Int.natAbs_mul, Int.natAbs_natCast]
      have := Nat.le_mul_of_pos_left one64 (show 0 < A.natAbs by omega)
      omega
    have n52 := near52 (n := A * (one64 : Int)) (d := N.natAbs) (by omega) bx lo
    rw [← vE, nN] at n52
    by_cases hD0 : g * N - A = 0
    · -- the expectation is met: all is exact
      have eA : A = g * N := by omega
      have hEg : V E = V z1 := by
        rw [vE]
        refine rnd_exact (by omega) ?_ (rep_V dg.1)
        rw [vg, nN, eA, Int.mul_assoc, Int.mul_assoc, Int.mul_comm N]
      have g1 : 1 ≤ g := by
        rcases Int.lt_or_eq_of_le b0 with q | q
        · omega
        · rw [← q, Int.zero_mul] at eA; exact absurd eA hA0
      have vEp : 0 < V E := by rw [hEg, vg]; exact Int.mul_pos (by omega) (by omega)
      have z71 := cE.2.2 vEp
      have nz : ¬ z7 = 0 := by rw [z71]; decide
      have hr : rv = z19 := by rw [← hrv, if_neg nz]
      have d0 : V z1 - V E = 0 := by omega
      obtain ⟨f3, v3⟩ := E_sub h3 dg.1 fE (by rw [d0]; exact Nat.zero_le _) (Or.inl d0)
      rw [d0] at v3
      have w3 := v3.zero
      have m0 : V z3 * V z3 = 0 := by rw [w3, Int.zero_mul]
      obtain ⟨f17, v17⟩ := E_mul h17 f3 f3 (by rw [m0]; exact Nat.zero_le _) (Or.inl m0)
      rw [m0] at v17
      have w17 : V z17 = 0 := by
        rcases Int.mul_eq_zero.mp v17.zero with q | q
        · exact q
        · omega
      obtain ⟨f19, v19⟩ := E_div h19 f17 fE vEp (by rw [w17]; simp) (Or.inl w17)
      rw [w17, Int.zero_mul] at v19
      have w19 : V z19 = 0 := by
        rcases Int.mul_eq_zero.mp v19.zero with q | q
        · exact q
        · omega
      refine ⟨dA.nn, noNaN_fin fE, noNaN_fin f3, fun _ => noNaN_fin f17, fun _ => noNaN_fin f19, hr ▸ f19, by rw [hr, w19]; exact Int.le_refl _, fun _ => by rw [hr, w19], fun _ _ => ?_⟩
      rw [hr, w19, hD0, Int.zero_mul, Int.zero_mul, Int.zero_mul]; exact Rel.rfl' _ _
    · have hG : (V z1 - V E) * N = (g * N - A) * (one64 : Int) + (A * (one64 : Int) - V E * N) := by
        rw [vg, Int.sub_mul, Int.sub_mul, Int.mul_assoc, Int.mul_comm (one64 : Int) N, ← Int.mul_assoc]
        omega
      have hUi : (1606938044258990275541962092341162602522202993782792835301376 : Int) ≤ (one64 : Int) := Int.ofNat_le.mpr hU
      obtain ⟨r16, rE, eP, Glo, Ghi, E1, E2⟩ := ar1 hUi ⟨by omega, by omega⟩ ⟨b5, b6⟩ hD0 (by omega) hG n52
      have Ghi : (V z1 - V E).natAbs ≤ 2 ^ 28 * one64 := by omega
      have E1 : one64 ≤ 65536 * (V E).natAbs := by omega
      have E2 : (V E).natAbs ≤ 2 ^ 28 * one64 := by omega
      have z71 := cE.2.2 eP
      have nz : ¬ z7 = 0 := by rw [z71]; decide
      have hr : rv = z19 := by rw [← hrv, if_neg nz]
      generalize hDD : g * N - A = D at *
      have mD : D.natAbs ≤ 67108864 := by omega
      obtain ⟨f3, v3⟩ := E_sub h3 dg.1 fE (Nat.le_trans Ghi (UB (by decide))) (Or.inr (Nat.le_trans (Nat.pow_le_pow_right (by decide) (by decide)) Glo))
      have r18 := (v3.mulr N).trans r16 (by decide)
      obtain ⟨lo3, hi3⟩ := ar2 hU ⟨b5, b6⟩ hD0 mD r18
      obtain ⟨f17, v17⟩ := E_mul h17 f3 f3 (Nat.le_trans hi3 (Nat.mul_le_mul_right _ (UB (by decide)))) (Or.inr lo3)
      have r37 := r18.mul r18 (by decide)
      have e37 : V z3 * N * (V z3 * N) = V z3 * V z3 * (N * N) := by generalize V z3 = a; ac_rfl
      rw [e37] at r37
      have r39 := (v17.mulr (N * N)).trans r37 (by decide)
      obtain ⟨lo4, hi4⟩ := ar3 hU ⟨b5, b6⟩ hD0 mD E1 E2 (UB (by decide)) r39
      obtain ⟨f19, v19⟩ := E_div h19 f17 fE eP hi4 (Or.inr lo4)
      have r41 := (v19.mulr (N * N)).trans r39 (by decide)
      have r44 := ((rE.symm (by decide)).mulr (V z19 * N)).trans (z := D * (one64 : Int) * (D * (one64 : Int))) (by
        have e : V E * N * (V z19 * N) = V z19 * V E * (N * N) := by generalize V E = a; generalize V z19 = b; ac_rfl
        rw [e]; exact r41) (by decide)
      have res : Rel 44 (V z19 * (N * A)) (D * D * (one64 : Int)) := by
        refine Rel.cancel (c := (one64 : Int)) (by omega) ?_
        have e1 : V z19 * (N * A) * (one64 : Int) = A * (one64 : Int) * (V z19 * N) := by generalize (one64 : Int) = U; ac_rfl
        have e2 : D * D * (one64 : Int) * (one64 : Int) = D * (one64 : Int) * (D * (one64 : Int)) := by generalize (one64 : Int) = U; ac_rfl
        rw [e1, e2]; exact r44
      have pos : 0 ≤ V z19 := by
        have dd : 0 ≤ D * D * (one64 : Int) := Int.mul_nonneg (by rcases Int.le_total 0 D with q | q; exact Int.mul_nonneg q q; exact Int.mul_nonneg_of_nonpos_of_nonpos q q) (by omega)
        have q := res.nonneg dd (by decide)
        refine Int.le_of_not_gt fun w => ?_
        have : V z19 * (N * A) < 0 := Int.mul_neg_of_neg_of_pos w (Int.mul_pos (by omega) (by omega))
        omega
      exact ⟨dA.nn, noNaN_fin fE, noNaN_fin f3, fun _ => noNaN_fin f17, fun _ => noNaN_fin f19, hr ▸ f19, hr ▸ pos, fun q => absurd q hD0, fun _ _ => hr ▸ res⟩
end Jvm.OwnF
namespace Jvm.OwnF
open Jvm.FP Jvm.FP.Core Jvm.RoadKit
/-! the sums -/
def Acc (k : Nat) (Q a : Int) (v : UInt64) : Prop := DFin v ∧ 0 ≤ V v ∧ 0 ≤ a ∧ Rel k (V v * Q) (a * (one64 : Int))
theorem Acc.mono {k j : Nat} {Q a : Int} {v : UInt64} (h : Acc k Q a v) (hkj : k ≤ j) : Acc j Q a v := ⟨h.1, h.2.1, h.2.2.1, h.2.2.2.mono hkj⟩
theorem Acc.of_eq {k : Nat} {Q a b : Int} {v : UInt64} (h : Acc k Q a v) (e : a = b) : Acc k Q b v := e ▸ h
theorem Acc.zero (k : Nat) (Q : Int) : Acc k Q 0 FP.dconst0 := by
  have k0 : V FP.dconst0 = 0 := by have := DV_0.2.2; rw [Int.zero_mul] at this; exact this
  refine ⟨DV_0.1, by rw [k0]; exact Int.le_refl _, Int.le_refl _, ?_⟩
  rw [k0, Int.zero_mul, Int.zero_mul]; exact Rel.rfl' _ _
/-- what an Acc's value is: none, or neither small nor great -/
theorem Acc.size {k : Nat} {Q a : Int} {v : UInt64} (h : Acc k Q a v) (hk : k ≤ 30000) (hQ : 0 < Q ∧ Q ≤ 2 ^ 100) (ha : a ≤ 2 ^ 121) : (V v = 0 ∨ 2 ^ 90 ≤ (V v).natAbs) ∧ (V v).natAbs ≤ 2 ^ 122 * one64 := by
  obtain ⟨-, -, a0, r⟩ := h
  have hU := U200
  obtain ⟨h1, h2⟩ := r.half hk
  rw [Int.natAbs_mul, Int.natAbs_mul, Int.natAbs_natCast one64] at h1 h2
  have q1 : (V v).natAbs * Q.natAbs ≤ (V v).natAbs * 2 ^ 100 := Nat.mul_le_mul_left _ (by omega)
  have q2 : (V v).natAbs ≤ (V v).natAbs * Q.natAbs := Nat.le_mul_of_pos_right _ (by omega)
  have q3 : a.natAbs * one64 ≤ 2 ^ 121 * one64 := Nat.mul_le_mul_right _ (by omega)
  by_cases z : a = 0
  · have e0 : a.natAbs * one64 = 0 := by rw [z, Int.natAbs_zero, Nat.zero_mul]
    refine ⟨Or.inl ?_, ?_⟩
    · omega
    · omega
  · have q4 : one64 ≤ a.natAbs * one64 := Nat.le_mul_of_pos_left _ (by omega)
    generalize (V v).natAbs * Q.natAbs = X at *
    generalize a.natAbs * one64 = Y at *
    exact ⟨Or.inr (by omega), by omega⟩
theorem addAcc {k : Nat} {Q a b : Int} {x y s : UInt64} (hk : k ≤ 20000) (hQ : 0 < Q ∧ Q ≤ 2 ^ 100) (hx : Acc k Q a x) (hy : Acc k Q b y) (hab : a + b ≤ 2 ^ 120) (h : FP.dadd x y = s) : Jvm.Free.Fl.NoNaN64 s ∧ Acc (k + 2) Q (a + b) s := by
  have ax := hx.2.2.1; have ay := hy.2.2.1; have px := hx.2.1; have py := hy.2.1
  obtain ⟨x1, x2⟩ := hx.size (by omega) hQ (by omega)
  obtain ⟨y1, y2⟩ := hy.size (by omega) hQ (by omega)
  have hB := UB (k := 124) (by decide)
  obtain ⟨f, v⟩ := E_add h hx.1 hy.1 (by omega) (by omega)
  have rs : Rel k ((V x + V y) * Q) ((a + b) * (one64 : Int)) := by
    rw [Int.add_mul, Int.add_mul]
    exact hx.2.2.2.add hy.2.2.2 (Int.mul_nonneg ax (by omega)) (Int.mul_nonneg ay (by omega))
  have r := (v.mulr Q).trans rs (by omega)
  have e : 1 + k + 1 = k + 2 := by omega
  rw [e] at r
  refine ⟨noNaN_fin f, f, ?_, by omega, r⟩
  exact v.nonneg (by omega) (by decide)
theorem sq0 (D : Int) : 0 ≤ D * D := by
  rcases Int.le_total 0 D with q | q
  · exact Int.mul_nonneg q q
  · exact Int.mul_nonneg_of_nonpos_of_nonpos q q
theorem item {g h K N R Q : Int} {v1 v2 : UInt64} (hR : 0 ≤ R) (hK : 0 ≤ K ∧ K ≤ N) (hz : (K = 0 ∨ N - K = 0 ∨ h = 0) → g * N - K * h = 0) (hQ : K ≠ 0 → N - K ≠ 0 → h ≠ 0 → N * (K * h) * ((N - K) * R) = Q)
    (f1 : DFin v1) (p1 : 0 ≤ V v1) (c1 : CF g h K N (V v1)) (f2 : DFin v2) (p2 : 0 ≤ V v2) (c2 : CF (h - g) h (N - K) N (V v2)) :
    Acc 44 Q ((g * N - K * h) * (g * N - K * h) * ((N - K) * R)) v1 ∧ Acc 44 Q ((g * N - K * h) * (g * N - K * h) * (K * R)) v2 := by
  have eD : (h - g) * N - (N - K) * h = -(g * N - K * h) := by
    rw [Int.sub_mul, Int.sub_mul, Int.mul_comm h N]; omega
  have eDD : ((h - g) * N - (N - K) * h) * ((h - g) * N - (N - K) * h) = (g * N - K * h) * (g * N - K * h) := by rw [eD, Int.neg_mul_neg]
  unfold CF at c1 c2
  rw [eDD] at c2
  have s0 := sq0 (g * N - K * h)
  refine ⟨⟨f1, p1, Int.mul_nonneg s0 (Int.mul_nonneg (by omega) hR), ?_⟩, ⟨f2, p2, Int.mul_nonneg s0 (Int.mul_nonneg (by omega) hR), ?_⟩⟩
  · by_cases t : K = 0 ∨ N - K = 0 ∨ h = 0
    · rw [hz t, c1.1 (hz t), Int.zero_mul, Int.zero_mul, Int.zero_mul, Int.zero_mul]; exact Rel.rfl' _ _
    · have t1 : K ≠ 0 := fun q => t (Or.inl q)
      have t2 : N - K ≠ 0 := fun q => t (Or.inr (Or.inl q))
      have t3 : h ≠ 0 := fun q => t (Or.inr (Or.inr q))
      have r := (c1.2 t1 t3).mulr ((N - K) * R)
      rw [Int.mul_assoc, hQ t1 t2 t3] at r
      generalize (one64 : Int) = U at *
      generalize (g * N - K * h) * (g * N - K * h) = W at *
      rw [Int.mul_assoc W U, Int.mul_comm U, ← Int.mul_assoc] at r
      exact r
  · by_cases t : K = 0 ∨ N - K = 0 ∨ h = 0
    · have e2 : (h - g) * N - (N - K) * h = 0 := by rw [eD, hz t]; rfl
      rw [c2.1 e2, hz t, Int.zero_mul, Int.zero_mul, Int.zero_mul, Int.zero_mul]; exact Rel.rfl' _ _
    · have t1 : K ≠ 0 := fun q => t (Or.inl q)
      have t2 : N - K ≠ 0 := fun q => t (Or.inr (Or.inl q))
      have t3 : h ≠ 0 := fun q => t (Or.inr (Or.inr q))
      have r := (c2.2 t2 t3).mulr (K * R)
      have e : N * ((N - K) * h) * (K * R) = Q := by rw [← hQ t1 t2 t3]; generalize N - K = L; ac_rfl
      rw [Int.mul_assoc, e] at r
      generalize (one64 : Int) = U at *
      generalize (g * N - K * h) * (g * N - K * h) = W at *
      rw [Int.mul_assoc W U, Int.mul_comm U, ← Int.mul_assoc] at r
      exact r
theorem Dbd {g h K N : Int} (b0 : 0 ≤ g) (b1 : g ≤ h) (b2 : h ≤ 4095) (b4 : 0 ≤ K ∧ K ≤ N) (b6 : N ≤ 12285) : (g * N - K * h).natAbs ≤ 50307075 := by
  have mA : (K * h).natAbs ≤ 12285 * 4095 := mul_bd (by omega) (by omega)
  have A0 : 0 ≤ K * h := Int.mul_nonneg (by omega) (by omega)
  have mG : (g * N).natAbs ≤ 4095 * 12285 := mul_bd (by omega) (by omega)
  have mG0 : 0 ≤ g * N := Int.mul_nonneg (by omega) (by omega)
  omega
/-- one item: two cells, two sums -/
theorem itemS {g h gh : Int32} {NL KL K2 : Int64} {R Q a : Int} {k : Nat} {acc z60 z65 z66 z68 z69 c1 c3 c17 c19 r1 z73 z91 z96 z97 z99 z100 e1 e3 e17 e19 r2 z104 : UInt64} {c7 e7 : Int32}
    (b0 : 0 ≤ g.toInt) (b1 : g.toInt ≤ h.toInt) (b2 : h.toInt ≤ 4095) (b3 : g.toInt ≤ KL.toInt) (b3' : h.toInt - g.toInt ≤ NL.toInt - KL.toInt) (b5 : 1 ≤ NL.toInt) (b6 : NL.toInt ≤ 12285) (hR : 0 ≤ R) (hk : 44 ≤ k ∧ k ≤ 1000) (hQb : 0 < Q ∧ Q ≤ 2 ^ 100)
    (hQ : KL.toInt ≠ 0 → NL.toInt - KL.toInt ≠ 0 → h.toInt ≠ 0 → NL.toInt * (KL.toInt * h.toInt) * ((NL.toInt - KL.toInt) * R) = Q) (hacc : Acc k Q a acc) (ha : a + (g.toInt * NL.toInt - KL.toInt * h.toInt) * (g.toInt * NL.toInt - KL.toInt * h.toInt) * (NL.toInt * R) ≤ 2 ^ 120)
    (h60 : FP.l2d KL = z60) (h65 : FP.i2d h = z65) (h66 : FP.dmul z60 z65 = z66) (h68 : FP.l2d NL = z68) (h69 : FP.ddiv z66 z68 = z69) (hc1 : FP.i2d g = c1) (hc3 : FP.dsub c1 z69 = c3) (hc7 : Op.cmpValue (FP.dcmp z69 FP.dconst0) .l = c7) (hc17 : FP.dmul c3 c3 = c17) (hc19 : FP.ddiv c17 z69 = c19) (hr1 : (if c7 = (0 : Int32) then FP.dconst0 else c19) = r1) (h73 : FP.dadd acc r1 = z73)
    (h86 : h - g = gh) (h90 : NL - KL = K2) (h91 : FP.l2d K2 = z91) (h96 : FP.i2d h = z96) (h97 : FP.dmul z91 z96 = z97) (h99 : FP.l2d NL = z99) (h100 : FP.ddiv z97 z99 = z100) (he1 : FP.i2d gh = e1) (he3 : FP.dsub e1 z100 = e3) (he7 : Op.cmpValue (FP.dcmp z100 FP.dconst0) .l = e7) (he17 : FP.dmul e3 e3 = e17) (he19 : FP.ddiv e17 z100 = e19) (hr2 : (if e7 = (0 : Int32) then FP.dconst0 else e19) = r2) (h104 : FP.dadd z73 r2 = z104) :
    (Jvm.Free.Fl.NoNaN64 z66 ∧ Jvm.Free.Fl.NoNaN64 z69 ∧ Jvm.Free.Fl.NoNaN64 c3 ∧ ((¬ c7 = (0 : Int32)) → Jvm.Free.Fl.NoNaN64 c17) ∧ ((¬ c7 = (0 : Int32)) → Jvm.Free.Fl.NoNaN64 c19) ∧ Jvm.Free.Fl.NoNaN64 z73 ∧
     Jvm.Free.Fl.NoNaN64 z97 ∧ Jvm.Free.Fl.NoNaN64 z100 ∧ Jvm.Free.Fl.NoNaN64 e3 ∧ ((¬ e7 = (0 : Int32)) → Jvm.Free.Fl.NoNaN64 e17) ∧ ((¬ e7 = (0 : Int32)) → Jvm.Free.Fl.NoNaN64 e19) ∧ Jvm.Free.Fl.NoNaN64 z104) ∧
    Acc (k + 4) Q (a + (g.toInt * NL.toInt - KL.toInt * h.toInt) * (g.toInt * NL.toInt - KL.toInt * h.toInt) * (NL.toInt * R)) z104 := by
  have i86 := isub_v h86 (by omega)
  have i90 := lsub_v h90 (by omega)
  have dk : DV KL.toInt 0 z60 := h60 ▸ DV_l2d (r53 (by omega))
  have dn : DV NL.toInt 0 z68 := h68 ▸ DV_l2d (r53 (by omega))
  have dn' : DV NL.toInt 0 z99 := h99 ▸ DV_l2d (r53 (by omega))
  have dk2 : DV (NL.toInt - KL.toInt) 0 z91 := h91 ▸ (DV_l2d (r53 (by omega))).of_eq i90
  have dh : DV h.toInt 0 z65 := h65 ▸ DV_i2d h
  have dh' : DV h.toInt 0 z96 := h96 ▸ DV_i2d h
  have dg : DV g.toInt 0 c1 := hc1 ▸ DV_i2d g
  have dgh : DV (h.toInt - g.toInt) 0 e1 := he1 ▸ (DV_i2d gh).of_eq i86
  obtain ⟨n1, n2, n3, n4, n5, f1, p1, cf1⟩ := cellR b0 b1 b2 b3 (by omega) b5 b6 dk dh dn dg h66 h69 hc3 hc7 hc17 hc19 hr1
  obtain ⟨m1, m2, m3, m4, m5, f2, p2, cf2⟩ := cellR (g := h.toInt - g.toInt) (K := NL.toInt - KL.toInt) (by omega) (by omega) b2 b3' (by omega) b5 b6 dk2 dh' dn' dgh h97 h100 he3 he7 he17 he19 hr2
  have hz : (KL.toInt = 0 ∨ NL.toInt - KL.toInt = 0 ∨ h.toInt = 0) → g.toInt * NL.toInt - KL.toInt * h.toInt = 0 := by
    rintro (q | q | q)
    · have : g.toInt = 0 := by omega
      rw [q, this, Int.zero_mul, Int.zero_mul]; rfl
    · have e1 : KL.toInt = NL.toInt := by omega
      have e2 : g.toInt = h.toInt := by omega
      rw [e1, e2, Int.mul_comm]; omega
    · have : g.toInt = 0 := by omega
      rw [q, this, Int.zero_mul, Int.mul_zero]; rfl
  obtain ⟨a1, a2⟩ := item hR ⟨by omega, by omega⟩ hz hQ f1 p1 cf1 f2 p2 cf2
  have eS : (g.toInt * NL.toInt - KL.toInt * h.toInt) * (g.toInt * NL.toInt - KL.toInt * h.toInt) * ((NL.toInt - KL.toInt) * R) + (g.toInt * NL.toInt - KL.toInt * h.toInt) * (g.toInt * NL.toInt - KL.toInt * h.toInt) * (KL.toInt * R) = (g.toInt * NL.toInt - KL.toInt * h.toInt) * (g.toInt * NL.toInt - KL.toInt * h.toInt) * (NL.toInt * R) := by
    rw [← Int.mul_add, ← Int.add_mul, show NL.toInt - KL.toInt + KL.toInt = NL.toInt by omega]
  have q1 := a1.2.2.1
  have q2 := a2.2.2.1
  generalize (g.toInt * NL.toInt - KL.toInt * h.toInt) * (g.toInt * NL.toInt - KL.toInt * h.toInt) * ((NL.toInt - KL.toInt) * R) = X1 at *
  generalize (g.toInt * NL.toInt - KL.toInt * h.toInt) * (g.toInt * NL.toInt - KL.toInt * h.toInt) * (KL.toInt * R) = X2 at *
  obtain ⟨s1, acc1⟩ := addAcc (by omega) hQb hacc (a1.mono hk.1) (by omega) h73
  obtain ⟨s2, acc2⟩ := addAcc (by omega) hQb acc1 (a2.mono (by omega)) (by omega) h104
  exact ⟨⟨n1, n2, n3, n4, n5, s1, m1, m2, m3, m4, m5, s2⟩, acc2.of_eq (by omega)⟩
/-- one term of the reference -/
theorem termS {g h N K L : Int64} {R Q : Int} {z2 : Int32} {z11 z15 z16 z23 z28 z31 : Int64} {z24 z32 z33 rv : UInt64} (b0 : 0 ≤ g.toInt) (b1 : g.toInt ≤ h.toInt) (b2 : h.toInt ≤ 4095) (bK : 1 ≤ K.toInt) (bL : L.toInt = N.toInt - K.toInt) (bL1 : 1 ≤ L.toInt) (b6 : N.toInt ≤ 12285) (hR : 0 ≤ R)
    (hQ : h.toInt ≠ 0 → N.toInt * (K.toInt * h.toInt) * ((N.toInt - K.toInt) * R) = Q)
    (h2 : lcmpW h (0 : Int64) = z2) (h11 : g * N = z11) (h15 : K * h = z15) (h16 : z11 - z15 = z16) (h23 : z16 * z16 = z23) (h24 : FP.l2d z23 = z24) (h28 : h * K = z28) (h31 : z28 * L = z31) (h32 : FP.l2d z31 = z32) (h33 : FP.ddiv z24 z32 = z33) (hrv : (if z2 = (0 : Int32) then FP.dconst0 else z33) = rv) :
    ((¬ z2 = (0 : Int32)) → Jvm.Free.Fl.NoNaN64 z33) ∧ Acc 1 Q ((g.toInt * N.toInt - K.toInt * h.toInt) * (g.toInt * N.toInt - K.toInt * h.toInt) * (N.toInt * R)) rv := by
  have hU := U200
  have z0 : (0 : Int64).toInt = 0 := by decide
  have E2 : z2 = 0 ↔ h.toInt = 0 := by rw [← h2, lw_eq, ← Int64.toInt_inj, z0]
  by_cases hh : h.toInt = 0
  · have e := E2.mpr hh
    have hr : rv = FP.dconst0 := by rw [← hrv, if_pos e]
    have g0 : g.toInt = 0 := by omega
    refine ⟨fun q => absurd e q, ?_⟩
    rw [hr, g0, hh, Int.zero_mul, Int.mul_zero, Int.sub_self, Int.zero_mul, Int.zero_mul]
    exact Acc.zero _ _
  · have e : ¬ z2 = 0 := fun q => hh (E2.mp q)
    have hr : rv = z33 := by rw [← hrv, if_neg e]
    have mD := Dbd b0 b1 b2 (K := K.toInt) (N := N.toInt) ⟨by omega, by omega⟩ b6
    have mA : (K.toInt * h.toInt).natAbs ≤ 12285 * 4095 := mul_bd (by omega) (by omega)
    have mG : (g.toInt * N.toInt).natAbs ≤ 4095 * 12285 := mul_bd (by omega) (by omega)
    have i11 := lmul_v h11 (by omega)
    have i15 := lmul_v h15 (by omega)
    have i16 := lsub_v h16 (by omega)
    rw [i11, i15] at i16
    have mDD : ((g.toInt * N.toInt - K.toInt * h.toInt) * (g.toInt * N.toInt - K.toInt * h.toInt)).natAbs ≤ 50307075 * 50307075 := mul_bd mD mD
    have i23 := lmul_v h23 (by rw [i16]; omega)
    rw [i16] at i23
    have mB : (h.toInt * K.toInt).natAbs ≤ 4095 * 12285 := mul_bd (by omega) (by omega)
    have i28 := lmul_v h28 (by omega)
    have mC : (h.toInt * K.toInt * L.toInt).natAbs ≤ 4095 * 12285 * 12285 := mul_bd mB (by omega)
    have i31 := lmul_v h31 (by rw [i28]; omega)
    rw [i28] at i31
    have d24 : DV ((g.toInt * N.toInt - K.toInt * h.toInt) * (g.toInt * N.toInt - K.toInt * h.toInt)) 0 z24 := h24 ▸ (DV_l2d (r53 (by rw [i23]; omega))).of_eq i23
    have d32 : DV (h.toInt * K.toInt * L.toInt) 0 z32 := h32 ▸ (DV_l2d (r53 (by rw [i31]; omega))).of_eq i31
    have v24 : V z24 = (g.toInt * N.toInt - K.toInt * h.toInt) * (g.toInt * N.toInt - K.toInt * h.toInt) * (one64 : Int) := d24.2.2
    have v32 : V z32 = h.toInt * K.toInt * L.toInt * (one64 : Int) := d32.2.2
    have Dp : 0 < h.toInt * K.toInt * L.toInt := Int.mul_pos (Int.mul_pos (by omega) (by omega)) (by omega)
    have s0 := sq0 (g.toInt * N.toInt - K.toInt * h.toInt)
    have hQ' := hQ hh
    have eQ : h.toInt * K.toInt * L.toInt * (N.toInt * R) = Q := by rw [← hQ', bL]; generalize N.toInt - K.toInt = w; ac_rfl
    generalize hW : (g.toInt * N.toInt - K.toInt * h.toInt) * (g.toInt * N.toInt - K.toInt * h.toInt) = W at *
    generalize hT : h.toInt * K.toInt * L.toInt = T at *
    have n24 : (V z24).natAbs = W.natAbs * one64 := by rw [v24, Int.natAbs_mul, Int.natAbs_natCast one64]
    have n32 : (V z32).natAbs = T.natAbs * one64 := by rw [v32, Int.natAbs_mul, Int.natAbs_natCast one64]
    have pos32 : 0 < V z32 := by rw [v32]; exact Int.mul_pos Dp (by omega)
    obtain ⟨f33, r33⟩ := E_div h33 d24.1 d32.1 pos32 (by
        rw [n24, n32, ← Nat.mul_assoc]
        refine Nat.mul_le_mul_right _ (Nat.le_trans (Nat.le_trans (Nat.mul_le_mul_right _ (show W.natAbs ≤ 2 ^ 52 by omega)) (UB (by decide))) (Nat.le_mul_of_pos_right _ (by omega)))) (by
        by_cases w : W = 0
        · left; rw [v24, w, Int.zero_mul]
        · right
          rw [n24, n32, ← Nat.mul_assoc]
          refine Nat.mul_le_mul_right _ ?_
          have := Nat.le_mul_of_pos_left one64 (show 0 < W.natAbs by omega)
          omega)
    rw [v32, v24] at r33
    have r1 : Rel 1 (V z33 * T) (W * (one64 : Int)) := by
      refine Rel.cancel (c := (one64 : Int)) (by omega) ?_
      rw [Int.mul_assoc]; exact r33
    have p33 : 0 ≤ V z33 := by
      have q := r1.nonneg (Int.mul_nonneg s0 (by omega)) (by decide)
      refine Int.le_of_not_gt fun w => ?_
      have : V z33 * T < 0 := Int.mul_neg_of_neg_of_pos w Dp
      omega
    refine ⟨fun _ => noNaN_fin f33, hr ▸ f33, hr ▸ p33, Int.mul_nonneg s0 (Int.mul_nonneg (by omega) hR), ?_⟩
    have r2 := r1.mulr (N.toInt * R)
    rw [Int.mul_assoc, eQ] at r2
    rw [hr]
    generalize (one64 : Int) = U at *
    rw [Int.mul_assoc W U, Int.mul_comm U, ← Int.mul_assoc] at r2
    exact r2
/-- the score lies within the tolerance -/
theorem finR {Q a : Int} {sc S t hi lo : UInt64} (hQ : 0 < Q ∧ Q ≤ 2 ^ 100) (ha : a ≤ 2 ^ 120) (h1 : Acc 56 Q a sc) (h2 : Acc 5 Q a S) (k1 : FP.dmul S (4517329193108106637 : UInt64) = t) (k2 : FP.dadd S t = hi) (k3 : FP.dsub S t = lo) :
    Jvm.Free.Fl.NoNaN64 t ∧ Jvm.Free.Fl.NoNaN64 hi ∧ Jvm.Free.Fl.NoNaN64 lo ∧ DFin sc ∧ DFin hi ∧ DFin lo ∧ V lo ≤ V sc ∧ V sc ≤ V hi := by
  have hU := U200
  have r : Rel 63 (V sc) (V S) := Rel.cancel (c := Q) (by omega) (h1.2.2.2.trans (h2.2.2.2.symm (by decide)) (by decide))
  obtain ⟨s1, s2⟩ := h2.size (by decide) hQ (by omega)
  obtain ⟨c1, c2⟩ := h1.size (by decide) hQ (by omega)
  have fT : DFin (4517329193108106637 : UInt64) := (fin_bits _).mpr (by decide)
  have tb : (one64 : Int) ≤ 1048576 * V (4517329193108106637 : UInt64) ∧ V (4517329193108106637 : UInt64) ≤ (one64 : Int) := by decide +kernel
  obtain ⟨tb1, tb2⟩ := tb
  generalize hτ : V (4517329193108106637 : UInt64) = τ at *
  have τp : 0 < τ := by omega
  have pS := h2.2.1
  have p1 : V S * τ ≤ V S * (one64 : Int) := Int.mul_le_mul_of_nonneg_left tb2 pS
  have p2 : V S * (one64 : Int) ≤ V S * (1048576 * τ) := Int.mul_le_mul_of_nonneg_left tb1 pS
  have p3 : V S * (1048576 * τ) = 1048576 * (V S * τ) := by rw [← Int.mul_assoc, Int.mul_comm (V S), Int.mul_assoc]
  have p0 : 0 ≤ V S * τ := Int.mul_nonneg pS (by omega)
  have n1 : (V S * (one64 : Int)).natAbs = (V S).natAbs * one64 := by rw [Int.natAbs_mul, Int.natAbs_natCast one64]
  have q1 : (V S).natAbs * one64 ≤ 2 ^ 122 * one64 * one64 := Nat.mul_le_mul_right _ s2
  have q2 : 2 ^ 122 * one64 * one64 ≤ BIG * one64 := Nat.mul_le_mul_right _ (UB (by decide))
  have q3 : V S = 0 ∨ 2 ^ 90 * one64 ≤ (V S).natAbs * one64 := by
    rcases s1 with q | q
    · exact Or.inl q
    · exact Or.inr (Nat.mul_le_mul_right _ q)
  have z0 : V S = 0 → V S * τ = 0 := fun q => by rw [q, Int.zero_mul]
  obtain ⟨ft, rt⟩ := E_mul k1 h2.1 fT (by rw [hτ]; generalize V S * τ = X at *; generalize V S * (one64 : Int) = Y at *; generalize (V S).natAbs * one64 = Z at *; generalize 2 ^ 122 * one64 * one64 = Z' at *; omega) (by
    rw [hτ]
    rcases q3 with q | q
    · exact Or.inl (z0 q)
    · right; generalize V S * τ = X at *; generalize V S * (one64 : Int) = Y at *; generalize (V S).natAbs * one64 = Z at *; omega)
  rw [hτ] at rt
  have pt : 0 ≤ V t := by
    have q := rt.nonneg p0 (by decide)
    refine Int.le_of_not_gt fun w => ?_
    have : V t * (one64 : Int) < 0 := Int.mul_neg_of_neg_of_pos w (by omega)
    omega
  -- V S ≤ 2^21 V t, V t ≤ 2 V S
  obtain ⟨t1, t2⟩ := rt.half (by decide)
  have lowt : V S ≤ 2097152 * V t := by
    refine Int.le_of_mul_le_mul_right (a := (one64 : Int)) ?_ (by omega)
    have e : 2097152 * V t * (one64 : Int) = 2097152 * (V t * (one64 : Int)) := Int.mul_assoc _ _ _
    rw [e]
    have w : 0 ≤ V t * (one64 : Int) := Int.mul_nonneg pt (by omega)
    generalize V t * (one64 : Int) = T at *
    generalize V S * τ = X at *
    generalize V S * (one64 : Int) = Y at *
    omega
  have hight : V t ≤ 2 * V S := by
    refine Int.le_of_mul_le_mul_right (a := (one64 : Int)) ?_ (by omega)
    have e : 2 * V S * (one64 : Int) = 2 * (V S * (one64 : Int)) := Int.mul_assoc _ _ _
    rw [e]
    have w : 0 ≤ V t * (one64 : Int) := Int.mul_nonneg pt (by omega)
    generalize V t * (one64 : Int) = T at *
    generalize V S * τ = X at *
    generalize V S * (one64 : Int) = Y at *
    omega
  have hB := UB (k := 130) (by decide)
  unfold Rel at r
  obtain ⟨fh, vh⟩ := V_dadd' k2 h2.1 ft (by omega)
  obtain ⟨fl, vl⟩ := V_dsub' k3 h2.1 ft (by omega)
  have ec : rnd (V sc) 1 = V sc := exact1 (by omega) (rep_V h1.1).u
  have lo1 : V lo ≤ V sc := by
    rw [vl, ← ec]
    exact rnd_mono (by decide) (by decide) (by omega) (by omega) (by omega)
  have hi1 : V sc ≤ V hi := by
    rw [vh, ← ec]
    exact rnd_mono (by decide) (by decide) (by omega) (by omega) (by omega)
  exact ⟨noNaN_fin ft, noNaN_fin fh, noNaN_fin fl, h1.1, fh, fl, lo1, hi1⟩
end Jvm.OwnF
namespace Jvm.Pilot.@@N@@
open Jvm Jvm.ClassFile Sem Op Lib Jvm.Free Jvm.Stand Jvm.LawKit Jvm.RoadKit Bundle Jvm.Pilot.@@N@@.Jvm.D
abbrev u_ : Slot := .unset
abbrev s_ : Slot := .second
abbrev nL : Slot := .val .null
abbrev vI (x : Int32) : Slot := .val (.int x)
abbrev vJ (x : Int64) : Slot := .val (.long x)
abbrev vD (x : UInt64) : Slot := .val (.double x)
abbrev vR (x : Addr) : Slot := .val (.ref x)
open Jvm.OwnF in
theorem n3 {x z4 z6 z7 : Int32} (h4 : x &&& (2147483647 : Int32) = z4) (h6 : z4 % (3 : Int32) = z6) (h7 : (1 : Int32) + z6 = z7) : z7 = 1 ∨ z7 = 2 ∨ z7 = 3 := by
  obtain ⟨a1, a2⟩ := mask31 h4
  have i := irem_v h6 a1
  rw [show (3 : Int32).toInt = 3 by decide] at i
  have o1 : (1 : Int32).toInt = 1 := by decide
  have i7 := iadd_v h7 (by omega)
  have h0 : z7.toInt = 1 ∨ z7.toInt = 2 ∨ z7.toInt = 3 := by omega
  rcases h0 with h | h | h
  · exact Or.inl (Int32.toInt_inj.mp h)
  · exact Or.inr (Or.inl (Int32.toInt_inj.mp h))
  · exact Or.inr (Or.inr (Int32.toInt_inj.mp h))
open Jvm.OwnF in
theorem hg {p h s t g : Int32} (h1 : p &&& (4095 : Int32) = h) (h2 : (p.toUInt32 >>> ((12 : Int32) &&& 31).toUInt32).toInt32 = s) (h3 : h + (1 : Int32) = t) (h4 : s % t = g) : ¬ t = (0 : Int32) ∧ 0 ≤ g.toInt ∧ g.toInt ≤ h.toInt ∧ h.toInt ≤ 4095 := by
  have a : 0 ≤ h.toInt ∧ h.toInt < 4096 := by
    rw [← h1, Jvm.RoadKit.c_mask p 4095 12 (by decide) (by decide)]
    have e : ((2 ^ 12 : Nat) : Int) = 4096 := by decide
    rw [e]; omega
  have b : 0 ≤ s.toInt := by
    rw [← h2, Jvm.RoadKit.c_iushr p 12 12 (by decide) (by decide)]
    have e : ((2 ^ 12 : Nat) : Int) = 4096 := by decide
    rw [e]; omega
  have o1 : (1 : Int32).toInt = 1 := by decide
  have i3 := iadd_v h3 (by omega)
  have i4 := irem_v h4 b
  have l := Int.emod_lt_of_pos s.toInt (show 0 < t.toInt by omega)
  have n := Int.emod_nonneg s.toInt (show t.toInt ≠ 0 by omega)
  refine ⟨fun q => ?_, by omega, by omega, by omega⟩
  rw [q, show (0 : Int32).toInt = 0 by decide] at i3
  omega
open Jvm.OwnF in
def Hn (h : Int) : Int := if h = 0 then 1 else h
theorem Hn_b {h : Int} (h0 : 0 ≤ h) (h1 : h ≤ 4095) : 1 ≤ Hn h ∧ Hn h ≤ 4095 := by unfold Hn; split <;> omega
theorem Hn_e {h : Int} (h0 : h ≠ 0) : Hn h = h := by unfold Hn; rw [if_neg h0]
def Qn (N K h0 h1 h2 : Int) : Int := if K = 0 ∨ N - K = 0 then 1 else N * K * (N - K) * (Hn h0 * (Hn h1 * Hn h2))
theorem bd2 {x y : Int} {a b : Int} (hx : 1 ≤ x ∧ x ≤ a) (hy : 1 ≤ y ∧ y ≤ b) : 1 ≤ x * y ∧ x * y ≤ a * b :=
  ⟨by have := Int.mul_pos (show 0 < x by omega) (show 0 < y by omega); omega, Int.mul_le_mul hx.2 hy.2 (by omega) (by omega)⟩
theorem Qn_b {N K h0 h1 h2 : Int} (b0 : 0 ≤ h0 ∧ h0 ≤ 4095) (b1 : 0 ≤ h1 ∧ h1 ≤ 4095) (b2 : 0 ≤ h2 ∧ h2 ≤ 4095) (bN : 1 ≤ N ∧ N ≤ 12285) (bK : 0 ≤ K ∧ K ≤ N) : 0 < Qn N K h0 h1 h2 ∧ Qn N K h0 h1 h2 ≤ 2 ^ 100 := by
  unfold Qn
  split
  · decide
  · rename_i q
    have k1 : K ≠ 0 := fun t => q (Or.inl t)
    have k2 : N - K ≠ 0 := fun t => q (Or.inr t)
    have r := bd2 (bd2 (bd2 bN (show 1 ≤ K ∧ K ≤ 12285 by omega)) (show 1 ≤ N - K ∧ N - K ≤ 12285 by omega)) (bd2 (Hn_b b0.1 b0.2) (bd2 (Hn_b b1.1 b1.2) (Hn_b b2.1 b2.2)))
    omega
theorem Qe0 {N K h0 h1 h2 : Int} : K ≠ 0 → N - K ≠ 0 → h0 ≠ 0 → N * (K * h0) * ((N - K) * (Hn h1 * Hn h2)) = Qn N K h0 h1 h2 := by
  intro a b d
  unfold Qn
  rw [if_neg (fun t => by rcases t with t | t; exact a t; exact b t), Hn_e d]
  generalize N - K = L; ac_rfl
theorem Qe1 {N K h0 h1 h2 : Int} : K ≠ 0 → N - K ≠ 0 → h1 ≠ 0 → N * (K * h1) * ((N - K) * (Hn h0 * Hn h2)) = Qn N K h0 h1 h2 := by
  intro a b d
  unfold Qn
  rw [if_neg (fun t => by rcases t with t | t; exact a t; exact b t), Hn_e d]
  generalize N - K = L; ac_rfl
theorem Qe2 {N K h0 h1 h2 : Int} : K ≠ 0 → N - K ≠ 0 → h2 ≠ 0 → N * (K * h2) * ((N - K) * (Hn h0 * Hn h1)) = Qn N K h0 h1 h2 := by
  intro a b d
  unfold Qn
  rw [if_neg (fun t => by rcases t with t | t; exact a t; exact b t), Hn_e d]
  generalize N - K = L; ac_rfl
open Jvm.OwnF in
theorem Rb {h1 h2 : Int} (b1 : 0 ≤ h1 ∧ h1 ≤ 4095) (b2 : 0 ≤ h2 ∧ h2 ≤ 4095) : 0 ≤ Hn h1 * Hn h2 ∧ Hn h1 * Hn h2 ≤ 16769025 := by
  have := bd2 (Hn_b b1.1 b1.2) (Hn_b b2.1 b2.2); omega
open Jvm.OwnF in
/-- a bound for an item's share -/
theorem sh {g h K N R : Int} (b0 : 0 ≤ g) (b1 : g ≤ h) (b2 : h ≤ 4095) (bK : 0 ≤ K ∧ K ≤ N) (bN : 1 ≤ N ∧ N ≤ 12285) (hR : 0 ≤ R ∧ R ≤ 16769025) : 0 ≤ (g * N - K * h) * (g * N - K * h) * (N * R) ∧ (g * N - K * h) * (g * N - K * h) * (N * R) ≤ 2 ^ 100 := by
  have mD := Dbd b0 b1 b2 bK bN.2
  have m1 : ((g * N - K * h) * (g * N - K * h)).natAbs ≤ 50307075 * 50307075 := mul_bd mD mD
  have m2 : (N * R).natAbs ≤ 12285 * 16769025 := mul_bd (by omega) (by omega)
  have m3 : ((g * N - K * h) * (g * N - K * h) * (N * R)).natAbs ≤ 50307075 * 50307075 * (12285 * 16769025) := mul_bd m1 m2
  have s0 := sq0 (g * N - K * h)
  have s1 : 0 ≤ N * R := Int.mul_nonneg (by omega) hR.1
  have s2 := Int.mul_nonneg s0 s1
  exact ⟨s2, by omega⟩
open Jvm.OwnF in
theorem cmpF {lo sc : UInt64} {a b : Int32} (f1 : Jvm.FP.Core.DFin lo) (f2 : Jvm.FP.Core.DFin sc) (h : V lo ≤ V sc) (ha : cmpValue (FP.dcmp lo sc) .g = a) (hb : cmpValue (FP.dcmp lo sc) .l = b) (q : ¬ a < 0) : b = 0 := by
  rcases Int.lt_or_eq_of_le h with t | t
  · exact absurd (by rw [← ha, (cmpv_V f1 f2 .g).1 t]; decide) q
  · rw [← hb]; exact (cmpv_V f1 f2 .l).2.1 t
theorem d2_0 : decode prog_19_method_3_code 0 = .ok (.iload_n 0, 1) := by decide +kernel
theorem d2_1 : decode prog_19_method_3_code 1 = .ok (.i2d, 1) := by decide +kernel
theorem d2_2 : decode prog_19_method_3_code 2 = .ok (.dload_n 1, 1) := by decide +kernel
theorem d2_3 : decode prog_19_method_3_code 3 = .ok (.dsub, 1) := by decide +kernel
theorem d2_4 : decode prog_19_method_3_code 4 = .ok (.dstore_n 3, 1) := by decide +kernel
theorem d2_5 : decode prog_19_method_3_code 5 = .ok (.dload_n 1, 1) := by decide +kernel
theorem d2_6 : decode prog_19_method_3_code 6 = .ok (.dconst 0, 1) := by decide +kernel
theorem d2_7 : decode prog_19_method_3_code 7 = .ok (.dcmp .l, 1) := by decide +kernel
theorem d2_8 : decode prog_19_method_3_code 8 = .ok (.ifCond .ne 7, 3) := by decide +kernel
theorem d2_11 : decode prog_19_method_3_code 11 = .ok (.dconst 0, 1) := by decide +kernel
theorem d2_12 : decode prog_19_method_3_code 12 = .ok (.goto 8, 3) := by decide +kernel
theorem d2_20 : decode prog_19_method_3_code 20 = .ok (.dreturn, 1) := by decide +kernel
theorem d2_15 : decode prog_19_method_3_code 15 = .ok (.dload_n 3, 1) := by decide +kernel
theorem d2_16 : decode prog_19_method_3_code 16 = .ok (.dload_n 3, 1) := by decide +kernel
theorem d2_17 : decode prog_19_method_3_code 17 = .ok (.dmul, 1) := by decide +kernel
theorem d2_18 : decode prog_19_method_3_code 18 = .ok (.dload_n 1, 1) := by decide +kernel
theorem d2_19 : decode prog_19_method_3_code 19 = .ok (.ddiv, 1) := by decide +kernel
theorem pn_0 : plainName "com/example/tidy_ranker/tidyranker/classification/ChiSquare" = true := by first | (simp [plainName, overriddenIn]; done) | decide +kernel
theorem ef_rm2 (m : MethodId) (p0 : Int32) (d1 : UInt64) : entryFrame m #[(.int p0), (.double d1)] 5 = mkF m 0 #[vI p0, vD d1, s_, u_, u_] [] := by first | (simp [entryFrame, mkF, argsToLocals, Value.category]; done) | rfl
theorem d3_0 : decode method_3_code 0 = .ok (.lload_n 2, 1) := by decide +kernel
theorem d3_1 : decode method_3_code 1 = .ok (.lconst 0, 1) := by decide +kernel
theorem d3_2 : decode method_3_code 2 = .ok (.lcmp, 1) := by decide +kernel
theorem d3_3 : decode method_3_code 3 = .ok (.ifCond .ne 5, 3) := by decide +kernel
theorem d3_6 : decode method_3_code 6 = .ok (.dconst 0, 1) := by decide +kernel
theorem d3_7 : decode method_3_code 7 = .ok (.dreturn, 1) := by decide +kernel
theorem d3_8 : decode method_3_code 8 = .ok (.lload_n 0, 1) := by decide +kernel
theorem d3_9 : decode method_3_code 9 = .ok (.lload 4, 2) := by decide +kernel
theorem d3_11 : decode method_3_code 11 = .ok (.lmul, 1) := by decide +kernel
theorem d3_12 : decode method_3_code 12 = .ok (.lload 6, 2) := by decide +kernel
theorem d3_14 : decode method_3_code 14 = .ok (.lload_n 2, 1) := by decide +kernel
theorem d3_15 : decode method_3_code 15 = .ok (.lmul, 1) := by decide +kernel
theorem d3_16 : decode method_3_code 16 = .ok (.lsub, 1) := by decide +kernel
theorem d3_17 : decode method_3_code 17 = .ok (.lstore 10, 2) := by decide +kernel
theorem d3_19 : decode method_3_code 19 = .ok (.lload 10, 2) := by decide +kernel
theorem d3_21 : decode method_3_code 21 = .ok (.lload 10, 2) := by decide +kernel
theorem d3_23 : decode method_3_code 23 = .ok (.lmul, 1) := by decide +kernel
theorem d3_24 : decode method_3_code 24 = .ok (.l2d, 1) := by decide +kernel
theorem d3_25 : decode method_3_code 25 = .ok (.lload_n 2, 1) := by decide +kernel
theorem d3_26 : decode method_3_code 26 = .ok (.lload 6, 2) := by decide +kernel
theorem d3_28 : decode method_3_code 28 = .ok (.lmul, 1) := by decide +kernel
theorem d3_29 : decode method_3_code 29 = .ok (.lload 8, 2) := by decide +kernel
theorem d3_31 : decode method_3_code 31 = .ok (.lmul, 1) := by decide +kernel
theorem d3_32 : decode method_3_code 32 = .ok (.l2d, 1) := by decide +kernel
theorem d3_33 : decode method_3_code 33 = .ok (.ddiv, 1) := by decide +kernel
theorem d3_34 : decode method_3_code 34 = .ok (.dreturn, 1) := by decide +kernel
theorem pn_1 : plainName "com/example/tidy_ranker/tidyranker/classification/ChiSquareScorePinLaw" = true := by first | (simp [plainName, overriddenIn]; done) | decide +kernel
theorem ef_rm3 (m : MethodId) (q0 : Int64) (q1 : Int64) (q2 : Int64) (q3 : Int64) (q4 : Int64) : entryFrame m #[(.long q0), (.long q1), (.long q2), (.long q3), (.long q4)] 12 = mkF m 0 #[vJ q0, s_, vJ q1, s_, vJ q2, s_, vJ q3, s_, vJ q4, s_, u_, u_] [] := by first | (simp [entryFrame, mkF, argsToLocals, Value.category]; done) | rfl
theorem d1_0 : decode prog_19_method_2_code 0 = .ok (.lconst 0, 1) := by decide +kernel
theorem d1_1 : decode prog_19_method_2_code 1 = .ok (.lstore_n 2, 1) := by decide +kernel
theorem d1_2 : decode prog_19_method_2_code 2 = .ok (.lconst 0, 1) := by decide +kernel
theorem d1_3 : decode prog_19_method_2_code 3 = .ok (.lstore 4, 2) := by decide +kernel
theorem d1_5 : decode prog_19_method_2_code 5 = .ok (.iconst 0, 1) := by decide +kernel
theorem d1_6 : decode prog_19_method_2_code 6 = .ok (.istore 6, 2) := by decide +kernel
theorem d1_8 : decode prog_19_method_2_code 8 = .ok (.iload 6, 2) := by decide +kernel
theorem d1_10 : decode prog_19_method_2_code 10 = .ok (.aload_n 1, 1) := by decide +kernel
theorem d1_11 : decode prog_19_method_2_code 11 = .ok (.arraylength, 1) := by decide +kernel
theorem d1_12 : decode prog_19_method_2_code 12 = .ok (.if_icmp .ge 27, 3) := by decide +kernel
theorem d1_15 : decode prog_19_method_2_code 15 = .ok (.lload_n 2, 1) := by decide +kernel
theorem d1_16 : decode prog_19_method_2_code 16 = .ok (.aload_n 1, 1) := by decide +kernel
theorem d1_17 : decode prog_19_method_2_code 17 = .ok (.iload 6, 2) := by decide +kernel
theorem d1_19 : decode prog_19_method_2_code 19 = .ok (.iaload, 1) := by decide +kernel
theorem d1_20 : decode prog_19_method_2_code 20 = .ok (.i2l, 1) := by decide +kernel
theorem d1_21 : decode prog_19_method_2_code 21 = .ok (.ladd, 1) := by decide +kernel
theorem d1_22 : decode prog_19_method_2_code 22 = .ok (.lstore_n 2, 1) := by decide +kernel
theorem d1_23 : decode prog_19_method_2_code 23 = .ok (.lload 4, 2) := by decide +kernel
theorem d1_25 : decode prog_19_method_2_code 25 = .ok (.aload_n 0, 1) := by decide +kernel
theorem d1_26 : decode prog_19_method_2_code 26 = .ok (.iload 6, 2) := by decide +kernel
theorem d1_28 : decode prog_19_method_2_code 28 = .ok (.iaload, 1) := by decide +kernel
theorem d1_29 : decode prog_19_method_2_code 29 = .ok (.i2l, 1) := by decide +kernel
theorem d1_30 : decode prog_19_method_2_code 30 = .ok (.ladd, 1) := by decide +kernel
theorem d1_31 : decode prog_19_method_2_code 31 = .ok (.lstore 4, 2) := by decide +kernel
theorem d1_33 : decode prog_19_method_2_code 33 = .ok (.iinc 6 1, 3) := by decide +kernel
theorem d1_36 : decode prog_19_method_2_code 36 = .ok (.goto (-28), 3) := by decide +kernel
theorem d1_39 : decode prog_19_method_2_code 39 = .ok (.dconst 0, 1) := by decide +kernel
theorem d1_40 : decode prog_19_method_2_code 40 = .ok (.dstore 6, 2) := by decide +kernel
theorem d1_42 : decode prog_19_method_2_code 42 = .ok (.iconst 0, 1) := by decide +kernel
theorem d1_43 : decode prog_19_method_2_code 43 = .ok (.istore 8, 2) := by decide +kernel
theorem d1_45 : decode prog_19_method_2_code 45 = .ok (.iload 8, 2) := by decide +kernel
theorem d1_47 : decode prog_19_method_2_code 47 = .ok (.aload_n 1, 1) := by decide +kernel
theorem d1_48 : decode prog_19_method_2_code 48 = .ok (.arraylength, 1) := by decide +kernel
theorem d1_49 : decode prog_19_method_2_code 49 = .ok (.if_icmp .ge 64, 3) := by decide +kernel
theorem d1_52 : decode prog_19_method_2_code 52 = .ok (.dload 6, 2) := by decide +kernel
theorem d1_54 : decode prog_19_method_2_code 54 = .ok (.aload_n 0, 1) := by decide +kernel
theorem d1_55 : decode prog_19_method_2_code 55 = .ok (.iload 8, 2) := by decide +kernel
theorem d1_57 : decode prog_19_method_2_code 57 = .ok (.iaload, 1) := by decide +kernel
theorem d1_58 : decode prog_19_method_2_code 58 = .ok (.lload 4, 2) := by decide +kernel
theorem d1_60 : decode prog_19_method_2_code 60 = .ok (.l2d, 1) := by decide +kernel
theorem d1_61 : decode prog_19_method_2_code 61 = .ok (.aload_n 1, 1) := by decide +kernel
theorem d1_62 : decode prog_19_method_2_code 62 = .ok (.iload 8, 2) := by decide +kernel
theorem d1_64 : decode prog_19_method_2_code 64 = .ok (.iaload, 1) := by decide +kernel
theorem d1_65 : decode prog_19_method_2_code 65 = .ok (.i2d, 1) := by decide +kernel
theorem d1_66 : decode prog_19_method_2_code 66 = .ok (.dmul, 1) := by decide +kernel
theorem d1_67 : decode prog_19_method_2_code 67 = .ok (.lload_n 2, 1) := by decide +kernel
theorem d1_68 : decode prog_19_method_2_code 68 = .ok (.l2d, 1) := by decide +kernel
theorem d1_69 : decode prog_19_method_2_code 69 = .ok (.ddiv, 1) := by decide +kernel
theorem d1_70 : decode prog_19_method_2_code 70 = .ok (.invokestatic 7, 3) := by decide +kernel
theorem pd_0 : parseMethodDescriptor "(ID)D" = some ⟨[.int, .double], some .double⟩ := by decide +kernel
theorem d1_73 : decode prog_19_method_2_code 73 = .ok (.dadd, 1) := by decide +kernel
theorem d1_74 : decode prog_19_method_2_code 74 = .ok (.dstore 6, 2) := by decide +kernel
theorem d1_76 : decode prog_19_method_2_code 76 = .ok (.dload 6, 2) := by decide +kernel
theorem d1_78 : decode prog_19_method_2_code 78 = .ok (.aload_n 1, 1) := by decide +kernel
theorem d1_79 : decode prog_19_method_2_code 79 = .ok (.iload 8, 2) := by decide +kernel
theorem d1_81 : decode prog_19_method_2_code 81 = .ok (.iaload, 1) := by decide +kernel
theorem d1_82 : decode prog_19_method_2_code 82 = .ok (.aload_n 0, 1) := by decide +kernel
theorem d1_83 : decode prog_19_method_2_code 83 = .ok (.iload 8, 2) := by decide +kernel
theorem d1_85 : decode prog_19_method_2_code 85 = .ok (.iaload, 1) := by decide +kernel
theorem d1_86 : decode prog_19_method_2_code 86 = .ok (.isub, 1) := by decide +kernel
theorem d1_87 : decode prog_19_method_2_code 87 = .ok (.lload_n 2, 1) := by decide +kernel
theorem d1_88 : decode prog_19_method_2_code 88 = .ok (.lload 4, 2) := by decide +kernel
theorem d1_90 : decode prog_19_method_2_code 90 = .ok (.lsub, 1) := by decide +kernel
theorem d1_91 : decode prog_19_method_2_code 91 = .ok (.l2d, 1) := by decide +kernel
theorem d1_92 : decode prog_19_method_2_code 92 = .ok (.aload_n 1, 1) := by decide +kernel
theorem d1_93 : decode prog_19_method_2_code 93 = .ok (.iload 8, 2) := by decide +kernel
theorem d1_95 : decode prog_19_method_2_code 95 = .ok (.iaload, 1) := by decide +kernel
theorem d1_96 : decode prog_19_method_2_code 96 = .ok (.i2d, 1) := by decide +kernel
theorem d1_97 : decode prog_19_method_2_code 97 = .ok (.dmul, 1) := by decide +kernel
theorem d1_98 : decode prog_19_method_2_code 98 = .ok (.lload_n 2, 1) := by decide +kernel
theorem d1_99 : decode prog_19_method_2_code 99 = .ok (.l2d, 1) := by decide +kernel
theorem d1_100 : decode prog_19_method_2_code 100 = .ok (.ddiv, 1) := by decide +kernel
theorem d1_101 : decode prog_19_method_2_code 101 = .ok (.invokestatic 7, 3) := by decide +kernel
theorem d1_104 : decode prog_19_method_2_code 104 = .ok (.dadd, 1) := by decide +kernel
theorem d1_105 : decode prog_19_method_2_code 105 = .ok (.dstore 6, 2) := by decide +kernel
theorem d1_107 : decode prog_19_method_2_code 107 = .ok (.iinc 8 1, 3) := by decide +kernel
theorem d1_110 : decode prog_19_method_2_code 110 = .ok (.goto (-65), 3) := by decide +kernel
theorem d1_113 : decode prog_19_method_2_code 113 = .ok (.dload 6, 2) := by decide +kernel
theorem d1_115 : decode prog_19_method_2_code 115 = .ok (.dreturn, 1) := by decide +kernel
theorem ef_rm1_1 (m : MethodId) (o0 : Addr) (o1 : Addr) : entryFrame m #[(.ref o0), (.ref o1)] 9 = mkF m 0 #[vR o0, vR o1, u_, u_, u_, u_, u_, u_, u_] [] := by first | (simp [entryFrame, mkF, argsToLocals, Value.category]; done) | rfl
theorem ef_rm1_2 (m : MethodId) (o0 : Addr) (o1 : Addr) : entryFrame m #[(.ref o0), (.ref o1)] 9 = mkF m 0 #[vR o0, vR o1, u_, u_, u_, u_, u_, u_, u_] [] := by first | (simp [entryFrame, mkF, argsToLocals, Value.category]; done) | rfl
theorem ef_rm1_3 (m : MethodId) (o0 : Addr) (o1 : Addr) : entryFrame m #[(.ref o0), (.ref o1)] 9 = mkF m 0 #[vR o0, vR o1, u_, u_, u_, u_, u_, u_, u_] [] := by first | (simp [entryFrame, mkF, argsToLocals, Value.category]; done) | rfl
theorem pd_1 : parseMethodDescriptor "([I[I)D" = some ⟨[(.array .int), (.array .int)], some .double⟩ := by decide +kernel
theorem pd_2 : parseMethodDescriptor "(JJJJJ)D" = some ⟨[.long, .long, .long, .long, .long], some .double⟩ := by decide +kernel
theorem ef_rm0 (m : MethodId) (p0 : Int32) (p1 : Int32) (p2 : Int32) (p3 : Int32) : entryFrame m #[(.int p0), (.int p1), (.int p2), (.int p3)] maxLocals = mkF m 0 #[vI p0, vI p1, vI p2, vI p3, u_, u_, u_, u_, u_, u_, u_, u_, u_, u_, u_, u_, u_, u_, u_, u_, u_, u_, u_, u_, u_, u_, u_, u_, u_] [] := by first | (simp [entryFrame, mkF, argsToLocals, Value.category, maxLocals]; done) | rfl
def Q2 (Z : State) (p0 : Int32) (d1 : UInt64) (z1 : UInt64) (z3 : UInt64) (z7 : Int32) (z17 : UInt64) (z19 : UInt64) (rv : UInt64) (h0 : Heap) (n0 : Nat) (v : Option Value) (h : Heap) (L : List Loc) : Prop := v = some (.double rv) ∧ Fr n0 L ∧ h = h0
set_option maxRecDepth 65536 in
set_option maxHeartbeats 40000000 in
theorem rm2 (l : Launch) (Z : State) (a0 : Array Value) (hw : ∀ d ∈ tables_1, d.before a0 Z = true) (ws : List Jvm.Cond) (p0 : Int32) (d1 : UInt64) (z1 : UInt64) (z3 : UInt64) (z7 : Int32) (z17 : UInt64) (z19 : UInt64) (rv : UInt64) (h0 : Heap) (n0 : Nat) (Z0 : n0 ≤ h0.size) (hz1 : FP.i2d p0 = z1) (hz3 : FP.dsub z1 d1 = z3) (hz7 : cmpValue (FP.dcmp d1 FP.dconst0) .l = z7) (hz17 : FP.dmul z3 z3 = z17) (hz19 : FP.ddiv z17 d1 = z19) (hrv : (if z7 = (0 : Int32) then FP.dconst0 else z19) = rv) (nn3 : Jvm.Free.Fl.NoNaN64 z3) (nn17 : (¬ z7 = (0 : Int32)) → Jvm.Free.Fl.NoNaN64 z17) (nn19 : (¬ z7 = (0 : Int32)) → Jvm.Free.Fl.NoNaN64 z19) :
    MetFree l (⟨"com/example/tidy_ranker/tidyranker/classification/ChiSquare", "cell", "(ID)D"⟩ : MethodName) (head1 (Jvm.Cond.code (⟨"com/example/tidy_ranker/tidyranker/classification/ChiSquare", "cell", "(ID)D"⟩ : MethodName) prog_19_method_3_code 5 (some .double) :: ws) ({ frames := 0, cells := 0, slots := 0, locals := 0 } : Room)) (fun a U => a = #[(.int p0), (.double d1)] ∧ Z.Warmed39 U.vm ∧ U.heap = h0) (fun _ _ _ _ _ => True) (fun _ U o U' => ∃ v L, o = .returned v ∧ Q2 Z p0 d1 z1 z3 z7 z17 z19 rv h0 n0 v U'.heap L ∧ FrameEnd U o U' L ({ frames := 0, cells := 0, slots := 0, locals := 0 } : Room).cells ({ frames := 0, cells := 0, slots := 0, locals := 0 } : Room).slots) := by
  refine MetFree.of_bodySF (plainFor_of_name pn_0) hisR ?_
  intro p e s m args below meth c s₁ Bd hml0 hP hK
  obtain ⟨rfl, hZ, hh⟩ := hP
  have hx := Bd.exec
  have hby := Bd.bytes
  have hml : c.maxLocals = 5 := hml0
  have hown : s.vm.findClass "com/example/tidy_ranker/tidyranker/classification/ChiSquare" = some m.cls := findClass_of_methodNamed Bd.named
  have hnm := (name_of_methodNamed Bd.named Bd.method).1
  have X0 : Stand p l e ({ frames := 0, cells := 0, slots := 0, locals := 0 } : Room) s m #[(.int p0), (.double d1)] below meth c s₁ [] 0 0 := Stand.of_body Bd
  have e0 : s₁.heap = h0 := by rw [← hh, Bd.state]; rfl
  have N0 := Fr.nil n0
  have c0 : ∀ t, Steps p.tables e below (s₁.setTop (mkF m 0 #[vI p0, vD d1, s_, u_, u_] [])) t → Steps p.tables e below (s₁.setTop (entryFrame m #[(.int p0), (.double d1)] 5)) t := fun t k => castTop (ef_rm2 m p0 d1) k
  have c1 : ∀ t, Steps p.tables e below (s₁.setTop (mkF m 8 #[vI p0, vD d1, s_, vD z3, s_] [(.int z7)])) t → Steps p.tables e below (s₁.setTop (entryFrame m #[(.int p0), (.double d1)] 5)) t := by
    intro t k
    refine c0 t ?_
    show Steps p.tables e below (s₁.setTop (mkF m 0 #[vI p0, vD d1, s_, u_, u_] [])) _
    refine XS.iloadN X0.here hx rfl (hb hby d2_0) rfl ?_
    show Steps p.tables e below (s₁.setTop (mkF m 1 #[vI p0, vD d1, s_, u_, u_] [(.int p0)])) _
    refine XS.i2dS X0.here hx rfl (hb hby d2_1) rfl hz1 ?_
    show Steps p.tables e below (s₁.setTop (mkF m 2 #[vI p0, vD d1, s_, u_, u_] [(.double z1)])) _
    refine XS.dloadN X0.here hx rfl (hb hby d2_2) rfl ?_
    show Steps p.tables e below (s₁.setTop (mkF m 3 #[vI p0, vD d1, s_, u_, u_] [(.double d1), (.double z1)])) _
    refine Jvm.OwnK.dsub X0.here hx rfl (hb hby d2_3) rfl hz3 nn3 ?_
    show Steps p.tables e below (s₁.setTop (mkF m 4 #[vI p0, vD d1, s_, u_, u_] [(.double z3)])) _
    refine XS.dstoreN X0.here hx rfl (hb hby d2_4) rfl (l' := #[vI p0, vD d1, s_, vD z3, s_]) rfl ?_
    show Steps p.tables e below (s₁.setTop (mkF m 5 #[vI p0, vD d1, s_, vD z3, s_] [])) _
    refine XS.dloadN X0.here hx rfl (hb hby d2_5) rfl ?_
    show Steps p.tables e below (s₁.setTop (mkF m 6 #[vI p0, vD d1, s_, vD z3, s_] [(.double d1)])) _
    refine XS.dconst0 X0.here hx rfl (hb hby d2_6) (v := FP.dconst0) rfl ?_
    show Steps p.tables e below (s₁.setTop (mkF m 7 #[vI p0, vD d1, s_, vD z3, s_] [(.double FP.dconst0), (.double d1)])) _
    refine XS.dcmpS X0.here hx rfl (hb hby d2_7) rfl hz7 ?_
    exact k
  by_cases hb8 : z7 = (0 : Int32)
  · skip
    have c2 : ∀ t, Steps p.tables e below (s₁.setTop (mkF m 20 #[vI p0, vD d1, s_, vD z3, s_] [(.double FP.dconst0)])) t → Steps p.tables e below (s₁.setTop (entryFrame m #[(.int p0), (.double d1)] 5)) t := by
      intro t k
      refine c1 t ?_
      show Steps p.tables e below (s₁.setTop (mkF m 8 #[vI p0, vD d1, s_, vD z3, s_] [(.int z7)])) _
      refine XS.ifNo X0.here hx rfl (hb hby d2_8) rfl (Jvm.Free.XT.i0_ne_f hb8) ?_
      show Steps p.tables e below (s₁.setTop (mkF m 11 #[vI p0, vD d1, s_, vD z3, s_] [])) _
      refine XS.dconst0 X0.here hx rfl (hb hby d2_11) (v := FP.dconst0) rfl ?_
      show Steps p.tables e below (s₁.setTop (mkF m 12 #[vI p0, vD d1, s_, vD z3, s_] [(.double FP.dconst0)])) _
      refine XS.goto X0.here hx rfl (pc0 := 12) (pc' := 20) rfl (hb hby d2_12) (by decide) (by decide) ?_
      exact k
    obtain ⟨fs, hr, hrun, hended, hW, hsame⟩ := X0.leave (v := some (.double FP.dconst0)) (fun h => by rw [Bd.returns] at h; cases h)
    refine ⟨_, _, c2 _ ?_, hrun, hended, _, _, rfl, ?_, ⟨_, rfl⟩, hW, hsame.mono (by decide) (by decide)⟩
    · show Steps p.tables e below (s₁.setTop (mkF m 20 #[vI p0, vD d1, s_, vD z3, s_] [(.double FP.dconst0)])) _
      exact retOut X0 hx Bd.returns rfl (Or.inr (Or.inr (Or.inl ⟨rfl, rfl, _, rfl⟩))) (hb hby d2_20) hr
    · show Q2 Z p0 d1 z1 z3 z7 z17 z19 rv h0 n0 _ s₁.heap _
      rw [e0]
      exact ⟨(congrArg (fun z => some (Value.double z)) (show FP.dconst0 = rv by rw [← hrv]; simp only [if_pos hb8])), by first | assumption | exact N0, rfl⟩
  · skip
    have c3 : ∀ t, Steps p.tables e below (s₁.setTop (mkF m 20 #[vI p0, vD d1, s_, vD z3, s_] [(.double z19)])) t → Steps p.tables e below (s₁.setTop (entryFrame m #[(.int p0), (.double d1)] 5)) t := by
      intro t k
      refine c1 t ?_
      show Steps p.tables e below (s₁.setTop (mkF m 8 #[vI p0, vD d1, s_, vD z3, s_] [(.int z7)])) _
      refine XS.ifYes X0.here hx rfl (pc0 := 8) (pc' := 15) rfl (hb hby d2_8) rfl (Jvm.Free.XT.i0_ne_t hb8) (by decide) (by decide) ?_
      show Steps p.tables e below (s₁.setTop (mkF m 15 #[vI p0, vD d1, s_, vD z3, s_] [])) _
      refine XS.dloadN X0.here hx rfl (hb hby d2_15) rfl ?_
      show Steps p.tables e below (s₁.setTop (mkF m 16 #[vI p0, vD d1, s_, vD z3, s_] [(.double z3)])) _
      refine XS.dloadN X0.here hx rfl (hb hby d2_16) rfl ?_
      show Steps p.tables e below (s₁.setTop (mkF m 17 #[vI p0, vD d1, s_, vD z3, s_] [(.double z3), (.double z3)])) _
      refine Jvm.OwnK.dmul X0.here hx rfl (hb hby d2_17) rfl hz17 (nn17 hb8) ?_
      show Steps p.tables e below (s₁.setTop (mkF m 18 #[vI p0, vD d1, s_, vD z3, s_] [(.double z17)])) _
      refine XS.dloadN X0.here hx rfl (hb hby d2_18) rfl ?_
      show Steps p.tables e below (s₁.setTop (mkF m 19 #[vI p0, vD d1, s_, vD z3, s_] [(.double d1), (.double z17)])) _
      refine Jvm.OwnK.ddiv X0.here hx rfl (hb hby d2_19) rfl hz19 (nn19 hb8) ?_
      exact k
    obtain ⟨fs, hr, hrun, hended, hW, hsame⟩ := X0.leave (v := some (.double z19)) (fun h => by rw [Bd.returns] at h; cases h)
    refine ⟨_, _, c3 _ ?_, hrun, hended, _, _, rfl, ?_, ⟨_, rfl⟩, hW, hsame.mono (by decide) (by decide)⟩
    · show Steps p.tables e below (s₁.setTop (mkF m 20 #[vI p0, vD d1, s_, vD z3, s_] [(.double z19)])) _
      exact retOut X0 hx Bd.returns rfl (Or.inr (Or.inr (Or.inl ⟨rfl, rfl, _, rfl⟩))) (hb hby d2_20) hr
    · show Q2 Z p0 d1 z1 z3 z7 z17 z19 rv h0 n0 _ s₁.heap _
      rw [e0]
      exact ⟨(congrArg (fun z => some (Value.double z)) (show z19 = rv by rw [← hrv]; simp only [if_neg hb8])), by first | assumption | exact N0, rfl⟩
def Q3 (Z : State) (q0 : Int64) (q1 : Int64) (q2 : Int64) (q3 : Int64) (q4 : Int64) (z2 : Int32) (z11 : Int64) (z15 : Int64) (z16 : Int64) (z23 : Int64) (z24 : UInt64) (z28 : Int64) (z31 : Int64) (z32 : UInt64) (z33 : UInt64) (rv : UInt64) (h0 : Heap) (n0 : Nat) (v : Option Value) (h : Heap) (L : List Loc) : Prop := v = some (.double rv) ∧ Fr n0 L ∧ h = h0
set_option maxRecDepth 65536 in
set_option maxHeartbeats 40000000 in
theorem rm3 (l : Launch) (Z : State) (a0 : Array Value) (hw : ∀ d ∈ tables_1, d.before a0 Z = true) (ws : List Jvm.Cond) (q0 : Int64) (q1 : Int64) (q2 : Int64) (q3 : Int64) (q4 : Int64) (z2 : Int32) (z11 : Int64) (z15 : Int64) (z16 : Int64) (z23 : Int64) (z24 : UInt64) (z28 : Int64) (z31 : Int64) (z32 : UInt64) (z33 : UInt64) (rv : UInt64) (h0 : Heap) (n0 : Nat) (Z0 : n0 ≤ h0.size) (hz2 : lcmpW q1 (0 : Int64) = z2) (hz11 : q0 * q2 = z11) (hz15 : q3 * q1 = z15) (hz16 : z11 - z15 = z16) (hz23 : z16 * z16 = z23) (hz24 : FP.l2d z23 = z24) (hz28 : q1 * q3 = z28) (hz31 : z28 * q4 = z31) (hz32 : FP.l2d z31 = z32) (hz33 : FP.ddiv z24 z32 = z33) (hrv : (if z2 = (0 : Int32) then FP.dconst0 else z33) = rv) (nn33 : (¬ z2 = (0 : Int32)) → Jvm.Free.Fl.NoNaN64 z33) :
    MetFree l (⟨"com/example/tidy_ranker/tidyranker/classification/ChiSquareScorePinLaw", "term", "(JJJJJ)D"⟩ : MethodName) (head1 (Jvm.Cond.code (⟨"com/example/tidy_ranker/tidyranker/classification/ChiSquareScorePinLaw", "term", "(JJJJJ)D"⟩ : MethodName) method_3_code 12 (some .double) :: ws) ({ frames := 0, cells := 0, slots := 0, locals := 0 } : Room)) (fun a U => a = #[(.long q0), (.long q1), (.long q2), (.long q3), (.long q4)] ∧ Z.Warmed39 U.vm ∧ U.heap = h0) (fun _ _ _ _ _ => True) (fun _ U o U' => ∃ v L, o = .returned v ∧ Q3 Z q0 q1 q2 q3 q4 z2 z11 z15 z16 z23 z24 z28 z31 z32 z33 rv h0 n0 v U'.heap L ∧ FrameEnd U o U' L ({ frames := 0, cells := 0, slots := 0, locals := 0 } : Room).cells ({ frames := 0, cells := 0, slots := 0, locals := 0 } : Room).slots) := by
  refine MetFree.of_bodySF (plainFor_of_name pn_1) hisR ?_
  intro p e s m args below meth c s₁ Bd hml0 hP hK
  obtain ⟨rfl, hZ, hh⟩ := hP
  have hx := Bd.exec
  have hby := Bd.bytes
  have hml : c.maxLocals = 12 := hml0
  have hown : s.vm.findClass "com/example/tidy_ranker/tidyranker/classification/ChiSquareScorePinLaw" = some m.cls := findClass_of_methodNamed Bd.named
  have hnm := (name_of_methodNamed Bd.named Bd.method).1
  have X0 : Stand p l e ({ frames := 0, cells := 0, slots := 0, locals := 0 } : Room) s m #[(.long q0), (.long q1), (.long q2), (.long q3), (.long q4)] below meth c s₁ [] 0 0 := Stand.of_body Bd
  have e0 : s₁.heap = h0 := by rw [← hh, Bd.state]; rfl
  have N0 := Fr.nil n0
  have c0 : ∀ t, Steps p.tables e below (s₁.setTop (mkF m 0 #[vJ q0, s_, vJ q1, s_, vJ q2, s_, vJ q3, s_, vJ q4, s_, u_, u_] [])) t → Steps p.tables e below (s₁.setTop (entryFrame m #[(.long q0), (.long q1), (.long q2), (.long q3), (.long q4)] 12)) t := fun t k => castTop (ef_rm3 m q0 q1 q2 q3 q4) k
  have c1 : ∀ t, Steps p.tables e below (s₁.setTop (mkF m 3 #[vJ q0, s_, vJ q1, s_, vJ q2, s_, vJ q3, s_, vJ q4, s_, u_, u_] [(.int z2)])) t → Steps p.tables e below (s₁.setTop (entryFrame m #[(.long q0), (.long q1), (.long q2), (.long q3), (.long q4)] 12)) t := by
    intro t k
    refine c0 t ?_
    show Steps p.tables e below (s₁.setTop (mkF m 0 #[vJ q0, s_, vJ q1, s_, vJ q2, s_, vJ q3, s_, vJ q4, s_, u_, u_] [])) _
    refine XS.lloadN X0.here hx rfl (hb hby d3_0) rfl ?_
    show Steps p.tables e below (s₁.setTop (mkF m 1 #[vJ q0, s_, vJ q1, s_, vJ q2, s_, vJ q3, s_, vJ q4, s_, u_, u_] [(.long q1)])) _
    refine XS.lconst X0.here hx rfl (hb hby d3_1) ?_
    show Steps p.tables e below (s₁.setTop (mkF m 2 #[vJ q0, s_, vJ q1, s_, vJ q2, s_, vJ q3, s_, vJ q4, s_, u_, u_] [(.long (0 : Int64)), (.long q1)])) _
    refine Jvm.OwnK.lcmp X0.here hx rfl (hb hby d3_2) rfl hz2 ?_
    exact k
  by_cases hb3 : z2 = (0 : Int32)
  · skip
    have c2 : ∀ t, Steps p.tables e below (s₁.setTop (mkF m 7 #[vJ q0, s_, vJ q1, s_, vJ q2, s_, vJ q3, s_, vJ q4, s_, u_, u_] [(.double FP.dconst0)])) t → Steps p.tables e below (s₁.setTop (entryFrame m #[(.long q0), (.long q1), (.long q2), (.long q3), (.long q4)] 12)) t := by
      intro t k
      refine c1 t ?_
      show Steps p.tables e below (s₁.setTop (mkF m 3 #[vJ q0, s_, vJ q1, s_, vJ q2, s_, vJ q3, s_, vJ q4, s_, u_, u_] [(.int z2)])) _
      refine XS.ifNo X0.here hx rfl (hb hby d3_3) rfl (Jvm.Free.XT.i0_ne_f hb3) ?_
      show Steps p.tables e below (s₁.setTop (mkF m 6 #[vJ q0, s_, vJ q1, s_, vJ q2, s_, vJ q3, s_, vJ q4, s_, u_, u_] [])) _
      refine XS.dconst0 X0.here hx rfl (hb hby d3_6) (v := FP.dconst0) rfl ?_
      exact k
    obtain ⟨fs, hr, hrun, hended, hW, hsame⟩ := X0.leave (v := some (.double FP.dconst0)) (fun h => by rw [Bd.returns] at h; cases h)
    refine ⟨_, _, c2 _ ?_, hrun, hended, _, _, rfl, ?_, ⟨_, rfl⟩, hW, hsame.mono (by decide) (by decide)⟩
    · show Steps p.tables e below (s₁.setTop (mkF m 7 #[vJ q0, s_, vJ q1, s_, vJ q2, s_, vJ q3, s_, vJ q4, s_, u_, u_] [(.double FP.dconst0)])) _
      exact retOut X0 hx Bd.returns rfl (Or.inr (Or.inr (Or.inl ⟨rfl, rfl, _, rfl⟩))) (hb hby d3_7) hr
    · show Q3 Z q0 q1 q2 q3 q4 z2 z11 z15 z16 z23 z24 z28 z31 z32 z33 rv h0 n0 _ s₁.heap _
      rw [e0]
      exact ⟨(congrArg (fun z => some (Value.double z)) (show FP.dconst0 = rv by rw [← hrv]; simp only [if_pos hb3])), by first | assumption | exact N0, rfl⟩
  · skip
    have c3 : ∀ t, Steps p.tables e below (s₁.setTop (mkF m 34 #[vJ q0, s_, vJ q1, s_, vJ q2, s_, vJ q3, s_, vJ q4, s_, vJ z16, s_] [(.double z33)])) t → Steps p.tables e below (s₁.setTop (entryFrame m #[(.long q0), (.long q1), (.long q2), (.long q3), (.long q4)] 12)) t := by
      intro t k
      refine c1 t ?_
      show Steps p.tables e below (s₁.setTop (mkF m 3 #[vJ q0, s_, vJ q1, s_, vJ q2, s_, vJ q3, s_, vJ q4, s_, u_, u_] [(.int z2)])) _
      refine XS.ifYes X0.here hx rfl (pc0 := 3) (pc' := 8) rfl (hb hby d3_3) rfl (Jvm.Free.XT.i0_ne_t hb3) (by decide) (by decide) ?_
      show Steps p.tables e below (s₁.setTop (mkF m 8 #[vJ q0, s_, vJ q1, s_, vJ q2, s_, vJ q3, s_, vJ q4, s_, u_, u_] [])) _
      refine XS.lloadN X0.here hx rfl (hb hby d3_8) rfl ?_
      show Steps p.tables e below (s₁.setTop (mkF m 9 #[vJ q0, s_, vJ q1, s_, vJ q2, s_, vJ q3, s_, vJ q4, s_, u_, u_] [(.long q0)])) _
      refine XS.lload X0.here hx rfl (hb hby d3_9) rfl ?_
      show Steps p.tables e below (s₁.setTop (mkF m 11 #[vJ q0, s_, vJ q1, s_, vJ q2, s_, vJ q3, s_, vJ q4, s_, u_, u_] [(.long q2), (.long q0)])) _
      refine Jvm.OwnK.lmul X0.here hx rfl (hb hby d3_11) rfl hz11 ?_
      show Steps p.tables e below (s₁.setTop (mkF m 12 #[vJ q0, s_, vJ q1, s_, vJ q2, s_, vJ q3, s_, vJ q4, s_, u_, u_] [(.long z11)])) _
      refine XS.lload X0.here hx rfl (hb hby d3_12) rfl ?_
      show Steps p.tables e below (s₁.setTop (mkF m 14 #[vJ q0, s_, vJ q1, s_, vJ q2, s_, vJ q3, s_, vJ q4, s_, u_, u_] [(.long q3), (.long z11)])) _
      refine XS.lloadN X0.here hx rfl (hb hby d3_14) rfl ?_
      show Steps p.tables e below (s₁.setTop (mkF m 15 #[vJ q0, s_, vJ q1, s_, vJ q2, s_, vJ q3, s_, vJ q4, s_, u_, u_] [(.long q1), (.long q3), (.long z11)])) _
      refine Jvm.OwnK.lmul X0.here hx rfl (hb hby d3_15) rfl hz15 ?_
      show Steps p.tables e below (s₁.setTop (mkF m 16 #[vJ q0, s_, vJ q1, s_, vJ q2, s_, vJ q3, s_, vJ q4, s_, u_, u_] [(.long z15), (.long z11)])) _
      refine Jvm.OwnK.lsub X0.here hx rfl (hb hby d3_16) rfl hz16 ?_
      show Steps p.tables e below (s₁.setTop (mkF m 17 #[vJ q0, s_, vJ q1, s_, vJ q2, s_, vJ q3, s_, vJ q4, s_, u_, u_] [(.long z16)])) _
      refine XS.lstore X0.here hx rfl (hb hby d3_17) rfl (l' := #[vJ q0, s_, vJ q1, s_, vJ q2, s_, vJ q3, s_, vJ q4, s_, vJ z16, s_]) rfl ?_
      show Steps p.tables e below (s₁.setTop (mkF m 19 #[vJ q0, s_, vJ q1, s_, vJ q2, s_, vJ q3, s_, vJ q4, s_, vJ z16, s_] [])) _
      refine XS.lload X0.here hx rfl (hb hby d3_19) rfl ?_
      show Steps p.tables e below (s₁.setTop (mkF m 21 #[vJ q0, s_, vJ q1, s_, vJ q2, s_, vJ q3, s_, vJ q4, s_, vJ z16, s_] [(.long z16)])) _
      refine XS.lload X0.here hx rfl (hb hby d3_21) rfl ?_
      show Steps p.tables e below (s₁.setTop (mkF m 23 #[vJ q0, s_, vJ q1, s_, vJ q2, s_, vJ q3, s_, vJ q4, s_, vJ z16, s_] [(.long z16), (.long z16)])) _
      refine Jvm.OwnK.lmul X0.here hx rfl (hb hby d3_23) rfl hz23 ?_
      show Steps p.tables e below (s₁.setTop (mkF m 24 #[vJ q0, s_, vJ q1, s_, vJ q2, s_, vJ q3, s_, vJ q4, s_, vJ z16, s_] [(.long z23)])) _
      refine XS.l2dS X0.here hx rfl (hb hby d3_24) rfl hz24 ?_
      show Steps p.tables e below (s₁.setTop (mkF m 25 #[vJ q0, s_, vJ q1, s_, vJ q2, s_, vJ q3, s_, vJ q4, s_, vJ z16, s_] [(.double z24)])) _
      refine XS.lloadN X0.here hx rfl (hb hby d3_25) rfl ?_
      show Steps p.tables e below (s₁.setTop (mkF m 26 #[vJ q0, s_, vJ q1, s_, vJ q2, s_, vJ q3, s_, vJ q4, s_, vJ z16, s_] [(.long q1), (.double z24)])) _
      refine XS.lload X0.here hx rfl (hb hby d3_26) rfl ?_
      show Steps p.tables e below (s₁.setTop (mkF m 28 #[vJ q0, s_, vJ q1, s_, vJ q2, s_, vJ q3, s_, vJ q4, s_, vJ z16, s_] [(.long q3), (.long q1), (.double z24)])) _
      refine Jvm.OwnK.lmul X0.here hx rfl (hb hby d3_28) rfl hz28 ?_
      show Steps p.tables e below (s₁.setTop (mkF m 29 #[vJ q0, s_, vJ q1, s_, vJ q2, s_, vJ q3, s_, vJ q4, s_, vJ z16, s_] [(.long z28), (.double z24)])) _
      refine XS.lload X0.here hx rfl (hb hby d3_29) rfl ?_
      show Steps p.tables e below (s₁.setTop (mkF m 31 #[vJ q0, s_, vJ q1, s_, vJ q2, s_, vJ q3, s_, vJ q4, s_, vJ z16, s_] [(.long q4), (.long z28), (.double z24)])) _
      refine Jvm.OwnK.lmul X0.here hx rfl (hb hby d3_31) rfl hz31 ?_
      show Steps p.tables e below (s₁.setTop (mkF m 32 #[vJ q0, s_, vJ q1, s_, vJ q2, s_, vJ q3, s_, vJ q4, s_, vJ z16, s_] [(.long z31), (.double z24)])) _
      refine XS.l2dS X0.here hx rfl (hb hby d3_32) rfl hz32 ?_
      show Steps p.tables e below (s₁.setTop (mkF m 33 #[vJ q0, s_, vJ q1, s_, vJ q2, s_, vJ q3, s_, vJ q4, s_, vJ z16, s_] [(.double z32), (.double z24)])) _
      refine Jvm.OwnK.ddiv X0.here hx rfl (hb hby d3_33) rfl hz33 (nn33 hb3) ?_
      exact k
    obtain ⟨fs, hr, hrun, hended, hW, hsame⟩ := X0.leave (v := some (.double z33)) (fun h => by rw [Bd.returns] at h; cases h)
    refine ⟨_, _, c3 _ ?_, hrun, hended, _, _, rfl, ?_, ⟨_, rfl⟩, hW, hsame.mono (by decide) (by decide)⟩
    · show Steps p.tables e below (s₁.setTop (mkF m 34 #[vJ q0, s_, vJ q1, s_, vJ q2, s_, vJ q3, s_, vJ q4, s_, vJ z16, s_] [(.double z33)])) _
      exact retOut X0 hx Bd.returns rfl (Or.inr (Or.inr (Or.inl ⟨rfl, rfl, _, rfl⟩))) (hb hby d3_34) hr
    · show Q3 Z q0 q1 q2 q3 q4 z2 z11 z15 z16 z23 z24 z28 z31 z32 z33 rv h0 n0 _ s₁.heap _
      rw [e0]
      exact ⟨(congrArg (fun z => some (Value.double z)) (show z33 = rv by rw [← hrv]; simp only [if_neg hb3])), by first | assumption | exact N0, rfl⟩
def Q1_1 (Z : State) (o0 : Addr) (o1 : Addr) (k_o0 : ClassId) (yg0 : Int32) (k_o1 : ClassId) (yh0 : Int32) (z20 : Int64) (z21 : Int64) (z29 : Int64) (z30 : Int64) (z60 : UInt64) (z65 : UInt64) (z66 : UInt64) (z68 : UInt64) (z69 : UInt64) (c70_z1 : UInt64) (c70_z3 : UInt64) (c70_z7 : Int32) (c70_z17 : UInt64) (c70_z19 : UInt64) (c70_rv : UInt64) (z73 : UInt64) (z86 : Int32) (z90 : Int64) (z91 : UInt64) (z96 : UInt64) (z97 : UInt64) (z99 : UInt64) (z100 : UInt64) (c101_z1 : UInt64) (c101_z3 : UInt64) (c101_z7 : Int32) (c101_z17 : UInt64) (c101_z19 : UInt64) (c101_rv : UInt64) (z104 : UInt64) (h0 : Heap) (n0 : Nat) (v : Option Value) (h : Heap) (L : List Loc) : Prop := v = some (.double z104) ∧ Fr n0 L ∧ h = h0
set_option maxRecDepth 65536 in
set_option maxHeartbeats 40000000 in
theorem rm1_1 (l : Launch) (Z : State) (a0 : Array Value) (hw : ∀ d ∈ tables_1, d.before a0 Z = true) (ws : List Jvm.Cond) (o0 : Addr) (o1 : Addr) (k_o0 : ClassId) (yg0 : Int32) (k_o1 : ClassId) (yh0 : Int32) (z20 : Int64) (z21 : Int64) (z29 : Int64) (z30 : Int64) (z60 : UInt64) (z65 : UInt64) (z66 : UInt64) (z68 : UInt64) (z69 : UInt64) (c70_z1 : UInt64) (c70_z3 : UInt64) (c70_z7 : Int32) (c70_z17 : UInt64) (c70_z19 : UInt64) (c70_rv : UInt64) (z73 : UInt64) (z86 : Int32) (z90 : Int64) (z91 : UInt64) (z96 : UInt64) (z97 : UInt64) (z99 : UInt64) (z100 : UInt64) (c101_z1 : UInt64) (c101_z3 : UInt64) (c101_z7 : Int32) (c101_z17 : UInt64) (c101_z19 : UInt64) (c101_rv : UInt64) (z104 : UInt64) (h0 : Heap) (n0 : Nat) (Z0 : n0 ≤ h0.size) (V_o0 : Arv Z h0 o0 k_o0 .int (1 : Int32) [(.int yg0)] (.int (0 : Int32))) (V_o1 : Arv Z h0 o1 k_o1 .int (1 : Int32) [(.int yh0)] (.int (0 : Int32))) (hz20 : yh0.toInt64 = z20) (hz21 : (0 : Int64) + z20 = z21) (hz29 : yg0.toInt64 = z29) (hz30 : (0 : Int64) + z29 = z30) (hz60 : FP.l2d z30 = z60) (hz65 : FP.i2d yh0 = z65) (hz66 : FP.dmul z60 z65 = z66) (hz68 : FP.l2d z21 = z68) (hz69 : FP.ddiv z66 z68 = z69) (hc70_z1 : FP.i2d yg0 = c70_z1) (hc70_z3 : FP.dsub c70_z1 z69 = c70_z3) (hc70_z7 : cmpValue (FP.dcmp z69 FP.dconst0) .l = c70_z7) (hc70_z17 : FP.dmul c70_z3 c70_z3 = c70_z17) (hc70_z19 : FP.ddiv c70_z17 z69 = c70_z19) (hc70_rv : (if c70_z7 = (0 : Int32) then FP.dconst0 else c70_z19) = c70_rv) (hz73 : FP.dadd FP.dconst0 c70_rv = z73) (hz86 : yh0 - yg0 = z86) (hz90 : z21 - z30 = z90) (hz91 : FP.l2d z90 = z91) (hz96 : FP.i2d yh0 = z96) (hz97 : FP.dmul z91 z96 = z97) (hz99 : FP.l2d z21 = z99) (hz100 : FP.ddiv z97 z99 = z100) (hc101_z1 : FP.i2d z86 = c101_z1) (hc101_z3 : FP.dsub c101_z1 z100 = c101_z3) (hc101_z7 : cmpValue (FP.dcmp z100 FP.dconst0) .l = c101_z7) (hc101_z17 : FP.dmul c101_z3 c101_z3 = c101_z17) (hc101_z19 : FP.ddiv c101_z17 z100 = c101_z19) (hc101_rv : (if c101_z7 = (0 : Int32) then FP.dconst0 else c101_z19) = c101_rv) (hz104 : FP.dadd z73 c101_rv = z104) (nn66 : Jvm.Free.Fl.NoNaN64 z66) (nn69 : Jvm.Free.Fl.NoNaN64 z69) (c70_nn3 : Jvm.Free.Fl.NoNaN64 c70_z3) (c70_nn17 : (¬ c70_z7 = (0 : Int32)) → Jvm.Free.Fl.NoNaN64 c70_z17) (c70_nn19 : (¬ c70_z7 = (0 : Int32)) → Jvm.Free.Fl.NoNaN64 c70_z19) (nn73 : Jvm.Free.Fl.NoNaN64 z73) (nn97 : Jvm.Free.Fl.NoNaN64 z97) (nn100 : Jvm.Free.Fl.NoNaN64 z100) (c101_nn3 : Jvm.Free.Fl.NoNaN64 c101_z3) (c101_nn17 : (¬ c101_z7 = (0 : Int32)) → Jvm.Free.Fl.NoNaN64 c101_z17) (c101_nn19 : (¬ c101_z7 = (0 : Int32)) → Jvm.Free.Fl.NoNaN64 c101_z19) (nn104 : Jvm.Free.Fl.NoNaN64 z104) :
    MetFree l (⟨"com/example/tidy_ranker/tidyranker/classification/ChiSquare", "score", "([I[I)D"⟩ : MethodName) (head1 (Jvm.Cond.code (⟨"com/example/tidy_ranker/tidyranker/classification/ChiSquare", "score", "([I[I)D"⟩ : MethodName) prog_19_method_2_code 9 (some .double) :: ws) ({ frames := 1, cells := 0, slots := 0, locals := 18 } : Room)) (fun a U => a = #[(.ref o0), (.ref o1)] ∧ Z.Warmed39 U.vm ∧ U.heap = h0) (fun _ _ _ _ _ => True) (fun _ U o U' => ∃ v L, o = .returned v ∧ Q1_1 Z o0 o1 k_o0 yg0 k_o1 yh0 z20 z21 z29 z30 z60 z65 z66 z68 z69 c70_z1 c70_z3 c70_z7 c70_z17 c70_z19 c70_rv z73 z86 z90 z91 z96 z97 z99 z100 c101_z1 c101_z3 c101_z7 c101_z17 c101_z19 c101_rv z104 h0 n0 v U'.heap L ∧ FrameEnd U o U' L ({ frames := 1, cells := 0, slots := 0, locals := 18 } : Room).cells ({ frames := 1, cells := 0, slots := 0, locals := 18 } : Room).slots) := by
  refine MetFree.of_bodySF (plainFor_of_name pn_0) hisR ?_
  intro p e s m args below meth c s₁ Bd hml0 hP hK
  obtain ⟨rfl, hZ, hh⟩ := hP
  have hx := Bd.exec
  have hby := Bd.bytes
  have hml : c.maxLocals = 9 := hml0
  have hown : s.vm.findClass "com/example/tidy_ranker/tidyranker/classification/ChiSquare" = some m.cls := findClass_of_methodNamed Bd.named
  have hnm := (name_of_methodNamed Bd.named Bd.method).1
  have X0 : Stand p l e ({ frames := 1, cells := 0, slots := 0, locals := 18 } : Room) s m #[(.ref o0), (.ref o1)] below meth c s₁ [] 0 0 := Stand.of_body Bd
  have e0 : s₁.heap = h0 := by rw [← hh, Bd.state]; rfl
  have N0 := Fr.nil n0
  have c0 : ∀ t, Steps p.tables e below (s₁.setTop (mkF m 0 #[vR o0, vR o1, u_, u_, u_, u_, u_, u_, u_] [])) t → Steps p.tables e below (s₁.setTop (entryFrame m #[(.ref o0), (.ref o1)] 9)) t := fun t k => castTop (ef_rm1_1 m o0 o1) k
  obtain ⟨cl1, Ar1, -, S1, Nn1, -, -⟩ := id V_o1
  obtain ⟨cl2, Ar2, -, S2, -, Ha2, -⟩ := id V_o1
  have in2 : ¬ ((0 : Int32) < 0 ∨ cl2.slots.size ≤ ((0 : Int32)).toNatClampNeg) := inb_of S2 ⟨by decide, by decide⟩
  obtain ⟨cl3, Ar3, -, S3, -, Ha3, -⟩ := id V_o0
  have in3 : ¬ ((0 : Int32) < 0 ∨ cl3.slots.size ≤ ((0 : Int32)).toNatClampNeg) := inb_of S3 ⟨by decide, by decide⟩
  obtain ⟨cl4, Ar4, -, S4, Nn4, -, -⟩ := id V_o1
  obtain ⟨cl5, Ar5, -, S5, Nn5, -, -⟩ := id V_o1
  obtain ⟨cl6, Ar6, -, S6, -, Ha6, -⟩ := id V_o0
  have in6 : ¬ ((0 : Int32) < 0 ∨ cl6.slots.size ≤ ((0 : Int32)).toNatClampNeg) := inb_of S6 ⟨by decide, by decide⟩
  obtain ⟨cl7, Ar7, -, S7, -, Ha7, -⟩ := id V_o1
  have in7 : ¬ ((0 : Int32) < 0 ∨ cl7.slots.size ≤ ((0 : Int32)).toNatClampNeg) := inb_of S7 ⟨by decide, by decide⟩
  obtain ⟨_, _, ⟨T8, L8, k8, n8⟩, -, X8, ⟨Lc8, hQ8, ql8, qy8, qz8⟩, st8⟩ := Jvm.LawKit.callS X0 hx (y := (⟨"com/example/tidy_ranker/tidyranker/classification/ChiSquare", "cell", "(ID)D"⟩ : MethodName)) hown (mvT hZ (hw _ (List.mem_of_getElem? (i := 6) rfl))) (mvT hZ (hw _ (List.mem_of_getElem? (i := 7) rfl))) (mvT hZ (hw _ (List.mem_of_getElem? (i := 4) rfl))) (mvT hZ (hw _ (List.mem_of_getElem? (i := 8) rfl))) (by decide) (backOf (W := 2) (rm2 l Z a0 hw [] yg0 z69 c70_z1 c70_z3 c70_z7 c70_z17 c70_z19 c70_rv h0 n0 Z0 hc70_z1 hc70_z3 hc70_z7 hc70_z17 hc70_z19 hc70_rv c70_nn3 c70_nn17 c70_nn19) hZ (hw _ (List.mem_of_getElem? (i := 8) rfl)) (hw _ (List.mem_of_getElem? (i := 4) rfl)) (by decide) (by decide)) (g := (mkF m 70 #[vR o0, vR o1, vJ z21, s_, vJ z30, s_, vD FP.dconst0, s_, vI (0 : Int32)] [(.double z69), (.int yg0), (.double FP.dconst0)])) rfl (by rw [hml]; rfl) (argsL := [(.int yg0), (.double z69)]) (rest := [(.double FP.dconst0)]) (lenOf pd_0 rfl) rfl (by show 2 * 0 + _ ≤ _; exact Nat.le_of_eq rfl) (hb hby d1_70) (fun _ _ => ⟨rfl, e0, (by decide : 0 + 0 ≤ _), (by decide : 0 + 0 ≤ _)⟩)
  dsimp only [Pt.U, Pt.locs, Pt.cells, Pt.slots] at X8 ql8 qy8 qz8 st8 hQ8
  subst ql8 qy8 qz8
  obtain ⟨rfl, N8q, e8⟩ := hQ8
  have N8 := Fr.app N0 N8q
  obtain ⟨cl9, Ar9, -, S9, -, Ha9, -⟩ := id V_o1
  have in9 : ¬ ((0 : Int32) < 0 ∨ cl9.slots.size ≤ ((0 : Int32)).toNatClampNeg) := inb_of S9 ⟨by decide, by decide⟩
  obtain ⟨cl10, Ar10, -, S10, -, Ha10, -⟩ := id V_o0
  have in10 : ¬ ((0 : Int32) < 0 ∨ cl10.slots.size ≤ ((0 : Int32)).toNatClampNeg) := inb_of S10 ⟨by decide, by decide⟩
  obtain ⟨cl11, Ar11, -, S11, -, Ha11, -⟩ := id V_o1
  have in11 : ¬ ((0 : Int32) < 0 ∨ cl11.slots.size ≤ ((0 : Int32)).toNatClampNeg) := inb_of S11 ⟨by decide, by decide⟩
  obtain ⟨_, _, ⟨T12, L12, k12, n12⟩, -, X12, ⟨Lc12, hQ12, ql12, qy12, qz12⟩, st12⟩ := Jvm.LawKit.callS X8 hx (y := (⟨"com/example/tidy_ranker/tidyranker/classification/ChiSquare", "cell", "(ID)D"⟩ : MethodName)) hown (mvT hZ (hw _ (List.mem_of_getElem? (i := 6) rfl))) (mvT hZ (hw _ (List.mem_of_getElem? (i := 7) rfl))) (mvT hZ (hw _ (List.mem_of_getElem? (i := 4) rfl))) (mvT hZ (hw _ (List.mem_of_getElem? (i := 8) rfl))) (by decide) (backOf (W := 2) (rm2 l Z a0 hw [] z86 z100 c101_z1 c101_z3 c101_z7 c101_z17 c101_z19 c101_rv h0 n0 Z0 hc101_z1 hc101_z3 hc101_z7 hc101_z17 hc101_z19 hc101_rv c101_nn3 c101_nn17 c101_nn19) hZ (hw _ (List.mem_of_getElem? (i := 8) rfl)) (hw _ (List.mem_of_getElem? (i := 4) rfl)) (by decide) (by decide)) (g := (mkF m 101 #[vR o0, vR o1, vJ z21, s_, vJ z30, s_, vD z73, s_, vI (0 : Int32)] [(.double z100), (.int z86), (.double z73)])) rfl (by rw [hml]; rfl) (argsL := [(.int z86), (.double z100)]) (rest := [(.double z73)]) (lenOf pd_0 rfl) rfl (by show 2 * 0 + _ ≤ _; exact Nat.le_of_eq rfl) (hb hby d1_101) (fun _ _ => ⟨rfl, e8, (by decide : 0 + 0 ≤ _), (by decide : 0 + 0 ≤ _)⟩)
  dsimp only [Pt.U, Pt.locs, Pt.cells, Pt.slots] at X12 ql12 qy12 qz12 st12 hQ12
  subst ql12 qy12 qz12
  obtain ⟨rfl, N12q, e12⟩ := hQ12
  have N12 := Fr.app N8 N12q
  obtain ⟨cl13, Ar13, -, S13, Nn13, -, -⟩ := id V_o1
  have c14 : ∀ t, Steps p.tables e below (T12.setTop (mkF m 115 #[vR o0, vR o1, vJ z21, s_, vJ z30, s_, vD z104, s_, vI (1 : Int32)] [(.double z104)])) t → Steps p.tables e below (s₁.setTop (entryFrame m #[(.ref o0), (.ref o1)] 9)) t := by
    intro t k
    refine c0 t ?_
    show Steps p.tables e below (s₁.setTop (mkF m 0 #[vR o0, vR o1, u_, u_, u_, u_, u_, u_, u_] [])) _
    refine XS.lconst X0.here hx rfl (hb hby d1_0) ?_
    show Steps p.tables e below (s₁.setTop (mkF m 1 #[vR o0, vR o1, u_, u_, u_, u_, u_, u_, u_] [(.long (0 : Int64))])) _
    refine XS.lstoreN X0.here hx rfl (hb hby d1_1) rfl (l' := #[vR o0, vR o1, vJ (0 : Int64), s_, u_, u_, u_, u_, u_]) rfl ?_
    show Steps p.tables e below (s₁.setTop (mkF m 2 #[vR o0, vR o1, vJ (0 : Int64), s_, u_, u_, u_, u_, u_] [])) _
    refine XS.lconst X0.here hx rfl (hb hby d1_2) ?_
    show Steps p.tables e below (s₁.setTop (mkF m 3 #[vR o0, vR o1, vJ (0 : Int64), s_, u_, u_, u_, u_, u_] [(.long (0 : Int64))])) _
    refine XS.lstore X0.here hx rfl (hb hby d1_3) rfl (l' := #[vR o0, vR o1, vJ (0 : Int64), s_, vJ (0 : Int64), s_, u_, u_, u_]) rfl ?_
    show Steps p.tables e below (s₁.setTop (mkF m 5 #[vR o0, vR o1, vJ (0 : Int64), s_, vJ (0 : Int64), s_, u_, u_, u_] [])) _
    refine XS.iconst X0.here hx rfl (hb hby d1_5) ?_
    show Steps p.tables e below (s₁.setTop (mkF m 6 #[vR o0, vR o1, vJ (0 : Int64), s_, vJ (0 : Int64), s_, u_, u_, u_] [(.int (0 : Int32))])) _
    refine XS.istore X0.here hx rfl (hb hby d1_6) rfl (l' := #[vR o0, vR o1, vJ (0 : Int64), s_, vJ (0 : Int64), s_, vI (0 : Int32), u_, u_]) rfl ?_
    show Steps p.tables e below (s₁.setTop (mkF m 8 #[vR o0, vR o1, vJ (0 : Int64), s_, vJ (0 : Int64), s_, vI (0 : Int32), u_, u_] [])) _
    refine XS.iload X0.here hx rfl (hb hby d1_8) rfl ?_
    show Steps p.tables e below (s₁.setTop (mkF m 10 #[vR o0, vR o1, vJ (0 : Int64), s_, vJ (0 : Int64), s_, vI (0 : Int32), u_, u_] [(.int (0 : Int32))])) _
    refine XS.aloadN X0.here hx rfl (hb hby d1_10) rfl rfl ?_
    show Steps p.tables e below (s₁.setTop (mkF m 11 #[vR o0, vR o1, vJ (0 : Int64), s_, vJ (0 : Int64), s_, vI (0 : Int32), u_, u_] [(.ref o1), (.int (0 : Int32))])) _
    refine X0.arraylength hx (by rw [e0]; exact Ar1.1) (State.isArrayOf_alike hZ.alike Ar1.2.1) (g := (mkF m 11 #[vR o0, vR o1, vJ (0 : Int64), s_, vJ (0 : Int64), s_, vI (0 : Int32), u_, u_] [(.ref o1), (.int (0 : Int32))])) rfl rfl (hb hby d1_11) _ ?_
    rw [len_of S1 Nn1]
    show Steps p.tables e below (s₁.setTop (mkF m 12 #[vR o0, vR o1, vJ (0 : Int64), s_, vJ (0 : Int64), s_, vI (0 : Int32), u_, u_] [(.int (1 : Int32)), (.int (0 : Int32))])) _
    refine XS.icmpNo X0.here hx rfl (hb hby d1_12) rfl (Jvm.Free.XT.ii_ge_f (by decide)) ?_
    show Steps p.tables e below (s₁.setTop (mkF m 15 #[vR o0, vR o1, vJ (0 : Int64), s_, vJ (0 : Int64), s_, vI (0 : Int32), u_, u_] [])) _
    refine XS.lloadN X0.here hx rfl (hb hby d1_15) rfl ?_
    show Steps p.tables e below (s₁.setTop (mkF m 16 #[vR o0, vR o1, vJ (0 : Int64), s_, vJ (0 : Int64), s_, vI (0 : Int32), u_, u_] [(.long (0 : Int64))])) _
    refine XS.aloadN X0.here hx rfl (hb hby d1_16) rfl rfl ?_
    show Steps p.tables e below (s₁.setTop (mkF m 17 #[vR o0, vR o1, vJ (0 : Int64), s_, vJ (0 : Int64), s_, vI (0 : Int32), u_, u_] [(.ref o1), (.long (0 : Int64))])) _
    refine XS.iload X0.here hx rfl (hb hby d1_17) rfl ?_
    show Steps p.tables e below (s₁.setTop (mkF m 19 #[vR o0, vR o1, vJ (0 : Int64), s_, vJ (0 : Int64), s_, vI (0 : Int32), u_, u_] [(.int (0 : Int32)), (.ref o1), (.long (0 : Int64))])) _
    refine X0.iaload hx (j := (0 : Int32)) (v := (.int yh0)) (by rw [e0]; exact Ar2.1) (State.isArrayOf_alike hZ.alike Ar2.2.1) Ar2.2.2 in2 (Has.at Ha2 in2 rfl) (g := (mkF m 19 #[vR o0, vR o1, vJ (0 : Int64), s_, vJ (0 : Int64), s_, vI (0 : Int32), u_, u_] [(.int (0 : Int32)), (.ref o1), (.long (0 : Int64))])) rfl rfl (hb hby d1_19) _ ?_
    show Steps p.tables e below (s₁.setTop (mkF m 20 #[vR o0, vR o1, vJ (0 : Int64), s_, vJ (0 : Int64), s_, vI (0 : Int32), u_, u_] [(.int yh0), (.long (0 : Int64))])) _
    refine Jvm.OwnK.i2l X0.here hx rfl (hb hby d1_20) rfl hz20 ?_
    show Steps p.tables e below (s₁.setTop (mkF m 21 #[vR o0, vR o1, vJ (0 : Int64), s_, vJ (0 : Int64), s_, vI (0 : Int32), u_, u_] [(.long z20), (.long (0 : Int64))])) _
    refine Jvm.OwnK.ladd X0.here hx rfl (hb hby d1_21) rfl hz21 ?_
    show Steps p.tables e below (s₁.setTop (mkF m 22 #[vR o0, vR o1, vJ (0 : Int64), s_, vJ (0 : Int64), s_, vI (0 : Int32), u_, u_] [(.long z21)])) _
    refine XS.lstoreN X0.here hx rfl (hb hby d1_22) rfl (l' := #[vR o0, vR o1, vJ z21, s_, vJ (0 : Int64), s_, vI (0 : Int32), u_, u_]) rfl ?_
    show Steps p.tables e below (s₁.setTop (mkF m 23 #[vR o0, vR o1, vJ z21, s_, vJ (0 : Int64), s_, vI (0 : Int32), u_, u_] [])) _
    refine XS.lload X0.here hx rfl (hb hby d1_23) rfl ?_
    show Steps p.tables e below (s₁.setTop (mkF m 25 #[vR o0, vR o1, vJ z21, s_, vJ (0 : Int64), s_, vI (0 : Int32), u_, u_] [(.long (0 : Int64))])) _
    refine XS.aloadN X0.here hx rfl (hb hby d1_25) rfl rfl ?_
    show Steps p.tables e below (s₁.setTop (mkF m 26 #[vR o0, vR o1, vJ z21, s_, vJ (0 : Int64), s_, vI (0 : Int32), u_, u_] [(.ref o0), (.long (0 : Int64))])) _
    refine XS.iload X0.here hx rfl (hb hby d1_26) rfl ?_
    show Steps p.tables e below (s₁.setTop (mkF m 28 #[vR o0, vR o1, vJ z21, s_, vJ (0 : Int64), s_, vI (0 : Int32), u_, u_] [(.int (0 : Int32)), (.ref o0), (.long (0 : Int64))])) _
    refine X0.iaload hx (j := (0 : Int32)) (v := (.int yg0)) (by rw [e0]; exact Ar3.1) (State.isArrayOf_alike hZ.alike Ar3.2.1) Ar3.2.2 in3 (Has.at Ha3 in3 rfl) (g := (mkF m 28 #[vR o0, vR o1, vJ z21, s_, vJ (0 : Int64), s_, vI (0 : Int32), u_, u_] [(.int (0 : Int32)), (.ref o0), (.long (0 : Int64))])) rfl rfl (hb hby d1_28) _ ?_
    show Steps p.tables e below (s₁.setTop (mkF m 29 #[vR o0, vR o1, vJ z21, s_, vJ (0 : Int64), s_, vI (0 : Int32), u_, u_] [(.int yg0), (.long (0 : Int64))])) _
    refine Jvm.OwnK.i2l X0.here hx rfl (hb hby d1_29) rfl hz29 ?_
    show Steps p.tables e below (s₁.setTop (mkF m 30 #[vR o0, vR o1, vJ z21, s_, vJ (0 : Int64), s_, vI (0 : Int32), u_, u_] [(.long z29), (.long (0 : Int64))])) _
    refine Jvm.OwnK.ladd X0.here hx rfl (hb hby d1_30) rfl hz30 ?_
    show Steps p.tables e below (s₁.setTop (mkF m 31 #[vR o0, vR o1, vJ z21, s_, vJ (0 : Int64), s_, vI (0 : Int32), u_, u_] [(.long z30)])) _
    refine XS.lstore X0.here hx rfl (hb hby d1_31) rfl (l' := #[vR o0, vR o1, vJ z21, s_, vJ z30, s_, vI (0 : Int32), u_, u_]) rfl ?_
    show Steps p.tables e below (s₁.setTop (mkF m 33 #[vR o0, vR o1, vJ z21, s_, vJ z30, s_, vI (0 : Int32), u_, u_] [])) _
    refine Jvm.OwnK.iinc X0.here hx rfl (hb hby d1_33) rfl (l' := #[vR o0, vR o1, vJ z21, s_, vJ z30, s_, vI (1 : Int32), u_, u_]) (v := (1 : Int32)) (by decide) rfl ?_
    show Steps p.tables e below (s₁.setTop (mkF m 36 #[vR o0, vR o1, vJ z21, s_, vJ z30, s_, vI (1 : Int32), u_, u_] [])) _
    refine XS.goto X0.here hx rfl (pc0 := 36) (pc' := 8) rfl (hb hby d1_36) (by decide) (by decide) ?_
    show Steps p.tables e below (s₁.setTop (mkF m 8 #[vR o0, vR o1, vJ z21, s_, vJ z30, s_, vI (1 : Int32), u_, u_] [])) _
    refine XS.iload X0.here hx rfl (hb hby d1_8) rfl ?_
    show Steps p.tables e below (s₁.setTop (mkF m 10 #[vR o0, vR o1, vJ z21, s_, vJ z30, s_, vI (1 : Int32), u_, u_] [(.int (1 : Int32))])) _
    refine XS.aloadN X0.here hx rfl (hb hby d1_10) rfl rfl ?_
    show Steps p.tables e below (s₁.setTop (mkF m 11 #[vR o0, vR o1, vJ z21, s_, vJ z30, s_, vI (1 : Int32), u_, u_] [(.ref o1), (.int (1 : Int32))])) _
    refine X0.arraylength hx (by rw [e0]; exact Ar4.1) (State.isArrayOf_alike hZ.alike Ar4.2.1) (g := (mkF m 11 #[vR o0, vR o1, vJ z21, s_, vJ z30, s_, vI (1 : Int32), u_, u_] [(.ref o1), (.int (1 : Int32))])) rfl rfl (hb hby d1_11) _ ?_
    rw [len_of S4 Nn4]
    show Steps p.tables e below (s₁.setTop (mkF m 12 #[vR o0, vR o1, vJ z21, s_, vJ z30, s_, vI (1 : Int32), u_, u_] [(.int (1 : Int32)), (.int (1 : Int32))])) _
    refine XS.icmpYes X0.here hx rfl (pc0 := 12) (pc' := 39) rfl (hb hby d1_12) rfl (Jvm.Free.XT.ii_ge_t (by decide)) (by decide) (by decide) ?_
    show Steps p.tables e below (s₁.setTop (mkF m 39 #[vR o0, vR o1, vJ z21, s_, vJ z30, s_, vI (1 : Int32), u_, u_] [])) _
    refine XS.dconst0 X0.here hx rfl (hb hby d1_39) (v := FP.dconst0) rfl ?_
    show Steps p.tables e below (s₁.setTop (mkF m 40 #[vR o0, vR o1, vJ z21, s_, vJ z30, s_, vI (1 : Int32), u_, u_] [(.double FP.dconst0)])) _
    refine XS.dstore X0.here hx rfl (hb hby d1_40) rfl (l' := #[vR o0, vR o1, vJ z21, s_, vJ z30, s_, vD FP.dconst0, s_, u_]) rfl ?_
    show Steps p.tables e below (s₁.setTop (mkF m 42 #[vR o0, vR o1, vJ z21, s_, vJ z30, s_, vD FP.dconst0, s_, u_] [])) _
    refine XS.iconst X0.here hx rfl (hb hby d1_42) ?_
    show Steps p.tables e below (s₁.setTop (mkF m 43 #[vR o0, vR o1, vJ z21, s_, vJ z30, s_, vD FP.dconst0, s_, u_] [(.int (0 : Int32))])) _
    refine XS.istore X0.here hx rfl (hb hby d1_43) rfl (l' := #[vR o0, vR o1, vJ z21, s_, vJ z30, s_, vD FP.dconst0, s_, vI (0 : Int32)]) rfl ?_
    show Steps p.tables e below (s₁.setTop (mkF m 45 #[vR o0, vR o1, vJ z21, s_, vJ z30, s_, vD FP.dconst0, s_, vI (0 : Int32)] [])) _
    refine XS.iload X0.here hx rfl (hb hby d1_45) rfl ?_
    show Steps p.tables e below (s₁.setTop (mkF m 47 #[vR o0, vR o1, vJ z21, s_, vJ z30, s_, vD FP.dconst0, s_, vI (0 : Int32)] [(.int (0 : Int32))])) _
    refine XS.aloadN X0.here hx rfl (hb hby d1_47) rfl rfl ?_
    show Steps p.tables e below (s₁.setTop (mkF m 48 #[vR o0, vR o1, vJ z21, s_, vJ z30, s_, vD FP.dconst0, s_, vI (0 : Int32)] [(.ref o1), (.int (0 : Int32))])) _
    refine X0.arraylength hx (by rw [e0]; exact Ar5.1) (State.isArrayOf_alike hZ.alike Ar5.2.1) (g := (mkF m 48 #[vR o0, vR o1, vJ z21, s_, vJ z30, s_, vD FP.dconst0, s_, vI (0 : Int32)] [(.ref o1), (.int (0 : Int32))])) rfl rfl (hb hby d1_48) _ ?_
    rw [len_of S5 Nn5]
    show Steps p.tables e below (s₁.setTop (mkF m 49 #[vR o0, vR o1, vJ z21, s_, vJ z30, s_, vD FP.dconst0, s_, vI (0 : Int32)] [(.int (1 : Int32)), (.int (0 : Int32))])) _
    refine XS.icmpNo X0.here hx rfl (hb hby d1_49) rfl (Jvm.Free.XT.ii_ge_f (by decide)) ?_
    show Steps p.tables e below (s₁.setTop (mkF m 52 #[vR o0, vR o1, vJ z21, s_, vJ z30, s_, vD FP.dconst0, s_, vI (0 : Int32)] [])) _
    refine XS.dload X0.here hx rfl (hb hby d1_52) rfl ?_
    show Steps p.tables e below (s₁.setTop (mkF m 54 #[vR o0, vR o1, vJ z21, s_, vJ z30, s_, vD FP.dconst0, s_, vI (0 : Int32)] [(.double FP.dconst0)])) _
    refine XS.aloadN X0.here hx rfl (hb hby d1_54) rfl rfl ?_
    show Steps p.tables e below (s₁.setTop (mkF m 55 #[vR o0, vR o1, vJ z21, s_, vJ z30, s_, vD FP.dconst0, s_, vI (0 : Int32)] [(.ref o0), (.double FP.dconst0)])) _
    refine XS.iload X0.here hx rfl (hb hby d1_55) rfl ?_
    show Steps p.tables e below (s₁.setTop (mkF m 57 #[vR o0, vR o1, vJ z21, s_, vJ z30, s_, vD FP.dconst0, s_, vI (0 : Int32)] [(.int (0 : Int32)), (.ref o0), (.double FP.dconst0)])) _
    refine X0.iaload hx (j := (0 : Int32)) (v := (.int yg0)) (by rw [e0]; exact Ar6.1) (State.isArrayOf_alike hZ.alike Ar6.2.1) Ar6.2.2 in6 (Has.at Ha6 in6 rfl) (g := (mkF m 57 #[vR o0, vR o1, vJ z21, s_, vJ z30, s_, vD FP.dconst0, s_, vI (0 : Int32)] [(.int (0 : Int32)), (.ref o0), (.double FP.dconst0)])) rfl rfl (hb hby d1_57) _ ?_
    show Steps p.tables e below (s₁.setTop (mkF m 58 #[vR o0, vR o1, vJ z21, s_, vJ z30, s_, vD FP.dconst0, s_, vI (0 : Int32)] [(.int yg0), (.double FP.dconst0)])) _
    refine XS.lload X0.here hx rfl (hb hby d1_58) rfl ?_
    show Steps p.tables e below (s₁.setTop (mkF m 60 #[vR o0, vR o1, vJ z21, s_, vJ z30, s_, vD FP.dconst0, s_, vI (0 : Int32)] [(.long z30), (.int yg0), (.double FP.dconst0)])) _
    refine XS.l2dS X0.here hx rfl (hb hby d1_60) rfl hz60 ?_
    show Steps p.tables e below (s₁.setTop (mkF m 61 #[vR o0, vR o1, vJ z21, s_, vJ z30, s_, vD FP.dconst0, s_, vI (0 : Int32)] [(.double z60), (.int yg0), (.double FP.dconst0)])) _
    refine XS.aloadN X0.here hx rfl (hb hby d1_61) rfl rfl ?_
    show Steps p.tables e below (s₁.setTop (mkF m 62 #[vR o0, vR o1, vJ z21, s_, vJ z30, s_, vD FP.dconst0, s_, vI (0 : Int32)] [(.ref o1), (.double z60), (.int yg0), (.double FP.dconst0)])) _
    refine XS.iload X0.here hx rfl (hb hby d1_62) rfl ?_
    show Steps p.tables e below (s₁.setTop (mkF m 64 #[vR o0, vR o1, vJ z21, s_, vJ z30, s_, vD FP.dconst0, s_, vI (0 : Int32)] [(.int (0 : Int32)), (.ref o1), (.double z60), (.int yg0), (.double FP.dconst0)])) _
    refine X0.iaload hx (j := (0 : Int32)) (v := (.int yh0)) (by rw [e0]; exact Ar7.1) (State.isArrayOf_alike hZ.alike Ar7.2.1) Ar7.2.2 in7 (Has.at Ha7 in7 rfl) (g := (mkF m 64 #[vR o0, vR o1, vJ z21, s_, vJ z30, s_, vD FP.dconst0, s_, vI (0 : Int32)] [(.int (0 : Int32)), (.ref o1), (.double z60), (.int yg0), (.double FP.dconst0)])) rfl rfl (hb hby d1_64) _ ?_
    show Steps p.tables e below (s₁.setTop (mkF m 65 #[vR o0, vR o1, vJ z21, s_, vJ z30, s_, vD FP.dconst0, s_, vI (0 : Int32)] [(.int yh0), (.double z60), (.int yg0), (.double FP.dconst0)])) _
    refine XS.i2dS X0.here hx rfl (hb hby d1_65) rfl hz65 ?_
    show Steps p.tables e below (s₁.setTop (mkF m 66 #[vR o0, vR o1, vJ z21, s_, vJ z30, s_, vD FP.dconst0, s_, vI (0 : Int32)] [(.double z65), (.double z60), (.int yg0), (.double FP.dconst0)])) _
    refine Jvm.OwnK.dmul X0.here hx rfl (hb hby d1_66) rfl hz66 nn66 ?_
    show Steps p.tables e below (s₁.setTop (mkF m 67 #[vR o0, vR o1, vJ z21, s_, vJ z30, s_, vD FP.dconst0, s_, vI (0 : Int32)] [(.double z66), (.int yg0), (.double FP.dconst0)])) _
    refine XS.lloadN X0.here hx rfl (hb hby d1_67) rfl ?_
    show Steps p.tables e below (s₁.setTop (mkF m 68 #[vR o0, vR o1, vJ z21, s_, vJ z30, s_, vD FP.dconst0, s_, vI (0 : Int32)] [(.long z21), (.double z66), (.int yg0), (.double FP.dconst0)])) _
    refine XS.l2dS X0.here hx rfl (hb hby d1_68) rfl hz68 ?_
    show Steps p.tables e below (s₁.setTop (mkF m 69 #[vR o0, vR o1, vJ z21, s_, vJ z30, s_, vD FP.dconst0, s_, vI (0 : Int32)] [(.double z68), (.double z66), (.int yg0), (.double FP.dconst0)])) _
    refine Jvm.OwnK.ddiv X0.here hx rfl (hb hby d1_69) rfl hz69 nn69 ?_
    show Steps p.tables e below (s₁.setTop (mkF m 70 #[vR o0, vR o1, vJ z21, s_, vJ z30, s_, vD FP.dconst0, s_, vI (0 : Int32)] [(.double z69), (.int yg0), (.double FP.dconst0)])) _
    refine st8 _ ?_
    show Steps p.tables e below (T8.setTop (mkF m 73 #[vR o0, vR o1, vJ z21, s_, vJ z30, s_, vD FP.dconst0, s_, vI (0 : Int32)] [(.double c70_rv), (.double FP.dconst0)])) _
    refine Jvm.OwnK.dadd X8.here hx rfl (hb hby d1_73) rfl hz73 nn73 ?_
    show Steps p.tables e below (T8.setTop (mkF m 74 #[vR o0, vR o1, vJ z21, s_, vJ z30, s_, vD FP.dconst0, s_, vI (0 : Int32)] [(.double z73)])) _
    refine XS.dstore X8.here hx rfl (hb hby d1_74) rfl (l' := #[vR o0, vR o1, vJ z21, s_, vJ z30, s_, vD z73, s_, vI (0 : Int32)]) rfl ?_
    show Steps p.tables e below (T8.setTop (mkF m 76 #[vR o0, vR o1, vJ z21, s_, vJ z30, s_, vD z73, s_, vI (0 : Int32)] [])) _
    refine XS.dload X8.here hx rfl (hb hby d1_76) rfl ?_
    show Steps p.tables e below (T8.setTop (mkF m 78 #[vR o0, vR o1, vJ z21, s_, vJ z30, s_, vD z73, s_, vI (0 : Int32)] [(.double z73)])) _
    refine XS.aloadN X8.here hx rfl (hb hby d1_78) rfl rfl ?_
    show Steps p.tables e below (T8.setTop (mkF m 79 #[vR o0, vR o1, vJ z21, s_, vJ z30, s_, vD z73, s_, vI (0 : Int32)] [(.ref o1), (.double z73)])) _
    refine XS.iload X8.here hx rfl (hb hby d1_79) rfl ?_
    show Steps p.tables e below (T8.setTop (mkF m 81 #[vR o0, vR o1, vJ z21, s_, vJ z30, s_, vD z73, s_, vI (0 : Int32)] [(.int (0 : Int32)), (.ref o1), (.double z73)])) _
    refine X8.iaload hx (j := (0 : Int32)) (v := (.int yh0)) (by rw [e8]; exact Ar9.1) (State.isArrayOf_alike hZ.alike Ar9.2.1) Ar9.2.2 in9 (Has.at Ha9 in9 rfl) (g := (mkF m 81 #[vR o0, vR o1, vJ z21, s_, vJ z30, s_, vD z73, s_, vI (0 : Int32)] [(.int (0 : Int32)), (.ref o1), (.double z73)])) rfl rfl (hb hby d1_81) _ ?_
    show Steps p.tables e below (T8.setTop (mkF m 82 #[vR o0, vR o1, vJ z21, s_, vJ z30, s_, vD z73, s_, vI (0 : Int32)] [(.int yh0), (.double z73)])) _
    refine XS.aloadN X8.here hx rfl (hb hby d1_82) rfl rfl ?_
    show Steps p.tables e below (T8.setTop (mkF m 83 #[vR o0, vR o1, vJ z21, s_, vJ z30, s_, vD z73, s_, vI (0 : Int32)] [(.ref o0), (.int yh0), (.double z73)])) _
    refine XS.iload X8.here hx rfl (hb hby d1_83) rfl ?_
    show Steps p.tables e below (T8.setTop (mkF m 85 #[vR o0, vR o1, vJ z21, s_, vJ z30, s_, vD z73, s_, vI (0 : Int32)] [(.int (0 : Int32)), (.ref o0), (.int yh0), (.double z73)])) _
    refine X8.iaload hx (j := (0 : Int32)) (v := (.int yg0)) (by rw [e8]; exact Ar10.1) (State.isArrayOf_alike hZ.alike Ar10.2.1) Ar10.2.2 in10 (Has.at Ha10 in10 rfl) (g := (mkF m 85 #[vR o0, vR o1, vJ z21, s_, vJ z30, s_, vD z73, s_, vI (0 : Int32)] [(.int (0 : Int32)), (.ref o0), (.int yh0), (.double z73)])) rfl rfl (hb hby d1_85) _ ?_
    show Steps p.tables e below (T8.setTop (mkF m 86 #[vR o0, vR o1, vJ z21, s_, vJ z30, s_, vD z73, s_, vI (0 : Int32)] [(.int yg0), (.int yh0), (.double z73)])) _
    refine Jvm.OwnK.isub X8.here hx rfl (hb hby d1_86) rfl hz86 ?_
    show Steps p.tables e below (T8.setTop (mkF m 87 #[vR o0, vR o1, vJ z21, s_, vJ z30, s_, vD z73, s_, vI (0 : Int32)] [(.int z86), (.double z73)])) _
    refine XS.lloadN X8.here hx rfl (hb hby d1_87) rfl ?_
    show Steps p.tables e below (T8.setTop (mkF m 88 #[vR o0, vR o1, vJ z21, s_, vJ z30, s_, vD z73, s_, vI (0 : Int32)] [(.long z21), (.int z86), (.double z73)])) _
    refine XS.lload X8.here hx rfl (hb hby d1_88) rfl ?_
    show Steps p.tables e below (T8.setTop (mkF m 90 #[vR o0, vR o1, vJ z21, s_, vJ z30, s_, vD z73, s_, vI (0 : Int32)] [(.long z30), (.long z21), (.int z86), (.double z73)])) _
    refine Jvm.OwnK.lsub X8.here hx rfl (hb hby d1_90) rfl hz90 ?_
    show Steps p.tables e below (T8.setTop (mkF m 91 #[vR o0, vR o1, vJ z21, s_, vJ z30, s_, vD z73, s_, vI (0 : Int32)] [(.long z90), (.int z86), (.double z73)])) _
    refine XS.l2dS X8.here hx rfl (hb hby d1_91) rfl hz91 ?_
    show Steps p.tables e below (T8.setTop (mkF m 92 #[vR o0, vR o1, vJ z21, s_, vJ z30, s_, vD z73, s_, vI (0 : Int32)] [(.double z91), (.int z86), (.double z73)])) _
    refine XS.aloadN X8.here hx rfl (hb hby d1_92) rfl rfl ?_
    show Steps p.tables e below (T8.setTop (mkF m 93 #[vR o0, vR o1, vJ z21, s_, vJ z30, s_, vD z73, s_, vI (0 : Int32)] [(.ref o1), (.double z91), (.int z86), (.double z73)])) _
    refine XS.iload X8.here hx rfl (hb hby d1_93) rfl ?_
    show Steps p.tables e below (T8.setTop (mkF m 95 #[vR o0, vR o1, vJ z21, s_, vJ z30, s_, vD z73, s_, vI (0 : Int32)] [(.int (0 : Int32)), (.ref o1), (.double z91), (.int z86), (.double z73)])) _
    refine X8.iaload hx (j := (0 : Int32)) (v := (.int yh0)) (by rw [e8]; exact Ar11.1) (State.isArrayOf_alike hZ.alike Ar11.2.1) Ar11.2.2 in11 (Has.at Ha11 in11 rfl) (g := (mkF m 95 #[vR o0, vR o1, vJ z21, s_, vJ z30, s_, vD z73, s_, vI (0 : Int32)] [(.int (0 : Int32)), (.ref o1), (.double z91), (.int z86), (.double z73)])) rfl rfl (hb hby d1_95) _ ?_
    show Steps p.tables e below (T8.setTop (mkF m 96 #[vR o0, vR o1, vJ z21, s_, vJ z30, s_, vD z73, s_, vI (0 : Int32)] [(.int yh0), (.double z91), (.int z86), (.double z73)])) _
    refine XS.i2dS X8.here hx rfl (hb hby d1_96) rfl hz96 ?_
    show Steps p.tables e below (T8.setTop (mkF m 97 #[vR o0, vR o1, vJ z21, s_, vJ z30, s_, vD z73, s_, vI (0 : Int32)] [(.double z96), (.double z91), (.int z86), (.double z73)])) _
    refine Jvm.OwnK.dmul X8.here hx rfl (hb hby d1_97) rfl hz97 nn97 ?_
    show Steps p.tables e below (T8.setTop (mkF m 98 #[vR o0, vR o1, vJ z21, s_, vJ z30, s_, vD z73, s_, vI (0 : Int32)] [(.double z97), (.int z86), (.double z73)])) _
    refine XS.lloadN X8.here hx rfl (hb hby d1_98) rfl ?_
    show Steps p.tables e below (T8.setTop (mkF m 99 #[vR o0, vR o1, vJ z21, s_, vJ z30, s_, vD z73, s_, vI (0 : Int32)] [(.long z21), (.double z97), (.int z86), (.double z73)])) _
    refine XS.l2dS X8.here hx rfl (hb hby d1_99) rfl hz99 ?_
    show Steps p.tables e below (T8.setTop (mkF m 100 #[vR o0, vR o1, vJ z21, s_, vJ z30, s_, vD z73, s_, vI (0 : Int32)] [(.double z99), (.double z97), (.int z86), (.double z73)])) _
    refine Jvm.OwnK.ddiv X8.here hx rfl (hb hby d1_100) rfl hz100 nn100 ?_
    show Steps p.tables e below (T8.setTop (mkF m 101 #[vR o0, vR o1, vJ z21, s_, vJ z30, s_, vD z73, s_, vI (0 : Int32)] [(.double z100), (.int z86), (.double z73)])) _
    refine st12 _ ?_
    show Steps p.tables e below (T12.setTop (mkF m 104 #[vR o0, vR o1, vJ z21, s_, vJ z30, s_, vD z73, s_, vI (0 : Int32)] [(.double c101_rv), (.double z73)])) _
    refine Jvm.OwnK.dadd X12.here hx rfl (hb hby d1_104) rfl hz104 nn104 ?_
    show Steps p.tables e below (T12.setTop (mkF m 105 #[vR o0, vR o1, vJ z21, s_, vJ z30, s_, vD z73, s_, vI (0 : Int32)] [(.double z104)])) _
    refine XS.dstore X12.here hx rfl (hb hby d1_105) rfl (l' := #[vR o0, vR o1, vJ z21, s_, vJ z30, s_, vD z104, s_, vI (0 : Int32)]) rfl ?_
    show Steps p.tables e below (T12.setTop (mkF m 107 #[vR o0, vR o1, vJ z21, s_, vJ z30, s_, vD z104, s_, vI (0 : Int32)] [])) _
    refine Jvm.OwnK.iinc X12.here hx rfl (hb hby d1_107) rfl (l' := #[vR o0, vR o1, vJ z21, s_, vJ z30, s_, vD z104, s_, vI (1 : Int32)]) (v := (1 : Int32)) (by decide) rfl ?_
    show Steps p.tables e below (T12.setTop (mkF m 110 #[vR o0, vR o1, vJ z21, s_, vJ z30, s_, vD z104, s_, vI (1 : Int32)] [])) _
    refine XS.goto X12.here hx rfl (pc0 := 110) (pc' := 45) rfl (hb hby d1_110) (by decide) (by decide) ?_
    show Steps p.tables e below (T12.setTop (mkF m 45 #[vR o0, vR o1, vJ z21, s_, vJ z30, s_, vD z104, s_, vI (1 : Int32)] [])) _
    refine XS.iload X12.here hx rfl (hb hby d1_45) rfl ?_
    show Steps p.tables e below (T12.setTop (mkF m 47 #[vR o0, vR o1, vJ z21, s_, vJ z30, s_, vD z104, s_, vI (1 : Int32)] [(.int (1 : Int32))])) _
    refine XS.aloadN X12.here hx rfl (hb hby d1_47) rfl rfl ?_
    show Steps p.tables e below (T12.setTop (mkF m 48 #[vR o0, vR o1, vJ z21, s_, vJ z30, s_, vD z104, s_, vI (1 : Int32)] [(.ref o1), (.int (1 : Int32))])) _
    refine X12.arraylength hx (by rw [e12]; exact Ar13.1) (State.isArrayOf_alike hZ.alike Ar13.2.1) (g := (mkF m 48 #[vR o0, vR o1, vJ z21, s_, vJ z30, s_, vD z104, s_, vI (1 : Int32)] [(.ref o1), (.int (1 : Int32))])) rfl rfl (hb hby d1_48) _ ?_
    rw [len_of S13 Nn13]
    show Steps p.tables e below (T12.setTop (mkF m 49 #[vR o0, vR o1, vJ z21, s_, vJ z30, s_, vD z104, s_, vI (1 : Int32)] [(.int (1 : Int32)), (.int (1 : Int32))])) _
    refine XS.icmpYes X12.here hx rfl (pc0 := 49) (pc' := 113) rfl (hb hby d1_49) rfl (Jvm.Free.XT.ii_ge_t (by decide)) (by decide) (by decide) ?_
    show Steps p.tables e below (T12.setTop (mkF m 113 #[vR o0, vR o1, vJ z21, s_, vJ z30, s_, vD z104, s_, vI (1 : Int32)] [])) _
    refine XS.dload X12.here hx rfl (hb hby d1_113) rfl ?_
    exact k
  obtain ⟨fs, hr, hrun, hended, hW, hsame⟩ := X12.leave (v := some (.double z104)) (fun h => by rw [Bd.returns] at h; cases h)
  refine ⟨_, _, c14 _ ?_, hrun, hended, _, _, rfl, ?_, ⟨_, rfl⟩, hW, hsame.mono (by decide) (by decide)⟩
  · show Steps p.tables e below (T12.setTop (mkF m 115 #[vR o0, vR o1, vJ z21, s_, vJ z30, s_, vD z104, s_, vI (1 : Int32)] [(.double z104)])) _
    exact retOut X12 hx Bd.returns rfl (Or.inr (Or.inr (Or.inl ⟨rfl, rfl, _, rfl⟩))) (hb hby d1_115) hr
  · show Q1_1 Z o0 o1 k_o0 yg0 k_o1 yh0 z20 z21 z29 z30 z60 z65 z66 z68 z69 c70_z1 c70_z3 c70_z7 c70_z17 c70_z19 c70_rv z73 z86 z90 z91 z96 z97 z99 z100 c101_z1 c101_z3 c101_z7 c101_z17 c101_z19 c101_rv z104 h0 n0 _ T12.heap _
    rw [e12]
    exact ⟨rfl, N12, rfl⟩
def Q1_2 (Z : State) (o0 : Addr) (o1 : Addr) (k_o0 : ClassId) (yg0 : Int32) (yg1 : Int32) (k_o1 : ClassId) (yh0 : Int32) (yh1 : Int32) (z20 : Int64) (z21 : Int64) (z29 : Int64) (z30 : Int64) (z20_2 : Int64) (z21_2 : Int64) (z29_2 : Int64) (z30_2 : Int64) (z60 : UInt64) (z65 : UInt64) (z66 : UInt64) (z68 : UInt64) (z69 : UInt64) (c70_z1 : UInt64) (c70_z3 : UInt64) (c70_z7 : Int32) (c70_z17 : UInt64) (c70_z19 : UInt64) (c70_rv : UInt64) (z73 : UInt64) (z86 : Int32) (z90 : Int64) (z91 : UInt64) (z96 : UInt64) (z97 : UInt64) (z99 : UInt64) (z100 : UInt64) (c101_z1 : UInt64) (c101_z3 : UInt64) (c101_z7 : Int32) (c101_z17 : UInt64) (c101_z19 : UInt64) (c101_rv : UInt64) (z104 : UInt64) (z60_2 : UInt64) (z65_2 : UInt64) (z66_2 : UInt64) (z68_2 : UInt64) (z69_2 : UInt64) (c70_2_z1 : UInt64) (c70_2_z3 : UInt64) (c70_2_z7 : Int32) (c70_2_z17 : UInt64) (c70_2_z19 : UInt64) (c70_2_rv : UInt64) (z73_2 : UInt64) (z86_2 : Int32) (z90_2 : Int64) (z91_2 : UInt64) (z96_2 : UInt64) (z97_2 : UInt64) (z99_2 : UInt64) (z100_2 : UInt64) (c101_2_z1 : UInt64) (c101_2_z3 : UInt64) (c101_2_z7 : Int32) (c101_2_z17 : UInt64) (c101_2_z19 : UInt64) (c101_2_rv : UInt64) (z104_2 : UInt64) (h0 : Heap) (n0 : Nat) (v : Option Value) (h : Heap) (L : List Loc) : Prop := v = some (.double z104_2) ∧ Fr n0 L ∧ h = h0
set_option maxRecDepth 65536 in
set_option maxHeartbeats 40000000 in
theorem rm1_2 (l : Launch) (Z : State) (a0 : Array Value) (hw : ∀ d ∈ tables_1, d.before a0 Z = true) (ws : List Jvm.Cond) (o0 : Addr) (o1 : Addr) (k_o0 : ClassId) (yg0 : Int32) (yg1 : Int32) (k_o1 : ClassId) (yh0 : Int32) (yh1 : Int32) (z20 : Int64) (z21 : Int64) (z29 : Int64) (z30 : Int64) (z20_2 : Int64) (z21_2 : Int64) (z29_2 : Int64) (z30_2 : Int64) (z60 : UInt64) (z65 : UInt64) (z66 : UInt64) (z68 : UInt64) (z69 : UInt64) (c70_z1 : UInt64) (c70_z3 : UInt64) (c70_z7 : Int32) (c70_z17 : UInt64) (c70_z19 : UInt64) (c70_rv : UInt64) (z73 : UInt64) (z86 : Int32) (z90 : Int64) (z91 : UInt64) (z96 : UInt64) (z97 : UInt64) (z99 : UInt64) (z100 : UInt64) (c101_z1 : UInt64) (c101_z3 : UInt64) (c101_z7 : Int32) (c101_z17 : UInt64) (c101_z19 : UInt64) (c101_rv : UInt64) (z104 : UInt64) (z60_2 : UInt64) (z65_2 : UInt64) (z66_2 : UInt64) (z68_2 : UInt64) (z69_2 : UInt64) (c70_2_z1 : UInt64) (c70_2_z3 : UInt64) (c70_2_z7 : Int32) (c70_2_z17 : UInt64) (c70_2_z19 : UInt64) (c70_2_rv : UInt64) (z73_2 : UInt64) (z86_2 : Int32) (z90_2 : Int64) (z91_2 : UInt64) (z96_2 : UInt64) (z97_2 : UInt64) (z99_2 : UInt64) (z100_2 : UInt64) (c101_2_z1 : UInt64) (c101_2_z3 : UInt64) (c101_2_z7 : Int32) (c101_2_z17 : UInt64) (c101_2_z19 : UInt64) (c101_2_rv : UInt64) (z104_2 : UInt64) (h0 : Heap) (n0 : Nat) (Z0 : n0 ≤ h0.size) (V_o0 : Arv Z h0 o0 k_o0 .int (2 : Int32) [(.int yg0), (.int yg1)] (.int (0 : Int32))) (V_o1 : Arv Z h0 o1 k_o1 .int (2 : Int32) [(.int yh0), (.int yh1)] (.int (0 : Int32))) (hz20 : yh0.toInt64 = z20) (hz21 : (0 : Int64) + z20 = z21) (hz29 : yg0.toInt64 = z29) (hz30 : (0 : Int64) + z29 = z30) (hz20_2 : yh1.toInt64 = z20_2) (hz21_2 : z21 + z20_2 = z21_2) (hz29_2 : yg1.toInt64 = z29_2) (hz30_2 : z30 + z29_2 = z30_2) (hz60 : FP.l2d z30_2 = z60) (hz65 : FP.i2d yh0 = z65) (hz66 : FP.dmul z60 z65 = z66) (hz68 : FP.l2d z21_2 = z68) (hz69 : FP.ddiv z66 z68 = z69) (hc70_z1 : FP.i2d yg0 = c70_z1) (hc70_z3 : FP.dsub c70_z1 z69 = c70_z3) (hc70_z7 : cmpValue (FP.dcmp z69 FP.dconst0) .l = c70_z7) (hc70_z17 : FP.dmul c70_z3 c70_z3 = c70_z17) (hc70_z19 : FP.ddiv c70_z17 z69 = c70_z19) (hc70_rv : (if c70_z7 = (0 : Int32) then FP.dconst0 else c70_z19) = c70_rv) (hz73 : FP.dadd FP.dconst0 c70_rv = z73) (hz86 : yh0 - yg0 = z86) (hz90 : z21_2 - z30_2 = z90) (hz91 : FP.l2d z90 = z91) (hz96 : FP.i2d yh0 = z96) (hz97 : FP.dmul z91 z96 = z97) (hz99 : FP.l2d z21_2 = z99) (hz100 : FP.ddiv z97 z99 = z100) (hc101_z1 : FP.i2d z86 = c101_z1) (hc101_z3 : FP.dsub c101_z1 z100 = c101_z3) (hc101_z7 : cmpValue (FP.dcmp z100 FP.dconst0) .l = c101_z7) (hc101_z17 : FP.dmul c101_z3 c101_z3 = c101_z17) (hc101_z19 : FP.ddiv c101_z17 z100 = c101_z19) (hc101_rv : (if c101_z7 = (0 : Int32) then FP.dconst0 else c101_z19) = c101_rv) (hz104 : FP.dadd z73 c101_rv = z104) (hz60_2 : FP.l2d z30_2 = z60_2) (hz65_2 : FP.i2d yh1 = z65_2) (hz66_2 : FP.dmul z60_2 z65_2 = z66_2) (hz68_2 : FP.l2d z21_2 = z68_2) (hz69_2 : FP.ddiv z66_2 z68_2 = z69_2) (hc70_2_z1 : FP.i2d yg1 = c70_2_z1) (hc70_2_z3 : FP.dsub c70_2_z1 z69_2 = c70_2_z3) (hc70_2_z7 : cmpValue (FP.dcmp z69_2 FP.dconst0) .l = c70_2_z7) (hc70_2_z17 : FP.dmul c70_2_z3 c70_2_z3 = c70_2_z17) (hc70_2_z19 : FP.ddiv c70_2_z17 z69_2 = c70_2_z19) (hc70_2_rv : (if c70_2_z7 = (0 : Int32) then FP.dconst0 else c70_2_z19) = c70_2_rv) (hz73_2 : FP.dadd z104 c70_2_rv = z73_2) (hz86_2 : yh1 - yg1 = z86_2) (hz90_2 : z21_2 - z30_2 = z90_2) (hz91_2 : FP.l2d z90_2 = z91_2) (hz96_2 : FP.i2d yh1 = z96_2) (hz97_2 : FP.dmul z91_2 z96_2 = z97_2) (hz99_2 : FP.l2d z21_2 = z99_2) (hz100_2 : FP.ddiv z97_2 z99_2 = z100_2) (hc101_2_z1 : FP.i2d z86_2 = c101_2_z1) (hc101_2_z3 : FP.dsub c101_2_z1 z100_2 = c101_2_z3) (hc101_2_z7 : cmpValue (FP.dcmp z100_2 FP.dconst0) .l = c101_2_z7) (hc101_2_z17 : FP.dmul c101_2_z3 c101_2_z3 = c101_2_z17) (hc101_2_z19 : FP.ddiv c101_2_z17 z100_2 = c101_2_z19) (hc101_2_rv : (if c101_2_z7 = (0 : Int32) then FP.dconst0 else c101_2_z19) = c101_2_rv) (hz104_2 : FP.dadd z73_2 c101_2_rv = z104_2) (nn66 : Jvm.Free.Fl.NoNaN64 z66) (nn69 : Jvm.Free.Fl.NoNaN64 z69) (c70_nn3 : Jvm.Free.Fl.NoNaN64 c70_z3) (c70_nn17 : (¬ c70_z7 = (0 : Int32)) → Jvm.Free.Fl.NoNaN64 c70_z17) (c70_nn19 : (¬ c70_z7 = (0 : Int32)) → Jvm.Free.Fl.NoNaN64 c70_z19) (nn73 : Jvm.Free.Fl.NoNaN64 z73) (nn97 : Jvm.Free.Fl.NoNaN64 z97) (nn100 : Jvm.Free.Fl.NoNaN64 z100) (c101_nn3 : Jvm.Free.Fl.NoNaN64 c101_z3) (c101_nn17 : (¬ c101_z7 = (0 : Int32)) → Jvm.Free.Fl.NoNaN64 c101_z17) (c101_nn19 : (¬ c101_z7 = (0 : Int32)) → Jvm.Free.Fl.NoNaN64 c101_z19) (nn104 : Jvm.Free.Fl.NoNaN64 z104) (nn66_2 : Jvm.Free.Fl.NoNaN64 z66_2) (nn69_2 : Jvm.Free.Fl.NoNaN64 z69_2) (c70_2_nn3 : Jvm.Free.Fl.NoNaN64 c70_2_z3) (c70_2_nn17 : (¬ c70_2_z7 = (0 : Int32)) → Jvm.Free.Fl.NoNaN64 c70_2_z17) (c70_2_nn19 : (¬ c70_2_z7 = (0 : Int32)) → Jvm.Free.Fl.NoNaN64 c70_2_z19) (nn73_2 : Jvm.Free.Fl.NoNaN64 z73_2) (nn97_2 : Jvm.Free.Fl.NoNaN64 z97_2) (nn100_2 : Jvm.Free.Fl.NoNaN64 z100_2) (c101_2_nn3 : Jvm.Free.Fl.NoNaN64 c101_2_z3) (c101_2_nn17 : (¬ c101_2_z7 = (0 : Int32)) → Jvm.Free.Fl.NoNaN64 c101_2_z17) (c101_2_nn19 : (¬ c101_2_z7 = (0 : Int32)) → Jvm.Free.Fl.NoNaN64 c101_2_z19) (nn104_2 : Jvm.Free.Fl.NoNaN64 z104_2) :
    MetFree l (⟨"com/example/tidy_ranker/tidyranker/classification/ChiSquare", "score", "([I[I)D"⟩ : MethodName) (head1 (Jvm.Cond.code (⟨"com/example/tidy_ranker/tidyranker/classification/ChiSquare", "score", "([I[I)D"⟩ : MethodName) prog_19_method_2_code 9 (some .double) :: ws) ({ frames := 1, cells := 0, slots := 0, locals := 18 } : Room)) (fun a U => a = #[(.ref o0), (.ref o1)] ∧ Z.Warmed39 U.vm ∧ U.heap = h0) (fun _ _ _ _ _ => True) (fun _ U o U' => ∃ v L, o = .returned v ∧ Q1_2 Z o0 o1 k_o0 yg0 yg1 k_o1 yh0 yh1 z20 z21 z29 z30 z20_2 z21_2 z29_2 z30_2 z60 z65 z66 z68 z69 c70_z1 c70_z3 c70_z7 c70_z17 c70_z19 c70_rv z73 z86 z90 z91 z96 z97 z99 z100 c101_z1 c101_z3 c101_z7 c101_z17 c101_z19 c101_rv z104 z60_2 z65_2 z66_2 z68_2 z69_2 c70_2_z1 c70_2_z3 c70_2_z7 c70_2_z17 c70_2_z19 c70_2_rv z73_2 z86_2 z90_2 z91_2 z96_2 z97_2 z99_2 z100_2 c101_2_z1 c101_2_z3 c101_2_z7 c101_2_z17 c101_2_z19 c101_2_rv z104_2 h0 n0 v U'.heap L ∧ FrameEnd U o U' L ({ frames := 1, cells := 0, slots := 0, locals := 18 } : Room).cells ({ frames := 1, cells := 0, slots := 0, locals := 18 } : Room).slots) := by
  refine MetFree.of_bodySF (plainFor_of_name pn_0) hisR ?_
  intro p e s m args below meth c s₁ Bd hml0 hP hK
  obtain ⟨rfl, hZ, hh⟩ := hP
  have hx := Bd.exec
  have hby := Bd.bytes
  have hml : c.maxLocals = 9 := hml0
  have hown : s.vm.findClass "com/example/tidy_ranker/tidyranker/classification/ChiSquare" = some m.cls := findClass_of_methodNamed Bd.named
  have hnm := (name_of_methodNamed Bd.named Bd.method).1
  have X0 : Stand p l e ({ frames := 1, cells := 0, slots := 0, locals := 18 } : Room) s m #[(.ref o0), (.ref o1)] below meth c s₁ [] 0 0 := Stand.of_body Bd
  have e0 : s₁.heap = h0 := by rw [← hh, Bd.state]; rfl
  have N0 := Fr.nil n0
  have c0 : ∀ t, Steps p.tables e below (s₁.setTop (mkF m 0 #[vR o0, vR o1, u_, u_, u_, u_, u_, u_, u_] [])) t → Steps p.tables e below (s₁.setTop (entryFrame m #[(.ref o0), (.ref o1)] 9)) t := fun t k => castTop (ef_rm1_2 m o0 o1) k
  obtain ⟨cl1, Ar1, -, S1, Nn1, -, -⟩ := id V_o1
  obtain ⟨cl2, Ar2, -, S2, -, Ha2, -⟩ := id V_o1
  have in2 : ¬ ((0 : Int32) < 0 ∨ cl2.slots.size ≤ ((0 : Int32)).toNatClampNeg) := inb_of S2 ⟨by decide, by decide⟩
  obtain ⟨cl3, Ar3, -, S3, -, Ha3, -⟩ := id V_o0
  have in3 : ¬ ((0 : Int32) < 0 ∨ cl3.slots.size ≤ ((0 : Int32)).toNatClampNeg) := inb_of S3 ⟨by decide, by decide⟩
  obtain ⟨cl4, Ar4, -, S4, Nn4, -, -⟩ := id V_o1
  obtain ⟨cl5, Ar5, -, S5, -, Ha5, -⟩ := id V_o1
  have in5 : ¬ ((1 : Int32) < 0 ∨ cl5.slots.size ≤ ((1 : Int32)).toNatClampNeg) := inb_of S5 ⟨by decide, by decide⟩
  obtain ⟨cl6, Ar6, -, S6, -, Ha6, -⟩ := id V_o0
  have in6 : ¬ ((1 : Int32) < 0 ∨ cl6.slots.size ≤ ((1 : Int32)).toNatClampNeg) := inb_of S6 ⟨by decide, by decide⟩
  obtain ⟨cl7, Ar7, -, S7, Nn7, -, -⟩ := id V_o1
  obtain ⟨cl8, Ar8, -, S8, Nn8, -, -⟩ := id V_o1
  obtain ⟨cl9, Ar9, -, S9, -, Ha9, -⟩ := id V_o0
  have in9 : ¬ ((0 : Int32) < 0 ∨ cl9.slots.size ≤ ((0 : Int32)).toNatClampNeg) := inb_of S9 ⟨by decide, by decide⟩
  obtain ⟨cl10, Ar10, -, S10, -, Ha10, -⟩ := id V_o1
  have in10 : ¬ ((0 : Int32) < 0 ∨ cl10.slots.size ≤ ((0 : Int32)).toNatClampNeg) := inb_of S10 ⟨by decide, by decide⟩
  obtain ⟨_, _, ⟨T11, L11, k11, n11⟩, -, X11, ⟨Lc11, hQ11, ql11, qy11, qz11⟩, st11⟩ := Jvm.LawKit.callS X0 hx (y := (⟨"com/example/tidy_ranker/tidyranker/classification/ChiSquare", "cell", "(ID)D"⟩ : MethodName)) hown (mvT hZ (hw _ (List.mem_of_getElem? (i := 6) rfl))) (mvT hZ (hw _ (List.mem_of_getElem? (i := 7) rfl))) (mvT hZ (hw _ (List.mem_of_getElem? (i := 4) rfl))) (mvT hZ (hw _ (List.mem_of_getElem? (i := 8) rfl))) (by decide) (backOf (W := 2) (rm2 l Z a0 hw [] yg0 z69 c70_z1 c70_z3 c70_z7 c70_z17 c70_z19 c70_rv h0 n0 Z0 hc70_z1 hc70_z3 hc70_z7 hc70_z17 hc70_z19 hc70_rv c70_nn3 c70_nn17 c70_nn19) hZ (hw _ (List.mem_of_getElem? (i := 8) rfl)) (hw _ (List.mem_of_getElem? (i := 4) rfl)) (by decide) (by decide)) (g := (mkF m 70 #[vR o0, vR o1, vJ z21_2, s_, vJ z30_2, s_, vD FP.dconst0, s_, vI (0 : Int32)] [(.double z69), (.int yg0), (.double FP.dconst0)])) rfl (by rw [hml]; rfl) (argsL := [(.int yg0), (.double z69)]) (rest := [(.double FP.dconst0)]) (lenOf pd_0 rfl) rfl (by show 2 * 0 + _ ≤ _; exact Nat.le_of_eq rfl) (hb hby d1_70) (fun _ _ => ⟨rfl, e0, (by decide : 0 + 0 ≤ _), (by decide : 0 + 0 ≤ _)⟩)
  dsimp only [Pt.U, Pt.locs, Pt.cells, Pt.slots] at X11 ql11 qy11 qz11 st11 hQ11
  subst ql11 qy11 qz11
  obtain ⟨rfl, N11q, e11⟩ := hQ11
  have N11 := Fr.app N0 N11q
  obtain ⟨cl12, Ar12, -, S12, -, Ha12, -⟩ := id V_o1
  have in12 : ¬ ((0 : Int32) < 0 ∨ cl12.slots.size ≤ ((0 : Int32)).toNatClampNeg) := inb_of S12 ⟨by decide, by decide⟩
  obtain ⟨cl13, Ar13, -, S13, -, Ha13, -⟩ := id V_o0
  have in13 : ¬ ((0 : Int32) < 0 ∨ cl13.slots.size ≤ ((0 : Int32)).toNatClampNeg) := inb_of S13 ⟨by decide, by decide⟩
  obtain ⟨cl14, Ar14, -, S14, -, Ha14, -⟩ := id V_o1
  have in14 : ¬ ((0 : Int32) < 0 ∨ cl14.slots.size ≤ ((0 : Int32)).toNatClampNeg) := inb_of S14 ⟨by decide, by decide⟩
  obtain ⟨_, _, ⟨T15, L15, k15, n15⟩, -, X15, ⟨Lc15, hQ15, ql15, qy15, qz15⟩, st15⟩ := Jvm.LawKit.callS X11 hx (y := (⟨"com/example/tidy_ranker/tidyranker/classification/ChiSquare", "cell", "(ID)D"⟩ : MethodName)) hown (mvT hZ (hw _ (List.mem_of_getElem? (i := 6) rfl))) (mvT hZ (hw _ (List.mem_of_getElem? (i := 7) rfl))) (mvT hZ (hw _ (List.mem_of_getElem? (i := 4) rfl))) (mvT hZ (hw _ (List.mem_of_getElem? (i := 8) rfl))) (by decide) (backOf (W := 2) (rm2 l Z a0 hw [] z86 z100 c101_z1 c101_z3 c101_z7 c101_z17 c101_z19 c101_rv h0 n0 Z0 hc101_z1 hc101_z3 hc101_z7 hc101_z17 hc101_z19 hc101_rv c101_nn3 c101_nn17 c101_nn19) hZ (hw _ (List.mem_of_getElem? (i := 8) rfl)) (hw _ (List.mem_of_getElem? (i := 4) rfl)) (by decide) (by decide)) (g := (mkF m 101 #[vR o0, vR o1, vJ z21_2, s_, vJ z30_2, s_, vD z73, s_, vI (0 : Int32)] [(.double z100), (.int z86), (.double z73)])) rfl (by rw [hml]; rfl) (argsL := [(.int z86), (.double z100)]) (rest := [(.double z73)]) (lenOf pd_0 rfl) rfl (by show 2 * 0 + _ ≤ _; exact Nat.le_of_eq rfl) (hb hby d1_101) (fun _ _ => ⟨rfl, e11, (by decide : 0 + 0 ≤ _), (by decide : 0 + 0 ≤ _)⟩)
  dsimp only [Pt.U, Pt.locs, Pt.cells, Pt.slots] at X15 ql15 qy15 qz15 st15 hQ15
  subst ql15 qy15 qz15
  obtain ⟨rfl, N15q, e15⟩ := hQ15
  have N15 := Fr.app N11 N15q
  obtain ⟨cl16, Ar16, -, S16, Nn16, -, -⟩ := id V_o1
  obtain ⟨cl17, Ar17, -, S17, -, Ha17, -⟩ := id V_o0
  have in17 : ¬ ((1 : Int32) < 0 ∨ cl17.slots.size ≤ ((1 : Int32)).toNatClampNeg) := inb_of S17 ⟨by decide, by decide⟩
  obtain ⟨cl18, Ar18, -, S18, -, Ha18, -⟩ := id V_o1
  have in18 : ¬ ((1 : Int32) < 0 ∨ cl18.slots.size ≤ ((1 : Int32)).toNatClampNeg) := inb_of S18 ⟨by decide, by decide⟩
  obtain ⟨_, _, ⟨T19, L19, k19, n19⟩, -, X19, ⟨Lc19, hQ19, ql19, qy19, qz19⟩, st19⟩ := Jvm.LawKit.callS X15 hx (y := (⟨"com/example/tidy_ranker/tidyranker/classification/ChiSquare", "cell", "(ID)D"⟩ : MethodName)) hown (mvT hZ (hw _ (List.mem_of_getElem? (i := 6) rfl))) (mvT hZ (hw _ (List.mem_of_getElem? (i := 7) rfl))) (mvT hZ (hw _ (List.mem_of_getElem? (i := 4) rfl))) (mvT hZ (hw _ (List.mem_of_getElem? (i := 8) rfl))) (by decide) (backOf (W := 2) (rm2 l Z a0 hw [] yg1 z69_2 c70_2_z1 c70_2_z3 c70_2_z7 c70_2_z17 c70_2_z19 c70_2_rv h0 n0 Z0 hc70_2_z1 hc70_2_z3 hc70_2_z7 hc70_2_z17 hc70_2_z19 hc70_2_rv c70_2_nn3 c70_2_nn17 c70_2_nn19) hZ (hw _ (List.mem_of_getElem? (i := 8) rfl)) (hw _ (List.mem_of_getElem? (i := 4) rfl)) (by decide) (by decide)) (g := (mkF m 70 #[vR o0, vR o1, vJ z21_2, s_, vJ z30_2, s_, vD z104, s_, vI (1 : Int32)] [(.double z69_2), (.int yg1), (.double z104)])) rfl (by rw [hml]; rfl) (argsL := [(.int yg1), (.double z69_2)]) (rest := [(.double z104)]) (lenOf pd_0 rfl) rfl (by show 2 * 0 + _ ≤ _; exact Nat.le_of_eq rfl) (hb hby d1_70) (fun _ _ => ⟨rfl, e15, (by decide : 0 + 0 ≤ _), (by decide : 0 + 0 ≤ _)⟩)
  dsimp only [Pt.U, Pt.locs, Pt.cells, Pt.slots] at X19 ql19 qy19 qz19 st19 hQ19
  subst ql19 qy19 qz19
  obtain ⟨rfl, N19q, e19⟩ := hQ19
  have N19 := Fr.app N15 N19q
  obtain ⟨cl20, Ar20, -, S20, -, Ha20, -⟩ := id V_o1
  have in20 : ¬ ((1 : Int32) < 0 ∨ cl20.slots.size ≤ ((1 : Int32)).toNatClampNeg) := inb_of S20 ⟨by decide, by decide⟩
  obtain ⟨cl21, Ar21, -, S21, -, Ha21, -⟩ := id V_o0
  have in21 : ¬ ((1 : Int32) < 0 ∨ cl21.slots.size ≤ ((1 : Int32)).toNatClampNeg) := inb_of S21 ⟨by decide, by decide⟩
  obtain ⟨cl22, Ar22, -, S22, -, Ha22, -⟩ := id V_o1
  have in22 : ¬ ((1 : Int32) < 0 ∨ cl22.slots.size ≤ ((1 : Int32)).toNatClampNeg) := inb_of S22 ⟨by decide, by decide⟩
  obtain ⟨_, _, ⟨T23, L23, k23, n23⟩, -, X23, ⟨Lc23, hQ23, ql23, qy23, qz23⟩, st23⟩ := Jvm.LawKit.callS X19 hx (y := (⟨"com/example/tidy_ranker/tidyranker/classification/ChiSquare", "cell", "(ID)D"⟩ : MethodName)) hown (mvT hZ (hw _ (List.mem_of_getElem? (i := 6) rfl))) (mvT hZ (hw _ (List.mem_of_getElem? (i := 7) rfl))) (mvT hZ (hw _ (List.mem_of_getElem? (i := 4) rfl))) (mvT hZ (hw _ (List.mem_of_getElem? (i := 8) rfl))) (by decide) (backOf (W := 2) (rm2 l Z a0 hw [] z86_2 z100_2 c101_2_z1 c101_2_z3 c101_2_z7 c101_2_z17 c101_2_z19 c101_2_rv h0 n0 Z0 hc101_2_z1 hc101_2_z3 hc101_2_z7 hc101_2_z17 hc101_2_z19 hc101_2_rv c101_2_nn3 c101_2_nn17 c101_2_nn19) hZ (hw _ (List.mem_of_getElem? (i := 8) rfl)) (hw _ (List.mem_of_getElem? (i := 4) rfl)) (by decide) (by decide)) (g := (mkF m 101 #[vR o0, vR o1, vJ z21_2, s_, vJ z30_2, s_, vD z73_2, s_, vI (1 : Int32)] [(.double z100_2), (.int z86_2), (.double z73_2)])) rfl (by rw [hml]; rfl) (argsL := [(.int z86_2), (.double z100_2)]) (rest := [(.double z73_2)]) (lenOf pd_0 rfl) rfl (by show 2 * 0 + _ ≤ _; exact Nat.le_of_eq rfl) (hb hby d1_101) (fun _ _ => ⟨rfl, e19, (by decide : 0 + 0 ≤ _), (by decide : 0 + 0 ≤ _)⟩)
  dsimp only [Pt.U, Pt.locs, Pt.cells, Pt.slots] at X23 ql23 qy23 qz23 st23 hQ23
  subst ql23 qy23 qz23
  obtain ⟨rfl, N23q, e23⟩ := hQ23
  have N23 := Fr.app N19 N23q
  obtain ⟨cl24, Ar24, -, S24, Nn24, -, -⟩ := id V_o1
  have c25 : ∀ t, Steps p.tables e below (T23.setTop (mkF m 115 #[vR o0, vR o1, vJ z21_2, s_, vJ z30_2, s_, vD z104_2, s_, vI (2 : Int32)] [(.double z104_2)])) t → Steps p.tables e below (s₁.setTop (entryFrame m #[(.ref o0), (.ref o1)] 9)) t := by
    intro t k
    refine c0 t ?_
    show Steps p.tables e below (s₁.setTop (mkF m 0 #[vR o0, vR o1, u_, u_, u_, u_, u_, u_, u_] [])) _
    refine XS.lconst X0.here hx rfl (hb hby d1_0) ?_
    show Steps p.tables e below (s₁.setTop (mkF m 1 #[vR o0, vR o1, u_, u_, u_, u_, u_, u_, u_] [(.long (0 : Int64))])) _
    refine XS.lstoreN X0.here hx rfl (hb hby d1_1) rfl (l' := #[vR o0, vR o1, vJ (0 : Int64), s_, u_, u_, u_, u_, u_]) rfl ?_
    show Steps p.tables e below (s₁.setTop (mkF m 2 #[vR o0, vR o1, vJ (0 : Int64), s_, u_, u_, u_, u_, u_] [])) _
    refine XS.lconst X0.here hx rfl (hb hby d1_2) ?_
    show Steps p.tables e below (s₁.setTop (mkF m 3 #[vR o0, vR o1, vJ (0 : Int64), s_, u_, u_, u_, u_, u_] [(.long (0 : Int64))])) _
    refine XS.lstore X0.here hx rfl (hb hby d1_3) rfl (l' := #[vR o0, vR o1, vJ (0 : Int64), s_, vJ (0 : Int64), s_, u_, u_, u_]) rfl ?_
    show Steps p.tables e below (s₁.setTop (mkF m 5 #[vR o0, vR o1, vJ (0 : Int64), s_, vJ (0 : Int64), s_, u_, u_, u_] [])) _
    refine XS.iconst X0.here hx rfl (hb hby d1_5) ?_
    show Steps p.tables e below (s₁.setTop (mkF m 6 #[vR o0, vR o1, vJ (0 : Int64), s_, vJ (0 : Int64), s_, u_, u_, u_] [(.int (0 : Int32))])) _
    refine XS.istore X0.here hx rfl (hb hby d1_6) rfl (l' := #[vR o0, vR o1, vJ (0 : Int64), s_, vJ (0 : Int64), s_, vI (0 : Int32), u_, u_]) rfl ?_
    show Steps p.tables e below (s₁.setTop (mkF m 8 #[vR o0, vR o1, vJ (0 : Int64), s_, vJ (0 : Int64), s_, vI (0 : Int32), u_, u_] [])) _
    refine XS.iload X0.here hx rfl (hb hby d1_8) rfl ?_
    show Steps p.tables e below (s₁.setTop (mkF m 10 #[vR o0, vR o1, vJ (0 : Int64), s_, vJ (0 : Int64), s_, vI (0 : Int32), u_, u_] [(.int (0 : Int32))])) _
    refine XS.aloadN X0.here hx rfl (hb hby d1_10) rfl rfl ?_
    show Steps p.tables e below (s₁.setTop (mkF m 11 #[vR o0, vR o1, vJ (0 : Int64), s_, vJ (0 : Int64), s_, vI (0 : Int32), u_, u_] [(.ref o1), (.int (0 : Int32))])) _
    refine X0.arraylength hx (by rw [e0]; exact Ar1.1) (State.isArrayOf_alike hZ.alike Ar1.2.1) (g := (mkF m 11 #[vR o0, vR o1, vJ (0 : Int64), s_, vJ (0 : Int64), s_, vI (0 : Int32), u_, u_] [(.ref o1), (.int (0 : Int32))])) rfl rfl (hb hby d1_11) _ ?_
    rw [len_of S1 Nn1]
    show Steps p.tables e below (s₁.setTop (mkF m 12 #[vR o0, vR o1, vJ (0 : Int64), s_, vJ (0 : Int64), s_, vI (0 : Int32), u_, u_] [(.int (2 : Int32)), (.int (0 : Int32))])) _
    refine XS.icmpNo X0.here hx rfl (hb hby d1_12) rfl (Jvm.Free.XT.ii_ge_f (by decide)) ?_
    show Steps p.tables e below (s₁.setTop (mkF m 15 #[vR o0, vR o1, vJ (0 : Int64), s_, vJ (0 : Int64), s_, vI (0 : Int32), u_, u_] [])) _
    refine XS.lloadN X0.here hx rfl (hb hby d1_15) rfl ?_
    show Steps p.tables e below (s₁.setTop (mkF m 16 #[vR o0, vR o1, vJ (0 : Int64), s_, vJ (0 : Int64), s_, vI (0 : Int32), u_, u_] [(.long (0 : Int64))])) _
    refine XS.aloadN X0.here hx rfl (hb hby d1_16) rfl rfl ?_
    show Steps p.tables e below (s₁.setTop (mkF m 17 #[vR o0, vR o1, vJ (0 : Int64), s_, vJ (0 : Int64), s_, vI (0 : Int32), u_, u_] [(.ref o1), (.long (0 : Int64))])) _
    refine XS.iload X0.here hx rfl (hb hby d1_17) rfl ?_
    show Steps p.tables e below (s₁.setTop (mkF m 19 #[vR o0, vR o1, vJ (0 : Int64), s_, vJ (0 : Int64), s_, vI (0 : Int32), u_, u_] [(.int (0 : Int32)), (.ref o1), (.long (0 : Int64))])) _
    refine X0.iaload hx (j := (0 : Int32)) (v := (.int yh0)) (by rw [e0]; exact Ar2.1) (State.isArrayOf_alike hZ.alike Ar2.2.1) Ar2.2.2 in2 (Has.at Ha2 in2 rfl) (g := (mkF m 19 #[vR o0, vR o1, vJ (0 : Int64), s_, vJ (0 : Int64), s_, vI (0 : Int32), u_, u_] [(.int (0 : Int32)), (.ref o1), (.long (0 : Int64))])) rfl rfl (hb hby d1_19) _ ?_
    show Steps p.tables e below (s₁.setTop (mkF m 20 #[vR o0, vR o1, vJ (0 : Int64), s_, vJ (0 : Int64), s_, vI (0 : Int32), u_, u_] [(.int yh0), (.long (0 : Int64))])) _
    refine Jvm.OwnK.i2l X0.here hx rfl (hb hby d1_20) rfl hz20 ?_
    show Steps p.tables e below (s₁.setTop (mkF m 21 #[vR o0, vR o1, vJ (0 : Int64), s_, vJ (0 : Int64), s_, vI (0 : Int32), u_, u_] [(.long z20), (.long (0 : Int64))])) _
    refine Jvm.OwnK.ladd X0.here hx rfl (hb hby d1_21) rfl hz21 ?_
    show Steps p.tables e below (s₁.setTop (mkF m 22 #[vR o0, vR o1, vJ (0 : Int64), s_, vJ (0 : Int64), s_, vI (0 : Int32), u_, u_] [(.long z21)])) _
    refine XS.lstoreN X0.here hx rfl (hb hby d1_22) rfl (l' := #[vR o0, vR o1, vJ z21, s_, vJ (0 : Int64), s_, vI (0 : Int32), u_, u_]) rfl ?_
    show Steps p.tables e below (s₁.setTop (mkF m 23 #[vR o0, vR o1, vJ z21, s_, vJ (0 : Int64), s_, vI (0 : Int32), u_, u_] [])) _
    refine XS.lload X0.here hx rfl (hb hby d1_23) rfl ?_
    show Steps p.tables e below (s₁.setTop (mkF m 25 #[vR o0, vR o1, vJ z21, s_, vJ (0 : Int64), s_, vI (0 : Int32), u_, u_] [(.long (0 : Int64))])) _
    refine XS.aloadN X0.here hx rfl (hb hby d1_25) rfl rfl ?_
    show Steps p.tables e below (s₁.setTop (mkF m 26 #[vR o0, vR o1, vJ z21, s_, vJ (0 : Int64), s_, vI (0 : Int32), u_, u_] [(.ref o0), (.long (0 : Int64))])) _
    refine XS.iload X0.here hx rfl (hb hby d1_26) rfl ?_
    show Steps p.tables e below (s₁.setTop (mkF m 28 #[vR o0, vR o1, vJ z21, s_, vJ (0 : Int64), s_, vI (0 : Int32), u_, u_] [(.int (0 : Int32)), (.ref o0), (.long (0 : Int64))])) _
    refine X0.iaload hx (j := (0 : Int32)) (v := (.int yg0)) (by rw [e0]; exact Ar3.1) (State.isArrayOf_alike hZ.alike Ar3.2.1) Ar3.2.2 in3 (Has.at Ha3 in3 rfl) (g := (mkF m 28 #[vR o0, vR o1, vJ z21, s_, vJ (0 : Int64), s_, vI (0 : Int32), u_, u_] [(.int (0 : Int32)), (.ref o0), (.long (0 : Int64))])) rfl rfl (hb hby d1_28) _ ?_
    show Steps p.tables e below (s₁.setTop (mkF m 29 #[vR o0, vR o1, vJ z21, s_, vJ (0 : Int64), s_, vI (0 : Int32), u_, u_] [(.int yg0), (.long (0 : Int64))])) _
    refine Jvm.OwnK.i2l X0.here hx rfl (hb hby d1_29) rfl hz29 ?_
    show Steps p.tables e below (s₁.setTop (mkF m 30 #[vR o0, vR o1, vJ z21, s_, vJ (0 : Int64), s_, vI (0 : Int32), u_, u_] [(.long z29), (.long (0 : Int64))])) _
    refine Jvm.OwnK.ladd X0.here hx rfl (hb hby d1_30) rfl hz30 ?_
    show Steps p.tables e below (s₁.setTop (mkF m 31 #[vR o0, vR o1, vJ z21, s_, vJ (0 : Int64), s_, vI (0 : Int32), u_, u_] [(.long z30)])) _
    refine XS.lstore X0.here hx rfl (hb hby d1_31) rfl (l' := #[vR o0, vR o1, vJ z21, s_, vJ z30, s_, vI (0 : Int32), u_, u_]) rfl ?_
    show Steps p.tables e below (s₁.setTop (mkF m 33 #[vR o0, vR o1, vJ z21, s_, vJ z30, s_, vI (0 : Int32), u_, u_] [])) _
    refine Jvm.OwnK.iinc X0.here hx rfl (hb hby d1_33) rfl (l' := #[vR o0, vR o1, vJ z21, s_, vJ z30, s_, vI (1 : Int32), u_, u_]) (v := (1 : Int32)) (by decide) rfl ?_
    show Steps p.tables e below (s₁.setTop (mkF m 36 #[vR o0, vR o1, vJ z21, s_, vJ z30, s_, vI (1 : Int32), u_, u_] [])) _
    refine XS.goto X0.here hx rfl (pc0 := 36) (pc' := 8) rfl (hb hby d1_36) (by decide) (by decide) ?_
    show Steps p.tables e below (s₁.setTop (mkF m 8 #[vR o0, vR o1, vJ z21, s_, vJ z30, s_, vI (1 : Int32), u_, u_] [])) _
    refine XS.iload X0.here hx rfl (hb hby d1_8) rfl ?_
    show Steps p.tables e below (s₁.setTop (mkF m 10 #[vR o0, vR o1, vJ z21, s_, vJ z30, s_, vI (1 : Int32), u_, u_] [(.int (1 : Int32))])) _
    refine XS.aloadN X0.here hx rfl (hb hby d1_10) rfl rfl ?_
    show Steps p.tables e below (s₁.setTop (mkF m 11 #[vR o0, vR o1, vJ z21, s_, vJ z30, s_, vI (1 : Int32), u_, u_] [(.ref o1), (.int (1 : Int32))])) _
    refine X0.arraylength hx (by rw [e0]; exact Ar4.1) (State.isArrayOf_alike hZ.alike Ar4.2.1) (g := (mkF m 11 #[vR o0, vR o1, vJ z21, s_, vJ z30, s_, vI (1 : Int32), u_, u_] [(.ref o1), (.int (1 : Int32))])) rfl rfl (hb hby d1_11) _ ?_
    rw [len_of S4 Nn4]
    show Steps p.tables e below (s₁.setTop (mkF m 12 #[vR o0, vR o1, vJ z21, s_, vJ z30, s_, vI (1 : Int32), u_, u_] [(.int (2 : Int32)), (.int (1 : Int32))])) _
    refine XS.icmpNo X0.here hx rfl (hb hby d1_12) rfl (Jvm.Free.XT.ii_ge_f (by decide)) ?_
    show Steps p.tables e below (s₁.setTop (mkF m 15 #[vR o0, vR o1, vJ z21, s_, vJ z30, s_, vI (1 : Int32), u_, u_] [])) _
    refine XS.lloadN X0.here hx rfl (hb hby d1_15) rfl ?_
    show Steps p.tables e below (s₁.setTop (mkF m 16 #[vR o0, vR o1, vJ z21, s_, vJ z30, s_, vI (1 : Int32), u_, u_] [(.long z21)])) _
    refine XS.aloadN X0.here hx rfl (hb hby d1_16) rfl rfl ?_
    show Steps p.tables e below (s₁.setTop (mkF m 17 #[vR o0, vR o1, vJ z21, s_, vJ z30, s_, vI (1 : Int32), u_, u_] [(.ref o1), (.long z21)])) _
    refine XS.iload X0.here hx rfl (hb hby d1_17) rfl ?_
    show Steps p.tables e below (s₁.setTop (mkF m 19 #[vR o0, vR o1, vJ z21, s_, vJ z30, s_, vI (1 : Int32), u_, u_] [(.int (1 : Int32)), (.ref o1), (.long z21)])) _
    refine X0.iaload hx (j := (1 : Int32)) (v := (.int yh1)) (by rw [e0]; exact Ar5.1) (State.isArrayOf_alike hZ.alike Ar5.2.1) Ar5.2.2 in5 (Has.at Ha5 in5 rfl) (g := (mkF m 19 #[vR o0, vR o1, vJ z21, s_, vJ z30, s_, vI (1 : Int32), u_, u_] [(.int (1 : Int32)), (.ref o1), (.long z21)])) rfl rfl (hb hby d1_19) _ ?_
    show Steps p.tables e below (s₁.setTop (mkF m 20 #[vR o0, vR o1, vJ z21, s_, vJ z30, s_, vI (1 : Int32), u_, u_] [(.int yh1), (.long z21)])) _
    refine Jvm.OwnK.i2l X0.here hx rfl (hb hby d1_20) rfl hz20_2 ?_
    show Steps p.tables e below (s₁.setTop (mkF m 21 #[vR o0, vR o1, vJ z21, s_, vJ z30, s_, vI (1 : Int32), u_, u_] [(.long z20_2), (.long z21)])) _
    refine Jvm.OwnK.ladd X0.here hx rfl (hb hby d1_21) rfl hz21_2 ?_
    show Steps p.tables e below (s₁.setTop (mkF m 22 #[vR o0, vR o1, vJ z21, s_, vJ z30, s_, vI (1 : Int32), u_, u_] [(.long z21_2)])) _
    refine XS.lstoreN X0.here hx rfl (hb hby d1_22) rfl (l' := #[vR o0, vR o1, vJ z21_2, s_, vJ z30, s_, vI (1 : Int32), u_, u_]) rfl ?_
    show Steps p.tables e below (s₁.setTop (mkF m 23 #[vR o0, vR o1, vJ z21_2, s_, vJ z30, s_, vI (1 : Int32), u_, u_] [])) _
    refine XS.lload X0.here hx rfl (hb hby d1_23) rfl ?_
    show Steps p.tables e below (s₁.setTop (mkF m 25 #[vR o0, vR o1, vJ z21_2, s_, vJ z30, s_, vI (1 : Int32), u_, u_] [(.long z30)])) _
    refine XS.aloadN X0.here hx rfl (hb hby d1_25) rfl rfl ?_
    show Steps p.tables e below (s₁.setTop (mkF m 26 #[vR o0, vR o1, vJ z21_2, s_, vJ z30, s_, vI (1 : Int32), u_, u_] [(.ref o0), (.long z30)])) _
    refine XS.iload X0.here hx rfl (hb hby d1_26) rfl ?_
    show Steps p.tables e below (s₁.setTop (mkF m 28 #[vR o0, vR o1, vJ z21_2, s_, vJ z30, s_, vI (1 : Int32), u_, u_] [(.int (1 : Int32)), (.ref o0), (.long z30)])) _
    refine X0.iaload hx (j := (1 : Int32)) (v := (.int yg1)) (by rw [e0]; exact Ar6.1) (State.isArrayOf_alike hZ.alike Ar6.2.1) Ar6.2.2 in6 (Has.at Ha6 in6 rfl) (g := (mkF m 28 #[vR o0, vR o1, vJ z21_2, s_, vJ z30, s_, vI (1 : Int32), u_, u_] [(.int (1 : Int32)), (.ref o0), (.long z30)])) rfl rfl (hb hby d1_28) _ ?_
    show Steps p.tables e below (s₁.setTop (mkF m 29 #[vR o0, vR o1, vJ z21_2, s_, vJ z30, s_, vI (1 : Int32), u_, u_] [(.int yg1), (.long z30)])) _
    refine Jvm.OwnK.i2l X0.here hx rfl (hb hby d1_29) rfl hz29_2 ?_
    show Steps p.tables e below (s₁.setTop (mkF m 30 #[vR o0, vR o1, vJ z21_2, s_, vJ z30, s_, vI (1 : Int32), u_, u_] [(.long z29_2), (.long z30)])) _
    refine Jvm.OwnK.ladd X0.here hx rfl (hb hby d1_30) rfl hz30_2 ?_
    show Steps p.tables e below (s₁.setTop (mkF m 31 #[vR o0, vR o1, vJ z21_2, s_, vJ z30, s_, vI (1 : Int32), u_, u_] [(.long z30_2)])) _
    refine XS.lstore X0.here hx rfl (hb hby d1_31) rfl (l' := #[vR o0, vR o1, vJ z21_2, s_, vJ z30_2, s_, vI (1 : Int32), u_, u_]) rfl ?_
    show Steps p.tables e below (s₁.setTop (mkF m 33 #[vR o0, vR o1, vJ z21_2, s_, vJ z30_2, s_, vI (1 : Int32), u_, u_] [])) _
    refine Jvm.OwnK.iinc X0.here hx rfl (hb hby d1_33) rfl (l' := #[vR o0, vR o1, vJ z21_2, s_, vJ z30_2, s_, vI (2 : Int32), u_, u_]) (v := (2 : Int32)) (by decide) rfl ?_
    show Steps p.tables e below (s₁.setTop (mkF m 36 #[vR o0, vR o1, vJ z21_2, s_, vJ z30_2, s_, vI (2 : Int32), u_, u_] [])) _
    refine XS.goto X0.here hx rfl (pc0 := 36) (pc' := 8) rfl (hb hby d1_36) (by decide) (by decide) ?_
    show Steps p.tables e below (s₁.setTop (mkF m 8 #[vR o0, vR o1, vJ z21_2, s_, vJ z30_2, s_, vI (2 : Int32), u_, u_] [])) _
    refine XS.iload X0.here hx rfl (hb hby d1_8) rfl ?_
    show Steps p.tables e below (s₁.setTop (mkF m 10 #[vR o0, vR o1, vJ z21_2, s_, vJ z30_2, s_, vI (2 : Int32), u_, u_] [(.int (2 : Int32))])) _
    refine XS.aloadN X0.here hx rfl (hb hby d1_10) rfl rfl ?_
    show Steps p.tables e below (s₁.setTop (mkF m 11 #[vR o0, vR o1, vJ z21_2, s_, vJ z30_2, s_, vI (2 : Int32), u_, u_] [(.ref o1), (.int (2 : Int32))])) _
    refine X0.arraylength hx (by rw [e0]; exact Ar7.1) (State.isArrayOf_alike hZ.alike Ar7.2.1) (g := (mkF m 11 #[vR o0, vR o1, vJ z21_2, s_, vJ z30_2, s_, vI (2 : Int32), u_, u_] [(.ref o1), (.int (2 : Int32))])) rfl rfl (hb hby d1_11) _ ?_
    rw [len_of S7 Nn7]
    show Steps p.tables e below (s₁.setTop (mkF m 12 #[vR o0, vR o1, vJ z21_2, s_, vJ z30_2, s_, vI (2 : Int32), u_, u_] [(.int (2 : Int32)), (.int (2 : Int32))])) _
    refine XS.icmpYes X0.here hx rfl (pc0 := 12) (pc' := 39) rfl (hb hby d1_12) rfl (Jvm.Free.XT.ii_ge_t (by decide)) (by decide) (by decide) ?_
    show Steps p.tables e below (s₁.setTop (mkF m 39 #[vR o0, vR o1, vJ z21_2, s_, vJ z30_2, s_, vI (2 : Int32), u_, u_] [])) _
    refine XS.dconst0 X0.here hx rfl (hb hby d1_39) (v := FP.dconst0) rfl ?_
    show Steps p.tables e below (s₁.setTop (mkF m 40 #[vR o0, vR o1, vJ z21_2, s_, vJ z30_2, s_, vI (2 : Int32), u_, u_] [(.double FP.dconst0)])) _
    refine XS.dstore X0.here hx rfl (hb hby d1_40) rfl (l' := #[vR o0, vR o1, vJ z21_2, s_, vJ z30_2, s_, vD FP.dconst0, s_, u_]) rfl ?_
    show Steps p.tables e below (s₁.setTop (mkF m 42 #[vR o0, vR o1, vJ z21_2, s_, vJ z30_2, s_, vD FP.dconst0, s_, u_] [])) _
    refine XS.iconst X0.here hx rfl (hb hby d1_42) ?_
    show Steps p.tables e below (s₁.setTop (mkF m 43 #[vR o0, vR o1, vJ z21_2, s_, vJ z30_2, s_, vD FP.dconst0, s_, u_] [(.int (0 : Int32))])) _
    refine XS.istore X0.here hx rfl (hb hby d1_43) rfl (l' := #[vR o0, vR o1, vJ z21_2, s_, vJ z30_2, s_, vD FP.dconst0, s_, vI (0 : Int32)]) rfl ?_
    show Steps p.tables e below (s₁.setTop (mkF m 45 #[vR o0, vR o1, vJ z21_2, s_, vJ z30_2, s_, vD FP.dconst0, s_, vI (0 : Int32)] [])) _
    refine XS.iload X0.here hx rfl (hb hby d1_45) rfl ?_
    show Steps p.tables e below (s₁.setTop (mkF m 47 #[vR o0, vR o1, vJ z21_2, s_, vJ z30_2, s_, vD FP.dconst0, s_, vI (0 : Int32)] [(.int (0 : Int32))])) _
    refine XS.aloadN X0.here hx rfl (hb hby d1_47) rfl rfl ?_
    show Steps p.tables e below (s₁.setTop (mkF m 48 #[vR o0, vR o1, vJ z21_2, s_, vJ z30_2, s_, vD FP.dconst0, s_, vI (0 : Int32)] [(.ref o1), (.int (0 : Int32))])) _
    refine X0.arraylength hx (by rw [e0]; exact Ar8.1) (State.isArrayOf_alike hZ.alike Ar8.2.1) (g := (mkF m 48 #[vR o0, vR o1, vJ z21_2, s_, vJ z30_2, s_, vD FP.dconst0, s_, vI (0 : Int32)] [(.ref o1), (.int (0 : Int32))])) rfl rfl (hb hby d1_48) _ ?_
    rw [len_of S8 Nn8]
    show Steps p.tables e below (s₁.setTop (mkF m 49 #[vR o0, vR o1, vJ z21_2, s_, vJ z30_2, s_, vD FP.dconst0, s_, vI (0 : Int32)] [(.int (2 : Int32)), (.int (0 : Int32))])) _
    refine XS.icmpNo X0.here hx rfl (hb hby d1_49) rfl (Jvm.Free.XT.ii_ge_f (by decide)) ?_
    show Steps p.tables e below (s₁.setTop (mkF m 52 #[vR o0, vR o1, vJ z21_2, s_, vJ z30_2, s_, vD FP.dconst0, s_, vI (0 : Int32)] [])) _
    refine XS.dload X0.here hx rfl (hb hby d1_52) rfl ?_
    show Steps p.tables e below (s₁.setTop (mkF m 54 #[vR o0, vR o1, vJ z21_2, s_, vJ z30_2, s_, vD FP.dconst0, s_, vI (0 : Int32)] [(.double FP.dconst0)])) _
    refine XS.aloadN X0.here hx rfl (hb hby d1_54) rfl rfl ?_
    show Steps p.tables e below (s₁.setTop (mkF m 55 #[vR o0, vR o1, vJ z21_2, s_, vJ z30_2, s_, vD FP.dconst0, s_, vI (0 : Int32)] [(.ref o0), (.double FP.dconst0)])) _
    refine XS.iload X0.here hx rfl (hb hby d1_55) rfl ?_
    show Steps p.tables e below (s₁.setTop (mkF m 57 #[vR o0, vR o1, vJ z21_2, s_, vJ z30_2, s_, vD FP.dconst0, s_, vI (0 : Int32)] [(.int (0 : Int32)), (.ref o0), (.double FP.dconst0)])) _
    refine X0.iaload hx (j := (0 : Int32)) (v := (.int yg0)) (by rw [e0]; exact Ar9.1) (State.isArrayOf_alike hZ.alike Ar9.2.1) Ar9.2.2 in9 (Has.at Ha9 in9 rfl) (g := (mkF m 57 #[vR o0, vR o1, vJ z21_2, s_, vJ z30_2, s_, vD FP.dconst0, s_, vI (0 : Int32)] [(.int (0 : Int32)), (.ref o0), (.double FP.dconst0)])) rfl rfl (hb hby d1_57) _ ?_
    show Steps p.tables e below (s₁.setTop (mkF m 58 #[vR o0, vR o1, vJ z21_2, s_, vJ z30_2, s_, vD FP.dconst0, s_, vI (0 : Int32)] [(.int yg0), (.double FP.dconst0)])) _
    refine XS.lload X0.here hx rfl (hb hby d1_58) rfl ?_
    show Steps p.tables e below (s₁.setTop (mkF m 60 #[vR o0, vR o1, vJ z21_2, s_, vJ z30_2, s_, vD FP.dconst0, s_, vI (0 : Int32)] [(.long z30_2), (.int yg0), (.double FP.dconst0)])) _
    refine XS.l2dS X0.here hx rfl (hb hby d1_60) rfl hz60 ?_
    show Steps p.tables e below (s₁.setTop (mkF m 61 #[vR o0, vR o1, vJ z21_2, s_, vJ z30_2, s_, vD FP.dconst0, s_, vI (0 : Int32)] [(.double z60), (.int yg0), (.double FP.dconst0)])) _
    refine XS.aloadN X0.here hx rfl (hb hby d1_61) rfl rfl ?_
    show Steps p.tables e below (s₁.setTop (mkF m 62 #[vR o0, vR o1, vJ z21_2, s_, vJ z30_2, s_, vD FP.dconst0, s_, vI (0 : Int32)] [(.ref o1), (.double z60), (.int yg0), (.double FP.dconst0)])) _
    refine XS.iload X0.here hx rfl (hb hby d1_62) rfl ?_
    show Steps p.tables e below (s₁.setTop (mkF m 64 #[vR o0, vR o1, vJ z21_2, s_, vJ z30_2, s_, vD FP.dconst0, s_, vI (0 : Int32)] [(.int (0 : Int32)), (.ref o1), (.double z60), (.int yg0), (.double FP.dconst0)])) _
    refine X0.iaload hx (j := (0 : Int32)) (v := (.int yh0)) (by rw [e0]; exact Ar10.1) (State.isArrayOf_alike hZ.alike Ar10.2.1) Ar10.2.2 in10 (Has.at Ha10 in10 rfl) (g := (mkF m 64 #[vR o0, vR o1, vJ z21_2, s_, vJ z30_2, s_, vD FP.dconst0, s_, vI (0 : Int32)] [(.int (0 : Int32)), (.ref o1), (.double z60), (.int yg0), (.double FP.dconst0)])) rfl rfl (hb hby d1_64) _ ?_
    show Steps p.tables e below (s₁.setTop (mkF m 65 #[vR o0, vR o1, vJ z21_2, s_, vJ z30_2, s_, vD FP.dconst0, s_, vI (0 : Int32)] [(.int yh0), (.double z60), (.int yg0), (.double FP.dconst0)])) _
    refine XS.i2dS X0.here hx rfl (hb hby d1_65) rfl hz65 ?_
    show Steps p.tables e below (s₁.setTop (mkF m 66 #[vR o0, vR o1, vJ z21_2, s_, vJ z30_2, s_, vD FP.dconst0, s_, vI (0 : Int32)] [(.double z65), (.double z60), (.int yg0), (.double FP.dconst0)])) _
    refine Jvm.OwnK.dmul X0.here hx rfl (hb hby d1_66) rfl hz66 nn66 ?_
    show Steps p.tables e below (s₁.setTop (mkF m 67 #[vR o0, vR o1, vJ z21_2, s_, vJ z30_2, s_, vD FP.dconst0, s_, vI (0 : Int32)] [(.double z66), (.int yg0), (.double FP.dconst0)])) _
    refine XS.lloadN X0.here hx rfl (hb hby d1_67) rfl ?_
    show Steps p.tables e below (s₁.setTop (mkF m 68 #[vR o0, vR o1, vJ z21_2, s_, vJ z30_2, s_, vD FP.dconst0, s_, vI (0 : Int32)] [(.long z21_2), (.double z66), (.int yg0), (.double FP.dconst0)])) _
    refine XS.l2dS X0.here hx rfl (hb hby d1_68) rfl hz68 ?_
    show Steps p.tables e below (s₁.setTop (mkF m 69 #[vR o0, vR o1, vJ z21_2, s_, vJ z30_2, s_, vD FP.dconst0, s_, vI (0 : Int32)] [(.double z68), (.double z66), (.int yg0), (.double FP.dconst0)])) _
    refine Jvm.OwnK.ddiv X0.here hx rfl (hb hby d1_69) rfl hz69 nn69 ?_
    show Steps p.tables e below (s₁.setTop (mkF m 70 #[vR o0, vR o1, vJ z21_2, s_, vJ z30_2, s_, vD FP.dconst0, s_, vI (0 : Int32)] [(.double z69), (.int yg0), (.double FP.dconst0)])) _
    refine st11 _ ?_
    show Steps p.tables e below (T11.setTop (mkF m 73 #[vR o0, vR o1, vJ z21_2, s_, vJ z30_2, s_, vD FP.dconst0, s_, vI (0 : Int32)] [(.double c70_rv), (.double FP.dconst0)])) _
    refine Jvm.OwnK.dadd X11.here hx rfl (hb hby d1_73) rfl hz73 nn73 ?_
    show Steps p.tables e below (T11.setTop (mkF m 74 #[vR o0, vR o1, vJ z21_2, s_, vJ z30_2, s_, vD FP.dconst0, s_, vI (0 : Int32)] [(.double z73)])) _
    refine XS.dstore X11.here hx rfl (hb hby d1_74) rfl (l' := #[vR o0, vR o1, vJ z21_2, s_, vJ z30_2, s_, vD z73, s_, vI (0 : Int32)]) rfl ?_
    show Steps p.tables e below (T11.setTop (mkF m 76 #[vR o0, vR o1, vJ z21_2, s_, vJ z30_2, s_, vD z73, s_, vI (0 : Int32)] [])) _
    refine XS.dload X11.here hx rfl (hb hby d1_76) rfl ?_
    show Steps p.tables e below (T11.setTop (mkF m 78 #[vR o0, vR o1, vJ z21_2, s_, vJ z30_2, s_, vD z73, s_, vI (0 : Int32)] [(.double z73)])) _
    refine XS.aloadN X11.here hx rfl (hb hby d1_78) rfl rfl ?_
    show Steps p.tables e below (T11.setTop (mkF m 79 #[vR o0, vR o1, vJ z21_2, s_, vJ z30_2, s_, vD z73, s_, vI (0 : Int32)] [(.ref o1), (.double z73)])) _
    refine XS.iload X11.here hx rfl (hb hby d1_79) rfl ?_
    show Steps p.tables e below (T11.setTop (mkF m 81 #[vR o0, vR o1, vJ z21_2, s_, vJ z30_2, s_, vD z73, s_, vI (0 : Int32)] [(.int (0 : Int32)), (.ref o1), (.double z73)])) _
    refine X11.iaload hx (j := (0 : Int32)) (v := (.int yh0)) (by rw [e11]; exact Ar12.1) (State.isArrayOf_alike hZ.alike Ar12.2.1) Ar12.2.2 in12 (Has.at Ha12 in12 rfl) (g := (mkF m 81 #[vR o0, vR o1, vJ z21_2, s_, vJ z30_2, s_, vD z73, s_, vI (0 : Int32)] [(.int (0 : Int32)), (.ref o1), (.double z73)])) rfl rfl (hb hby d1_81) _ ?_
    show Steps p.tables e below (T11.setTop (mkF m 82 #[vR o0, vR o1, vJ z21_2, s_, vJ z30_2, s_, vD z73, s_, vI (0 : Int32)] [(.int yh0), (.double z73)])) _
    refine XS.aloadN X11.here hx rfl (hb hby d1_82) rfl rfl ?_
    show Steps p.tables e below (T11.setTop (mkF m 83 #[vR o0, vR o1, vJ z21_2, s_, vJ z30_2, s_, vD z73, s_, vI (0 : Int32)] [(.ref o0), (.int yh0), (.double z73)])) _
    refine XS.iload X11.here hx rfl (hb hby d1_83) rfl ?_
    show Steps p.tables e below (T11.setTop (mkF m 85 #[vR o0, vR o1, vJ z21_2, s_, vJ z30_2, s_, vD z73, s_, vI (0 : Int32)] [(.int (0 : Int32)), (.ref o0), (.int yh0), (.double z73)])) _
    refine X11.iaload hx (j := (0 : Int32)) (v := (.int yg0)) (by rw [e11]; exact Ar13.1) (State.isArrayOf_alike hZ.alike Ar13.2.1) Ar13.2.2 in13 (Has.at Ha13 in13 rfl) (g := (mkF m 85 #[vR o0, vR o1, vJ z21_2, s_, vJ z30_2, s_, vD z73, s_, vI (0 : Int32)] [(.int (0 : Int32)), (.ref o0), (.int yh0), (.double z73)])) rfl rfl (hb hby d1_85) _ ?_
    show Steps p.tables e below (T11.setTop (mkF m 86 #[vR o0, vR o1, vJ z21_2, s_, vJ z30_2, s_, vD z73, s_, vI (0 : Int32)] [(.int yg0), (.int yh0), (.double z73)])) _
    refine Jvm.OwnK.isub X11.here hx rfl (hb hby d1_86) rfl hz86 ?_
    show Steps p.tables e below (T11.setTop (mkF m 87 #[vR o0, vR o1, vJ z21_2, s_, vJ z30_2, s_, vD z73, s_, vI (0 : Int32)] [(.int z86), (.double z73)])) _
    refine XS.lloadN X11.here hx rfl (hb hby d1_87) rfl ?_
    show Steps p.tables e below (T11.setTop (mkF m 88 #[vR o0, vR o1, vJ z21_2, s_, vJ z30_2, s_, vD z73, s_, vI (0 : Int32)] [(.long z21_2), (.int z86), (.double z73)])) _
    refine XS.lload X11.here hx rfl (hb hby d1_88) rfl ?_
    show Steps p.tables e below (T11.setTop (mkF m 90 #[vR o0, vR o1, vJ z21_2, s_, vJ z30_2, s_, vD z73, s_, vI (0 : Int32)] [(.long z30_2), (.long z21_2), (.int z86), (.double z73)])) _
    refine Jvm.OwnK.lsub X11.here hx rfl (hb hby d1_90) rfl hz90 ?_
    show Steps p.tables e below (T11.setTop (mkF m 91 #[vR o0, vR o1, vJ z21_2, s_, vJ z30_2, s_, vD z73, s_, vI (0 : Int32)] [(.long z90), (.int z86), (.double z73)])) _
    refine XS.l2dS X11.here hx rfl (hb hby d1_91) rfl hz91 ?_
    show Steps p.tables e below (T11.setTop (mkF m 92 #[vR o0, vR o1, vJ z21_2, s_, vJ z30_2, s_, vD z73, s_, vI (0 : Int32)] [(.double z91), (.int z86), (.double z73)])) _
    refine XS.aloadN X11.here hx rfl (hb hby d1_92) rfl rfl ?_
    show Steps p.tables e below (T11.setTop (mkF m 93 #[vR o0, vR o1, vJ z21_2, s_, vJ z30_2, s_, vD z73, s_, vI (0 : Int32)] [(.ref o1), (.double z91), (.int z86), (.double z73)])) _
    refine XS.iload X11.here hx rfl (hb hby d1_93) rfl ?_
    show Steps p.tables e below (T11.setTop (mkF m 95 #[vR o0, vR o1, vJ z21_2, s_, vJ z30_2, s_, vD z73, s_, vI (0 : Int32)] [(.int (0 : Int32)), (.ref o1), (.double z91), (.int z86), (.double z73)])) _
    refine X11.iaload hx (j := (0 : Int32)) (v := (.int yh0)) (by rw [e11]; exact Ar14.1) (State.isArrayOf_alike hZ.alike Ar14.2.1) Ar14.2.2 in14 (Has.at Ha14 in14 rfl) (g := (mkF m 95 #[vR o0, vR o1, vJ z21_2, s_, vJ z30_2, s_, vD z73, s_, vI (0 : Int32)] [(.int (0 : Int32)), (.ref o1), (.double z91), (.int z86), (.double z73)])) rfl rfl (hb hby d1_95) _ ?_
    show Steps p.tables e below (T11.setTop (mkF m 96 #[vR o0, vR o1, vJ z21_2, s_, vJ z30_2, s_, vD z73, s_, vI (0 : Int32)] [(.int yh0), (.double z91), (.int z86), (.double z73)])) _
    refine XS.i2dS X11.here hx rfl (hb hby d1_96) rfl hz96 ?_
    show Steps p.tables e below (T11.setTop (mkF m 97 #[vR o0, vR o1, vJ z21_2, s_, vJ z30_2, s_, vD z73, s_, vI (0 : Int32)] [(.double z96), (.double z91), (.int z86), (.double z73)])) _
    refine Jvm.OwnK.dmul X11.here hx rfl (hb hby d1_97) rfl hz97 nn97 ?_
    show Steps p.tables e below (T11.setTop (mkF m 98 #[vR o0, vR o1, vJ z21_2, s_, vJ z30_2, s_, vD z73, s_, vI (0 : Int32)] [(.double z97), (.int z86), (.double z73)])) _
    refine XS.lloadN X11.here hx rfl (hb hby d1_98) rfl ?_
    show Steps p.tables e below (T11.setTop (mkF m 99 #[vR o0, vR o1, vJ z21_2, s_, vJ z30_2, s_, vD z73, s_, vI (0 : Int32)] [(.long z21_2), (.double z97), (.int z86), (.double z73)])) _
    refine XS.l2dS X11.here hx rfl (hb hby d1_99) rfl hz99 ?_
    show Steps p.tables e below (T11.setTop (mkF m 100 #[vR o0, vR o1, vJ z21_2, s_, vJ z30_2, s_, vD z73, s_, vI (0 : Int32)] [(.double z99), (.double z97), (.int z86), (.double z73)])) _
    refine Jvm.OwnK.ddiv X11.here hx rfl (hb hby d1_100) rfl hz100 nn100 ?_
    show Steps p.tables e below (T11.setTop (mkF m 101 #[vR o0, vR o1, vJ z21_2, s_, vJ z30_2, s_, vD z73, s_, vI (0 : Int32)] [(.double z100), (.int z86), (.double z73)])) _
    refine st15 _ ?_
    show Steps p.tables e below (T15.setTop (mkF m 104 #[vR o0, vR o1, vJ z21_2, s_, vJ z30_2, s_, vD z73, s_, vI (0 : Int32)] [(.double c101_rv), (.double z73)])) _
    refine Jvm.OwnK.dadd X15.here hx rfl (hb hby d1_104) rfl hz104 nn104 ?_
    show Steps p.tables e below (T15.setTop (mkF m 105 #[vR o0, vR o1, vJ z21_2, s_, vJ z30_2, s_, vD z73, s_, vI (0 : Int32)] [(.double z104)])) _
    refine XS.dstore X15.here hx rfl (hb hby d1_105) rfl (l' := #[vR o0, vR o1, vJ z21_2, s_, vJ z30_2, s_, vD z104, s_, vI (0 : Int32)]) rfl ?_
    show Steps p.tables e below (T15.setTop (mkF m 107 #[vR o0, vR o1, vJ z21_2, s_, vJ z30_2, s_, vD z104, s_, vI (0 : Int32)] [])) _
    refine Jvm.OwnK.iinc X15.here hx rfl (hb hby d1_107) rfl (l' := #[vR o0, vR o1, vJ z21_2, s_, vJ z30_2, s_, vD z104, s_, vI (1 : Int32)]) (v := (1 : Int32)) (by decide) rfl ?_
    show Steps p.tables e below (T15.setTop (mkF m 110 #[vR o0, vR o1, vJ z21_2, s_, vJ z30_2, s_, vD z104, s_, vI (1 : Int32)] [])) _
    refine XS.goto X15.here hx rfl (pc0 := 110) (pc' := 45) rfl (hb hby d1_110) (by decide) (by decide) ?_
    show Steps p.tables e below (T15.setTop (mkF m 45 #[vR o0, vR o1, vJ z21_2, s_, vJ z30_2, s_, vD z104, s_, vI (1 : Int32)] [])) _
    refine XS.iload X15.here hx rfl (hb hby d1_45) rfl ?_
    show Steps p.tables e below (T15.setTop (mkF m 47 #[vR o0, vR o1, vJ z21_2, s_, vJ z30_2, s_, vD z104, s_, vI (1 : Int32)] [(.int (1 : Int32))])) _
    refine XS.aloadN X15.here hx rfl (hb hby d1_47) rfl rfl ?_
    show Steps p.tables e below (T15.setTop (mkF m 48 #[vR o0, vR o1, vJ z21_2, s_, vJ z30_2, s_, vD z104, s_, vI (1 : Int32)] [(.ref o1), (.int (1 : Int32))])) _
    refine X15.arraylength hx (by rw [e15]; exact Ar16.1) (State.isArrayOf_alike hZ.alike Ar16.2.1) (g := (mkF m 48 #[vR o0, vR o1, vJ z21_2, s_, vJ z30_2, s_, vD z104, s_, vI (1 : Int32)] [(.ref o1), (.int (1 : Int32))])) rfl rfl (hb hby d1_48) _ ?_
    rw [len_of S16 Nn16]
    show Steps p.tables e below (T15.setTop (mkF m 49 #[vR o0, vR o1, vJ z21_2, s_, vJ z30_2, s_, vD z104, s_, vI (1 : Int32)] [(.int (2 : Int32)), (.int (1 : Int32))])) _
    refine XS.icmpNo X15.here hx rfl (hb hby d1_49) rfl (Jvm.Free.XT.ii_ge_f (by decide)) ?_
    show Steps p.tables e below (T15.setTop (mkF m 52 #[vR o0, vR o1, vJ z21_2, s_, vJ z30_2, s_, vD z104, s_, vI (1 : Int32)] [])) _
    refine XS.dload X15.here hx rfl (hb hby d1_52) rfl ?_
    show Steps p.tables e below (T15.setTop (mkF m 54 #[vR o0, vR o1, vJ z21_2, s_, vJ z30_2, s_, vD z104, s_, vI (1 : Int32)] [(.double z104)])) _
    refine XS.aloadN X15.here hx rfl (hb hby d1_54) rfl rfl ?_
    show Steps p.tables e below (T15.setTop (mkF m 55 #[vR o0, vR o1, vJ z21_2, s_, vJ z30_2, s_, vD z104, s_, vI (1 : Int32)] [(.ref o0), (.double z104)])) _
    refine XS.iload X15.here hx rfl (hb hby d1_55) rfl ?_
    show Steps p.tables e below (T15.setTop (mkF m 57 #[vR o0, vR o1, vJ z21_2, s_, vJ z30_2, s_, vD z104, s_, vI (1 : Int32)] [(.int (1 : Int32)), (.ref o0), (.double z104)])) _
    refine X15.iaload hx (j := (1 : Int32)) (v := (.int yg1)) (by rw [e15]; exact Ar17.1) (State.isArrayOf_alike hZ.alike Ar17.2.1) Ar17.2.2 in17 (Has.at Ha17 in17 rfl) (g := (mkF m 57 #[vR o0, vR o1, vJ z21_2, s_, vJ z30_2, s_, vD z104, s_, vI (1 : Int32)] [(.int (1 : Int32)), (.ref o0), (.double z104)])) rfl rfl (hb hby d1_57) _ ?_
    show Steps p.tables e below (T15.setTop (mkF m 58 #[vR o0, vR o1, vJ z21_2, s_, vJ z30_2, s_, vD z104, s_, vI (1 : Int32)] [(.int yg1), (.double z104)])) _
    refine XS.lload X15.here hx rfl (hb hby d1_58) rfl ?_
    show Steps p.tables e below (T15.setTop (mkF m 60 #[vR o0, vR o1, vJ z21_2, s_, vJ z30_2, s_, vD z104, s_, vI (1 : Int32)] [(.long z30_2), (.int yg1), (.double z104)])) _
    refine XS.l2dS X15.here hx rfl (hb hby d1_60) rfl hz60_2 ?_
    show Steps p.tables e below (T15.setTop (mkF m 61 #[vR o0, vR o1, vJ z21_2, s_, vJ z30_2, s_, vD z104, s_, vI (1 : Int32)] [(.double z60_2), (.int yg1), (.double z104)])) _
    refine XS.aloadN X15.here hx rfl (hb hby d1_61) rfl rfl ?_
    show Steps p.tables e below (T15.setTop (mkF m 62 #[vR o0, vR o1, vJ z21_2, s_, vJ z30_2, s_, vD z104, s_, vI (1 : Int32)] [(.ref o1), (.double z60_2), (.int yg1), (.double z104)])) _
    refine XS.iload X15.here hx rfl (hb hby d1_62) rfl ?_
    show Steps p.tables e below (T15.setTop (mkF m 64 #[vR o0, vR o1, vJ z21_2, s_, vJ z30_2, s_, vD z104, s_, vI (1 : Int32)] [(.int (1 : Int32)), (.ref o1), (.double z60_2), (.int yg1), (.double z104)])) _
    refine X15.iaload hx (j := (1 : Int32)) (v := (.int yh1)) (by rw [e15]; exact Ar18.1) (State.isArrayOf_alike hZ.alike Ar18.2.1) Ar18.2.2 in18 (Has.at Ha18 in18 rfl) (g := (mkF m 64 #[vR o0, vR o1, vJ z21_2, s_, vJ z30_2, s_, vD z104, s_, vI (1 : Int32)] [(.int (1 : Int32)), (.ref o1), (.double z60_2), (.int yg1), (.double z104)])) rfl rfl (hb hby d1_64) _ ?_
    show Steps p.tables e below (T15.setTop (mkF m 65 #[vR o0, vR o1, vJ z21_2, s_, vJ z30_2, s_, vD z104, s_, vI (1 : Int32)] [(.int yh1), (.double z60_2), (.int yg1), (.double z104)])) _
    refine XS.i2dS X15.here hx rfl (hb hby d1_65) rfl hz65_2 ?_
    show Steps p.tables e below (T15.setTop (mkF m 66 #[vR o0, vR o1, vJ z21_2, s_, vJ z30_2, s_, vD z104, s_, vI (1 : Int32)] [(.double z65_2), (.double z60_2), (.int yg1), (.double z104)])) _
    refine Jvm.OwnK.dmul X15.here hx rfl (hb hby d1_66) rfl hz66_2 nn66_2 ?_
    show Steps p.tables e below (T15.setTop (mkF m 67 #[vR o0, vR o1, vJ z21_2, s_, vJ z30_2, s_, vD z104, s_, vI (1 : Int32)] [(.double z66_2), (.int yg1), (.double z104)])) _
    refine XS.lloadN X15.here hx rfl (hb hby d1_67) rfl ?_
    show Steps p.tables e below (T15.setTop (mkF m 68 #[vR o0, vR o1, vJ z21_2, s_, vJ z30_2, s_, vD z104, s_, vI (1 : Int32)] [(.long z21_2), (.double z66_2), (.int yg1), (.double z104)])) _
    refine XS.l2dS X15.here hx rfl (hb hby d1_68) rfl hz68_2 ?_
    show Steps p.tables e below (T15.setTop (mkF m 69 #[vR o0, vR o1, vJ z21_2, s_, vJ z30_2, s_, vD z104, s_, vI (1 : Int32)] [(.double z68_2), (.double z66_2), (.int yg1), (.double z104)])) _
    refine Jvm.OwnK.ddiv X15.here hx rfl (hb hby d1_69) rfl hz69_2 nn69_2 ?_
    show Steps p.tables e below (T15.setTop (mkF m 70 #[vR o0, vR o1, vJ z21_2, s_, vJ z30_2, s_, vD z104, s_, vI (1 : Int32)] [(.double z69_2), (.int yg1), (.double z104)])) _
    refine st19 _ ?_
    show Steps p.tables e below (T19.setTop (mkF m 73 #[vR o0, vR o1, vJ z21_2, s_, vJ z30_2, s_, vD z104, s_, vI (1 : Int32)] [(.double c70_2_rv), (.double z104)])) _
    refine Jvm.OwnK.dadd X19.here hx rfl (hb hby d1_73) rfl hz73_2 nn73_2 ?_
    show Steps p.tables e below (T19.setTop (mkF m 74 #[vR o0, vR o1, vJ z21_2, s_, vJ z30_2, s_, vD z104, s_, vI (1 : Int32)] [(.double z73_2)])) _
    refine XS.dstore X19.here hx rfl (hb hby d1_74) rfl (l' := #[vR o0, vR o1, vJ z21_2, s_, vJ z30_2, s_, vD z73_2, s_, vI (1 : Int32)]) rfl ?_
    show Steps p.tables e below (T19.setTop (mkF m 76 #[vR o0, vR o1, vJ z21_2, s_, vJ z30_2, s_, vD z73_2, s_, vI (1 : Int32)] [])) _
    refine XS.dload X19.here hx rfl (hb hby d1_76) rfl ?_
    show Steps p.tables e below (T19.setTop (mkF m 78 #[vR o0, vR o1, vJ z21_2, s_, vJ z30_2, s_, vD z73_2, s_, vI (1 : Int32)] [(.double z73_2)])) _
    refine XS.aloadN X19.here hx rfl (hb hby d1_78) rfl rfl ?_
    show Steps p.tables e below (T19.setTop (mkF m 79 #[vR o0, vR o1, vJ z21_2, s_, vJ z30_2, s_, vD z73_2, s_, vI (1 : Int32)] [(.ref o1), (.double z73_2)])) _
    refine XS.iload X19.here hx rfl (hb hby d1_79) rfl ?_
    show Steps p.tables e below (T19.setTop (mkF m 81 #[vR o0, vR o1, vJ z21_2, s_, vJ z30_2, s_, vD z73_2, s_, vI (1 : Int32)] [(.int (1 : Int32)), (.ref o1), (.double z73_2)])) _
    refine X19.iaload hx (j := (1 : Int32)) (v := (.int yh1)) (by rw [e19]; exact Ar20.1) (State.isArrayOf_alike hZ.alike Ar20.2.1) Ar20.2.2 in20 (Has.at Ha20 in20 rfl) (g := (mkF m 81 #[vR o0, vR o1, vJ z21_2, s_, vJ z30_2, s_, vD z73_2, s_, vI (1 : Int32)] [(.int (1 : Int32)), (.ref o1), (.double z73_2)])) rfl rfl (hb hby d1_81) _ ?_
    show Steps p.tables e below (T19.setTop (mkF m 82 #[vR o0, vR o1, vJ z21_2, s_, vJ z30_2, s_, vD z73_2, s_, vI (1 : Int32)] [(.int yh1), (.double z73_2)])) _
    refine XS.aloadN X19.here hx rfl (hb hby d1_82) rfl rfl ?_
    show Steps p.tables e below (T19.setTop (mkF m 83 #[vR o0, vR o1, vJ z21_2, s_, vJ z30_2, s_, vD z73_2, s_, vI (1 : Int32)] [(.ref o0), (.int yh1), (.double z73_2)])) _
    refine XS.iload X19.here hx rfl (hb hby d1_83) rfl ?_
    show Steps p.tables e below (T19.setTop (mkF m 85 #[vR o0, vR o1, vJ z21_2, s_, vJ z30_2, s_, vD z73_2, s_, vI (1 : Int32)] [(.int (1 : Int32)), (.ref o0), (.int yh1), (.double z73_2)])) _
    refine X19.iaload hx (j := (1 : Int32)) (v := (.int yg1)) (by rw [e19]; exact Ar21.1) (State.isArrayOf_alike hZ.alike Ar21.2.1) Ar21.2.2 in21 (Has.at Ha21 in21 rfl) (g := (mkF m 85 #[vR o0, vR o1, vJ z21_2, s_, vJ z30_2, s_, vD z73_2, s_, vI (1 : Int32)] [(.int (1 : Int32)), (.ref o0), (.int yh1), (.double z73_2)])) rfl rfl (hb hby d1_85) _ ?_
    show Steps p.tables e below (T19.setTop (mkF m 86 #[vR o0, vR o1, vJ z21_2, s_, vJ z30_2, s_, vD z73_2, s_, vI (1 : Int32)] [(.int yg1), (.int yh1), (.double z73_2)])) _
    refine Jvm.OwnK.isub X19.here hx rfl (hb hby d1_86) rfl hz86_2 ?_
    show Steps p.tables e below (T19.setTop (mkF m 87 #[vR o0, vR o1, vJ z21_2, s_, vJ z30_2, s_, vD z73_2, s_, vI (1 : Int32)] [(.int z86_2), (.double z73_2)])) _
    refine XS.lloadN X19.here hx rfl (hb hby d1_87) rfl ?_
    show Steps p.tables e below (T19.setTop (mkF m 88 #[vR o0, vR o1, vJ z21_2, s_, vJ z30_2, s_, vD z73_2, s_, vI (1 : Int32)] [(.long z21_2), (.int z86_2), (.double z73_2)])) _
    refine XS.lload X19.here hx rfl (hb hby d1_88) rfl ?_
    show Steps p.tables e below (T19.setTop (mkF m 90 #[vR o0, vR o1, vJ z21_2, s_, vJ z30_2, s_, vD z73_2, s_, vI (1 : Int32)] [(.long z30_2), (.long z21_2), (.int z86_2), (.double z73_2)])) _
    refine Jvm.OwnK.lsub X19.here hx rfl (hb hby d1_90) rfl hz90_2 ?_
    show Steps p.tables e below (T19.setTop (mkF m 91 #[vR o0, vR o1, vJ z21_2, s_, vJ z30_2, s_, vD z73_2, s_, vI (1 : Int32)] [(.long z90_2), (.int z86_2), (.double z73_2)])) _
    refine XS.l2dS X19.here hx rfl (hb hby d1_91) rfl hz91_2 ?_
    show Steps p.tables e below (T19.setTop (mkF m 92 #[vR o0, vR o1, vJ z21_2, s_, vJ z30_2, s_, vD z73_2, s_, vI (1 : Int32)] [(.double z91_2), (.int z86_2), (.double z73_2)])) _
    refine XS.aloadN X19.here hx rfl (hb hby d1_92) rfl rfl ?_
    show Steps p.tables e below (T19.setTop (mkF m 93 #[vR o0, vR o1, vJ z21_2, s_, vJ z30_2, s_, vD z73_2, s_, vI (1 : Int32)] [(.ref o1), (.double z91_2), (.int z86_2), (.double z73_2)])) _
    refine XS.iload X19.here hx rfl (hb hby d1_93) rfl ?_
    show Steps p.tables e below (T19.setTop (mkF m 95 #[vR o0, vR o1, vJ z21_2, s_, vJ z30_2, s_, vD z73_2, s_, vI (1 : Int32)] [(.int (1 : Int32)), (.ref o1), (.double z91_2), (.int z86_2), (.double z73_2)])) _
    refine X19.iaload hx (j := (1 : Int32)) (v := (.int yh1)) (by rw [e19]; exact Ar22.1) (State.isArrayOf_alike hZ.alike Ar22.2.1) Ar22.2.2 in22 (Has.at Ha22 in22 rfl) (g := (mkF m 95 #[vR o0, vR o1, vJ z21_2, s_, vJ z30_2, s_, vD z73_2, s_, vI (1 : Int32)] [(.int (1 : Int32)), (.ref o1), (.double z91_2), (.int z86_2), (.double z73_2)])) rfl rfl (hb hby d1_95) _ ?_
    show Steps p.tables e below (T19.setTop (mkF m 96 #[vR o0, vR o1, vJ z21_2, s_, vJ z30_2, s_, vD z73_2, s_, vI (1 : Int32)] [(.int yh1), (.double z91_2), (.int z86_2), (.double z73_2)])) _
    refine XS.i2dS X19.here hx rfl (hb hby d1_96) rfl hz96_2 ?_
    show Steps p.tables e below (T19.setTop (mkF m 97 #[vR o0, vR o1, vJ z21_2, s_, vJ z30_2, s_, vD z73_2, s_, vI (1 : Int32)] [(.double z96_2), (.double z91_2), (.int z86_2), (.double z73_2)])) _
    refine Jvm.OwnK.dmul X19.here hx rfl (hb hby d1_97) rfl hz97_2 nn97_2 ?_
    show Steps p.tables e below (T19.setTop (mkF m 98 #[vR o0, vR o1, vJ z21_2, s_, vJ z30_2, s_, vD z73_2, s_, vI (1 : Int32)] [(.double z97_2), (.int z86_2), (.double z73_2)])) _
    refine XS.lloadN X19.here hx rfl (hb hby d1_98) rfl ?_
    show Steps p.tables e below (T19.setTop (mkF m 99 #[vR o0, vR o1, vJ z21_2, s_, vJ z30_2, s_, vD z73_2, s_, vI (1 : Int32)] [(.long z21_2), (.double z97_2), (.int z86_2), (.double z73_2)])) _
    refine XS.l2dS X19.here hx rfl (hb hby d1_99) rfl hz99_2 ?_
    show Steps p.tables e below (T19.setTop (mkF m 100 #[vR o0, vR o1, vJ z21_2, s_, vJ z30_2, s_, vD z73_2, s_, vI (1 : Int32)] [(.double z99_2), (.double z97_2), (.int z86_2), (.double z73_2)])) _
    refine Jvm.OwnK.ddiv X19.here hx rfl (hb hby d1_100) rfl hz100_2 nn100_2 ?_
    show Steps p.tables e below (T19.setTop (mkF m 101 #[vR o0, vR o1, vJ z21_2, s_, vJ z30_2, s_, vD z73_2, s_, vI (1 : Int32)] [(.double z100_2), (.int z86_2), (.double z73_2)])) _
    refine st23 _ ?_
    show Steps p.tables e below (T23.setTop (mkF m 104 #[vR o0, vR o1, vJ z21_2, s_, vJ z30_2, s_, vD z73_2, s_, vI (1 : Int32)] [(.double c101_2_rv), (.double z73_2)])) _
    refine Jvm.OwnK.dadd X23.here hx rfl (hb hby d1_104) rfl hz104_2 nn104_2 ?_
    show Steps p.tables e below (T23.setTop (mkF m 105 #[vR o0, vR o1, vJ z21_2, s_, vJ z30_2, s_, vD z73_2, s_, vI (1 : Int32)] [(.double z104_2)])) _
    refine XS.dstore X23.here hx rfl (hb hby d1_105) rfl (l' := #[vR o0, vR o1, vJ z21_2, s_, vJ z30_2, s_, vD z104_2, s_, vI (1 : Int32)]) rfl ?_
    show Steps p.tables e below (T23.setTop (mkF m 107 #[vR o0, vR o1, vJ z21_2, s_, vJ z30_2, s_, vD z104_2, s_, vI (1 : Int32)] [])) _
    refine Jvm.OwnK.iinc X23.here hx rfl (hb hby d1_107) rfl (l' := #[vR o0, vR o1, vJ z21_2, s_, vJ z30_2, s_, vD z104_2, s_, vI (2 : Int32)]) (v := (2 : Int32)) (by decide) rfl ?_
    show Steps p.tables e below (T23.setTop (mkF m 110 #[vR o0, vR o1, vJ z21_2, s_, vJ z30_2, s_, vD z104_2, s_, vI (2 : Int32)] [])) _
    refine XS.goto X23.here hx rfl (pc0 := 110) (pc' := 45) rfl (hb hby d1_110) (by decide) (by decide) ?_
    show Steps p.tables e below (T23.setTop (mkF m 45 #[vR o0, vR o1, vJ z21_2, s_, vJ z30_2, s_, vD z104_2, s_, vI (2 : Int32)] [])) _
    refine XS.iload X23.here hx rfl (hb hby d1_45) rfl ?_
    show Steps p.tables e below (T23.setTop (mkF m 47 #[vR o0, vR o1, vJ z21_2, s_, vJ z30_2, s_, vD z104_2, s_, vI (2 : Int32)] [(.int (2 : Int32))])) _
    refine XS.aloadN X23.here hx rfl (hb hby d1_47) rfl rfl ?_
    show Steps p.tables e below (T23.setTop (mkF m 48 #[vR o0, vR o1, vJ z21_2, s_, vJ z30_2, s_, vD z104_2, s_, vI (2 : Int32)] [(.ref o1), (.int (2 : Int32))])) _
    refine X23.arraylength hx (by rw [e23]; exact Ar24.1) (State.isArrayOf_alike hZ.alike Ar24.2.1) (g := (mkF m 48 #[vR o0, vR o1, vJ z21_2, s_, vJ z30_2, s_, vD z104_2, s_, vI (2 : Int32)] [(.ref o1), (.int (2 : Int32))])) rfl rfl (hb hby d1_48) _ ?_
    rw [len_of S24 Nn24]
    show Steps p.tables e below (T23.setTop (mkF m 49 #[vR o0, vR o1, vJ z21_2, s_, vJ z30_2, s_, vD z104_2, s_, vI (2 : Int32)] [(.int (2 : Int32)), (.int (2 : Int32))])) _
    refine XS.icmpYes X23.here hx rfl (pc0 := 49) (pc' := 113) rfl (hb hby d1_49) rfl (Jvm.Free.XT.ii_ge_t (by decide)) (by decide) (by decide) ?_
    show Steps p.tables e below (T23.setTop (mkF m 113 #[vR o0, vR o1, vJ z21_2, s_, vJ z30_2, s_, vD z104_2, s_, vI (2 : Int32)] [])) _
    refine XS.dload X23.here hx rfl (hb hby d1_113) rfl ?_
    exact k
  obtain ⟨fs, hr, hrun, hended, hW, hsame⟩ := X23.leave (v := some (.double z104_2)) (fun h => by rw [Bd.returns] at h; cases h)
  refine ⟨_, _, c25 _ ?_, hrun, hended, _, _, rfl, ?_, ⟨_, rfl⟩, hW, hsame.mono (by decide) (by decide)⟩
  · show Steps p.tables e below (T23.setTop (mkF m 115 #[vR o0, vR o1, vJ z21_2, s_, vJ z30_2, s_, vD z104_2, s_, vI (2 : Int32)] [(.double z104_2)])) _
    exact retOut X23 hx Bd.returns rfl (Or.inr (Or.inr (Or.inl ⟨rfl, rfl, _, rfl⟩))) (hb hby d1_115) hr
  · show Q1_2 Z o0 o1 k_o0 yg0 yg1 k_o1 yh0 yh1 z20 z21 z29 z30 z20_2 z21_2 z29_2 z30_2 z60 z65 z66 z68 z69 c70_z1 c70_z3 c70_z7 c70_z17 c70_z19 c70_rv z73 z86 z90 z91 z96 z97 z99 z100 c101_z1 c101_z3 c101_z7 c101_z17 c101_z19 c101_rv z104 z60_2 z65_2 z66_2 z68_2 z69_2 c70_2_z1 c70_2_z3 c70_2_z7 c70_2_z17 c70_2_z19 c70_2_rv z73_2 z86_2 z90_2 z91_2 z96_2 z97_2 z99_2 z100_2 c101_2_z1 c101_2_z3 c101_2_z7 c101_2_z17 c101_2_z19 c101_2_rv z104_2 h0 n0 _ T23.heap _
    rw [e23]
    exact ⟨rfl, N23, rfl⟩
def Q1_3 (Z : State) (o0 : Addr) (o1 : Addr) (k_o0 : ClassId) (yg0 : Int32) (yg1 : Int32) (yg2 : Int32) (k_o1 : ClassId) (yh0 : Int32) (yh1 : Int32) (yh2 : Int32) (z20 : Int64) (z21 : Int64) (z29 : Int64) (z30 : Int64) (z20_2 : Int64) (z21_2 : Int64) (z29_2 : Int64) (z30_2 : Int64) (z20_3 : Int64) (z21_3 : Int64) (z29_3 : Int64) (z30_3 : Int64) (z60 : UInt64) (z65 : UInt64) (z66 : UInt64) (z68 : UInt64) (z69 : UInt64) (c70_z1 : UInt64) (c70_z3 : UInt64) (c70_z7 : Int32) (c70_z17 : UInt64) (c70_z19 : UInt64) (c70_rv : UInt64) (z73 : UInt64) (z86 : Int32) (z90 : Int64) (z91 : UInt64) (z96 : UInt64) (z97 : UInt64) (z99 : UInt64) (z100 : UInt64) (c101_z1 : UInt64) (c101_z3 : UInt64) (c101_z7 : Int32) (c101_z17 : UInt64) (c101_z19 : UInt64) (c101_rv : UInt64) (z104 : UInt64) (z60_2 : UInt64) (z65_2 : UInt64) (z66_2 : UInt64) (z68_2 : UInt64) (z69_2 : UInt64) (c70_2_z1 : UInt64) (c70_2_z3 : UInt64) (c70_2_z7 : Int32) (c70_2_z17 : UInt64) (c70_2_z19 : UInt64) (c70_2_rv : UInt64) (z73_2 : UInt64) (z86_2 : Int32) (z90_2 : Int64) (z91_2 : UInt64) (z96_2 : UInt64) (z97_2 : UInt64) (z99_2 : UInt64) (z100_2 : UInt64) (c101_2_z1 : UInt64) (c101_2_z3 : UInt64) (c101_2_z7 : Int32) (c101_2_z17 : UInt64) (c101_2_z19 : UInt64) (c101_2_rv : UInt64) (z104_2 : UInt64) (z60_3 : UInt64) (z65_3 : UInt64) (z66_3 : UInt64) (z68_3 : UInt64) (z69_3 : UInt64) (c70_3_z1 : UInt64) (c70_3_z3 : UInt64) (c70_3_z7 : Int32) (c70_3_z17 : UInt64) (c70_3_z19 : UInt64) (c70_3_rv : UInt64) (z73_3 : UInt64) (z86_3 : Int32) (z90_3 : Int64) (z91_3 : UInt64) (z96_3 : UInt64) (z97_3 : UInt64) (z99_3 : UInt64) (z100_3 : UInt64) (c101_3_z1 : UInt64) (c101_3_z3 : UInt64) (c101_3_z7 : Int32) (c101_3_z17 : UInt64) (c101_3_z19 : UInt64) (c101_3_rv : UInt64) (z104_3 : UInt64) (h0 : Heap) (n0 : Nat) (v : Option Value) (h : Heap) (L : List Loc) : Prop := v = some (.double z104_3) ∧ Fr n0 L ∧ h = h0
set_option maxRecDepth 65536 in
set_option maxHeartbeats 40000000 in
theorem rm1_3 (l : Launch) (Z : State) (a0 : Array Value) (hw : ∀ d ∈ tables_1, d.before a0 Z = true) (ws : List Jvm.Cond) (o0 : Addr) (o1 : Addr) (k_o0 : ClassId) (yg0 : Int32) (yg1 : Int32) (yg2 : Int32) (k_o1 : ClassId) (yh0 : Int32) (yh1 : Int32) (yh2 : Int32) (z20 : Int64) (z21 : Int64) (z29 : Int64) (z30 : Int64) (z20_2 : Int64) (z21_2 : Int64) (z29_2 : Int64) (z30_2 : Int64) (z20_3 : Int64) (z21_3 : Int64) (z29_3 : Int64) (z30_3 : Int64) (z60 : UInt64) (z65 : UInt64) (z66 : UInt64) (z68 : UInt64) (z69 : UInt64) (c70_z1 : UInt64) (c70_z3 : UInt64) (c70_z7 : Int32) (c70_z17 : UInt64) (c70_z19 : UInt64) (c70_rv : UInt64) (z73 : UInt64) (z86 : Int32) (z90 : Int64) (z91 : UInt64) (z96 : UInt64) (z97 : UInt64) (z99 : UInt64) (z100 : UInt64) (c101_z1 : UInt64) (c101_z3 : UInt64) (c101_z7 : Int32) (c101_z17 : UInt64) (c101_z19 : UInt64) (c101_rv : UInt64) (z104 : UInt64) (z60_2 : UInt64) (z65_2 : UInt64) (z66_2 : UInt64) (z68_2 : UInt64) (z69_2 : UInt64) (c70_2_z1 : UInt64) (c70_2_z3 : UInt64) (c70_2_z7 : Int32) (c70_2_z17 : UInt64) (c70_2_z19 : UInt64) (c70_2_rv : UInt64) (z73_2 : UInt64) (z86_2 : Int32) (z90_2 : Int64) (z91_2 : UInt64) (z96_2 : UInt64) (z97_2 : UInt64) (z99_2 : UInt64) (z100_2 : UInt64) (c101_2_z1 : UInt64) (c101_2_z3 : UInt64) (c101_2_z7 : Int32) (c101_2_z17 : UInt64) (c101_2_z19 : UInt64) (c101_2_rv : UInt64) (z104_2 : UInt64) (z60_3 : UInt64) (z65_3 : UInt64) (z66_3 : UInt64) (z68_3 : UInt64) (z69_3 : UInt64) (c70_3_z1 : UInt64) (c70_3_z3 : UInt64) (c70_3_z7 : Int32) (c70_3_z17 : UInt64) (c70_3_z19 : UInt64) (c70_3_rv : UInt64) (z73_3 : UInt64) (z86_3 : Int32) (z90_3 : Int64) (z91_3 : UInt64) (z96_3 : UInt64) (z97_3 : UInt64) (z99_3 : UInt64) (z100_3 : UInt64) (c101_3_z1 : UInt64) (c101_3_z3 : UInt64) (c101_3_z7 : Int32) (c101_3_z17 : UInt64) (c101_3_z19 : UInt64) (c101_3_rv : UInt64) (z104_3 : UInt64) (h0 : Heap) (n0 : Nat) (Z0 : n0 ≤ h0.size) (V_o0 : Arv Z h0 o0 k_o0 .int (3 : Int32) [(.int yg0), (.int yg1), (.int yg2)] (.int (0 : Int32))) (V_o1 : Arv Z h0 o1 k_o1 .int (3 : Int32) [(.int yh0), (.int yh1), (.int yh2)] (.int (0 : Int32))) (hz20 : yh0.toInt64 = z20) (hz21 : (0 : Int64) + z20 = z21) (hz29 : yg0.toInt64 = z29) (hz30 : (0 : Int64) + z29 = z30) (hz20_2 : yh1.toInt64 = z20_2) (hz21_2 : z21 + z20_2 = z21_2) (hz29_2 : yg1.toInt64 = z29_2) (hz30_2 : z30 + z29_2 = z30_2) (hz20_3 : yh2.toInt64 = z20_3) (hz21_3 : z21_2 + z20_3 = z21_3) (hz29_3 : yg2.toInt64 = z29_3) (hz30_3 : z30_2 + z29_3 = z30_3) (hz60 : FP.l2d z30_3 = z60) (hz65 : FP.i2d yh0 = z65) (hz66 : FP.dmul z60 z65 = z66) (hz68 : FP.l2d z21_3 = z68) (hz69 : FP.ddiv z66 z68 = z69) (hc70_z1 : FP.i2d yg0 = c70_z1) (hc70_z3 : FP.dsub c70_z1 z69 = c70_z3) (hc70_z7 : cmpValue (FP.dcmp z69 FP.dconst0) .l = c70_z7) (hc70_z17 : FP.dmul c70_z3 c70_z3 = c70_z17) (hc70_z19 : FP.ddiv c70_z17 z69 = c70_z19) (hc70_rv : (if c70_z7 = (0 : Int32) then FP.dconst0 else c70_z19) = c70_rv) (hz73 : FP.dadd FP.dconst0 c70_rv = z73) (hz86 : yh0 - yg0 = z86) (hz90 : z21_3 - z30_3 = z90) (hz91 : FP.l2d z90 = z91) (hz96 : FP.i2d yh0 = z96) (hz97 : FP.dmul z91 z96 = z97) (hz99 : FP.l2d z21_3 = z99) (hz100 : FP.ddiv z97 z99 = z100) (hc101_z1 : FP.i2d z86 = c101_z1) (hc101_z3 : FP.dsub c101_z1 z100 = c101_z3) (hc101_z7 : cmpValue (FP.dcmp z100 FP.dconst0) .l = c101_z7) (hc101_z17 : FP.dmul c101_z3 c101_z3 = c101_z17) (hc101_z19 : FP.ddiv c101_z17 z100 = c101_z19) (hc101_rv : (if c101_z7 = (0 : Int32) then FP.dconst0 else c101_z19) = c101_rv) (hz104 : FP.dadd z73 c101_rv = z104) (hz60_2 : FP.l2d z30_3 = z60_2) (hz65_2 : FP.i2d yh1 = z65_2) (hz66_2 : FP.dmul z60_2 z65_2 = z66_2) (hz68_2 : FP.l2d z21_3 = z68_2) (hz69_2 : FP.ddiv z66_2 z68_2 = z69_2) (hc70_2_z1 : FP.i2d yg1 = c70_2_z1) (hc70_2_z3 : FP.dsub c70_2_z1 z69_2 = c70_2_z3) (hc70_2_z7 : cmpValue (FP.dcmp z69_2 FP.dconst0) .l = c70_2_z7) (hc70_2_z17 : FP.dmul c70_2_z3 c70_2_z3 = c70_2_z17) (hc70_2_z19 : FP.ddiv c70_2_z17 z69_2 = c70_2_z19) (hc70_2_rv : (if c70_2_z7 = (0 : Int32) then FP.dconst0 else c70_2_z19) = c70_2_rv) (hz73_2 : FP.dadd z104 c70_2_rv = z73_2) (hz86_2 : yh1 - yg1 = z86_2) (hz90_2 : z21_3 - z30_3 = z90_2) (hz91_2 : FP.l2d z90_2 = z91_2) (hz96_2 : FP.i2d yh1 = z96_2) (hz97_2 : FP.dmul z91_2 z96_2 = z97_2) (hz99_2 : FP.l2d z21_3 = z99_2) (hz100_2 : FP.ddiv z97_2 z99_2 = z100_2) (hc101_2_z1 : FP.i2d z86_2 = c101_2_z1) (hc101_2_z3 : FP.dsub c101_2_z1 z100_2 = c101_2_z3) (hc101_2_z7 : cmpValue (FP.dcmp z100_2 FP.dconst0) .l = c101_2_z7) (hc101_2_z17 : FP.dmul c101_2_z3 c101_2_z3 = c101_2_z17) (hc101_2_z19 : FP.ddiv c101_2_z17 z100_2 = c101_2_z19) (hc101_2_rv : (if c101_2_z7 = (0 : Int32) then FP.dconst0 else c101_2_z19) = c101_2_rv) (hz104_2 : FP.dadd z73_2 c101_2_rv = z104_2) (hz60_3 : FP.l2d z30_3 = z60_3) (hz65_3 : FP.i2d yh2 = z65_3) (hz66_3 : FP.dmul z60_3 z65_3 = z66_3) (hz68_3 : FP.l2d z21_3 = z68_3) (hz69_3 : FP.ddiv z66_3 z68_3 = z69_3) (hc70_3_z1 : FP.i2d yg2 = c70_3_z1) (hc70_3_z3 : FP.dsub c70_3_z1 z69_3 = c70_3_z3) (hc70_3_z7 : cmpValue (FP.dcmp z69_3 FP.dconst0) .l = c70_3_z7) (hc70_3_z17 : FP.dmul c70_3_z3 c70_3_z3 = c70_3_z17) (hc70_3_z19 : FP.ddiv c70_3_z17 z69_3 = c70_3_z19) (hc70_3_rv : (if c70_3_z7 = (0 : Int32) then FP.dconst0 else c70_3_z19) = c70_3_rv) (hz73_3 : FP.dadd z104_2 c70_3_rv = z73_3) (hz86_3 : yh2 - yg2 = z86_3) (hz90_3 : z21_3 - z30_3 = z90_3) (hz91_3 : FP.l2d z90_3 = z91_3) (hz96_3 : FP.i2d yh2 = z96_3) (hz97_3 : FP.dmul z91_3 z96_3 = z97_3) (hz99_3 : FP.l2d z21_3 = z99_3) (hz100_3 : FP.ddiv z97_3 z99_3 = z100_3) (hc101_3_z1 : FP.i2d z86_3 = c101_3_z1) (hc101_3_z3 : FP.dsub c101_3_z1 z100_3 = c101_3_z3) (hc101_3_z7 : cmpValue (FP.dcmp z100_3 FP.dconst0) .l = c101_3_z7) (hc101_3_z17 : FP.dmul c101_3_z3 c101_3_z3 = c101_3_z17) (hc101_3_z19 : FP.ddiv c101_3_z17 z100_3 = c101_3_z19) (hc101_3_rv : (if c101_3_z7 = (0 : Int32) then FP.dconst0 else c101_3_z19) = c101_3_rv) (hz104_3 : FP.dadd z73_3 c101_3_rv = z104_3) (nn66 : Jvm.Free.Fl.NoNaN64 z66) (nn69 : Jvm.Free.Fl.NoNaN64 z69) (c70_nn3 : Jvm.Free.Fl.NoNaN64 c70_z3) (c70_nn17 : (¬ c70_z7 = (0 : Int32)) → Jvm.Free.Fl.NoNaN64 c70_z17) (c70_nn19 : (¬ c70_z7 = (0 : Int32)) → Jvm.Free.Fl.NoNaN64 c70_z19) (nn73 : Jvm.Free.Fl.NoNaN64 z73) (nn97 : Jvm.Free.Fl.NoNaN64 z97) (nn100 : Jvm.Free.Fl.NoNaN64 z100) (c101_nn3 : Jvm.Free.Fl.NoNaN64 c101_z3) (c101_nn17 : (¬ c101_z7 = (0 : Int32)) → Jvm.Free.Fl.NoNaN64 c101_z17) (c101_nn19 : (¬ c101_z7 = (0 : Int32)) → Jvm.Free.Fl.NoNaN64 c101_z19) (nn104 : Jvm.Free.Fl.NoNaN64 z104) (nn66_2 : Jvm.Free.Fl.NoNaN64 z66_2) (nn69_2 : Jvm.Free.Fl.NoNaN64 z69_2) (c70_2_nn3 : Jvm.Free.Fl.NoNaN64 c70_2_z3) (c70_2_nn17 : (¬ c70_2_z7 = (0 : Int32)) → Jvm.Free.Fl.NoNaN64 c70_2_z17) (c70_2_nn19 : (¬ c70_2_z7 = (0 : Int32)) → Jvm.Free.Fl.NoNaN64 c70_2_z19) (nn73_2 : Jvm.Free.Fl.NoNaN64 z73_2) (nn97_2 : Jvm.Free.Fl.NoNaN64 z97_2) (nn100_2 : Jvm.Free.Fl.NoNaN64 z100_2) (c101_2_nn3 : Jvm.Free.Fl.NoNaN64 c101_2_z3) (c101_2_nn17 : (¬ c101_2_z7 = (0 : Int32)) → Jvm.Free.Fl.NoNaN64 c101_2_z17) (c101_2_nn19 : (¬ c101_2_z7 = (0 : Int32)) → Jvm.Free.Fl.NoNaN64 c101_2_z19) (nn104_2 : Jvm.Free.Fl.NoNaN64 z104_2) (nn66_3 : Jvm.Free.Fl.NoNaN64 z66_3) (nn69_3 : Jvm.Free.Fl.NoNaN64 z69_3) (c70_3_nn3 : Jvm.Free.Fl.NoNaN64 c70_3_z3) (c70_3_nn17 : (¬ c70_3_z7 = (0 : Int32)) → Jvm.Free.Fl.NoNaN64 c70_3_z17) (c70_3_nn19 : (¬ c70_3_z7 = (0 : Int32)) → Jvm.Free.Fl.NoNaN64 c70_3_z19) (nn73_3 : Jvm.Free.Fl.NoNaN64 z73_3) (nn97_3 : Jvm.Free.Fl.NoNaN64 z97_3) (nn100_3 : Jvm.Free.Fl.NoNaN64 z100_3) (c101_3_nn3 : Jvm.Free.Fl.NoNaN64 c101_3_z3) (c101_3_nn17 : (¬ c101_3_z7 = (0 : Int32)) → Jvm.Free.Fl.NoNaN64 c101_3_z17) (c101_3_nn19 : (¬ c101_3_z7 = (0 : Int32)) → Jvm.Free.Fl.NoNaN64 c101_3_z19) (nn104_3 : Jvm.Free.Fl.NoNaN64 z104_3) :
    MetFree l (⟨"com/example/tidy_ranker/tidyranker/classification/ChiSquare", "score", "([I[I)D"⟩ : MethodName) (head1 (Jvm.Cond.code (⟨"com/example/tidy_ranker/tidyranker/classification/ChiSquare", "score", "([I[I)D"⟩ : MethodName) prog_19_method_2_code 9 (some .double) :: ws) ({ frames := 1, cells := 0, slots := 0, locals := 18 } : Room)) (fun a U => a = #[(.ref o0), (.ref o1)] ∧ Z.Warmed39 U.vm ∧ U.heap = h0) (fun _ _ _ _ _ => True) (fun _ U o U' => ∃ v L, o = .returned v ∧ Q1_3 Z o0 o1 k_o0 yg0 yg1 yg2 k_o1 yh0 yh1 yh2 z20 z21 z29 z30 z20_2 z21_2 z29_2 z30_2 z20_3 z21_3 z29_3 z30_3 z60 z65 z66 z68 z69 c70_z1 c70_z3 c70_z7 c70_z17 c70_z19 c70_rv z73 z86 z90 z91 z96 z97 z99 z100 c101_z1 c101_z3 c101_z7 c101_z17 c101_z19 c101_rv z104 z60_2 z65_2 z66_2 z68_2 z69_2 c70_2_z1 c70_2_z3 c70_2_z7 c70_2_z17 c70_2_z19 c70_2_rv z73_2 z86_2 z90_2 z91_2 z96_2 z97_2 z99_2 z100_2 c101_2_z1 c101_2_z3 c101_2_z7 c101_2_z17 c101_2_z19 c101_2_rv z104_2 z60_3 z65_3 z66_3 z68_3 z69_3 c70_3_z1 c70_3_z3 c70_3_z7 c70_3_z17 c70_3_z19 c70_3_rv z73_3 z86_3 z90_3 z91_3 z96_3 z97_3 z99_3 z100_3 c101_3_z1 c101_3_z3 c101_3_z7 c101_3_z17 c101_3_z19 c101_3_rv z104_3 h0 n0 v U'.heap L ∧ FrameEnd U o U' L ({ frames := 1, cells := 0, slots := 0, locals := 18 } : Room).cells ({ frames := 1, cells := 0, slots := 0, locals := 18 } : Room).slots) := by
  refine MetFree.of_bodySF (plainFor_of_name pn_0) hisR ?_
  intro p e s m args below meth c s₁ Bd hml0 hP hK
  obtain ⟨rfl, hZ, hh⟩ := hP
  have hx := Bd.exec
  have hby := Bd.bytes
  have hml : c.maxLocals = 9 := hml0
  have hown : s.vm.findClass "com/example/tidy_ranker/tidyranker/classification/ChiSquare" = some m.cls := findClass_of_methodNamed Bd.named
  have hnm := (name_of_methodNamed Bd.named Bd.method).1
  have X0 : Stand p l e ({ frames := 1, cells := 0, slots := 0, locals := 18 } : Room) s m #[(.ref o0), (.ref o1)] below meth c s₁ [] 0 0 := Stand.of_body Bd
  have e0 : s₁.heap = h0 := by rw [← hh, Bd.state]; rfl
  have N0 := Fr.nil n0
  have c0 : ∀ t, Steps p.tables e below (s₁.setTop (mkF m 0 #[vR o0, vR o1, u_, u_, u_, u_, u_, u_, u_] [])) t → Steps p.tables e below (s₁.setTop (entryFrame m #[(.ref o0), (.ref o1)] 9)) t := fun t k => castTop (ef_rm1_3 m o0 o1) k
  obtain ⟨cl1, Ar1, -, S1, Nn1, -, -⟩ := id V_o1
  obtain ⟨cl2, Ar2, -, S2, -, Ha2, -⟩ := id V_o1
  have in2 : ¬ ((0 : Int32) < 0 ∨ cl2.slots.size ≤ ((0 : Int32)).toNatClampNeg) := inb_of S2 ⟨by decide, by decide⟩
  obtain ⟨cl3, Ar3, -, S3, -, Ha3, -⟩ := id V_o0
  have in3 : ¬ ((0 : Int32) < 0 ∨ cl3.slots.size ≤ ((0 : Int32)).toNatClampNeg) := inb_of S3 ⟨by decide, by decide⟩
  obtain ⟨cl4, Ar4, -, S4, Nn4, -, -⟩ := id V_o1
  obtain ⟨cl5, Ar5, -, S5, -, Ha5, -⟩ := id V_o1
  have in5 : ¬ ((1 : Int32) < 0 ∨ cl5.slots.size ≤ ((1 : Int32)).toNatClampNeg) := inb_of S5 ⟨by decide, by decide⟩
  obtain ⟨cl6, Ar6, -, S6, -, Ha6, -⟩ := id V_o0
  have in6 : ¬ ((1 : Int32) < 0 ∨ cl6.slots.size ≤ ((1 : Int32)).toNatClampNeg) := inb_of S6 ⟨by decide, by decide⟩
  obtain ⟨cl7, Ar7, -, S7, Nn7, -, -⟩ := id V_o1
  obtain ⟨cl8, Ar8, -, S8, -, Ha8, -⟩ := id V_o1
  have in8 : ¬ ((2 : Int32) < 0 ∨ cl8.slots.size ≤ ((2 : Int32)).toNatClampNeg) := inb_of S8 ⟨by decide, by decide⟩
  obtain ⟨cl9, Ar9, -, S9, -, Ha9, -⟩ := id V_o0
  have in9 : ¬ ((2 : Int32) < 0 ∨ cl9.slots.size ≤ ((2 : Int32)).toNatClampNeg) := inb_of S9 ⟨by decide, by decide⟩
  obtain ⟨cl10, Ar10, -, S10, Nn10, -, -⟩ := id V_o1
  obtain ⟨cl11, Ar11, -, S11, Nn11, -, -⟩ := id V_o1
  obtain ⟨cl12, Ar12, -, S12, -, Ha12, -⟩ := id V_o0
  have in12 : ¬ ((0 : Int32) < 0 ∨ cl12.slots.size ≤ ((0 : Int32)).toNatClampNeg) := inb_of S12 ⟨by decide, by decide⟩
  obtain ⟨cl13, Ar13, -, S13, -, Ha13, -⟩ := id V_o1
  have in13 : ¬ ((0 : Int32) < 0 ∨ cl13.slots.size ≤ ((0 : Int32)).toNatClampNeg) := inb_of S13 ⟨by decide, by decide⟩
  obtain ⟨_, _, ⟨T14, L14, k14, n14⟩, -, X14, ⟨Lc14, hQ14, ql14, qy14, qz14⟩, st14⟩ := Jvm.LawKit.callS X0 hx (y := (⟨"com/example/tidy_ranker/tidyranker/classification/ChiSquare", "cell", "(ID)D"⟩ : MethodName)) hown (mvT hZ (hw _ (List.mem_of_getElem? (i := 6) rfl))) (mvT hZ (hw _ (List.mem_of_getElem? (i := 7) rfl))) (mvT hZ (hw _ (List.mem_of_getElem? (i := 4) rfl))) (mvT hZ (hw _ (List.mem_of_getElem? (i := 8) rfl))) (by decide) (backOf (W := 2) (rm2 l Z a0 hw [] yg0 z69 c70_z1 c70_z3 c70_z7 c70_z17 c70_z19 c70_rv h0 n0 Z0 hc70_z1 hc70_z3 hc70_z7 hc70_z17 hc70_z19 hc70_rv c70_nn3 c70_nn17 c70_nn19) hZ (hw _ (List.mem_of_getElem? (i := 8) rfl)) (hw _ (List.mem_of_getElem? (i := 4) rfl)) (by decide) (by decide)) (g := (mkF m 70 #[vR o0, vR o1, vJ z21_3, s_, vJ z30_3, s_, vD FP.dconst0, s_, vI (0 : Int32)] [(.double z69), (.int yg0), (.double FP.dconst0)])) rfl (by rw [hml]; rfl) (argsL := [(.int yg0), (.double z69)]) (rest := [(.double FP.dconst0)]) (lenOf pd_0 rfl) rfl (by show 2 * 0 + _ ≤ _; exact Nat.le_of_eq rfl) (hb hby d1_70) (fun _ _ => ⟨rfl, e0, (by decide : 0 + 0 ≤ _), (by decide : 0 + 0 ≤ _)⟩)
  dsimp only [Pt.U, Pt.locs, Pt.cells, Pt.slots] at X14 ql14 qy14 qz14 st14 hQ14
  subst ql14 qy14 qz14
  obtain ⟨rfl, N14q, e14⟩ := hQ14
  have N14 := Fr.app N0 N14q
  obtain ⟨cl15, Ar15, -, S15, -, Ha15, -⟩ := id V_o1
  have in15 : ¬ ((0 : Int32) < 0 ∨ cl15.slots.size ≤ ((0 : Int32)).toNatClampNeg) := inb_of S15 ⟨by decide, by decide⟩
  obtain ⟨cl16, Ar16, -, S16, -, Ha16, -⟩ := id V_o0
  have in16 : ¬ ((0 : Int32) < 0 ∨ cl16.slots.size ≤ ((0 : Int32)).toNatClampNeg) := inb_of S16 ⟨by decide, by decide⟩
  obtain ⟨cl17, Ar17, -, S17, -, Ha17, -⟩ := id V_o1
  have in17 : ¬ ((0 : Int32) < 0 ∨ cl17.slots.size ≤ ((0 : Int32)).toNatClampNeg) := inb_of S17 ⟨by decide, by decide⟩
  obtain ⟨_, _, ⟨T18, L18, k18, n18⟩, -, X18, ⟨Lc18, hQ18, ql18, qy18, qz18⟩, st18⟩ := Jvm.LawKit.callS X14 hx (y := (⟨"com/example/tidy_ranker/tidyranker/classification/ChiSquare", "cell", "(ID)D"⟩ : MethodName)) hown (mvT hZ (hw _ (List.mem_of_getElem? (i := 6) rfl))) (mvT hZ (hw _ (List.mem_of_getElem? (i := 7) rfl))) (mvT hZ (hw _ (List.mem_of_getElem? (i := 4) rfl))) (mvT hZ (hw _ (List.mem_of_getElem? (i := 8) rfl))) (by decide) (backOf (W := 2) (rm2 l Z a0 hw [] z86 z100 c101_z1 c101_z3 c101_z7 c101_z17 c101_z19 c101_rv h0 n0 Z0 hc101_z1 hc101_z3 hc101_z7 hc101_z17 hc101_z19 hc101_rv c101_nn3 c101_nn17 c101_nn19) hZ (hw _ (List.mem_of_getElem? (i := 8) rfl)) (hw _ (List.mem_of_getElem? (i := 4) rfl)) (by decide) (by decide)) (g := (mkF m 101 #[vR o0, vR o1, vJ z21_3, s_, vJ z30_3, s_, vD z73, s_, vI (0 : Int32)] [(.double z100), (.int z86), (.double z73)])) rfl (by rw [hml]; rfl) (argsL := [(.int z86), (.double z100)]) (rest := [(.double z73)]) (lenOf pd_0 rfl) rfl (by show 2 * 0 + _ ≤ _; exact Nat.le_of_eq rfl) (hb hby d1_101) (fun _ _ => ⟨rfl, e14, (by decide : 0 + 0 ≤ _), (by decide : 0 + 0 ≤ _)⟩)
  dsimp only [Pt.U, Pt.locs, Pt.cells, Pt.slots] at X18 ql18 qy18 qz18 st18 hQ18
  subst ql18 qy18 qz18
  obtain ⟨rfl, N18q, e18⟩ := hQ18
  have N18 := Fr.app N14 N18q
  obtain ⟨cl19, Ar19, -, S19, Nn19, -, -⟩ := id V_o1
  obtain ⟨cl20, Ar20, -, S20, -, Ha20, -⟩ := id V_o0
  have in20 : ¬ ((1 : Int32) < 0 ∨ cl20.slots.size ≤ ((1 : Int32)).toNatClampNeg) := inb_of S20 ⟨by decide, by decide⟩
  obtain ⟨cl21, Ar21, -, S21, -, Ha21, -⟩ := id V_o1
  have in21 : ¬ ((1 : Int32) < 0 ∨ cl21.slots.size ≤ ((1 : Int32)).toNatClampNeg) := inb_of S21 ⟨by decide, by decide⟩
  obtain ⟨_, _, ⟨T22, L22, k22, n22⟩, -, X22, ⟨Lc22, hQ22, ql22, qy22, qz22⟩, st22⟩ := Jvm.LawKit.callS X18 hx (y := (⟨"com/example/tidy_ranker/tidyranker/classification/ChiSquare", "cell", "(ID)D"⟩ : MethodName)) hown (mvT hZ (hw _ (List.mem_of_getElem? (i := 6) rfl))) (mvT hZ (hw _ (List.mem_of_getElem? (i := 7) rfl))) (mvT hZ (hw _ (List.mem_of_getElem? (i := 4) rfl))) (mvT hZ (hw _ (List.mem_of_getElem? (i := 8) rfl))) (by decide) (backOf (W := 2) (rm2 l Z a0 hw [] yg1 z69_2 c70_2_z1 c70_2_z3 c70_2_z7 c70_2_z17 c70_2_z19 c70_2_rv h0 n0 Z0 hc70_2_z1 hc70_2_z3 hc70_2_z7 hc70_2_z17 hc70_2_z19 hc70_2_rv c70_2_nn3 c70_2_nn17 c70_2_nn19) hZ (hw _ (List.mem_of_getElem? (i := 8) rfl)) (hw _ (List.mem_of_getElem? (i := 4) rfl)) (by decide) (by decide)) (g := (mkF m 70 #[vR o0, vR o1, vJ z21_3, s_, vJ z30_3, s_, vD z104, s_, vI (1 : Int32)] [(.double z69_2), (.int yg1), (.double z104)])) rfl (by rw [hml]; rfl) (argsL := [(.int yg1), (.double z69_2)]) (rest := [(.double z104)]) (lenOf pd_0 rfl) rfl (by show 2 * 0 + _ ≤ _; exact Nat.le_of_eq rfl) (hb hby d1_70) (fun _ _ => ⟨rfl, e18, (by decide : 0 + 0 ≤ _), (by decide : 0 + 0 ≤ _)⟩)
  dsimp only [Pt.U, Pt.locs, Pt.cells, Pt.slots] at X22 ql22 qy22 qz22 st22 hQ22
  subst ql22 qy22 qz22
  obtain ⟨rfl, N22q, e22⟩ := hQ22
  have N22 := Fr.app N18 N22q
  obtain ⟨cl23, Ar23, -, S23, -, Ha23, -⟩ := id V_o1
  have in23 : ¬ ((1 : Int32) < 0 ∨ cl23.slots.size ≤ ((1 : Int32)).toNatClampNeg) := inb_of S23 ⟨by decide, by decide⟩
  obtain ⟨cl24, Ar24, -, S24, -, Ha24, -⟩ := id V_o0
  have in24 : ¬ ((1 : Int32) < 0 ∨ cl24.slots.size ≤ ((1 : Int32)).toNatClampNeg) := inb_of S24 ⟨by decide, by decide⟩
  obtain ⟨cl25, Ar25, -, S25, -, Ha25, -⟩ := id V_o1
  have in25 : ¬ ((1 : Int32) < 0 ∨ cl25.slots.size ≤ ((1 : Int32)).toNatClampNeg) := inb_of S25 ⟨by decide, by decide⟩
  obtain ⟨_, _, ⟨T26, L26, k26, n26⟩, -, X26, ⟨Lc26, hQ26, ql26, qy26, qz26⟩, st26⟩ := Jvm.LawKit.callS X22 hx (y := (⟨"com/example/tidy_ranker/tidyranker/classification/ChiSquare", "cell", "(ID)D"⟩ : MethodName)) hown (mvT hZ (hw _ (List.mem_of_getElem? (i := 6) rfl))) (mvT hZ (hw _ (List.mem_of_getElem? (i := 7) rfl))) (mvT hZ (hw _ (List.mem_of_getElem? (i := 4) rfl))) (mvT hZ (hw _ (List.mem_of_getElem? (i := 8) rfl))) (by decide) (backOf (W := 2) (rm2 l Z a0 hw [] z86_2 z100_2 c101_2_z1 c101_2_z3 c101_2_z7 c101_2_z17 c101_2_z19 c101_2_rv h0 n0 Z0 hc101_2_z1 hc101_2_z3 hc101_2_z7 hc101_2_z17 hc101_2_z19 hc101_2_rv c101_2_nn3 c101_2_nn17 c101_2_nn19) hZ (hw _ (List.mem_of_getElem? (i := 8) rfl)) (hw _ (List.mem_of_getElem? (i := 4) rfl)) (by decide) (by decide)) (g := (mkF m 101 #[vR o0, vR o1, vJ z21_3, s_, vJ z30_3, s_, vD z73_2, s_, vI (1 : Int32)] [(.double z100_2), (.int z86_2), (.double z73_2)])) rfl (by rw [hml]; rfl) (argsL := [(.int z86_2), (.double z100_2)]) (rest := [(.double z73_2)]) (lenOf pd_0 rfl) rfl (by show 2 * 0 + _ ≤ _; exact Nat.le_of_eq rfl) (hb hby d1_101) (fun _ _ => ⟨rfl, e22, (by decide : 0 + 0 ≤ _), (by decide : 0 + 0 ≤ _)⟩)
  dsimp only [Pt.U, Pt.locs, Pt.cells, Pt.slots] at X26 ql26 qy26 qz26 st26 hQ26
  subst ql26 qy26 qz26
  obtain ⟨rfl, N26q, e26⟩ := hQ26
  have N26 := Fr.app N22 N26q
  obtain ⟨cl27, Ar27, -, S27, Nn27, -, -⟩ := id V_o1
  obtain ⟨cl28, Ar28, -, S28, -, Ha28, -⟩ := id V_o0
  have in28 : ¬ ((2 : Int32) < 0 ∨ cl28.slots.size ≤ ((2 : Int32)).toNatClampNeg) := inb_of S28 ⟨by decide, by decide⟩
  obtain ⟨cl29, Ar29, -, S29, -, Ha29, -⟩ := id V_o1
  have in29 : ¬ ((2 : Int32) < 0 ∨ cl29.slots.size ≤ ((2 : Int32)).toNatClampNeg) := inb_of S29 ⟨by decide, by decide⟩
  obtain ⟨_, _, ⟨T30, L30, k30, n30⟩, -, X30, ⟨Lc30, hQ30, ql30, qy30, qz30⟩, st30⟩ := Jvm.LawKit.callS X26 hx (y := (⟨"com/example/tidy_ranker/tidyranker/classification/ChiSquare", "cell", "(ID)D"⟩ : MethodName)) hown (mvT hZ (hw _ (List.mem_of_getElem? (i := 6) rfl))) (mvT hZ (hw _ (List.mem_of_getElem? (i := 7) rfl))) (mvT hZ (hw _ (List.mem_of_getElem? (i := 4) rfl))) (mvT hZ (hw _ (List.mem_of_getElem? (i := 8) rfl))) (by decide) (backOf (W := 2) (rm2 l Z a0 hw [] yg2 z69_3 c70_3_z1 c70_3_z3 c70_3_z7 c70_3_z17 c70_3_z19 c70_3_rv h0 n0 Z0 hc70_3_z1 hc70_3_z3 hc70_3_z7 hc70_3_z17 hc70_3_z19 hc70_3_rv c70_3_nn3 c70_3_nn17 c70_3_nn19) hZ (hw _ (List.mem_of_getElem? (i := 8) rfl)) (hw _ (List.mem_of_getElem? (i := 4) rfl)) (by decide) (by decide)) (g := (mkF m 70 #[vR o0, vR o1, vJ z21_3, s_, vJ z30_3, s_, vD z104_2, s_, vI (2 : Int32)] [(.double z69_3), (.int yg2), (.double z104_2)])) rfl (by rw [hml]; rfl) (argsL := [(.int yg2), (.double z69_3)]) (rest := [(.double z104_2)]) (lenOf pd_0 rfl) rfl (by show 2 * 0 + _ ≤ _; exact Nat.le_of_eq rfl) (hb hby d1_70) (fun _ _ => ⟨rfl, e26, (by decide : 0 + 0 ≤ _), (by decide : 0 + 0 ≤ _)⟩)
  dsimp only [Pt.U, Pt.locs, Pt.cells, Pt.slots] at X30 ql30 qy30 qz30 st30 hQ30
  subst ql30 qy30 qz30
  obtain ⟨rfl, N30q, e30⟩ := hQ30
  have N30 := Fr.app N26 N30q
  obtain ⟨cl31, Ar31, -, S31, -, Ha31, -⟩ := id V_o1
  have in31 : ¬ ((2 : Int32) < 0 ∨ cl31.slots.size ≤ ((2 : Int32)).toNatClampNeg) := inb_of S31 ⟨by decide, by decide⟩
  obtain ⟨cl32, Ar32, -, S32, -, Ha32, -⟩ := id V_o0
  have in32 : ¬ ((2 : Int32) < 0 ∨ cl32.slots.size ≤ ((2 : Int32)).toNatClampNeg) := inb_of S32 ⟨by decide, by decide⟩
  obtain ⟨cl33, Ar33, -, S33, -, Ha33, -⟩ := id V_o1
  have in33 : ¬ ((2 : Int32) < 0 ∨ cl33.slots.size ≤ ((2 : Int32)).toNatClampNeg) := inb_of S33 ⟨by decide, by decide⟩
  obtain ⟨_, _, ⟨T34, L34, k34, n34⟩, -, X34, ⟨Lc34, hQ34, ql34, qy34, qz34⟩, st34⟩ := Jvm.LawKit.callS X30 hx (y := (⟨"com/example/tidy_ranker/tidyranker/classification/ChiSquare", "cell", "(ID)D"⟩ : MethodName)) hown (mvT hZ (hw _ (List.mem_of_getElem? (i := 6) rfl))) (mvT hZ (hw _ (List.mem_of_getElem? (i := 7) rfl))) (mvT hZ (hw _ (List.mem_of_getElem? (i := 4) rfl))) (mvT hZ (hw _ (List.mem_of_getElem? (i := 8) rfl))) (by decide) (backOf (W := 2) (rm2 l Z a0 hw [] z86_3 z100_3 c101_3_z1 c101_3_z3 c101_3_z7 c101_3_z17 c101_3_z19 c101_3_rv h0 n0 Z0 hc101_3_z1 hc101_3_z3 hc101_3_z7 hc101_3_z17 hc101_3_z19 hc101_3_rv c101_3_nn3 c101_3_nn17 c101_3_nn19) hZ (hw _ (List.mem_of_getElem? (i := 8) rfl)) (hw _ (List.mem_of_getElem? (i := 4) rfl)) (by decide) (by decide)) (g := (mkF m 101 #[vR o0, vR o1, vJ z21_3, s_, vJ z30_3, s_, vD z73_3, s_, vI (2 : Int32)] [(.double z100_3), (.int z86_3), (.double z73_3)])) rfl (by rw [hml]; rfl) (argsL := [(.int z86_3), (.double z100_3)]) (rest := [(.double z73_3)]) (lenOf pd_0 rfl) rfl (by show 2 * 0 + _ ≤ _; exact Nat.le_of_eq rfl) (hb hby d1_101) (fun _ _ => ⟨rfl, e30, (by decide : 0 + 0 ≤ _), (by decide : 0 + 0 ≤ _)⟩)
  dsimp only [Pt.U, Pt.locs, Pt.cells, Pt.slots] at X34 ql34 qy34 qz34 st34 hQ34
  subst ql34 qy34 qz34
  obtain ⟨rfl, N34q, e34⟩ := hQ34
  have N34 := Fr.app N30 N34q
  obtain ⟨cl35, Ar35, -, S35, Nn35, -, -⟩ := id V_o1
  have c36 : ∀ t, Steps p.tables e below (T34.setTop (mkF m 115 #[vR o0, vR o1, vJ z21_3, s_, vJ z30_3, s_, vD z104_3, s_, vI (3 : Int32)] [(.double z104_3)])) t → Steps p.tables e below (s₁.setTop (entryFrame m #[(.ref o0), (.ref o1)] 9)) t := by
    intro t k
    refine c0 t ?_
    show Steps p.tables e below (s₁.setTop (mkF m 0 #[vR o0, vR o1, u_, u_, u_, u_, u_, u_, u_] [])) _
    refine XS.lconst X0.here hx rfl (hb hby d1_0) ?_
    show Steps p.tables e below (s₁.setTop (mkF m 1 #[vR o0, vR o1, u_, u_, u_, u_, u_, u_, u_] [(.long (0 : Int64))])) _
    refine XS.lstoreN X0.here hx rfl (hb hby d1_1) rfl (l' := #[vR o0, vR o1, vJ (0 : Int64), s_, u_, u_, u_, u_, u_]) rfl ?_
    show Steps p.tables e below (s₁.setTop (mkF m 2 #[vR o0, vR o1, vJ (0 : Int64), s_, u_, u_, u_, u_, u_] [])) _
    refine XS.lconst X0.here hx rfl (hb hby d1_2) ?_
    show Steps p.tables e below (s₁.setTop (mkF m 3 #[vR o0, vR o1, vJ (0 : Int64), s_, u_, u_, u_, u_, u_] [(.long (0 : Int64))])) _
    refine XS.lstore X0.here hx rfl (hb hby d1_3) rfl (l' := #[vR o0, vR o1, vJ (0 : Int64), s_, vJ (0 : Int64), s_, u_, u_, u_]) rfl ?_
    show Steps p.tables e below (s₁.setTop (mkF m 5 #[vR o0, vR o1, vJ (0 : Int64), s_, vJ (0 : Int64), s_, u_, u_, u_] [])) _
    refine XS.iconst X0.here hx rfl (hb hby d1_5) ?_
    show Steps p.tables e below (s₁.setTop (mkF m 6 #[vR o0, vR o1, vJ (0 : Int64), s_, vJ (0 : Int64), s_, u_, u_, u_] [(.int (0 : Int32))])) _
    refine XS.istore X0.here hx rfl (hb hby d1_6) rfl (l' := #[vR o0, vR o1, vJ (0 : Int64), s_, vJ (0 : Int64), s_, vI (0 : Int32), u_, u_]) rfl ?_
    show Steps p.tables e below (s₁.setTop (mkF m 8 #[vR o0, vR o1, vJ (0 : Int64), s_, vJ (0 : Int64), s_, vI (0 : Int32), u_, u_] [])) _
    refine XS.iload X0.here hx rfl (hb hby d1_8) rfl ?_
    show Steps p.tables e below (s₁.setTop (mkF m 10 #[vR o0, vR o1, vJ (0 : Int64), s_, vJ (0 : Int64), s_, vI (0 : Int32), u_, u_] [(.int (0 : Int32))])) _
    refine XS.aloadN X0.here hx rfl (hb hby d1_10) rfl rfl ?_
    show Steps p.tables e below (s₁.setTop (mkF m 11 #[vR o0, vR o1, vJ (0 : Int64), s_, vJ (0 : Int64), s_, vI (0 : Int32), u_, u_] [(.ref o1), (.int (0 : Int32))])) _
    refine X0.arraylength hx (by rw [e0]; exact Ar1.1) (State.isArrayOf_alike hZ.alike Ar1.2.1) (g := (mkF m 11 #[vR o0, vR o1, vJ (0 : Int64), s_, vJ (0 : Int64), s_, vI (0 : Int32), u_, u_] [(.ref o1), (.int (0 : Int32))])) rfl rfl (hb hby d1_11) _ ?_
    rw [len_of S1 Nn1]
    show Steps p.tables e below (s₁.setTop (mkF m 12 #[vR o0, vR o1, vJ (0 : Int64), s_, vJ (0 : Int64), s_, vI (0 : Int32), u_, u_] [(.int (3 : Int32)), (.int (0 : Int32))])) _
    refine XS.icmpNo X0.here hx rfl (hb hby d1_12) rfl (Jvm.Free.XT.ii_ge_f (by decide)) ?_
    show Steps p.tables e below (s₁.setTop (mkF m 15 #[vR o0, vR o1, vJ (0 : Int64), s_, vJ (0 : Int64), s_, vI (0 : Int32), u_, u_] [])) _
    refine XS.lloadN X0.here hx rfl (hb hby d1_15) rfl ?_
    show Steps p.tables e below (s₁.setTop (mkF m 16 #[vR o0, vR o1, vJ (0 : Int64), s_, vJ (0 : Int64), s_, vI (0 : Int32), u_, u_] [(.long (0 : Int64))])) _
    refine XS.aloadN X0.here hx rfl (hb hby d1_16) rfl rfl ?_
    show Steps p.tables e below (s₁.setTop (mkF m 17 #[vR o0, vR o1, vJ (0 : Int64), s_, vJ (0 : Int64), s_, vI (0 : Int32), u_, u_] [(.ref o1), (.long (0 : Int64))])) _
    refine XS.iload X0.here hx rfl (hb hby d1_17) rfl ?_
    show Steps p.tables e below (s₁.setTop (mkF m 19 #[vR o0, vR o1, vJ (0 : Int64), s_, vJ (0 : Int64), s_, vI (0 : Int32), u_, u_] [(.int (0 : Int32)), (.ref o1), (.long (0 : Int64))])) _
    refine X0.iaload hx (j := (0 : Int32)) (v := (.int yh0)) (by rw [e0]; exact Ar2.1) (State.isArrayOf_alike hZ.alike Ar2.2.1) Ar2.2.2 in2 (Has.at Ha2 in2 rfl) (g := (mkF m 19 #[vR o0, vR o1, vJ (0 : Int64), s_, vJ (0 : Int64), s_, vI (0 : Int32), u_, u_] [(.int (0 : Int32)), (.ref o1), (.long (0 : Int64))])) rfl rfl (hb hby d1_19) _ ?_
    show Steps p.tables e below (s₁.setTop (mkF m 20 #[vR o0, vR o1, vJ (0 : Int64), s_, vJ (0 : Int64), s_, vI (0 : Int32), u_, u_] [(.int yh0), (.long (0 : Int64))])) _
    refine Jvm.OwnK.i2l X0.here hx rfl (hb hby d1_20) rfl hz20 ?_
    show Steps p.tables e below (s₁.setTop (mkF m 21 #[vR o0, vR o1, vJ (0 : Int64), s_, vJ (0 : Int64), s_, vI (0 : Int32), u_, u_] [(.long z20), (.long (0 : Int64))])) _
    refine Jvm.OwnK.ladd X0.here hx rfl (hb hby d1_21) rfl hz21 ?_
    show Steps p.tables e below (s₁.setTop (mkF m 22 #[vR o0, vR o1, vJ (0 : Int64), s_, vJ (0 : Int64), s_, vI (0 : Int32), u_, u_] [(.long z21)])) _
    refine XS.lstoreN X0.here hx rfl (hb hby d1_22) rfl (l' := #[vR o0, vR o1, vJ z21, s_, vJ (0 : Int64), s_, vI (0 : Int32), u_, u_]) rfl ?_
    show Steps p.tables e below (s₁.setTop (mkF m 23 #[vR o0, vR o1, vJ z21, s_, vJ (0 : Int64), s_, vI (0 : Int32), u_, u_] [])) _
    refine XS.lload X0.here hx rfl (hb hby d1_23) rfl ?_
    show Steps p.tables e below (s₁.setTop (mkF m 25 #[vR o0, vR o1, vJ z21, s_, vJ (0 : Int64), s_, vI (0 : Int32), u_, u_] [(.long (0 : Int64))])) _
    refine XS.aloadN X0.here hx rfl (hb hby d1_25) rfl rfl ?_
    show Steps p.tables e below (s₁.setTop (mkF m 26 #[vR o0, vR o1, vJ z21, s_, vJ (0 : Int64), s_, vI (0 : Int32), u_, u_] [(.ref o0), (.long (0 : Int64))])) _
    refine XS.iload X0.here hx rfl (hb hby d1_26) rfl ?_
    show Steps p.tables e below (s₁.setTop (mkF m 28 #[vR o0, vR o1, vJ z21, s_, vJ (0 : Int64), s_, vI (0 : Int32), u_, u_] [(.int (0 : Int32)), (.ref o0), (.long (0 : Int64))])) _
    refine X0.iaload hx (j := (0 : Int32)) (v := (.int yg0)) (by rw [e0]; exact Ar3.1) (State.isArrayOf_alike hZ.alike Ar3.2.1) Ar3.2.2 in3 (Has.at Ha3 in3 rfl) (g := (mkF m 28 #[vR o0, vR o1, vJ z21, s_, vJ (0 : Int64), s_, vI (0 : Int32), u_, u_] [(.int (0 : Int32)), (.ref o0), (.long (0 : Int64))])) rfl rfl (hb hby d1_28) _ ?_
    show Steps p.tables e below (s₁.setTop (mkF m 29 #[vR o0, vR o1, vJ z21, s_, vJ (0 : Int64), s_, vI (0 : Int32), u_, u_] [(.int yg0), (.long (0 : Int64))])) _
    refine Jvm.OwnK.i2l X0.here hx rfl (hb hby d1_29) rfl hz29 ?_
    show Steps p.tables e below (s₁.setTop (mkF m 30 #[vR o0, vR o1, vJ z21, s_, vJ (0 : Int64), s_, vI (0 : Int32), u_, u_] [(.long z29), (.long (0 : Int64))])) _
    refine Jvm.OwnK.ladd X0.here hx rfl (hb hby d1_30) rfl hz30 ?_
    show Steps p.tables e below (s₁.setTop (mkF m 31 #[vR o0, vR o1, vJ z21, s_, vJ (0 : Int64), s_, vI (0 : Int32), u_, u_] [(.long z30)])) _
    refine XS.lstore X0.here hx rfl (hb hby d1_31) rfl (l' := #[vR o0, vR o1, vJ z21, s_, vJ z30, s_, vI (0 : Int32), u_, u_]) rfl ?_
    show Steps p.tables e below (s₁.setTop (mkF m 33 #[vR o0, vR o1, vJ z21, s_, vJ z30, s_, vI (0 : Int32), u_, u_] [])) _
    refine Jvm.OwnK.iinc X0.here hx rfl (hb hby d1_33) rfl (l' := #[vR o0, vR o1, vJ z21, s_, vJ z30, s_, vI (1 : Int32), u_, u_]) (v := (1 : Int32)) (by decide) rfl ?_
    show Steps p.tables e below (s₁.setTop (mkF m 36 #[vR o0, vR o1, vJ z21, s_, vJ z30, s_, vI (1 : Int32), u_, u_] [])) _
    refine XS.goto X0.here hx rfl (pc0 := 36) (pc' := 8) rfl (hb hby d1_36) (by decide) (by decide) ?_
    show Steps p.tables e below (s₁.setTop (mkF m 8 #[vR o0, vR o1, vJ z21, s_, vJ z30, s_, vI (1 : Int32), u_, u_] [])) _
    refine XS.iload X0.here hx rfl (hb hby d1_8) rfl ?_
    show Steps p.tables e below (s₁.setTop (mkF m 10 #[vR o0, vR o1, vJ z21, s_, vJ z30, s_, vI (1 : Int32), u_, u_] [(.int (1 : Int32))])) _
    refine XS.aloadN X0.here hx rfl (hb hby d1_10) rfl rfl ?_
    show Steps p.tables e below (s₁.setTop (mkF m 11 #[vR o0, vR o1, vJ z21, s_, vJ z30, s_, vI (1 : Int32), u_, u_] [(.ref o1), (.int (1 : Int32))])) _
    refine X0.arraylength hx (by rw [e0]; exact Ar4.1) (State.isArrayOf_alike hZ.alike Ar4.2.1) (g := (mkF m 11 #[vR o0, vR o1, vJ z21, s_, vJ z30, s_, vI (1 : Int32), u_, u_] [(.ref o1), (.int (1 : Int32))])) rfl rfl (hb hby d1_11) _ ?_
    rw [len_of S4 Nn4]
    show Steps p.tables e below (s₁.setTop (mkF m 12 #[vR o0, vR o1, vJ z21, s_, vJ z30, s_, vI (1 : Int32), u_, u_] [(.int (3 : Int32)), (.int (1 : Int32))])) _
    refine XS.icmpNo X0.here hx rfl (hb hby d1_12) rfl (Jvm.Free.XT.ii_ge_f (by decide)) ?_
    show Steps p.tables e below (s₁.setTop (mkF m 15 #[vR o0, vR o1, vJ z21, s_, vJ z30, s_, vI (1 : Int32), u_, u_] [])) _
    refine XS.lloadN X0.here hx rfl (hb hby d1_15) rfl ?_
    show Steps p.tables e below (s₁.setTop (mkF m 16 #[vR o0, vR o1, vJ z21, s_, vJ z30, s_, vI (1 : Int32), u_, u_] [(.long z21)])) _
    refine XS.aloadN X0.here hx rfl (hb hby d1_16) rfl rfl ?_
    show Steps p.tables e below (s₁.setTop (mkF m 17 #[vR o0, vR o1, vJ z21, s_, vJ z30, s_, vI (1 : Int32), u_, u_] [(.ref o1), (.long z21)])) _
    refine XS.iload X0.here hx rfl (hb hby d1_17) rfl ?_
    show Steps p.tables e below (s₁.setTop (mkF m 19 #[vR o0, vR o1, vJ z21, s_, vJ z30, s_, vI (1 : Int32), u_, u_] [(.int (1 : Int32)), (.ref o1), (.long z21)])) _
    refine X0.iaload hx (j := (1 : Int32)) (v := (.int yh1)) (by rw [e0]; exact Ar5.1) (State.isArrayOf_alike hZ.alike Ar5.2.1) Ar5.2.2 in5 (Has.at Ha5 in5 rfl) (g := (mkF m 19 #[vR o0, vR o1, vJ z21, s_, vJ z30, s_, vI (1 : Int32), u_, u_] [(.int (1 : Int32)), (.ref o1), (.long z21)])) rfl rfl (hb hby d1_19) _ ?_
    show Steps p.tables e below (s₁.setTop (mkF m 20 #[vR o0, vR o1, vJ z21, s_, vJ z30, s_, vI (1 : Int32), u_, u_] [(.int yh1), (.long z21)])) _
    refine Jvm.OwnK.i2l X0.here hx rfl (hb hby d1_20) rfl hz20_2 ?_
    show Steps p.tables e below (s₁.setTop (mkF m 21 #[vR o0, vR o1, vJ z21, s_, vJ z30, s_, vI (1 : Int32), u_, u_] [(.long z20_2), (.long z21)])) _
    refine Jvm.OwnK.ladd X0.here hx rfl (hb hby d1_21) rfl hz21_2 ?_
    show Steps p.tables e below (s₁.setTop (mkF m 22 #[vR o0, vR o1, vJ z21, s_, vJ z30, s_, vI (1 : Int32), u_, u_] [(.long z21_2)])) _
    refine XS.lstoreN X0.here hx rfl (hb hby d1_22) rfl (l' := #[vR o0, vR o1, vJ z21_2, s_, vJ z30, s_, vI (1 : Int32), u_, u_]) rfl ?_
    show Steps p.tables e below (s₁.setTop (mkF m 23 #[vR o0, vR o1, vJ z21_2, s_, vJ z30, s_, vI (1 : Int32), u_, u_] [])) _
    refine XS.lload X0.here hx rfl (hb hby d1_23) rfl ?_
    show Steps p.tables e below (s₁.setTop (mkF m 25 #[vR o0, vR o1, vJ z21_2, s_, vJ z30, s_, vI (1 : Int32), u_, u_] [(.long z30)])) _
    refine XS.aloadN X0.here hx rfl (hb hby d1_25) rfl rfl ?_
    show Steps p.tables e below (s₁.setTop (mkF m 26 #[vR o0, vR o1, vJ z21_2, s_, vJ z30, s_, vI (1 : Int32), u_, u_] [(.ref o0), (.long z30)])) _
    refine XS.iload X0.here hx rfl (hb hby d1_26) rfl ?_
    show Steps p.tables e below (s₁.setTop (mkF m 28 #[vR o0, vR o1, vJ z21_2, s_, vJ z30, s_, vI (1 : Int32), u_, u_] [(.int (1 : Int32)), (.ref o0), (.long z30)])) _
    refine X0.iaload hx (j := (1 : Int32)) (v := (.int yg1)) (by rw [e0]; exact Ar6.1) (State.isArrayOf_alike hZ.alike Ar6.2.1) Ar6.2.2 in6 (Has.at Ha6 in6 rfl) (g := (mkF m 28 #[vR o0, vR o1, vJ z21_2, s_, vJ z30, s_, vI (1 : Int32), u_, u_] [(.int (1 : Int32)), (.ref o0), (.long z30)])) rfl rfl (hb hby d1_28) _ ?_
    show Steps p.tables e below (s₁.setTop (mkF m 29 #[vR o0, vR o1, vJ z21_2, s_, vJ z30, s_, vI (1 : Int32), u_, u_] [(.int yg1), (.long z30)])) _
    refine Jvm.OwnK.i2l X0.here hx rfl (hb hby d1_29) rfl hz29_2 ?_
    show Steps p.tables e below (s₁.setTop (mkF m 30 #[vR o0, vR o1, vJ z21_2, s_, vJ z30, s_, vI (1 : Int32), u_, u_] [(.long z29_2), (.long z30)])) _
    refine Jvm.OwnK.ladd X0.here hx rfl (hb hby d1_30) rfl hz30_2 ?_
    show Steps p.tables e below (s₁.setTop (mkF m 31 #[vR o0, vR o1, vJ z21_2, s_, vJ z30, s_, vI (1 : Int32), u_, u_] [(.long z30_2)])) _
    refine XS.lstore X0.here hx rfl (hb hby d1_31) rfl (l' := #[vR o0, vR o1, vJ z21_2, s_, vJ z30_2, s_, vI (1 : Int32), u_, u_]) rfl ?_
    show Steps p.tables e below (s₁.setTop (mkF m 33 #[vR o0, vR o1, vJ z21_2, s_, vJ z30_2, s_, vI (1 : Int32), u_, u_] [])) _
    refine Jvm.OwnK.iinc X0.here hx rfl (hb hby d1_33) rfl (l' := #[vR o0, vR o1, vJ z21_2, s_, vJ z30_2, s_, vI (2 : Int32), u_, u_]) (v := (2 : Int32)) (by decide) rfl ?_
    show Steps p.tables e below (s₁.setTop (mkF m 36 #[vR o0, vR o1, vJ z21_2, s_, vJ z30_2, s_, vI (2 : Int32), u_, u_] [])) _
    refine XS.goto X0.here hx rfl (pc0 := 36) (pc' := 8) rfl (hb hby d1_36) (by decide) (by decide) ?_
    show Steps p.tables e below (s₁.setTop (mkF m 8 #[vR o0, vR o1, vJ z21_2, s_, vJ z30_2, s_, vI (2 : Int32), u_, u_] [])) _
    refine XS.iload X0.here hx rfl (hb hby d1_8) rfl ?_
    show Steps p.tables e below (s₁.setTop (mkF m 10 #[vR o0, vR o1, vJ z21_2, s_, vJ z30_2, s_, vI (2 : Int32), u_, u_] [(.int (2 : Int32))])) _
    refine XS.aloadN X0.here hx rfl (hb hby d1_10) rfl rfl ?_
    show Steps p.tables e below (s₁.setTop (mkF m 11 #[vR o0, vR o1, vJ z21_2, s_, vJ z30_2, s_, vI (2 : Int32), u_, u_] [(.ref o1), (.int (2 : Int32))])) _
    refine X0.arraylength hx (by rw [e0]; exact Ar7.1) (State.isArrayOf_alike hZ.alike Ar7.2.1) (g := (mkF m 11 #[vR o0, vR o1, vJ z21_2, s_, vJ z30_2, s_, vI (2 : Int32), u_, u_] [(.ref o1), (.int (2 : Int32))])) rfl rfl (hb hby d1_11) _ ?_
    rw [len_of S7 Nn7]
    show Steps p.tables e below (s₁.setTop (mkF m 12 #[vR o0, vR o1, vJ z21_2, s_, vJ z30_2, s_, vI (2 : Int32), u_, u_] [(.int (3 : Int32)), (.int (2 : Int32))])) _
    refine XS.icmpNo X0.here hx rfl (hb hby d1_12) rfl (Jvm.Free.XT.ii_ge_f (by decide)) ?_
    show Steps p.tables e below (s₁.setTop (mkF m 15 #[vR o0, vR o1, vJ z21_2, s_, vJ z30_2, s_, vI (2 : Int32), u_, u_] [])) _
    refine XS.lloadN X0.here hx rfl (hb hby d1_15) rfl ?_
    show Steps p.tables e below (s₁.setTop (mkF m 16 #[vR o0, vR o1, vJ z21_2, s_, vJ z30_2, s_, vI (2 : Int32), u_, u_] [(.long z21_2)])) _
    refine XS.aloadN X0.here hx rfl (hb hby d1_16) rfl rfl ?_
    show Steps p.tables e below (s₁.setTop (mkF m 17 #[vR o0, vR o1, vJ z21_2, s_, vJ z30_2, s_, vI (2 : Int32), u_, u_] [(.ref o1), (.long z21_2)])) _
    refine XS.iload X0.here hx rfl (hb hby d1_17) rfl ?_
    show Steps p.tables e below (s₁.setTop (mkF m 19 #[vR o0, vR o1, vJ z21_2, s_, vJ z30_2, s_, vI (2 : Int32), u_, u_] [(.int (2 : Int32)), (.ref o1), (.long z21_2)])) _
    refine X0.iaload hx (j := (2 : Int32)) (v := (.int yh2)) (by rw [e0]; exact Ar8.1) (State.isArrayOf_alike hZ.alike Ar8.2.1) Ar8.2.2 in8 (Has.at Ha8 in8 rfl) (g := (mkF m 19 #[vR o0, vR o1, vJ z21_2, s_, vJ z30_2, s_, vI (2 : Int32), u_, u_] [(.int (2 : Int32)), (.ref o1), (.long z21_2)])) rfl rfl (hb hby d1_19) _ ?_
    show Steps p.tables e below (s₁.setTop (mkF m 20 #[vR o0, vR o1, vJ z21_2, s_, vJ z30_2, s_, vI (2 : Int32), u_, u_] [(.int yh2), (.long z21_2)])) _
    refine Jvm.OwnK.i2l X0.here hx rfl (hb hby d1_20) rfl hz20_3 ?_
    show Steps p.tables e below (s₁.setTop (mkF m 21 #[vR o0, vR o1, vJ z21_2, s_, vJ z30_2, s_, vI (2 : Int32), u_, u_] [(.long z20_3), (.long z21_2)])) _
    refine Jvm.OwnK.ladd X0.here hx rfl (hb hby d1_21) rfl hz21_3 ?_
    show Steps p.tables e below (s₁.setTop (mkF m 22 #[vR o0, vR o1, vJ z21_2, s_, vJ z30_2, s_, vI (2 : Int32), u_, u_] [(.long z21_3)])) _
    refine XS.lstoreN X0.here hx rfl (hb hby d1_22) rfl (l' := #[vR o0, vR o1, vJ z21_3, s_, vJ z30_2, s_, vI (2 : Int32), u_, u_]) rfl ?_
    show Steps p.tables e below (s₁.setTop (mkF m 23 #[vR o0, vR o1, vJ z21_3, s_, vJ z30_2, s_, vI (2 : Int32), u_, u_] [])) _
    refine XS.lload X0.here hx rfl (hb hby d1_23) rfl ?_
    show Steps p.tables e below (s₁.setTop (mkF m 25 #[vR o0, vR o1, vJ z21_3, s_, vJ z30_2, s_, vI (2 : Int32), u_, u_] [(.long z30_2)])) _
    refine XS.aloadN X0.here hx rfl (hb hby d1_25) rfl rfl ?_
    show Steps p.tables e below (s₁.setTop (mkF m 26 #[vR o0, vR o1, vJ z21_3, s_, vJ z30_2, s_, vI (2 : Int32), u_, u_] [(.ref o0), (.long z30_2)])) _
    refine XS.iload X0.here hx rfl (hb hby d1_26) rfl ?_
    show Steps p.tables e below (s₁.setTop (mkF m 28 #[vR o0, vR o1, vJ z21_3, s_, vJ z30_2, s_, vI (2 : Int32), u_, u_] [(.int (2 : Int32)), (.ref o0), (.long z30_2)])) _
    refine X0.iaload hx (j := (2 : Int32)) (v := (.int yg2)) (by rw [e0]; exact Ar9.1) (State.isArrayOf_alike hZ.alike Ar9.2.1) Ar9.2.2 in9 (Has.at Ha9 in9 rfl) (g := (mkF m 28 #[vR o0, vR o1, vJ z21_3, s_, vJ z30_2, s_, vI (2 : Int32), u_, u_] [(.int (2 : Int32)), (.ref o0), (.long z30_2)])) rfl rfl (hb hby d1_28) _ ?_
    show Steps p.tables e below (s₁.setTop (mkF m 29 #[vR o0, vR o1, vJ z21_3, s_, vJ z30_2, s_, vI (2 : Int32), u_, u_] [(.int yg2), (.long z30_2)])) _
    refine Jvm.OwnK.i2l X0.here hx rfl (hb hby d1_29) rfl hz29_3 ?_
    show Steps p.tables e below (s₁.setTop (mkF m 30 #[vR o0, vR o1, vJ z21_3, s_, vJ z30_2, s_, vI (2 : Int32), u_, u_] [(.long z29_3), (.long z30_2)])) _
    refine Jvm.OwnK.ladd X0.here hx rfl (hb hby d1_30) rfl hz30_3 ?_
    show Steps p.tables e below (s₁.setTop (mkF m 31 #[vR o0, vR o1, vJ z21_3, s_, vJ z30_2, s_, vI (2 : Int32), u_, u_] [(.long z30_3)])) _
    refine XS.lstore X0.here hx rfl (hb hby d1_31) rfl (l' := #[vR o0, vR o1, vJ z21_3, s_, vJ z30_3, s_, vI (2 : Int32), u_, u_]) rfl ?_
    show Steps p.tables e below (s₁.setTop (mkF m 33 #[vR o0, vR o1, vJ z21_3, s_, vJ z30_3, s_, vI (2 : Int32), u_, u_] [])) _
    refine Jvm.OwnK.iinc X0.here hx rfl (hb hby d1_33) rfl (l' := #[vR o0, vR o1, vJ z21_3, s_, vJ z30_3, s_, vI (3 : Int32), u_, u_]) (v := (3 : Int32)) (by decide) rfl ?_
    show Steps p.tables e below (s₁.setTop (mkF m 36 #[vR o0, vR o1, vJ z21_3, s_, vJ z30_3, s_, vI (3 : Int32), u_, u_] [])) _
    refine XS.goto X0.here hx rfl (pc0 := 36) (pc' := 8) rfl (hb hby d1_36) (by decide) (by decide) ?_
    show Steps p.tables e below (s₁.setTop (mkF m 8 #[vR o0, vR o1, vJ z21_3, s_, vJ z30_3, s_, vI (3 : Int32), u_, u_] [])) _
    refine XS.iload X0.here hx rfl (hb hby d1_8) rfl ?_
    show Steps p.tables e below (s₁.setTop (mkF m 10 #[vR o0, vR o1, vJ z21_3, s_, vJ z30_3, s_, vI (3 : Int32), u_, u_] [(.int (3 : Int32))])) _
    refine XS.aloadN X0.here hx rfl (hb hby d1_10) rfl rfl ?_
    show Steps p.tables e below (s₁.setTop (mkF m 11 #[vR o0, vR o1, vJ z21_3, s_, vJ z30_3, s_, vI (3 : Int32), u_, u_] [(.ref o1), (.int (3 : Int32))])) _
    refine X0.arraylength hx (by rw [e0]; exact Ar10.1) (State.isArrayOf_alike hZ.alike Ar10.2.1) (g := (mkF m 11 #[vR o0, vR o1, vJ z21_3, s_, vJ z30_3, s_, vI (3 : Int32), u_, u_] [(.ref o1), (.int (3 : Int32))])) rfl rfl (hb hby d1_11) _ ?_
    rw [len_of S10 Nn10]
    show Steps p.tables e below (s₁.setTop (mkF m 12 #[vR o0, vR o1, vJ z21_3, s_, vJ z30_3, s_, vI (3 : Int32), u_, u_] [(.int (3 : Int32)), (.int (3 : Int32))])) _
    refine XS.icmpYes X0.here hx rfl (pc0 := 12) (pc' := 39) rfl (hb hby d1_12) rfl (Jvm.Free.XT.ii_ge_t (by decide)) (by decide) (by decide) ?_
    show Steps p.tables e below (s₁.setTop (mkF m 39 #[vR o0, vR o1, vJ z21_3, s_, vJ z30_3, s_, vI (3 : Int32), u_, u_] [])) _
    refine XS.dconst0 X0.here hx rfl (hb hby d1_39) (v := FP.dconst0) rfl ?_
    show Steps p.tables e below (s₁.setTop (mkF m 40 #[vR o0, vR o1, vJ z21_3, s_, vJ z30_3, s_, vI (3 : Int32), u_, u_] [(.double FP.dconst0)])) _
    refine XS.dstore X0.here hx rfl (hb hby d1_40) rfl (l' := #[vR o0, vR o1, vJ z21_3, s_, vJ z30_3, s_, vD FP.dconst0, s_, u_]) rfl ?_
    show Steps p.tables e below (s₁.setTop (mkF m 42 #[vR o0, vR o1, vJ z21_3, s_, vJ z30_3, s_, vD FP.dconst0, s_, u_] [])) _
    refine XS.iconst X0.here hx rfl (hb hby d1_42) ?_
    show Steps p.tables e below (s₁.setTop (mkF m 43 #[vR o0, vR o1, vJ z21_3, s_, vJ z30_3, s_, vD FP.dconst0, s_, u_] [(.int (0 : Int32))])) _
    refine XS.istore X0.here hx rfl (hb hby d1_43) rfl (l' := #[vR o0, vR o1, vJ z21_3, s_, vJ z30_3, s_, vD FP.dconst0, s_, vI (0 : Int32)]) rfl ?_
    show Steps p.tables e below (s₁.setTop (mkF m 45 #[vR o0, vR o1, vJ z21_3, s_, vJ z30_3, s_, vD FP.dconst0, s_, vI (0 : Int32)] [])) _
    refine XS.iload X0.here hx rfl (hb hby d1_45) rfl ?_
    show Steps p.tables e below (s₁.setTop (mkF m 47 #[vR o0, vR o1, vJ z21_3, s_, vJ z30_3, s_, vD FP.dconst0, s_, vI (0 : Int32)] [(.int (0 : Int32))])) _
    refine XS.aloadN X0.here hx rfl (hb hby d1_47) rfl rfl ?_
    show Steps p.tables e below (s₁.setTop (mkF m 48 #[vR o0, vR o1, vJ z21_3, s_, vJ z30_3, s_, vD FP.dconst0, s_, vI (0 : Int32)] [(.ref o1), (.int (0 : Int32))])) _
    refine X0.arraylength hx (by rw [e0]; exact Ar11.1) (State.isArrayOf_alike hZ.alike Ar11.2.1) (g := (mkF m 48 #[vR o0, vR o1, vJ z21_3, s_, vJ z30_3, s_, vD FP.dconst0, s_, vI (0 : Int32)] [(.ref o1), (.int (0 : Int32))])) rfl rfl (hb hby d1_48) _ ?_
    rw [len_of S11 Nn11]
    show Steps p.tables e below (s₁.setTop (mkF m 49 #[vR o0, vR o1, vJ z21_3, s_, vJ z30_3, s_, vD FP.dconst0, s_, vI (0 : Int32)] [(.int (3 : Int32)), (.int (0 : Int32))])) _
    refine XS.icmpNo X0.here hx rfl (hb hby d1_49) rfl (Jvm.Free.XT.ii_ge_f (by decide)) ?_
    show Steps p.tables e below (s₁.setTop (mkF m 52 #[vR o0, vR o1, vJ z21_3, s_, vJ z30_3, s_, vD FP.dconst0, s_, vI (0 : Int32)] [])) _
    refine XS.dload X0.here hx rfl (hb hby d1_52) rfl ?_
    show Steps p.tables e below (s₁.setTop (mkF m 54 #[vR o0, vR o1, vJ z21_3, s_, vJ z30_3, s_, vD FP.dconst0, s_, vI (0 : Int32)] [(.double FP.dconst0)])) _
    refine XS.aloadN X0.here hx rfl (hb hby d1_54) rfl rfl ?_
    show Steps p.tables e below (s₁.setTop (mkF m 55 #[vR o0, vR o1, vJ z21_3, s_, vJ z30_3, s_, vD FP.dconst0, s_, vI (0 : Int32)] [(.ref o0), (.double FP.dconst0)])) _
    refine XS.iload X0.here hx rfl (hb hby d1_55) rfl ?_
    show Steps p.tables e below (s₁.setTop (mkF m 57 #[vR o0, vR o1, vJ z21_3, s_, vJ z30_3, s_, vD FP.dconst0, s_, vI (0 : Int32)] [(.int (0 : Int32)), (.ref o0), (.double FP.dconst0)])) _
    refine X0.iaload hx (j := (0 : Int32)) (v := (.int yg0)) (by rw [e0]; exact Ar12.1) (State.isArrayOf_alike hZ.alike Ar12.2.1) Ar12.2.2 in12 (Has.at Ha12 in12 rfl) (g := (mkF m 57 #[vR o0, vR o1, vJ z21_3, s_, vJ z30_3, s_, vD FP.dconst0, s_, vI (0 : Int32)] [(.int (0 : Int32)), (.ref o0), (.double FP.dconst0)])) rfl rfl (hb hby d1_57) _ ?_
    show Steps p.tables e below (s₁.setTop (mkF m 58 #[vR o0, vR o1, vJ z21_3, s_, vJ z30_3, s_, vD FP.dconst0, s_, vI (0 : Int32)] [(.int yg0), (.double FP.dconst0)])) _
    refine XS.lload X0.here hx rfl (hb hby d1_58) rfl ?_
    show Steps p.tables e below (s₁.setTop (mkF m 60 #[vR o0, vR o1, vJ z21_3, s_, vJ z30_3, s_, vD FP.dconst0, s_, vI (0 : Int32)] [(.long z30_3), (.int yg0), (.double FP.dconst0)])) _
    refine XS.l2dS X0.here hx rfl (hb hby d1_60) rfl hz60 ?_
    show Steps p.tables e below (s₁.setTop (mkF m 61 #[vR o0, vR o1, vJ z21_3, s_, vJ z30_3, s_, vD FP.dconst0, s_, vI (0 : Int32)] [(.double z60), (.int yg0), (.double FP.dconst0)])) _
    refine XS.aloadN X0.here hx rfl (hb hby d1_61) rfl rfl ?_
    show Steps p.tables e below (s₁.setTop (mkF m 62 #[vR o0, vR o1, vJ z21_3, s_, vJ z30_3, s_, vD FP.dconst0, s_, vI (0 : Int32)] [(.ref o1), (.double z60), (.int yg0), (.double FP.dconst0)])) _
    refine XS.iload X0.here hx rfl (hb hby d1_62) rfl ?_
    show Steps p.tables e below (s₁.setTop (mkF m 64 #[vR o0, vR o1, vJ z21_3, s_, vJ z30_3, s_, vD FP.dconst0, s_, vI (0 : Int32)] [(.int (0 : Int32)), (.ref o1), (.double z60), (.int yg0), (.double FP.dconst0)])) _
    refine X0.iaload hx (j := (0 : Int32)) (v := (.int yh0)) (by rw [e0]; exact Ar13.1) (State.isArrayOf_alike hZ.alike Ar13.2.1) Ar13.2.2 in13 (Has.at Ha13 in13 rfl) (g := (mkF m 64 #[vR o0, vR o1, vJ z21_3, s_, vJ z30_3, s_, vD FP.dconst0, s_, vI (0 : Int32)] [(.int (0 : Int32)), (.ref o1), (.double z60), (.int yg0), (.double FP.dconst0)])) rfl rfl (hb hby d1_64) _ ?_
    show Steps p.tables e below (s₁.setTop (mkF m 65 #[vR o0, vR o1, vJ z21_3, s_, vJ z30_3, s_, vD FP.dconst0, s_, vI (0 : Int32)] [(.int yh0), (.double z60), (.int yg0), (.double FP.dconst0)])) _
    refine XS.i2dS X0.here hx rfl (hb hby d1_65) rfl hz65 ?_
    show Steps p.tables e below (s₁.setTop (mkF m 66 #[vR o0, vR o1, vJ z21_3, s_, vJ z30_3, s_, vD FP.dconst0, s_, vI (0 : Int32)] [(.double z65), (.double z60), (.int yg0), (.double FP.dconst0)])) _
    refine Jvm.OwnK.dmul X0.here hx rfl (hb hby d1_66) rfl hz66 nn66 ?_
    show Steps p.tables e below (s₁.setTop (mkF m 67 #[vR o0, vR o1, vJ z21_3, s_, vJ z30_3, s_, vD FP.dconst0, s_, vI (0 : Int32)] [(.double z66), (.int yg0), (.double FP.dconst0)])) _
    refine XS.lloadN X0.here hx rfl (hb hby d1_67) rfl ?_
    show Steps p.tables e below (s₁.setTop (mkF m 68 #[vR o0, vR o1, vJ z21_3, s_, vJ z30_3, s_, vD FP.dconst0, s_, vI (0 : Int32)] [(.long z21_3), (.double z66), (.int yg0), (.double FP.dconst0)])) _
    refine XS.l2dS X0.here hx rfl (hb hby d1_68) rfl hz68 ?_
    show Steps p.tables e below (s₁.setTop (mkF m 69 #[vR o0, vR o1, vJ z21_3, s_, vJ z30_3, s_, vD FP.dconst0, s_, vI (0 : Int32)] [(.double z68), (.double z66), (.int yg0), (.double FP.dconst0)])) _
    refine Jvm.OwnK.ddiv X0.here hx rfl (hb hby d1_69) rfl hz69 nn69 ?_
    show Steps p.tables e below (s₁.setTop (mkF m 70 #[vR o0, vR o1, vJ z21_3, s_, vJ z30_3, s_, vD FP.dconst0, s_, vI (0 : Int32)] [(.double z69), (.int yg0), (.double FP.dconst0)])) _
    refine st14 _ ?_
    show Steps p.tables e below (T14.setTop (mkF m 73 #[vR o0, vR o1, vJ z21_3, s_, vJ z30_3, s_, vD FP.dconst0, s_, vI (0 : Int32)] [(.double c70_rv), (.double FP.dconst0)])) _
    refine Jvm.OwnK.dadd X14.here hx rfl (hb hby d1_73) rfl hz73 nn73 ?_
    show Steps p.tables e below (T14.setTop (mkF m 74 #[vR o0, vR o1, vJ z21_3, s_, vJ z30_3, s_, vD FP.dconst0, s_, vI (0 : Int32)] [(.double z73)])) _
    refine XS.dstore X14.here hx rfl (hb hby d1_74) rfl (l' := #[vR o0, vR o1, vJ z21_3, s_, vJ z30_3, s_, vD z73, s_, vI (0 : Int32)]) rfl ?_
    show Steps p.tables e below (T14.setTop (mkF m 76 #[vR o0, vR o1, vJ z21_3, s_, vJ z30_3, s_, vD z73, s_, vI (0 : Int32)] [])) _
    refine XS.dload X14.here hx rfl (hb hby d1_76) rfl ?_
    show Steps p.tables e below (T14.setTop (mkF m 78 #[vR o0, vR o1, vJ z21_3, s_, vJ z30_3, s_, vD z73, s_, vI (0 : Int32)] [(.double z73)])) _
    refine XS.aloadN X14.here hx rfl (hb hby d1_78) rfl rfl ?_
    show Steps p.tables e below (T14.setTop (mkF m 79 #[vR o0, vR o1, vJ z21_3, s_, vJ z30_3, s_, vD z73, s_, vI (0 : Int32)] [(.ref o1), (.double z73)])) _
    refine XS.iload X14.here hx rfl (hb hby d1_79) rfl ?_
    show Steps p.tables e below (T14.setTop (mkF m 81 #[vR o0, vR o1, vJ z21_3, s_, vJ z30_3, s_, vD z73, s_, vI (0 : Int32)] [(.int (0 : Int32)), (.ref o1), (.double z73)])) _
    refine X14.iaload hx (j := (0 : Int32)) (v := (.int yh0)) (by rw [e14]; exact Ar15.1) (State.isArrayOf_alike hZ.alike Ar15.2.1) Ar15.2.2 in15 (Has.at Ha15 in15 rfl) (g := (mkF m 81 #[vR o0, vR o1, vJ z21_3, s_, vJ z30_3, s_, vD z73, s_, vI (0 : Int32)] [(.int (0 : Int32)), (.ref o1), (.double z73)])) rfl rfl (hb hby d1_81) _ ?_
    show Steps p.tables e below (T14.setTop (mkF m 82 #[vR o0, vR o1, vJ z21_3, s_, vJ z30_3, s_, vD z73, s_, vI (0 : Int32)] [(.int yh0), (.double z73)])) _
    refine XS.aloadN X14.here hx rfl (hb hby d1_82) rfl rfl ?_
    show Steps p.tables e below (T14.setTop (mkF m 83 #[vR o0, vR o1, vJ z21_3, s_, vJ z30_3, s_, vD z73, s_, vI (0 : Int32)] [(.ref o0), (.int yh0), (.double z73)])) _
    refine XS.iload X14.here hx rfl (hb hby d1_83) rfl ?_
    show Steps p.tables e below (T14.setTop (mkF m 85 #[vR o0, vR o1, vJ z21_3, s_, vJ z30_3, s_, vD z73, s_, vI (0 : Int32)] [(.int (0 : Int32)), (.ref o0), (.int yh0), (.double z73)])) _
    refine X14.iaload hx (j := (0 : Int32)) (v := (.int yg0)) (by rw [e14]; exact Ar16.1) (State.isArrayOf_alike hZ.alike Ar16.2.1) Ar16.2.2 in16 (Has.at Ha16 in16 rfl) (g := (mkF m 85 #[vR o0, vR o1, vJ z21_3, s_, vJ z30_3, s_, vD z73, s_, vI (0 : Int32)] [(.int (0 : Int32)), (.ref o0), (.int yh0), (.double z73)])) rfl rfl (hb hby d1_85) _ ?_
    show Steps p.tables e below (T14.setTop (mkF m 86 #[vR o0, vR o1, vJ z21_3, s_, vJ z30_3, s_, vD z73, s_, vI (0 : Int32)] [(.int yg0), (.int yh0), (.double z73)])) _
    refine Jvm.OwnK.isub X14.here hx rfl (hb hby d1_86) rfl hz86 ?_
    show Steps p.tables e below (T14.setTop (mkF m 87 #[vR o0, vR o1, vJ z21_3, s_, vJ z30_3, s_, vD z73, s_, vI (0 : Int32)] [(.int z86), (.double z73)])) _
    refine XS.lloadN X14.here hx rfl (hb hby d1_87) rfl ?_
    show Steps p.tables e below (T14.setTop (mkF m 88 #[vR o0, vR o1, vJ z21_3, s_, vJ z30_3, s_, vD z73, s_, vI (0 : Int32)] [(.long z21_3), (.int z86), (.double z73)])) _
    refine XS.lload X14.here hx rfl (hb hby d1_88) rfl ?_
    show Steps p.tables e below (T14.setTop (mkF m 90 #[vR o0, vR o1, vJ z21_3, s_, vJ z30_3, s_, vD z73, s_, vI (0 : Int32)] [(.long z30_3), (.long z21_3), (.int z86), (.double z73)])) _
    refine Jvm.OwnK.lsub X14.here hx rfl (hb hby d1_90) rfl hz90 ?_
    show Steps p.tables e below (T14.setTop (mkF m 91 #[vR o0, vR o1, vJ z21_3, s_, vJ z30_3, s_, vD z73, s_, vI (0 : Int32)] [(.long z90), (.int z86), (.double z73)])) _
    refine XS.l2dS X14.here hx rfl (hb hby d1_91) rfl hz91 ?_
    show Steps p.tables e below (T14.setTop (mkF m 92 #[vR o0, vR o1, vJ z21_3, s_, vJ z30_3, s_, vD z73, s_, vI (0 : Int32)] [(.double z91), (.int z86), (.double z73)])) _
    refine XS.aloadN X14.here hx rfl (hb hby d1_92) rfl rfl ?_
    show Steps p.tables e below (T14.setTop (mkF m 93 #[vR o0, vR o1, vJ z21_3, s_, vJ z30_3, s_, vD z73, s_, vI (0 : Int32)] [(.ref o1), (.double z91), (.int z86), (.double z73)])) _
    refine XS.iload X14.here hx rfl (hb hby d1_93) rfl ?_
    show Steps p.tables e below (T14.setTop (mkF m 95 #[vR o0, vR o1, vJ z21_3, s_, vJ z30_3, s_, vD z73, s_, vI (0 : Int32)] [(.int (0 : Int32)), (.ref o1), (.double z91), (.int z86), (.double z73)])) _
    refine X14.iaload hx (j := (0 : Int32)) (v := (.int yh0)) (by rw [e14]; exact Ar17.1) (State.isArrayOf_alike hZ.alike Ar17.2.1) Ar17.2.2 in17 (Has.at Ha17 in17 rfl) (g := (mkF m 95 #[vR o0, vR o1, vJ z21_3, s_, vJ z30_3, s_, vD z73, s_, vI (0 : Int32)] [(.int (0 : Int32)), (.ref o1), (.double z91), (.int z86), (.double z73)])) rfl rfl (hb hby d1_95) _ ?_
    show Steps p.tables e below (T14.setTop (mkF m 96 #[vR o0, vR o1, vJ z21_3, s_, vJ z30_3, s_, vD z73, s_, vI (0 : Int32)] [(.int yh0), (.double z91), (.int z86), (.double z73)])) _
    refine XS.i2dS X14.here hx rfl (hb hby d1_96) rfl hz96 ?_
    show Steps p.tables e below (T14.setTop (mkF m 97 #[vR o0, vR o1, vJ z21_3, s_, vJ z30_3, s_, vD z73, s_, vI (0 : Int32)] [(.double z96), (.double z91), (.int z86), (.double z73)])) _
    refine Jvm.OwnK.dmul X14.here hx rfl (hb hby d1_97) rfl hz97 nn97 ?_
    show Steps p.tables e below (T14.setTop (mkF m 98 #[vR o0, vR o1, vJ z21_3, s_, vJ z30_3, s_, vD z73, s_, vI (0 : Int32)] [(.double z97), (.int z86), (.double z73)])) _
    refine XS.lloadN X14.here hx rfl (hb hby d1_98) rfl ?_
    show Steps p.tables e below (T14.setTop (mkF m 99 #[vR o0, vR o1, vJ z21_3, s_, vJ z30_3, s_, vD z73, s_, vI (0 : Int32)] [(.long z21_3), (.double z97), (.int z86), (.double z73)])) _
    refine XS.l2dS X14.here hx rfl (hb hby d1_99) rfl hz99 ?_
    show Steps p.tables e below (T14.setTop (mkF m 100 #[vR o0, vR o1, vJ z21_3, s_, vJ z30_3, s_, vD z73, s_, vI (0 : Int32)] [(.double z99), (.double z97), (.int z86), (.double z73)])) _
    refine Jvm.OwnK.ddiv X14.here hx rfl (hb hby d1_100) rfl hz100 nn100 ?_
    show Steps p.tables e below (T14.setTop (mkF m 101 #[vR o0, vR o1, vJ z21_3, s_, vJ z30_3, s_, vD z73, s_, vI (0 : Int32)] [(.double z100), (.int z86), (.double z73)])) _
    refine st18 _ ?_
    show Steps p.tables e below (T18.setTop (mkF m 104 #[vR o0, vR o1, vJ z21_3, s_, vJ z30_3, s_, vD z73, s_, vI (0 : Int32)] [(.double c101_rv), (.double z73)])) _
    refine Jvm.OwnK.dadd X18.here hx rfl (hb hby d1_104) rfl hz104 nn104 ?_
    show Steps p.tables e below (T18.setTop (mkF m 105 #[vR o0, vR o1, vJ z21_3, s_, vJ z30_3, s_, vD z73, s_, vI (0 : Int32)] [(.double z104)])) _
    refine XS.dstore X18.here hx rfl (hb hby d1_105) rfl (l' := #[vR o0, vR o1, vJ z21_3, s_, vJ z30_3, s_, vD z104, s_, vI (0 : Int32)]) rfl ?_
    show Steps p.tables e below (T18.setTop (mkF m 107 #[vR o0, vR o1, vJ z21_3, s_, vJ z30_3, s_, vD z104, s_, vI (0 : Int32)] [])) _
    refine Jvm.OwnK.iinc X18.here hx rfl (hb hby d1_107) rfl (l' := #[vR o0, vR o1, vJ z21_3, s_, vJ z30_3, s_, vD z104, s_, vI (1 : Int32)]) (v := (1 : Int32)) (by decide) rfl ?_
    show Steps p.tables e below (T18.setTop (mkF m 110 #[vR o0, vR o1, vJ z21_3, s_, vJ z30_3, s_, vD z104, s_, vI (1 : Int32)] [])) _
    refine XS.goto X18.here hx rfl (pc0 := 110) (pc' := 45) rfl (hb hby d1_110) (by decide) (by decide) ?_
    show Steps p.tables e below (T18.setTop (mkF m 45 #[vR o0, vR o1, vJ z21_3, s_, vJ z30_3, s_, vD z104, s_, vI (1 : Int32)] [])) _
    refine XS.iload X18.here hx rfl (hb hby d1_45) rfl ?_
    show Steps p.tables e below (T18.setTop (mkF m 47 #[vR o0, vR o1, vJ z21_3, s_, vJ z30_3, s_, vD z104, s_, vI (1 : Int32)] [(.int (1 : Int32))])) _
    refine XS.aloadN X18.here hx rfl (hb hby d1_47) rfl rfl ?_
    show Steps p.tables e below (T18.setTop (mkF m 48 #[vR o0, vR o1, vJ z21_3, s_, vJ z30_3, s_, vD z104, s_, vI (1 : Int32)] [(.ref o1), (.int (1 : Int32))])) _
    refine X18.arraylength hx (by rw [e18]; exact Ar19.1) (State.isArrayOf_alike hZ.alike Ar19.2.1) (g := (mkF m 48 #[vR o0, vR o1, vJ z21_3, s_, vJ z30_3, s_, vD z104, s_, vI (1 : Int32)] [(.ref o1), (.int (1 : Int32))])) rfl rfl (hb hby d1_48) _ ?_
    rw [len_of S19 Nn19]
    show Steps p.tables e below (T18.setTop (mkF m 49 #[vR o0, vR o1, vJ z21_3, s_, vJ z30_3, s_, vD z104, s_, vI (1 : Int32)] [(.int (3 : Int32)), (.int (1 : Int32))])) _
    refine XS.icmpNo X18.here hx rfl (hb hby d1_49) rfl (Jvm.Free.XT.ii_ge_f (by decide)) ?_
    show Steps p.tables e below (T18.setTop (mkF m 52 #[vR o0, vR o1, vJ z21_3, s_, vJ z30_3, s_, vD z104, s_, vI (1 : Int32)] [])) _
    refine XS.dload X18.here hx rfl (hb hby d1_52) rfl ?_
    show Steps p.tables e below (T18.setTop (mkF m 54 #[vR o0, vR o1, vJ z21_3, s_, vJ z30_3, s_, vD z104, s_, vI (1 : Int32)] [(.double z104)])) _
    refine XS.aloadN X18.here hx rfl (hb hby d1_54) rfl rfl ?_
    show Steps p.tables e below (T18.setTop (mkF m 55 #[vR o0, vR o1, vJ z21_3, s_, vJ z30_3, s_, vD z104, s_, vI (1 : Int32)] [(.ref o0), (.double z104)])) _
    refine XS.iload X18.here hx rfl (hb hby d1_55) rfl ?_
    show Steps p.tables e below (T18.setTop (mkF m 57 #[vR o0, vR o1, vJ z21_3, s_, vJ z30_3, s_, vD z104, s_, vI (1 : Int32)] [(.int (1 : Int32)), (.ref o0), (.double z104)])) _
    refine X18.iaload hx (j := (1 : Int32)) (v := (.int yg1)) (by rw [e18]; exact Ar20.1) (State.isArrayOf_alike hZ.alike Ar20.2.1) Ar20.2.2 in20 (Has.at Ha20 in20 rfl) (g := (mkF m 57 #[vR o0, vR o1, vJ z21_3, s_, vJ z30_3, s_, vD z104, s_, vI (1 : Int32)] [(.int (1 : Int32)), (.ref o0), (.double z104)])) rfl rfl (hb hby d1_57) _ ?_
    show Steps p.tables e below (T18.setTop (mkF m 58 #[vR o0, vR o1, vJ z21_3, s_, vJ z30_3, s_, vD z104, s_, vI (1 : Int32)] [(.int yg1), (.double z104)])) _
    refine XS.lload X18.here hx rfl (hb hby d1_58) rfl ?_
    show Steps p.tables e below (T18.setTop (mkF m 60 #[vR o0, vR o1, vJ z21_3, s_, vJ z30_3, s_, vD z104, s_, vI (1 : Int32)] [(.long z30_3), (.int yg1), (.double z104)])) _
    refine XS.l2dS X18.here hx rfl (hb hby d1_60) rfl hz60_2 ?_
    show Steps p.tables e below (T18.setTop (mkF m 61 #[vR o0, vR o1, vJ z21_3, s_, vJ z30_3, s_, vD z104, s_, vI (1 : Int32)] [(.double z60_2), (.int yg1), (.double z104)])) _
    refine XS.aloadN X18.here hx rfl (hb hby d1_61) rfl rfl ?_
    show Steps p.tables e below (T18.setTop (mkF m 62 #[vR o0, vR o1, vJ z21_3, s_, vJ z30_3, s_, vD z104, s_, vI (1 : Int32)] [(.ref o1), (.double z60_2), (.int yg1), (.double z104)])) _
    refine XS.iload X18.here hx rfl (hb hby d1_62) rfl ?_
    show Steps p.tables e below (T18.setTop (mkF m 64 #[vR o0, vR o1, vJ z21_3, s_, vJ z30_3, s_, vD z104, s_, vI (1 : Int32)] [(.int (1 : Int32)), (.ref o1), (.double z60_2), (.int yg1), (.double z104)])) _
    refine X18.iaload hx (j := (1 : Int32)) (v := (.int yh1)) (by rw [e18]; exact Ar21.1) (State.isArrayOf_alike hZ.alike Ar21.2.1) Ar21.2.2 in21 (Has.at Ha21 in21 rfl) (g := (mkF m 64 #[vR o0, vR o1, vJ z21_3, s_, vJ z30_3, s_, vD z104, s_, vI (1 : Int32)] [(.int (1 : Int32)), (.ref o1), (.double z60_2), (.int yg1), (.double z104)])) rfl rfl (hb hby d1_64) _ ?_
    show Steps p.tables e below (T18.setTop (mkF m 65 #[vR o0, vR o1, vJ z21_3, s_, vJ z30_3, s_, vD z104, s_, vI (1 : Int32)] [(.int yh1), (.double z60_2), (.int yg1), (.double z104)])) _
    refine XS.i2dS X18.here hx rfl (hb hby d1_65) rfl hz65_2 ?_
    show Steps p.tables e below (T18.setTop (mkF m 66 #[vR o0, vR o1, vJ z21_3, s_, vJ z30_3, s_, vD z104, s_, vI (1 : Int32)] [(.double z65_2), (.double z60_2), (.int yg1), (.double z104)])) _
    refine Jvm.OwnK.dmul X18.here hx rfl (hb hby d1_66) rfl hz66_2 nn66_2 ?_
    show Steps p.tables e below (T18.setTop (mkF m 67 #[vR o0, vR o1, vJ z21_3, s_, vJ z30_3, s_, vD z104, s_, vI (1 : Int32)] [(.double z66_2), (.int yg1), (.double z104)])) _
    refine XS.lloadN X18.here hx rfl (hb hby d1_67) rfl ?_
    show Steps p.tables e below (T18.setTop (mkF m 68 #[vR o0, vR o1, vJ z21_3, s_, vJ z30_3, s_, vD z104, s_, vI (1 : Int32)] [(.long z21_3), (.double z66_2), (.int yg1), (.double z104)])) _
    refine XS.l2dS X18.here hx rfl (hb hby d1_68) rfl hz68_2 ?_
    show Steps p.tables e below (T18.setTop (mkF m 69 #[vR o0, vR o1, vJ z21_3, s_, vJ z30_3, s_, vD z104, s_, vI (1 : Int32)] [(.double z68_2), (.double z66_2), (.int yg1), (.double z104)])) _
    refine Jvm.OwnK.ddiv X18.here hx rfl (hb hby d1_69) rfl hz69_2 nn69_2 ?_
    show Steps p.tables e below (T18.setTop (mkF m 70 #[vR o0, vR o1, vJ z21_3, s_, vJ z30_3, s_, vD z104, s_, vI (1 : Int32)] [(.double z69_2), (.int yg1), (.double z104)])) _
    refine st22 _ ?_
    show Steps p.tables e below (T22.setTop (mkF m 73 #[vR o0, vR o1, vJ z21_3, s_, vJ z30_3, s_, vD z104, s_, vI (1 : Int32)] [(.double c70_2_rv), (.double z104)])) _
    refine Jvm.OwnK.dadd X22.here hx rfl (hb hby d1_73) rfl hz73_2 nn73_2 ?_
    show Steps p.tables e below (T22.setTop (mkF m 74 #[vR o0, vR o1, vJ z21_3, s_, vJ z30_3, s_, vD z104, s_, vI (1 : Int32)] [(.double z73_2)])) _
    refine XS.dstore X22.here hx rfl (hb hby d1_74) rfl (l' := #[vR o0, vR o1, vJ z21_3, s_, vJ z30_3, s_, vD z73_2, s_, vI (1 : Int32)]) rfl ?_
    show Steps p.tables e below (T22.setTop (mkF m 76 #[vR o0, vR o1, vJ z21_3, s_, vJ z30_3, s_, vD z73_2, s_, vI (1 : Int32)] [])) _
    refine XS.dload X22.here hx rfl (hb hby d1_76) rfl ?_
    show Steps p.tables e below (T22.setTop (mkF m 78 #[vR o0, vR o1, vJ z21_3, s_, vJ z30_3, s_, vD z73_2, s_, vI (1 : Int32)] [(.double z73_2)])) _
    refine XS.aloadN X22.here hx rfl (hb hby d1_78) rfl rfl ?_
    show Steps p.tables e below (T22.setTop (mkF m 79 #[vR o0, vR o1, vJ z21_3, s_, vJ z30_3, s_, vD z73_2, s_, vI (1 : Int32)] [(.ref o1), (.double z73_2)])) _
    refine XS.iload X22.here hx rfl (hb hby d1_79) rfl ?_
    show Steps p.tables e below (T22.setTop (mkF m 81 #[vR o0, vR o1, vJ z21_3, s_, vJ z30_3, s_, vD z73_2, s_, vI (1 : Int32)] [(.int (1 : Int32)), (.ref o1), (.double z73_2)])) _
    refine X22.iaload hx (j := (1 : Int32)) (v := (.int yh1)) (by rw [e22]; exact Ar23.1) (State.isArrayOf_alike hZ.alike Ar23.2.1) Ar23.2.2 in23 (Has.at Ha23 in23 rfl) (g := (mkF m 81 #[vR o0, vR o1, vJ z21_3, s_, vJ z30_3, s_, vD z73_2, s_, vI (1 : Int32)] [(.int (1 : Int32)), (.ref o1), (.double z73_2)])) rfl rfl (hb hby d1_81) _ ?_
    show Steps p.tables e below (T22.setTop (mkF m 82 #[vR o0, vR o1, vJ z21_3, s_, vJ z30_3, s_, vD z73_2, s_, vI (1 : Int32)] [(.int yh1), (.double z73_2)])) _
    refine XS.aloadN X22.here hx rfl (hb hby d1_82) rfl rfl ?_
    show Steps p.tables e below (T22.setTop (mkF m 83 #[vR o0, vR o1, vJ z21_3, s_, vJ z30_3, s_, vD z73_2, s_, vI (1 : Int32)] [(.ref o0), (.int yh1), (.double z73_2)])) _
    refine XS.iload X22.here hx rfl (hb hby d1_83) rfl ?_
    show Steps p.tables e below (T22.setTop (mkF m 85 #[vR o0, vR o1, vJ z21_3, s_, vJ z30_3, s_, vD z73_2, s_, vI (1 : Int32)] [(.int (1 : Int32)), (.ref o0), (.int yh1), (.double z73_2)])) _
    refine X22.iaload hx (j := (1 : Int32)) (v := (.int yg1)) (by rw [e22]; exact Ar24.1) (State.isArrayOf_alike hZ.alike Ar24.2.1) Ar24.2.2 in24 (Has.at Ha24 in24 rfl) (g := (mkF m 85 #[vR o0, vR o1, vJ z21_3, s_, vJ z30_3, s_, vD z73_2, s_, vI (1 : Int32)] [(.int (1 : Int32)), (.ref o0), (.int yh1), (.double z73_2)])) rfl rfl (hb hby d1_85) _ ?_
    show Steps p.tables e below (T22.setTop (mkF m 86 #[vR o0, vR o1, vJ z21_3, s_, vJ z30_3, s_, vD z73_2, s_, vI (1 : Int32)] [(.int yg1), (.int yh1), (.double z73_2)])) _
    refine Jvm.OwnK.isub X22.here hx rfl (hb hby d1_86) rfl hz86_2 ?_
    show Steps p.tables e below (T22.setTop (mkF m 87 #[vR o0, vR o1, vJ z21_3, s_, vJ z30_3, s_, vD z73_2, s_, vI (1 : Int32)] [(.int z86_2), (.double z73_2)])) _
    refine XS.lloadN X22.here hx rfl (hb hby d1_87) rfl ?_
    show Steps p.tables e below (T22.setTop (mkF m 88 #[vR o0, vR o1, vJ z21_3, s_, vJ z30_3, s_, vD z73_2, s_, vI (1 : Int32)] [(.long z21_3), (.int z86_2), (.double z73_2)])) _
    refine XS.lload X22.here hx rfl (hb hby d1_88) rfl ?_
    show Steps p.tables e below (T22.setTop (mkF m 90 #[vR o0, vR o1, vJ z21_3, s_, vJ z30_3, s_, vD z73_2, s_, vI (1 : Int32)] [(.long z30_3), (.long z21_3), (.int z86_2), (.double z73_2)])) _
    refine Jvm.OwnK.lsub X22.here hx rfl (hb hby d1_90) rfl hz90_2 ?_
    show Steps p.tables e below (T22.setTop (mkF m 91 #[vR o0, vR o1, vJ z21_3, s_, vJ z30_3, s_, vD z73_2, s_, vI (1 : Int32)] [(.long z90_2), (.int z86_2), (.double z73_2)])) _
    refine XS.l2dS X22.here hx rfl (hb hby d1_91) rfl hz91_2 ?_
    show Steps p.tables e below (T22.setTop (mkF m 92 #[vR o0, vR o1, vJ z21_3, s_, vJ z30_3, s_, vD z73_2, s_, vI (1 : Int32)] [(.double z91_2), (.int z86_2), (.double z73_2)])) _
    refine XS.aloadN X22.here hx rfl (hb hby d1_92) rfl rfl ?_
    show Steps p.tables e below (T22.setTop (mkF m 93 #[vR o0, vR o1, vJ z21_3, s_, vJ z30_3, s_, vD z73_2, s_, vI (1 : Int32)] [(.ref o1), (.double z91_2), (.int z86_2), (.double z73_2)])) _
    refine XS.iload X22.here hx rfl (hb hby d1_93) rfl ?_
    show Steps p.tables e below (T22.setTop (mkF m 95 #[vR o0, vR o1, vJ z21_3, s_, vJ z30_3, s_, vD z73_2, s_, vI (1 : Int32)] [(.int (1 : Int32)), (.ref o1), (.double z91_2), (.int z86_2), (.double z73_2)])) _
    refine X22.iaload hx (j := (1 : Int32)) (v := (.int yh1)) (by rw [e22]; exact Ar25.1) (State.isArrayOf_alike hZ.alike Ar25.2.1) Ar25.2.2 in25 (Has.at Ha25 in25 rfl) (g := (mkF m 95 #[vR o0, vR o1, vJ z21_3, s_, vJ z30_3, s_, vD z73_2, s_, vI (1 : Int32)] [(.int (1 : Int32)), (.ref o1), (.double z91_2), (.int z86_2), (.double z73_2)])) rfl rfl (hb hby d1_95) _ ?_
    show Steps p.tables e below (T22.setTop (mkF m 96 #[vR o0, vR o1, vJ z21_3, s_, vJ z30_3, s_, vD z73_2, s_, vI (1 : Int32)] [(.int yh1), (.double z91_2), (.int z86_2), (.double z73_2)])) _
    refine XS.i2dS X22.here hx rfl (hb hby d1_96) rfl hz96_2 ?_
    show Steps p.tables e below (T22.setTop (mkF m 97 #[vR o0, vR o1, vJ z21_3, s_, vJ z30_3, s_, vD z73_2, s_, vI (1 : Int32)] [(.double z96_2), (.double z91_2), (.int z86_2), (.double z73_2)])) _
    refine Jvm.OwnK.dmul X22.here hx rfl (hb hby d1_97) rfl hz97_2 nn97_2 ?_
    show Steps p.tables e below (T22.setTop (mkF m 98 #[vR o0, vR o1, vJ z21_3, s_, vJ z30_3, s_, vD z73_2, s_, vI (1 : Int32)] [(.double z97_2), (.int z86_2), (.double z73_2)])) _
    refine XS.lloadN X22.here hx rfl (hb hby d1_98) rfl ?_
    show Steps p.tables e below (T22.setTop (mkF m 99 #[vR o0, vR o1, vJ z21_3, s_, vJ z30_3, s_, vD z73_2, s_, vI (1 : Int32)] [(.long z21_3), (.double z97_2), (.int z86_2), (.double z73_2)])) _
    refine XS.l2dS X22.here hx rfl (hb hby d1_99) rfl hz99_2 ?_
    show Steps p.tables e below (T22.setTop (mkF m 100 #[vR o0, vR o1, vJ z21_3, s_, vJ z30_3, s_, vD z73_2, s_, vI (1 : Int32)] [(.double z99_2), (.double z97_2), (.int z86_2), (.double z73_2)])) _
    refine Jvm.OwnK.ddiv X22.here hx rfl (hb hby d1_100) rfl hz100_2 nn100_2 ?_
    show Steps p.tables e below (T22.setTop (mkF m 101 #[vR o0, vR o1, vJ z21_3, s_, vJ z30_3, s_, vD z73_2, s_, vI (1 : Int32)] [(.double z100_2), (.int z86_2), (.double z73_2)])) _
    refine st26 _ ?_
    show Steps p.tables e below (T26.setTop (mkF m 104 #[vR o0, vR o1, vJ z21_3, s_, vJ z30_3, s_, vD z73_2, s_, vI (1 : Int32)] [(.double c101_2_rv), (.double z73_2)])) _
    refine Jvm.OwnK.dadd X26.here hx rfl (hb hby d1_104) rfl hz104_2 nn104_2 ?_
    show Steps p.tables e below (T26.setTop (mkF m 105 #[vR o0, vR o1, vJ z21_3, s_, vJ z30_3, s_, vD z73_2, s_, vI (1 : Int32)] [(.double z104_2)])) _
    refine XS.dstore X26.here hx rfl (hb hby d1_105) rfl (l' := #[vR o0, vR o1, vJ z21_3, s_, vJ z30_3, s_, vD z104_2, s_, vI (1 : Int32)]) rfl ?_
    show Steps p.tables e below (T26.setTop (mkF m 107 #[vR o0, vR o1, vJ z21_3, s_, vJ z30_3, s_, vD z104_2, s_, vI (1 : Int32)] [])) _
    refine Jvm.OwnK.iinc X26.here hx rfl (hb hby d1_107) rfl (l' := #[vR o0, vR o1, vJ z21_3, s_, vJ z30_3, s_, vD z104_2, s_, vI (2 : Int32)]) (v := (2 : Int32)) (by decide) rfl ?_
    show Steps p.tables e below (T26.setTop (mkF m 110 #[vR o0, vR o1, vJ z21_3, s_, vJ z30_3, s_, vD z104_2, s_, vI (2 : Int32)] [])) _
    refine XS.goto X26.here hx rfl (pc0 := 110) (pc' := 45) rfl (hb hby d1_110) (by decide) (by decide) ?_
    show Steps p.tables e below (T26.setTop (mkF m 45 #[vR o0, vR o1, vJ z21_3, s_, vJ z30_3, s_, vD z104_2, s_, vI (2 : Int32)] [])) _
    refine XS.iload X26.here hx rfl (hb hby d1_45) rfl ?_
    show Steps p.tables e below (T26.setTop (mkF m 47 #[vR o0, vR o1, vJ z21_3, s_, vJ z30_3, s_, vD z104_2, s_, vI (2 : Int32)] [(.int (2 : Int32))])) _
    refine XS.aloadN X26.here hx rfl (hb hby d1_47) rfl rfl ?_
    show Steps p.tables e below (T26.setTop (mkF m 48 #[vR o0, vR o1, vJ z21_3, s_, vJ z30_3, s_, vD z104_2, s_, vI (2 : Int32)] [(.ref o1), (.int (2 : Int32))])) _
    refine X26.arraylength hx (by rw [e26]; exact Ar27.1) (State.isArrayOf_alike hZ.alike Ar27.2.1) (g := (mkF m 48 #[vR o0, vR o1, vJ z21_3, s_, vJ z30_3, s_, vD z104_2, s_, vI (2 : Int32)] [(.ref o1), (.int (2 : Int32))])) rfl rfl (hb hby d1_48) _ ?_
    rw [len_of S27 Nn27]
    show Steps p.tables e below (T26.setTop (mkF m 49 #[vR o0, vR o1, vJ z21_3, s_, vJ z30_3, s_, vD z104_2, s_, vI (2 : Int32)] [(.int (3 : Int32)), (.int (2 : Int32))])) _
    refine XS.icmpNo X26.here hx rfl (hb hby d1_49) rfl (Jvm.Free.XT.ii_ge_f (by decide)) ?_
    show Steps p.tables e below (T26.setTop (mkF m 52 #[vR o0, vR o1, vJ z21_3, s_, vJ z30_3, s_, vD z104_2, s_, vI (2 : Int32)] [])) _
    refine XS.dload X26.here hx rfl (hb hby d1_52) rfl ?_
    show Steps p.tables e below (T26.setTop (mkF m 54 #[vR o0, vR o1, vJ z21_3, s_, vJ z30_3, s_, vD z104_2, s_, vI (2 : Int32)] [(.double z104_2)])) _
    refine XS.aloadN X26.here hx rfl (hb hby d1_54) rfl rfl ?_
    show Steps p.tables e below (T26.setTop (mkF m 55 #[vR o0, vR o1, vJ z21_3, s_, vJ z30_3, s_, vD z104_2, s_, vI (2 : Int32)] [(.ref o0), (.double z104_2)])) _
    refine XS.iload X26.here hx rfl (hb hby d1_55) rfl ?_
    show Steps p.tables e below (T26.setTop (mkF m 57 #[vR o0, vR o1, vJ z21_3, s_, vJ z30_3, s_, vD z104_2, s_, vI (2 : Int32)] [(.int (2 : Int32)), (.ref o0), (.double z104_2)])) _
    refine X26.iaload hx (j := (2 : Int32)) (v := (.int yg2)) (by rw [e26]; exact Ar28.1) (State.isArrayOf_alike hZ.alike Ar28.2.1) Ar28.2.2 in28 (Has.at Ha28 in28 rfl) (g := (mkF m 57 #[vR o0, vR o1, vJ z21_3, s_, vJ z30_3, s_, vD z104_2, s_, vI (2 : Int32)] [(.int (2 : Int32)), (.ref o0), (.double z104_2)])) rfl rfl (hb hby d1_57) _ ?_
    show Steps p.tables e below (T26.setTop (mkF m 58 #[vR o0, vR o1, vJ z21_3, s_, vJ z30_3, s_, vD z104_2, s_, vI (2 : Int32)] [(.int yg2), (.double z104_2)])) _
    refine XS.lload X26.here hx rfl (hb hby d1_58) rfl ?_
    show Steps p.tables e below (T26.setTop (mkF m 60 #[vR o0, vR o1, vJ z21_3, s_, vJ z30_3, s_, vD z104_2, s_, vI (2 : Int32)] [(.long z30_3), (.int yg2), (.double z104_2)])) _
    refine XS.l2dS X26.here hx rfl (hb hby d1_60) rfl hz60_3 ?_
    show Steps p.tables e below (T26.setTop (mkF m 61 #[vR o0, vR o1, vJ z21_3, s_, vJ z30_3, s_, vD z104_2, s_, vI (2 : Int32)] [(.double z60_3), (.int yg2), (.double z104_2)])) _
    refine XS.aloadN X26.here hx rfl (hb hby d1_61) rfl rfl ?_
    show Steps p.tables e below (T26.setTop (mkF m 62 #[vR o0, vR o1, vJ z21_3, s_, vJ z30_3, s_, vD z104_2, s_, vI (2 : Int32)] [(.ref o1), (.double z60_3), (.int yg2), (.double z104_2)])) _
    refine XS.iload X26.here hx rfl (hb hby d1_62) rfl ?_
    show Steps p.tables e below (T26.setTop (mkF m 64 #[vR o0, vR o1, vJ z21_3, s_, vJ z30_3, s_, vD z104_2, s_, vI (2 : Int32)] [(.int (2 : Int32)), (.ref o1), (.double z60_3), (.int yg2), (.double z104_2)])) _
    refine X26.iaload hx (j := (2 : Int32)) (v := (.int yh2)) (by rw [e26]; exact Ar29.1) (State.isArrayOf_alike hZ.alike Ar29.2.1) Ar29.2.2 in29 (Has.at Ha29 in29 rfl) (g := (mkF m 64 #[vR o0, vR o1, vJ z21_3, s_, vJ z30_3, s_, vD z104_2, s_, vI (2 : Int32)] [(.int (2 : Int32)), (.ref o1), (.double z60_3), (.int yg2), (.double z104_2)])) rfl rfl (hb hby d1_64) _ ?_
    show Steps p.tables e below (T26.setTop (mkF m 65 #[vR o0, vR o1, vJ z21_3, s_, vJ z30_3, s_, vD z104_2, s_, vI (2 : Int32)] [(.int yh2), (.double z60_3), (.int yg2), (.double z104_2)])) _
    refine XS.i2dS X26.here hx rfl (hb hby d1_65) rfl hz65_3 ?_
    show Steps p.tables e below (T26.setTop (mkF m 66 #[vR o0, vR o1, vJ z21_3, s_, vJ z30_3, s_, vD z104_2, s_, vI (2 : Int32)] [(.double z65_3), (.double z60_3), (.int yg2), (.double z104_2)])) _
    refine Jvm.OwnK.dmul X26.here hx rfl (hb hby d1_66) rfl hz66_3 nn66_3 ?_
    show Steps p.tables e below (T26.setTop (mkF m 67 #[vR o0, vR o1, vJ z21_3, s_, vJ z30_3, s_, vD z104_2, s_, vI (2 : Int32)] [(.double z66_3), (.int yg2), (.double z104_2)])) _
    refine XS.lloadN X26.here hx rfl (hb hby d1_67) rfl ?_
    show Steps p.tables e below (T26.setTop (mkF m 68 #[vR o0, vR o1, vJ z21_3, s_, vJ z30_3, s_, vD z104_2, s_, vI (2 : Int32)] [(.long z21_3), (.double z66_3), (.int yg2), (.double z104_2)])) _
    refine XS.l2dS X26.here hx rfl (hb hby d1_68) rfl hz68_3 ?_
    show Steps p.tables e below (T26.setTop (mkF m 69 #[vR o0, vR o1, vJ z21_3, s_, vJ z30_3, s_, vD z104_2, s_, vI (2 : Int32)] [(.double z68_3), (.double z66_3), (.int yg2), (.double z104_2)])) _
    refine Jvm.OwnK.ddiv X26.here hx rfl (hb hby d1_69) rfl hz69_3 nn69_3 ?_
    show Steps p.tables e below (T26.setTop (mkF m 70 #[vR o0, vR o1, vJ z21_3, s_, vJ z30_3, s_, vD z104_2, s_, vI (2 : Int32)] [(.double z69_3), (.int yg2), (.double z104_2)])) _
    refine st30 _ ?_
    show Steps p.tables e below (T30.setTop (mkF m 73 #[vR o0, vR o1, vJ z21_3, s_, vJ z30_3, s_, vD z104_2, s_, vI (2 : Int32)] [(.double c70_3_rv), (.double z104_2)])) _
    refine Jvm.OwnK.dadd X30.here hx rfl (hb hby d1_73) rfl hz73_3 nn73_3 ?_
    show Steps p.tables e below (T30.setTop (mkF m 74 #[vR o0, vR o1, vJ z21_3, s_, vJ z30_3, s_, vD z104_2, s_, vI (2 : Int32)] [(.double z73_3)])) _
    refine XS.dstore X30.here hx rfl (hb hby d1_74) rfl (l' := #[vR o0, vR o1, vJ z21_3, s_, vJ z30_3, s_, vD z73_3, s_, vI (2 : Int32)]) rfl ?_
    show Steps p.tables e below (T30.setTop (mkF m 76 #[vR o0, vR o1, vJ z21_3, s_, vJ z30_3, s_, vD z73_3, s_, vI (2 : Int32)] [])) _
    refine XS.dload X30.here hx rfl (hb hby d1_76) rfl ?_
    show Steps p.tables e below (T30.setTop (mkF m 78 #[vR o0, vR o1, vJ z21_3, s_, vJ z30_3, s_, vD z73_3, s_, vI (2 : Int32)] [(.double z73_3)])) _
    refine XS.aloadN X30.here hx rfl (hb hby d1_78) rfl rfl ?_
    show Steps p.tables e below (T30.setTop (mkF m 79 #[vR o0, vR o1, vJ z21_3, s_, vJ z30_3, s_, vD z73_3, s_, vI (2 : Int32)] [(.ref o1), (.double z73_3)])) _
    refine XS.iload X30.here hx rfl (hb hby d1_79) rfl ?_
    show Steps p.tables e below (T30.setTop (mkF m 81 #[vR o0, vR o1, vJ z21_3, s_, vJ z30_3, s_, vD z73_3, s_, vI (2 : Int32)] [(.int (2 : Int32)), (.ref o1), (.double z73_3)])) _
    refine X30.iaload hx (j := (2 : Int32)) (v := (.int yh2)) (by rw [e30]; exact Ar31.1) (State.isArrayOf_alike hZ.alike Ar31.2.1) Ar31.2.2 in31 (Has.at Ha31 in31 rfl) (g := (mkF m 81 #[vR o0, vR o1, vJ z21_3, s_, vJ z30_3, s_, vD z73_3, s_, vI (2 : Int32)] [(.int (2 : Int32)), (.ref o1), (.double z73_3)])) rfl rfl (hb hby d1_81) _ ?_
    show Steps p.tables e below (T30.setTop (mkF m 82 #[vR o0, vR o1, vJ z21_3, s_, vJ z30_3, s_, vD z73_3, s_, vI (2 : Int32)] [(.int yh2), (.double z73_3)])) _
    refine XS.aloadN X30.here hx rfl (hb hby d1_82) rfl rfl ?_
    show Steps p.tables e below (T30.setTop (mkF m 83 #[vR o0, vR o1, vJ z21_3, s_, vJ z30_3, s_, vD z73_3, s_, vI (2 : Int32)] [(.ref o0), (.int yh2), (.double z73_3)])) _
    refine XS.iload X30.here hx rfl (hb hby d1_83) rfl ?_
    show Steps p.tables e below (T30.setTop (mkF m 85 #[vR o0, vR o1, vJ z21_3, s_, vJ z30_3, s_, vD z73_3, s_, vI (2 : Int32)] [(.int (2 : Int32)), (.ref o0), (.int yh2), (.double z73_3)])) _
    refine X30.iaload hx (j := (2 : Int32)) (v := (.int yg2)) (by rw [e30]; exact Ar32.1) (State.isArrayOf_alike hZ.alike Ar32.2.1) Ar32.2.2 in32 (Has.at Ha32 in32 rfl) (g := (mkF m 85 #[vR o0, vR o1, vJ z21_3, s_, vJ z30_3, s_, vD z73_3, s_, vI (2 : Int32)] [(.int (2 : Int32)), (.ref o0), (.int yh2), (.double z73_3)])) rfl rfl (hb hby d1_85) _ ?_
    show Steps p.tables e below (T30.setTop (mkF m 86 #[vR o0, vR o1, vJ z21_3, s_, vJ z30_3, s_, vD z73_3, s_, vI (2 : Int32)] [(.int yg2), (.int yh2), (.double z73_3)])) _
    refine Jvm.OwnK.isub X30.here hx rfl (hb hby d1_86) rfl hz86_3 ?_
    show Steps p.tables e below (T30.setTop (mkF m 87 #[vR o0, vR o1, vJ z21_3, s_, vJ z30_3, s_, vD z73_3, s_, vI (2 : Int32)] [(.int z86_3), (.double z73_3)])) _
    refine XS.lloadN X30.here hx rfl (hb hby d1_87) rfl ?_
    show Steps p.tables e below (T30.setTop (mkF m 88 #[vR o0, vR o1, vJ z21_3, s_, vJ z30_3, s_, vD z73_3, s_, vI (2 : Int32)] [(.long z21_3), (.int z86_3), (.double z73_3)])) _
    refine XS.lload X30.here hx rfl (hb hby d1_88) rfl ?_
    show Steps p.tables e below (T30.setTop (mkF m 90 #[vR o0, vR o1, vJ z21_3, s_, vJ z30_3, s_, vD z73_3, s_, vI (2 : Int32)] [(.long z30_3), (.long z21_3), (.int z86_3), (.double z73_3)])) _
    refine Jvm.OwnK.lsub X30.here hx rfl (hb hby d1_90) rfl hz90_3 ?_
    show Steps p.tables e below (T30.setTop (mkF m 91 #[vR o0, vR o1, vJ z21_3, s_, vJ z30_3, s_, vD z73_3, s_, vI (2 : Int32)] [(.long z90_3), (.int z86_3), (.double z73_3)])) _
    refine XS.l2dS X30.here hx rfl (hb hby d1_91) rfl hz91_3 ?_
    show Steps p.tables e below (T30.setTop (mkF m 92 #[vR o0, vR o1, vJ z21_3, s_, vJ z30_3, s_, vD z73_3, s_, vI (2 : Int32)] [(.double z91_3), (.int z86_3), (.double z73_3)])) _
    refine XS.aloadN X30.here hx rfl (hb hby d1_92) rfl rfl ?_
    show Steps p.tables e below (T30.setTop (mkF m 93 #[vR o0, vR o1, vJ z21_3, s_, vJ z30_3, s_, vD z73_3, s_, vI (2 : Int32)] [(.ref o1), (.double z91_3), (.int z86_3), (.double z73_3)])) _
    refine XS.iload X30.here hx rfl (hb hby d1_93) rfl ?_
    show Steps p.tables e below (T30.setTop (mkF m 95 #[vR o0, vR o1, vJ z21_3, s_, vJ z30_3, s_, vD z73_3, s_, vI (2 : Int32)] [(.int (2 : Int32)), (.ref o1), (.double z91_3), (.int z86_3), (.double z73_3)])) _
    refine X30.iaload hx (j := (2 : Int32)) (v := (.int yh2)) (by rw [e30]; exact Ar33.1) (State.isArrayOf_alike hZ.alike Ar33.2.1) Ar33.2.2 in33 (Has.at Ha33 in33 rfl) (g := (mkF m 95 #[vR o0, vR o1, vJ z21_3, s_, vJ z30_3, s_, vD z73_3, s_, vI (2 : Int32)] [(.int (2 : Int32)), (.ref o1), (.double z91_3), (.int z86_3), (.double z73_3)])) rfl rfl (hb hby d1_95) _ ?_
    show Steps p.tables e below (T30.setTop (mkF m 96 #[vR o0, vR o1, vJ z21_3, s_, vJ z30_3, s_, vD z73_3, s_, vI (2 : Int32)] [(.int yh2), (.double z91_3), (.int z86_3), (.double z73_3)])) _
    refine XS.i2dS X30.here hx rfl (hb hby d1_96) rfl hz96_3 ?_
    show Steps p.tables e below (T30.setTop (mkF m 97 #[vR o0, vR o1, vJ z21_3, s_, vJ z30_3, s_, vD z73_3, s_, vI (2 : Int32)] [(.double z96_3), (.double z91_3), (.int z86_3), (.double z73_3)])) _
    refine Jvm.OwnK.dmul X30.here hx rfl (hb hby d1_97) rfl hz97_3 nn97_3 ?_
    show Steps p.tables e below (T30.setTop (mkF m 98 #[vR o0, vR o1, vJ z21_3, s_, vJ z30_3, s_, vD z73_3, s_, vI (2 : Int32)] [(.double z97_3), (.int z86_3), (.double z73_3)])) _
    refine XS.lloadN X30.here hx rfl (hb hby d1_98) rfl ?_
    show Steps p.tables e below (T30.setTop (mkF m 99 #[vR o0, vR o1, vJ z21_3, s_, vJ z30_3, s_, vD z73_3, s_, vI (2 : Int32)] [(.long z21_3), (.double z97_3), (.int z86_3), (.double z73_3)])) _
    refine XS.l2dS X30.here hx rfl (hb hby d1_99) rfl hz99_3 ?_
    show Steps p.tables e below (T30.setTop (mkF m 100 #[vR o0, vR o1, vJ z21_3, s_, vJ z30_3, s_, vD z73_3, s_, vI (2 : Int32)] [(.double z99_3), (.double z97_3), (.int z86_3), (.double z73_3)])) _
    refine Jvm.OwnK.ddiv X30.here hx rfl (hb hby d1_100) rfl hz100_3 nn100_3 ?_
    show Steps p.tables e below (T30.setTop (mkF m 101 #[vR o0, vR o1, vJ z21_3, s_, vJ z30_3, s_, vD z73_3, s_, vI (2 : Int32)] [(.double z100_3), (.int z86_3), (.double z73_3)])) _
    refine st34 _ ?_
    show Steps p.tables e below (T34.setTop (mkF m 104 #[vR o0, vR o1, vJ z21_3, s_, vJ z30_3, s_, vD z73_3, s_, vI (2 : Int32)] [(.double c101_3_rv), (.double z73_3)])) _
    refine Jvm.OwnK.dadd X34.here hx rfl (hb hby d1_104) rfl hz104_3 nn104_3 ?_
    show Steps p.tables e below (T34.setTop (mkF m 105 #[vR o0, vR o1, vJ z21_3, s_, vJ z30_3, s_, vD z73_3, s_, vI (2 : Int32)] [(.double z104_3)])) _
    refine XS.dstore X34.here hx rfl (hb hby d1_105) rfl (l' := #[vR o0, vR o1, vJ z21_3, s_, vJ z30_3, s_, vD z104_3, s_, vI (2 : Int32)]) rfl ?_
    show Steps p.tables e below (T34.setTop (mkF m 107 #[vR o0, vR o1, vJ z21_3, s_, vJ z30_3, s_, vD z104_3, s_, vI (2 : Int32)] [])) _
    refine Jvm.OwnK.iinc X34.here hx rfl (hb hby d1_107) rfl (l' := #[vR o0, vR o1, vJ z21_3, s_, vJ z30_3, s_, vD z104_3, s_, vI (3 : Int32)]) (v := (3 : Int32)) (by decide) rfl ?_
    show Steps p.tables e below (T34.setTop (mkF m 110 #[vR o0, vR o1, vJ z21_3, s_, vJ z30_3, s_, vD z104_3, s_, vI (3 : Int32)] [])) _
    refine XS.goto X34.here hx rfl (pc0 := 110) (pc' := 45) rfl (hb hby d1_110) (by decide) (by decide) ?_
    show Steps p.tables e below (T34.setTop (mkF m 45 #[vR o0, vR o1, vJ z21_3, s_, vJ z30_3, s_, vD z104_3, s_, vI (3 : Int32)] [])) _
    refine XS.iload X34.here hx rfl (hb hby d1_45) rfl ?_
    show Steps p.tables e below (T34.setTop (mkF m 47 #[vR o0, vR o1, vJ z21_3, s_, vJ z30_3, s_, vD z104_3, s_, vI (3 : Int32)] [(.int (3 : Int32))])) _
    refine XS.aloadN X34.here hx rfl (hb hby d1_47) rfl rfl ?_
    show Steps p.tables e below (T34.setTop (mkF m 48 #[vR o0, vR o1, vJ z21_3, s_, vJ z30_3, s_, vD z104_3, s_, vI (3 : Int32)] [(.ref o1), (.int (3 : Int32))])) _
    refine X34.arraylength hx (by rw [e34]; exact Ar35.1) (State.isArrayOf_alike hZ.alike Ar35.2.1) (g := (mkF m 48 #[vR o0, vR o1, vJ z21_3, s_, vJ z30_3, s_, vD z104_3, s_, vI (3 : Int32)] [(.ref o1), (.int (3 : Int32))])) rfl rfl (hb hby d1_48) _ ?_
    rw [len_of S35 Nn35]
    show Steps p.tables e below (T34.setTop (mkF m 49 #[vR o0, vR o1, vJ z21_3, s_, vJ z30_3, s_, vD z104_3, s_, vI (3 : Int32)] [(.int (3 : Int32)), (.int (3 : Int32))])) _
    refine XS.icmpYes X34.here hx rfl (pc0 := 49) (pc' := 113) rfl (hb hby d1_49) rfl (Jvm.Free.XT.ii_ge_t (by decide)) (by decide) (by decide) ?_
    show Steps p.tables e below (T34.setTop (mkF m 113 #[vR o0, vR o1, vJ z21_3, s_, vJ z30_3, s_, vD z104_3, s_, vI (3 : Int32)] [])) _
    refine XS.dload X34.here hx rfl (hb hby d1_113) rfl ?_
    exact k
  obtain ⟨fs, hr, hrun, hended, hW, hsame⟩ := X34.leave (v := some (.double z104_3)) (fun h => by rw [Bd.returns] at h; cases h)
  refine ⟨_, _, c36 _ ?_, hrun, hended, _, _, rfl, ?_, ⟨_, rfl⟩, hW, hsame.mono (by decide) (by decide)⟩
  · show Steps p.tables e below (T34.setTop (mkF m 115 #[vR o0, vR o1, vJ z21_3, s_, vJ z30_3, s_, vD z104_3, s_, vI (3 : Int32)] [(.double z104_3)])) _
    exact retOut X34 hx Bd.returns rfl (Or.inr (Or.inr (Or.inl ⟨rfl, rfl, _, rfl⟩))) (hb hby d1_115) hr
  · show Q1_3 Z o0 o1 k_o0 yg0 yg1 yg2 k_o1 yh0 yh1 yh2 z20 z21 z29 z30 z20_2 z21_2 z29_2 z30_2 z20_3 z21_3 z29_3 z30_3 z60 z65 z66 z68 z69 c70_z1 c70_z3 c70_z7 c70_z17 c70_z19 c70_rv z73 z86 z90 z91 z96 z97 z99 z100 c101_z1 c101_z3 c101_z7 c101_z17 c101_z19 c101_rv z104 z60_2 z65_2 z66_2 z68_2 z69_2 c70_2_z1 c70_2_z3 c70_2_z7 c70_2_z17 c70_2_z19 c70_2_rv z73_2 z86_2 z90_2 z91_2 z96_2 z97_2 z99_2 z100_2 c101_2_z1 c101_2_z3 c101_2_z7 c101_2_z17 c101_2_z19 c101_2_rv z104_2 z60_3 z65_3 z66_3 z68_3 z69_3 c70_3_z1 c70_3_z3 c70_3_z7 c70_3_z17 c70_3_z19 c70_3_rv z73_3 z86_3 z90_3 z91_3 z96_3 z97_3 z99_3 z100_3 c101_3_z1 c101_3_z3 c101_3_z7 c101_3_z17 c101_3_z19 c101_3_rv z104_3 h0 n0 _ T34.heap _
    rw [e34]
    exact ⟨rfl, N34, rfl⟩
def Q0 (n0 : Nat) (v : Option Value) (h : Heap) (L : List Loc) : Prop := v = some (.int 1) ∧ Fr n0 L
set_option maxRecDepth 65536 in
set_option maxHeartbeats 40000000 in
theorem rm0 (l : Launch) (Z : State) (a0 : Array Value) (hw : ∀ d ∈ tables_1, d.before a0 Z = true) (ws : List Jvm.Cond) (p0 : Int32) (p1 : Int32) (p2 : Int32) (p3 : Int32)  (h0 : Heap) (n0 : Nat) (Z0 : n0 ≤ h0.size)  :
    MetFree l x (head1 (Jvm.Cond.code x code maxLocals ret :: ws) room_1) (fun a U => a = #[(.int p0), (.int p1), (.int p2), (.int p3)] ∧ Z.Warmed39 U.vm ∧ U.heap = h0) (fun _ _ _ _ _ => True) (fun _ U o U' => ∃ v L, o = .returned v ∧ Q0 n0 v U'.heap L ∧ FrameEnd U o U' L room_1.cells room_1.slots) := by
  refine MetFree.of_bodySF (plainFor_of_name pn_1) hisR ?_
  intro p e s m args below meth c s₁ Bd hml0 hP hK
  obtain ⟨rfl, hZ, hh⟩ := hP
  have hx := Bd.exec
  have hby := Bd.bytes
  have hml : c.maxLocals = 29 := hml0
  have hown : s.vm.findClass "com/example/tidy_ranker/tidyranker/classification/ChiSquareScorePinLaw" = some m.cls := findClass_of_methodNamed Bd.named
  have hnm := (name_of_methodNamed Bd.named Bd.method).1
  have X0 : Stand p l e room_1 s m #[(.int p0), (.int p1), (.int p2), (.int p3)] below meth c s₁ [] 0 0 := Stand.of_body Bd
  have e0 : s₁.heap = h0 := by rw [← hh, Bd.state]; rfl
  have N0 := Fr.nil n0
  have c0 : ∀ t, Steps p.tables e below (s₁.setTop (mkF m 0 #[vI p0, vI p1, vI p2, vI p3, u_, u_, u_, u_, u_, u_, u_, u_, u_, u_, u_, u_, u_, u_, u_, u_, u_, u_, u_, u_, u_, u_, u_, u_, u_] [])) t → Steps p.tables e below (s₁.setTop (entryFrame m #[(.int p0), (.int p1), (.int p2), (.int p3)] maxLocals)) t := fun t k => castTop (ef_rm0 m p0 p1 p2 p3) k
  obtain ⟨z4, hz4⟩ : ∃ z : Int32, p3 &&& (2147483647 : Int32) = z := ⟨_, rfl⟩
  obtain ⟨z6, hz6⟩ : ∃ z : Int32, z4 % (3 : Int32) = z := ⟨_, rfl⟩
  obtain ⟨z7, hz7⟩ : ∃ z : Int32, (1 : Int32) + z6 = z := ⟨_, rfl⟩
  obtain ⟨z14, hz14⟩ : ∃ z : Int32, p0 &&& (4095 : Int32) = z := ⟨_, rfl⟩
  obtain ⟨z20, hz20⟩ : ∃ z : Int32, (p0.toUInt32 >>> ((12 : Int32) &&& 31).toUInt32).toInt32 = z := ⟨_, rfl⟩
  obtain ⟨z24, hz24⟩ : ∃ z : Int32, z14 + (1 : Int32) = z := ⟨_, rfl⟩
  obtain ⟨z25, hz25⟩ : ∃ z : Int32, z20 % z24 = z := ⟨_, rfl⟩
  obtain ⟨z32, hz32⟩ : ∃ z : Int32, p1 &&& (4095 : Int32) = z := ⟨_, rfl⟩
  obtain ⟨z38, hz38⟩ : ∃ z : Int32, (p1.toUInt32 >>> ((12 : Int32) &&& 31).toUInt32).toInt32 = z := ⟨_, rfl⟩
  obtain ⟨z42, hz42⟩ : ∃ z : Int32, z32 + (1 : Int32) = z := ⟨_, rfl⟩
  obtain ⟨z43, hz43⟩ : ∃ z : Int32, z38 % z42 = z := ⟨_, rfl⟩
  obtain ⟨z50, hz50⟩ : ∃ z : Int32, p2 &&& (4095 : Int32) = z := ⟨_, rfl⟩
  obtain ⟨z56, hz56⟩ : ∃ z : Int32, (p2.toUInt32 >>> ((12 : Int32) &&& 31).toUInt32).toInt32 = z := ⟨_, rfl⟩
  obtain ⟨z60, hz60⟩ : ∃ z : Int32, z50 + (1 : Int32) = z := ⟨_, rfl⟩
  obtain ⟨z61, hz61⟩ : ∃ z : Int32, z56 % z60 = z := ⟨_, rfl⟩
  obtain ⟨nz25, g0a, g0b, g0c⟩ := hg hz14 hz20 hz24 hz25
  obtain ⟨nz43, g1a, g1b, g1c⟩ := hg hz32 hz38 hz42 hz43
  obtain ⟨nz61, g2a, g2b, g2c⟩ := hg hz50 hz56 hz60 hz61
  have c1 : ∀ t, Steps p.tables e below (s₁.setTop (mkF m 64 #[vI p0, vI p1, vI p2, vI p3, vI z7, vI z14, vI z25, vI z32, vI z43, vI z50, vI z61, u_, u_, u_, u_, u_, u_, u_, u_, u_, u_, u_, u_, u_, u_, u_, u_, u_, u_] [])) t → Steps p.tables e below (s₁.setTop (entryFrame m #[(.int p0), (.int p1), (.int p2), (.int p3)] maxLocals)) t := by
    intro t k
    refine c0 t ?_
    show Steps p.tables e below (s₁.setTop (mkF m 0 #[vI p0, vI p1, vI p2, vI p3, u_, u_, u_, u_, u_, u_, u_, u_, u_, u_, u_, u_, u_, u_, u_, u_, u_, u_, u_, u_, u_, u_, u_, u_, u_] [])) _
    refine XS.iconst X0.here hx rfl (hb hby at_0) ?_
    show Steps p.tables e below (s₁.setTop (mkF m 1 #[vI p0, vI p1, vI p2, vI p3, u_, u_, u_, u_, u_, u_, u_, u_, u_, u_, u_, u_, u_, u_, u_, u_, u_, u_, u_, u_, u_, u_, u_, u_, u_] [(.int (1 : Int32))])) _
    refine XS.iloadN X0.here hx rfl (hb hby at_1) rfl ?_
    show Steps p.tables e below (s₁.setTop (mkF m 2 #[vI p0, vI p1, vI p2, vI p3, u_, u_, u_, u_, u_, u_, u_, u_, u_, u_, u_, u_, u_, u_, u_, u_, u_, u_, u_, u_, u_, u_, u_, u_, u_] [(.int p3), (.int (1 : Int32))])) _
    refine X0.ldcInt hx hown (mvT hZ (hw _ (List.mem_of_getElem? (i := 0) rfl))) (g := (mkF m 2 #[vI p0, vI p1, vI p2, vI p3, u_, u_, u_, u_, u_, u_, u_, u_, u_, u_, u_, u_, u_, u_, u_, u_, u_, u_, u_, u_, u_, u_, u_, u_, u_] [(.int p3), (.int (1 : Int32))])) rfl (hb hby at_2) _ ?_
    show Steps p.tables e below (s₁.setTop (mkF m 4 #[vI p0, vI p1, vI p2, vI p3, u_, u_, u_, u_, u_, u_, u_, u_, u_, u_, u_, u_, u_, u_, u_, u_, u_, u_, u_, u_, u_, u_, u_, u_, u_] [(.int (2147483647 : Int32)), (.int p3), (.int (1 : Int32))])) _
    refine Jvm.OwnK.iand X0.here hx rfl (hb hby at_4) rfl hz4 ?_
    show Steps p.tables e below (s₁.setTop (mkF m 5 #[vI p0, vI p1, vI p2, vI p3, u_, u_, u_, u_, u_, u_, u_, u_, u_, u_, u_, u_, u_, u_, u_, u_, u_, u_, u_, u_, u_, u_, u_, u_, u_] [(.int z4), (.int (1 : Int32))])) _
    refine XS.iconst X0.here hx rfl (hb hby at_5) ?_
    show Steps p.tables e below (s₁.setTop (mkF m 6 #[vI p0, vI p1, vI p2, vI p3, u_, u_, u_, u_, u_, u_, u_, u_, u_, u_, u_, u_, u_, u_, u_, u_, u_, u_, u_, u_, u_, u_, u_, u_, u_] [(.int (3 : Int32)), (.int z4), (.int (1 : Int32))])) _
    refine Jvm.OwnK.irem X0.here hx rfl (hb hby at_6) rfl (by decide) hz6 ?_
    show Steps p.tables e below (s₁.setTop (mkF m 7 #[vI p0, vI p1, vI p2, vI p3, u_, u_, u_, u_, u_, u_, u_, u_, u_, u_, u_, u_, u_, u_, u_, u_, u_, u_, u_, u_, u_, u_, u_, u_, u_] [(.int z6), (.int (1 : Int32))])) _
    refine Jvm.OwnK.iadd X0.here hx rfl (hb hby at_7) rfl hz7 ?_
    show Steps p.tables e below (s₁.setTop (mkF m 8 #[vI p0, vI p1, vI p2, vI p3, u_, u_, u_, u_, u_, u_, u_, u_, u_, u_, u_, u_, u_, u_, u_, u_, u_, u_, u_, u_, u_, u_, u_, u_, u_] [(.int z7)])) _
    refine XS.istore X0.here hx rfl (hb hby at_8) rfl (l' := #[vI p0, vI p1, vI p2, vI p3, vI z7, u_, u_, u_, u_, u_, u_, u_, u_, u_, u_, u_, u_, u_, u_, u_, u_, u_, u_, u_, u_, u_, u_, u_, u_]) rfl ?_
    show Steps p.tables e below (s₁.setTop (mkF m 10 #[vI p0, vI p1, vI p2, vI p3, vI z7, u_, u_, u_, u_, u_, u_, u_, u_, u_, u_, u_, u_, u_, u_, u_, u_, u_, u_, u_, u_, u_, u_, u_, u_] [])) _
    refine XS.iloadN X0.here hx rfl (hb hby at_10) rfl ?_
    show Steps p.tables e below (s₁.setTop (mkF m 11 #[vI p0, vI p1, vI p2, vI p3, vI z7, u_, u_, u_, u_, u_, u_, u_, u_, u_, u_, u_, u_, u_, u_, u_, u_, u_, u_, u_, u_, u_, u_, u_, u_] [(.int p0)])) _
    refine XS.sipush X0.here hx rfl (hb hby at_11) ?_
    show Steps p.tables e below (s₁.setTop (mkF m 14 #[vI p0, vI p1, vI p2, vI p3, vI z7, u_, u_, u_, u_, u_, u_, u_, u_, u_, u_, u_, u_, u_, u_, u_, u_, u_, u_, u_, u_, u_, u_, u_, u_] [(.int (4095 : Int32)), (.int p0)])) _
    refine Jvm.OwnK.iand X0.here hx rfl (hb hby at_14) rfl hz14 ?_
    show Steps p.tables e below (s₁.setTop (mkF m 15 #[vI p0, vI p1, vI p2, vI p3, vI z7, u_, u_, u_, u_, u_, u_, u_, u_, u_, u_, u_, u_, u_, u_, u_, u_, u_, u_, u_, u_, u_, u_, u_, u_] [(.int z14)])) _
    refine XS.istore X0.here hx rfl (hb hby at_15) rfl (l' := #[vI p0, vI p1, vI p2, vI p3, vI z7, vI z14, u_, u_, u_, u_, u_, u_, u_, u_, u_, u_, u_, u_, u_, u_, u_, u_, u_, u_, u_, u_, u_, u_, u_]) rfl ?_
    show Steps p.tables e below (s₁.setTop (mkF m 17 #[vI p0, vI p1, vI p2, vI p3, vI z7, vI z14, u_, u_, u_, u_, u_, u_, u_, u_, u_, u_, u_, u_, u_, u_, u_, u_, u_, u_, u_, u_, u_, u_, u_] [])) _
    refine XS.iloadN X0.here hx rfl (hb hby at_17) rfl ?_
    show Steps p.tables e below (s₁.setTop (mkF m 18 #[vI p0, vI p1, vI p2, vI p3, vI z7, vI z14, u_, u_, u_, u_, u_, u_, u_, u_, u_, u_, u_, u_, u_, u_, u_, u_, u_, u_, u_, u_, u_, u_, u_] [(.int p0)])) _
    refine XS.bipush X0.here hx rfl (hb hby at_18) ?_
    show Steps p.tables e below (s₁.setTop (mkF m 20 #[vI p0, vI p1, vI p2, vI p3, vI z7, vI z14, u_, u_, u_, u_, u_, u_, u_, u_, u_, u_, u_, u_, u_, u_, u_, u_, u_, u_, u_, u_, u_, u_, u_] [(.int (12 : Int32)), (.int p0)])) _
    refine Jvm.OwnK.iushr X0.here hx rfl (hb hby at_20) rfl hz20 ?_
    show Steps p.tables e below (s₁.setTop (mkF m 21 #[vI p0, vI p1, vI p2, vI p3, vI z7, vI z14, u_, u_, u_, u_, u_, u_, u_, u_, u_, u_, u_, u_, u_, u_, u_, u_, u_, u_, u_, u_, u_, u_, u_] [(.int z20)])) _
    refine XS.iload X0.here hx rfl (hb hby at_21) rfl ?_
    show Steps p.tables e below (s₁.setTop (mkF m 23 #[vI p0, vI p1, vI p2, vI p3, vI z7, vI z14, u_, u_, u_, u_, u_, u_, u_, u_, u_, u_, u_, u_, u_, u_, u_, u_, u_, u_, u_, u_, u_, u_, u_] [(.int z14), (.int z20)])) _
    refine XS.iconst X0.here hx rfl (hb hby at_23) ?_
    show Steps p.tables e below (s₁.setTop (mkF m 24 #[vI p0, vI p1, vI p2, vI p3, vI z7, vI z14, u_, u_, u_, u_, u_, u_, u_, u_, u_, u_, u_, u_, u_, u_, u_, u_, u_, u_, u_, u_, u_, u_, u_] [(.int (1 : Int32)), (.int z14), (.int z20)])) _
    refine Jvm.OwnK.iadd X0.here hx rfl (hb hby at_24) rfl hz24 ?_
    show Steps p.tables e below (s₁.setTop (mkF m 25 #[vI p0, vI p1, vI p2, vI p3, vI z7, vI z14, u_, u_, u_, u_, u_, u_, u_, u_, u_, u_, u_, u_, u_, u_, u_, u_, u_, u_, u_, u_, u_, u_, u_] [(.int z24), (.int z20)])) _
    refine Jvm.OwnK.irem X0.here hx rfl (hb hby at_25) rfl nz25 hz25 ?_
    show Steps p.tables e below (s₁.setTop (mkF m 26 #[vI p0, vI p1, vI p2, vI p3, vI z7, vI z14, u_, u_, u_, u_, u_, u_, u_, u_, u_, u_, u_, u_, u_, u_, u_, u_, u_, u_, u_, u_, u_, u_, u_] [(.int z25)])) _
    refine XS.istore X0.here hx rfl (hb hby at_26) rfl (l' := #[vI p0, vI p1, vI p2, vI p3, vI z7, vI z14, vI z25, u_, u_, u_, u_, u_, u_, u_, u_, u_, u_, u_, u_, u_, u_, u_, u_, u_, u_, u_, u_, u_, u_]) rfl ?_
    show Steps p.tables e below (s₁.setTop (mkF m 28 #[vI p0, vI p1, vI p2, vI p3, vI z7, vI z14, vI z25, u_, u_, u_, u_, u_, u_, u_, u_, u_, u_, u_, u_, u_, u_, u_, u_, u_, u_, u_, u_, u_, u_] [])) _
    refine XS.iloadN X0.here hx rfl (hb hby at_28) rfl ?_
    show Steps p.tables e below (s₁.setTop (mkF m 29 #[vI p0, vI p1, vI p2, vI p3, vI z7, vI z14, vI z25, u_, u_, u_, u_, u_, u_, u_, u_, u_, u_, u_, u_, u_, u_, u_, u_, u_, u_, u_, u_, u_, u_] [(.int p1)])) _
    refine XS.sipush X0.here hx rfl (hb hby at_29) ?_
    show Steps p.tables e below (s₁.setTop (mkF m 32 #[vI p0, vI p1, vI p2, vI p3, vI z7, vI z14, vI z25, u_, u_, u_, u_, u_, u_, u_, u_, u_, u_, u_, u_, u_, u_, u_, u_, u_, u_, u_, u_, u_, u_] [(.int (4095 : Int32)), (.int p1)])) _
    refine Jvm.OwnK.iand X0.here hx rfl (hb hby at_32) rfl hz32 ?_
    show Steps p.tables e below (s₁.setTop (mkF m 33 #[vI p0, vI p1, vI p2, vI p3, vI z7, vI z14, vI z25, u_, u_, u_, u_, u_, u_, u_, u_, u_, u_, u_, u_, u_, u_, u_, u_, u_, u_, u_, u_, u_, u_] [(.int z32)])) _
    refine XS.istore X0.here hx rfl (hb hby at_33) rfl (l' := #[vI p0, vI p1, vI p2, vI p3, vI z7, vI z14, vI z25, vI z32, u_, u_, u_, u_, u_, u_, u_, u_, u_, u_, u_, u_, u_, u_, u_, u_, u_, u_, u_, u_, u_]) rfl ?_
    show Steps p.tables e below (s₁.setTop (mkF m 35 #[vI p0, vI p1, vI p2, vI p3, vI z7, vI z14, vI z25, vI z32, u_, u_, u_, u_, u_, u_, u_, u_, u_, u_, u_, u_, u_, u_, u_, u_, u_, u_, u_, u_, u_] [])) _
    refine XS.iloadN X0.here hx rfl (hb hby at_35) rfl ?_
    show Steps p.tables e below (s₁.setTop (mkF m 36 #[vI p0, vI p1, vI p2, vI p3, vI z7, vI z14, vI z25, vI z32, u_, u_, u_, u_, u_, u_, u_, u_, u_, u_, u_, u_, u_, u_, u_, u_, u_, u_, u_, u_, u_] [(.int p1)])) _
    refine XS.bipush X0.here hx rfl (hb hby at_36) ?_
    show Steps p.tables e below (s₁.setTop (mkF m 38 #[vI p0, vI p1, vI p2, vI p3, vI z7, vI z14, vI z25, vI z32, u_, u_, u_, u_, u_, u_, u_, u_, u_, u_, u_, u_, u_, u_, u_, u_, u_, u_, u_, u_, u_] [(.int (12 : Int32)), (.int p1)])) _
    refine Jvm.OwnK.iushr X0.here hx rfl (hb hby at_38) rfl hz38 ?_
    show Steps p.tables e below (s₁.setTop (mkF m 39 #[vI p0, vI p1, vI p2, vI p3, vI z7, vI z14, vI z25, vI z32, u_, u_, u_, u_, u_, u_, u_, u_, u_, u_, u_, u_, u_, u_, u_, u_, u_, u_, u_, u_, u_] [(.int z38)])) _
    refine XS.iload X0.here hx rfl (hb hby at_39) rfl ?_
    show Steps p.tables e below (s₁.setTop (mkF m 41 #[vI p0, vI p1, vI p2, vI p3, vI z7, vI z14, vI z25, vI z32, u_, u_, u_, u_, u_, u_, u_, u_, u_, u_, u_, u_, u_, u_, u_, u_, u_, u_, u_, u_, u_] [(.int z32), (.int z38)])) _
    refine XS.iconst X0.here hx rfl (hb hby at_41) ?_
    show Steps p.tables e below (s₁.setTop (mkF m 42 #[vI p0, vI p1, vI p2, vI p3, vI z7, vI z14, vI z25, vI z32, u_, u_, u_, u_, u_, u_, u_, u_, u_, u_, u_, u_, u_, u_, u_, u_, u_, u_, u_, u_, u_] [(.int (1 : Int32)), (.int z32), (.int z38)])) _
    refine Jvm.OwnK.iadd X0.here hx rfl (hb hby at_42) rfl hz42 ?_
    show Steps p.tables e below (s₁.setTop (mkF m 43 #[vI p0, vI p1, vI p2, vI p3, vI z7, vI z14, vI z25, vI z32, u_, u_, u_, u_, u_, u_, u_, u_, u_, u_, u_, u_, u_, u_, u_, u_, u_, u_, u_, u_, u_] [(.int z42), (.int z38)])) _
    refine Jvm.OwnK.irem X0.here hx rfl (hb hby at_43) rfl nz43 hz43 ?_
    show Steps p.tables e below (s₁.setTop (mkF m 44 #[vI p0, vI p1, vI p2, vI p3, vI z7, vI z14, vI z25, vI z32, u_, u_, u_, u_, u_, u_, u_, u_, u_, u_, u_, u_, u_, u_, u_, u_, u_, u_, u_, u_, u_] [(.int z43)])) _
    refine XS.istore X0.here hx rfl (hb hby at_44) rfl (l' := #[vI p0, vI p1, vI p2, vI p3, vI z7, vI z14, vI z25, vI z32, vI z43, u_, u_, u_, u_, u_, u_, u_, u_, u_, u_, u_, u_, u_, u_, u_, u_, u_, u_, u_, u_]) rfl ?_
    show Steps p.tables e below (s₁.setTop (mkF m 46 #[vI p0, vI p1, vI p2, vI p3, vI z7, vI z14, vI z25, vI z32, vI z43, u_, u_, u_, u_, u_, u_, u_, u_, u_, u_, u_, u_, u_, u_, u_, u_, u_, u_, u_, u_] [])) _
    refine XS.iloadN X0.here hx rfl (hb hby at_46) rfl ?_
    show Steps p.tables e below (s₁.setTop (mkF m 47 #[vI p0, vI p1, vI p2, vI p3, vI z7, vI z14, vI z25, vI z32, vI z43, u_, u_, u_, u_, u_, u_, u_, u_, u_, u_, u_, u_, u_, u_, u_, u_, u_, u_, u_, u_] [(.int p2)])) _
    refine XS.sipush X0.here hx rfl (hb hby at_47) ?_
    show Steps p.tables e below (s₁.setTop (mkF m 50 #[vI p0, vI p1, vI p2, vI p3, vI z7, vI z14, vI z25, vI z32, vI z43, u_, u_, u_, u_, u_, u_, u_, u_, u_, u_, u_, u_, u_, u_, u_, u_, u_, u_, u_, u_] [(.int (4095 : Int32)), (.int p2)])) _
    refine Jvm.OwnK.iand X0.here hx rfl (hb hby at_50) rfl hz50 ?_
    show Steps p.tables e below (s₁.setTop (mkF m 51 #[vI p0, vI p1, vI p2, vI p3, vI z7, vI z14, vI z25, vI z32, vI z43, u_, u_, u_, u_, u_, u_, u_, u_, u_, u_, u_, u_, u_, u_, u_, u_, u_, u_, u_, u_] [(.int z50)])) _
    refine XS.istore X0.here hx rfl (hb hby at_51) rfl (l' := #[vI p0, vI p1, vI p2, vI p3, vI z7, vI z14, vI z25, vI z32, vI z43, vI z50, u_, u_, u_, u_, u_, u_, u_, u_, u_, u_, u_, u_, u_, u_, u_, u_, u_, u_, u_]) rfl ?_
    show Steps p.tables e below (s₁.setTop (mkF m 53 #[vI p0, vI p1, vI p2, vI p3, vI z7, vI z14, vI z25, vI z32, vI z43, vI z50, u_, u_, u_, u_, u_, u_, u_, u_, u_, u_, u_, u_, u_, u_, u_, u_, u_, u_, u_] [])) _
    refine XS.iloadN X0.here hx rfl (hb hby at_53) rfl ?_
    show Steps p.tables e below (s₁.setTop (mkF m 54 #[vI p0, vI p1, vI p2, vI p3, vI z7, vI z14, vI z25, vI z32, vI z43, vI z50, u_, u_, u_, u_, u_, u_, u_, u_, u_, u_, u_, u_, u_, u_, u_, u_, u_, u_, u_] [(.int p2)])) _
    refine XS.bipush X0.here hx rfl (hb hby at_54) ?_
    show Steps p.tables e below (s₁.setTop (mkF m 56 #[vI p0, vI p1, vI p2, vI p3, vI z7, vI z14, vI z25, vI z32, vI z43, vI z50, u_, u_, u_, u_, u_, u_, u_, u_, u_, u_, u_, u_, u_, u_, u_, u_, u_, u_, u_] [(.int (12 : Int32)), (.int p2)])) _
    refine Jvm.OwnK.iushr X0.here hx rfl (hb hby at_56) rfl hz56 ?_
    show Steps p.tables e below (s₁.setTop (mkF m 57 #[vI p0, vI p1, vI p2, vI p3, vI z7, vI z14, vI z25, vI z32, vI z43, vI z50, u_, u_, u_, u_, u_, u_, u_, u_, u_, u_, u_, u_, u_, u_, u_, u_, u_, u_, u_] [(.int z56)])) _
    refine XS.iload X0.here hx rfl (hb hby at_57) rfl ?_
    show Steps p.tables e below (s₁.setTop (mkF m 59 #[vI p0, vI p1, vI p2, vI p3, vI z7, vI z14, vI z25, vI z32, vI z43, vI z50, u_, u_, u_, u_, u_, u_, u_, u_, u_, u_, u_, u_, u_, u_, u_, u_, u_, u_, u_] [(.int z50), (.int z56)])) _
    refine XS.iconst X0.here hx rfl (hb hby at_59) ?_
    show Steps p.tables e below (s₁.setTop (mkF m 60 #[vI p0, vI p1, vI p2, vI p3, vI z7, vI z14, vI z25, vI z32, vI z43, vI z50, u_, u_, u_, u_, u_, u_, u_, u_, u_, u_, u_, u_, u_, u_, u_, u_, u_, u_, u_] [(.int (1 : Int32)), (.int z50), (.int z56)])) _
    refine Jvm.OwnK.iadd X0.here hx rfl (hb hby at_60) rfl hz60 ?_
    show Steps p.tables e below (s₁.setTop (mkF m 61 #[vI p0, vI p1, vI p2, vI p3, vI z7, vI z14, vI z25, vI z32, vI z43, vI z50, u_, u_, u_, u_, u_, u_, u_, u_, u_, u_, u_, u_, u_, u_, u_, u_, u_, u_, u_] [(.int z60), (.int z56)])) _
    refine Jvm.OwnK.irem X0.here hx rfl (hb hby at_61) rfl nz61 hz61 ?_
    show Steps p.tables e below (s₁.setTop (mkF m 62 #[vI p0, vI p1, vI p2, vI p3, vI z7, vI z14, vI z25, vI z32, vI z43, vI z50, u_, u_, u_, u_, u_, u_, u_, u_, u_, u_, u_, u_, u_, u_, u_, u_, u_, u_, u_] [(.int z61)])) _
    refine XS.istore X0.here hx rfl (hb hby at_62) rfl (l' := #[vI p0, vI p1, vI p2, vI p3, vI z7, vI z14, vI z25, vI z32, vI z43, vI z50, vI z61, u_, u_, u_, u_, u_, u_, u_, u_, u_, u_, u_, u_, u_, u_, u_, u_, u_, u_]) rfl ?_
    exact k
  rcases (n3 hz4 hz6 hz7) with q2 | q2 | q2
  · obtain rfl := q2
    obtain ⟨z150, hz150⟩ : ∃ z : Int64, z14.toInt64 = z := ⟨_, rfl⟩
    obtain ⟨z154, hz154⟩ : ∃ z : Int64, z150 + (0 : Int64) = z := ⟨_, rfl⟩
    obtain ⟨z158, hz158⟩ : ∃ z : Int64, z154 + (0 : Int64) = z := ⟨_, rfl⟩
    obtain ⟨z164, hz164⟩ : ∃ z : Int32, lcmpW z158 (0 : Int64) = z := ⟨_, rfl⟩
    obtain ⟨T3, h3, k3, X3, e3, E3, A3, st3⟩ := newP X0 hx hZ (hw _ (List.mem_of_getElem? (i := 1) rfl)) e0 (g := (mkF m 90 #[vI p0, vI p1, vI p2, vI p3, vI (1 : Int32), vI z14, vI z25, vI (0 : Int32), vI (0 : Int32), vI (0 : Int32), vI (0 : Int32), u_, u_, u_, u_, u_, u_, u_, u_, u_, u_, u_, u_, u_, u_, u_, u_, u_, u_] [(.int (1 : Int32))])) rfl (hb hby at_90) rfl (by decide) (cap := 1) (by decide) (by decide) (by decide) (by decide)
    obtain ⟨b3, g3⟩ : ∃ z, z = h0.size := ⟨_, rfl⟩
    rw [← g3] at A3 st3
    have gn3 : n0 ≤ b3 := Nat.le_trans Z0 (Nat.le_of_eq g3.symm)
    have gz3 : h0.size ≤ b3 := Nat.le_trans ((Keep.refl h0 [])).1 (Nat.le_of_eq g3.symm)
    have K4 : Keep h0 h3 [] := (Keep.refl h0 []).ext E3
    have V3 : Arv Z h3 b3 k3 .int (1 : Int32) [(.int (0 : Int32))] (.int (0 : Int32)) := (Arv.new A3 (by decide)).pad (pad_rep [] (.int (0 : Int32)) 1)
    obtain ⟨T5, h5, k5, X5, e5, E5, A5, st5⟩ := newP X3 hx hZ (hw _ (List.mem_of_getElem? (i := 1) rfl)) e3 (g := (mkF m 96 #[vI p0, vI p1, vI p2, vI p3, vI (1 : Int32), vI z14, vI z25, vI (0 : Int32), vI (0 : Int32), vI (0 : Int32), vI (0 : Int32), vR b3, u_, u_, u_, u_, u_, u_, u_, u_, u_, u_, u_, u_, u_, u_, u_, u_, u_] [(.int (1 : Int32))])) rfl (hb hby at_96) rfl (by decide) (cap := 1) (by decide) (by decide) (by decide) (by decide)
    obtain ⟨b5, g5⟩ : ∃ z, z = h3.size := ⟨_, rfl⟩
    rw [← g5] at A5 st5
    have gn5 : n0 ≤ b5 := Nat.le_trans (Nat.le_trans Z0 E3.1) (Nat.le_of_eq g5.symm)
    have gz5 : h0.size ≤ b5 := Nat.le_trans (K4).1 (Nat.le_of_eq g5.symm)
    have K6 : Keep h0 h5 [] := K4.ext E5
    have V5 : Arv Z h5 b5 k5 .int (1 : Int32) [(.int (0 : Int32))] (.int (0 : Int32)) := (Arv.new A5 (by decide)).pad (pad_rep [] (.int (0 : Int32)) 1)
    have f7 := (V3.ext E5)
    obtain ⟨cl8, Ar8, q8, S8, Nn8, Ha8, G8⟩ := id f7
    have in8 : ¬ ((0 : Int32) < 0 ∨ cl8.slots.size ≤ ((0 : Int32)).toNatClampNeg) := inb_of S8 ⟨by decide, by decide⟩
    obtain ⟨T9, h9, X9, e9, W9, st9⟩ := stI X5 hx hZ e5 Ar8 (j := (0 : Int32)) in8 (g := (mkF m 105 #[vI p0, vI p1, vI p2, vI p3, vI (1 : Int32), vI z14, vI z25, vI (0 : Int32), vI (0 : Int32), vI (0 : Int32), vI (0 : Int32), vR b3, vR b5, u_, u_, u_, u_, u_, u_, u_, u_, u_, u_, u_, u_, u_, u_, u_, u_] [(.int z14), (.int (0 : Int32)), (.ref b3)])) rfl rfl (hb hby at_105)
    have N9 := Fr.snoc X9 N0 gn3
    have K10 : Keep h0 h9 [] := K6.wr W9 (Or.inr gz3)
    have V9 : Arv Z h9 b3 k3 .int (1 : Int32) [(.int z14)] (.int (0 : Int32)) := Arv.set Ar8 q8 S8 Nn8 Ha8 G8 rfl W9 0 rfl (show (0 : Nat) < 1 by decide)
    have f11 := (V5.other W9 (Ne.symm (Nat.ne_of_lt (Nat.lt_of_lt_of_le (V3).lt (Nat.le_of_eq g5.symm)))))
    obtain ⟨cl12, Ar12, q12, S12, Nn12, Ha12, G12⟩ := id f11
    have in12 : ¬ ((0 : Int32) < 0 ∨ cl12.slots.size ≤ ((0 : Int32)).toNatClampNeg) := inb_of S12 ⟨by decide, by decide⟩
    obtain ⟨T13, h13, X13, e13, W13, st13⟩ := stI X9 hx hZ e9 Ar12 (j := (0 : Int32)) in12 (g := (mkF m 111 #[vI p0, vI p1, vI p2, vI p3, vI (1 : Int32), vI z14, vI z25, vI (0 : Int32), vI (0 : Int32), vI (0 : Int32), vI (0 : Int32), vR b3, vR b5, u_, u_, u_, u_, u_, u_, u_, u_, u_, u_, u_, u_, u_, u_, u_, u_] [(.int z25), (.int (0 : Int32)), (.ref b5)])) rfl rfl (hb hby at_111)
    have N13 := Fr.snoc X13 N9 gn5
    have K14 : Keep h0 h13 [] := K10.wr W13 (Or.inr gz5)
    have V13 : Arv Z h13 b5 k5 .int (1 : Int32) [(.int z25)] (.int (0 : Int32)) := Arv.set Ar12 q12 S12 Nn12 Ha12 G12 rfl W13 0 rfl (show (0 : Nat) < 1 by decide)
    have c15 : ∀ t, Steps p.tables e below (T13.setTop (mkF m 165 #[vI p0, vI p1, vI p2, vI p3, vI (1 : Int32), vI z14, vI z25, vI (0 : Int32), vI (0 : Int32), vI (0 : Int32), vI (0 : Int32), vR b3, vR b5, vJ z158, s_, u_, u_, u_, u_, u_, u_, u_, u_, u_, u_, u_, u_, u_, u_] [(.int z164)])) t → Steps p.tables e below (s₁.setTop (entryFrame m #[(.int p0), (.int p1), (.int p2), (.int p3)] maxLocals)) t := by
      intro t k
      refine c1 t ?_
      show Steps p.tables e below (s₁.setTop (mkF m 64 #[vI p0, vI p1, vI p2, vI p3, vI (1 : Int32), vI z14, vI z25, vI z32, vI z43, vI z50, vI z61, u_, u_, u_, u_, u_, u_, u_, u_, u_, u_, u_, u_, u_, u_, u_, u_, u_, u_] [])) _
      refine XS.iload X0.here hx rfl (hb hby at_64) rfl ?_
      show Steps p.tables e below (s₁.setTop (mkF m 66 #[vI p0, vI p1, vI p2, vI p3, vI (1 : Int32), vI z14, vI z25, vI z32, vI z43, vI z50, vI z61, u_, u_, u_, u_, u_, u_, u_, u_, u_, u_, u_, u_, u_, u_, u_, u_, u_, u_] [(.int (1 : Int32))])) _
      refine XS.iconst X0.here hx rfl (hb hby at_66) ?_
      show Steps p.tables e below (s₁.setTop (mkF m 67 #[vI p0, vI p1, vI p2, vI p3, vI (1 : Int32), vI z14, vI z25, vI z32, vI z43, vI z50, vI z61, u_, u_, u_, u_, u_, u_, u_, u_, u_, u_, u_, u_, u_, u_, u_, u_, u_, u_] [(.int (2 : Int32)), (.int (1 : Int32))])) _
      refine XS.icmpNo X0.here hx rfl (hb hby at_67) rfl (Jvm.Free.XT.ii_ge_f (by decide)) ?_
      show Steps p.tables e below (s₁.setTop (mkF m 70 #[vI p0, vI p1, vI p2, vI p3, vI (1 : Int32), vI z14, vI z25, vI z32, vI z43, vI z50, vI z61, u_, u_, u_, u_, u_, u_, u_, u_, u_, u_, u_, u_, u_, u_, u_, u_, u_, u_] [])) _
      refine XS.iconst X0.here hx rfl (hb hby at_70) ?_
      show Steps p.tables e below (s₁.setTop (mkF m 71 #[vI p0, vI p1, vI p2, vI p3, vI (1 : Int32), vI z14, vI z25, vI z32, vI z43, vI z50, vI z61, u_, u_, u_, u_, u_, u_, u_, u_, u_, u_, u_, u_, u_, u_, u_, u_, u_, u_] [(.int (0 : Int32))])) _
      refine XS.istore X0.here hx rfl (hb hby at_71) rfl (l' := #[vI p0, vI p1, vI p2, vI p3, vI (1 : Int32), vI z14, vI z25, vI (0 : Int32), vI z43, vI z50, vI z61, u_, u_, u_, u_, u_, u_, u_, u_, u_, u_, u_, u_, u_, u_, u_, u_, u_, u_]) rfl ?_
      show Steps p.tables e below (s₁.setTop (mkF m 73 #[vI p0, vI p1, vI p2, vI p3, vI (1 : Int32), vI z14, vI z25, vI (0 : Int32), vI z43, vI z50, vI z61, u_, u_, u_, u_, u_, u_, u_, u_, u_, u_, u_, u_, u_, u_, u_, u_, u_, u_] [])) _
      refine XS.iconst X0.here hx rfl (hb hby at_73) ?_
      show Steps p.tables e below (s₁.setTop (mkF m 74 #[vI p0, vI p1, vI p2, vI p3, vI (1 : Int32), vI z14, vI z25, vI (0 : Int32), vI z43, vI z50, vI z61, u_, u_, u_, u_, u_, u_, u_, u_, u_, u_, u_, u_, u_, u_, u_, u_, u_, u_] [(.int (0 : Int32))])) _
      refine XS.istore X0.here hx rfl (hb hby at_74) rfl (l' := #[vI p0, vI p1, vI p2, vI p3, vI (1 : Int32), vI z14, vI z25, vI (0 : Int32), vI (0 : Int32), vI z50, vI z61, u_, u_, u_, u_, u_, u_, u_, u_, u_, u_, u_, u_, u_, u_, u_, u_, u_, u_]) rfl ?_
      show Steps p.tables e below (s₁.setTop (mkF m 76 #[vI p0, vI p1, vI p2, vI p3, vI (1 : Int32), vI z14, vI z25, vI (0 : Int32), vI (0 : Int32), vI z50, vI z61, u_, u_, u_, u_, u_, u_, u_, u_, u_, u_, u_, u_, u_, u_, u_, u_, u_, u_] [])) _
      refine XS.iload X0.here hx rfl (hb hby at_76) rfl ?_
      show Steps p.tables e below (s₁.setTop (mkF m 78 #[vI p0, vI p1, vI p2, vI p3, vI (1 : Int32), vI z14, vI z25, vI (0 : Int32), vI (0 : Int32), vI z50, vI z61, u_, u_, u_, u_, u_, u_, u_, u_, u_, u_, u_, u_, u_, u_, u_, u_, u_, u_] [(.int (1 : Int32))])) _
      refine XS.iconst X0.here hx rfl (hb hby at_78) ?_
      show Steps p.tables e below (s₁.setTop (mkF m 79 #[vI p0, vI p1, vI p2, vI p3, vI (1 : Int32), vI z14, vI z25, vI (0 : Int32), vI (0 : Int32), vI z50, vI z61, u_, u_, u_, u_, u_, u_, u_, u_, u_, u_, u_, u_, u_, u_, u_, u_, u_, u_] [(.int (3 : Int32)), (.int (1 : Int32))])) _
      refine XS.icmpNo X0.here hx rfl (hb hby at_79) rfl (Jvm.Free.XT.ii_ge_f (by decide)) ?_
      show Steps p.tables e below (s₁.setTop (mkF m 82 #[vI p0, vI p1, vI p2, vI p3, vI (1 : Int32), vI z14, vI z25, vI (0 : Int32), vI (0 : Int32), vI z50, vI z61, u_, u_, u_, u_, u_, u_, u_, u_, u_, u_, u_, u_, u_, u_, u_, u_, u_, u_] [])) _
      refine XS.iconst X0.here hx rfl (hb hby at_82) ?_
      show Steps p.tables e below (s₁.setTop (mkF m 83 #[vI p0, vI p1, vI p2, vI p3, vI (1 : Int32), vI z14, vI z25, vI (0 : Int32), vI (0 : Int32), vI z50, vI z61, u_, u_, u_, u_, u_, u_, u_, u_, u_, u_, u_, u_, u_, u_, u_, u_, u_, u_] [(.int (0 : Int32))])) _
      refine XS.istore X0.here hx rfl (hb hby at_83) rfl (l' := #[vI p0, vI p1, vI p2, vI p3, vI (1 : Int32), vI z14, vI z25, vI (0 : Int32), vI (0 : Int32), vI (0 : Int32), vI z61, u_, u_, u_, u_, u_, u_, u_, u_, u_, u_, u_, u_, u_, u_, u_, u_, u_, u_]) rfl ?_
      show Steps p.tables e below (s₁.setTop (mkF m 85 #[vI p0, vI p1, vI p2, vI p3, vI (1 : Int32), vI z14, vI z25, vI (0 : Int32), vI (0 : Int32), vI (0 : Int32), vI z61, u_, u_, u_, u_, u_, u_, u_, u_, u_, u_, u_, u_, u_, u_, u_, u_, u_, u_] [])) _
      refine XS.iconst X0.here hx rfl (hb hby at_85) ?_
      show Steps p.tables e below (s₁.setTop (mkF m 86 #[vI p0, vI p1, vI p2, vI p3, vI (1 : Int32), vI z14, vI z25, vI (0 : Int32), vI (0 : Int32), vI (0 : Int32), vI z61, u_, u_, u_, u_, u_, u_, u_, u_, u_, u_, u_, u_, u_, u_, u_, u_, u_, u_] [(.int (0 : Int32))])) _
      refine XS.istore X0.here hx rfl (hb hby at_86) rfl (l' := #[vI p0, vI p1, vI p2, vI p3, vI (1 : Int32), vI z14, vI z25, vI (0 : Int32), vI (0 : Int32), vI (0 : Int32), vI (0 : Int32), u_, u_, u_, u_, u_, u_, u_, u_, u_, u_, u_, u_, u_, u_, u_, u_, u_, u_]) rfl ?_
      show Steps p.tables e below (s₁.setTop (mkF m 88 #[vI p0, vI p1, vI p2, vI p3, vI (1 : Int32), vI z14, vI z25, vI (0 : Int32), vI (0 : Int32), vI (0 : Int32), vI (0 : Int32), u_, u_, u_, u_, u_, u_, u_, u_, u_, u_, u_, u_, u_, u_, u_, u_, u_, u_] [])) _
      refine XS.iload X0.here hx rfl (hb hby at_88) rfl ?_
      show Steps p.tables e below (s₁.setTop (mkF m 90 #[vI p0, vI p1, vI p2, vI p3, vI (1 : Int32), vI z14, vI z25, vI (0 : Int32), vI (0 : Int32), vI (0 : Int32), vI (0 : Int32), u_, u_, u_, u_, u_, u_, u_, u_, u_, u_, u_, u_, u_, u_, u_, u_, u_, u_] [(.int (1 : Int32))])) _
      refine st3 _ ?_
      show Steps p.tables e below (T3.setTop (mkF m 92 #[vI p0, vI p1, vI p2, vI p3, vI (1 : Int32), vI z14, vI z25, vI (0 : Int32), vI (0 : Int32), vI (0 : Int32), vI (0 : Int32), u_, u_, u_, u_, u_, u_, u_, u_, u_, u_, u_, u_, u_, u_, u_, u_, u_, u_] [(.ref b3)])) _
      refine XS.astore X3.here hx rfl (hb hby at_92) rfl rfl (l' := #[vI p0, vI p1, vI p2, vI p3, vI (1 : Int32), vI z14, vI z25, vI (0 : Int32), vI (0 : Int32), vI (0 : Int32), vI (0 : Int32), vR b3, u_, u_, u_, u_, u_, u_, u_, u_, u_, u_, u_, u_, u_, u_, u_, u_, u_]) rfl ?_
      show Steps p.tables e below (T3.setTop (mkF m 94 #[vI p0, vI p1, vI p2, vI p3, vI (1 : Int32), vI z14, vI z25, vI (0 : Int32), vI (0 : Int32), vI (0 : Int32), vI (0 : Int32), vR b3, u_, u_, u_, u_, u_, u_, u_, u_, u_, u_, u_, u_, u_, u_, u_, u_, u_] [])) _
      refine XS.iload X3.here hx rfl (hb hby at_94) rfl ?_
      show Steps p.tables e below (T3.setTop (mkF m 96 #[vI p0, vI p1, vI p2, vI p3, vI (1 : Int32), vI z14, vI z25, vI (0 : Int32), vI (0 : Int32), vI (0 : Int32), vI (0 : Int32), vR b3, u_, u_, u_, u_, u_, u_, u_, u_, u_, u_, u_, u_, u_, u_, u_, u_, u_] [(.int (1 : Int32))])) _
      refine st5 _ ?_
      show Steps p.tables e below (T5.setTop (mkF m 98 #[vI p0, vI p1, vI p2, vI p3, vI (1 : Int32), vI z14, vI z25, vI (0 : Int32), vI (0 : Int32), vI (0 : Int32), vI (0 : Int32), vR b3, u_, u_, u_, u_, u_, u_, u_, u_, u_, u_, u_, u_, u_, u_, u_, u_, u_] [(.ref b5)])) _
      refine XS.astore X5.here hx rfl (hb hby at_98) rfl rfl (l' := #[vI p0, vI p1, vI p2, vI p3, vI (1 : Int32), vI z14, vI z25, vI (0 : Int32), vI (0 : Int32), vI (0 : Int32), vI (0 : Int32), vR b3, vR b5, u_, u_, u_, u_, u_, u_, u_, u_, u_, u_, u_, u_, u_, u_, u_, u_]) rfl ?_
      show Steps p.tables e below (T5.setTop (mkF m 100 #[vI p0, vI p1, vI p2, vI p3, vI (1 : Int32), vI z14, vI z25, vI (0 : Int32), vI (0 : Int32), vI (0 : Int32), vI (0 : Int32), vR b3, vR b5, u_, u_, u_, u_, u_, u_, u_, u_, u_, u_, u_, u_, u_, u_, u_, u_] [])) _
      refine XS.aload X5.here hx rfl (hb hby at_100) rfl rfl ?_
      show Steps p.tables e below (T5.setTop (mkF m 102 #[vI p0, vI p1, vI p2, vI p3, vI (1 : Int32), vI z14, vI z25, vI (0 : Int32), vI (0 : Int32), vI (0 : Int32), vI (0 : Int32), vR b3, vR b5, u_, u_, u_, u_, u_, u_, u_, u_, u_, u_, u_, u_, u_, u_, u_, u_] [(.ref b3)])) _
      refine XS.iconst X5.here hx rfl (hb hby at_102) ?_
      show Steps p.tables e below (T5.setTop (mkF m 103 #[vI p0, vI p1, vI p2, vI p3, vI (1 : Int32), vI z14, vI z25, vI (0 : Int32), vI (0 : Int32), vI (0 : Int32), vI (0 : Int32), vR b3, vR b5, u_, u_, u_, u_, u_, u_, u_, u_, u_, u_, u_, u_, u_, u_, u_, u_] [(.int (0 : Int32)), (.ref b3)])) _
      refine XS.iload X5.here hx rfl (hb hby at_103) rfl ?_
      show Steps p.tables e below (T5.setTop (mkF m 105 #[vI p0, vI p1, vI p2, vI p3, vI (1 : Int32), vI z14, vI z25, vI (0 : Int32), vI (0 : Int32), vI (0 : Int32), vI (0 : Int32), vR b3, vR b5, u_, u_, u_, u_, u_, u_, u_, u_, u_, u_, u_, u_, u_, u_, u_, u_] [(.int z14), (.int (0 : Int32)), (.ref b3)])) _
      refine st9 _ ?_
      show Steps p.tables e below (T9.setTop (mkF m 106 #[vI p0, vI p1, vI p2, vI p3, vI (1 : Int32), vI z14, vI z25, vI (0 : Int32), vI (0 : Int32), vI (0 : Int32), vI (0 : Int32), vR b3, vR b5, u_, u_, u_, u_, u_, u_, u_, u_, u_, u_, u_, u_, u_, u_, u_, u_] [])) _
      refine XS.aload X9.here hx rfl (hb hby at_106) rfl rfl ?_
      show Steps p.tables e below (T9.setTop (mkF m 108 #[vI p0, vI p1, vI p2, vI p3, vI (1 : Int32), vI z14, vI z25, vI (0 : Int32), vI (0 : Int32), vI (0 : Int32), vI (0 : Int32), vR b3, vR b5, u_, u_, u_, u_, u_, u_, u_, u_, u_, u_, u_, u_, u_, u_, u_, u_] [(.ref b5)])) _
      refine XS.iconst X9.here hx rfl (hb hby at_108) ?_
      show Steps p.tables e below (T9.setTop (mkF m 109 #[vI p0, vI p1, vI p2, vI p3, vI (1 : Int32), vI z14, vI z25, vI (0 : Int32), vI (0 : Int32), vI (0 : Int32), vI (0 : Int32), vR b3, vR b5, u_, u_, u_, u_, u_, u_, u_, u_, u_, u_, u_, u_, u_, u_, u_, u_] [(.int (0 : Int32)), (.ref b5)])) _
      refine XS.iload X9.here hx rfl (hb hby at_109) rfl ?_
      show Steps p.tables e below (T9.setTop (mkF m 111 #[vI p0, vI p1, vI p2, vI p3, vI (1 : Int32), vI z14, vI z25, vI (0 : Int32), vI (0 : Int32), vI (0 : Int32), vI (0 : Int32), vR b3, vR b5, u_, u_, u_, u_, u_, u_, u_, u_, u_, u_, u_, u_, u_, u_, u_, u_] [(.int z25), (.int (0 : Int32)), (.ref b5)])) _
      refine st13 _ ?_
      show Steps p.tables e below (T13.setTop (mkF m 112 #[vI p0, vI p1, vI p2, vI p3, vI (1 : Int32), vI z14, vI z25, vI (0 : Int32), vI (0 : Int32), vI (0 : Int32), vI (0 : Int32), vR b3, vR b5, u_, u_, u_, u_, u_, u_, u_, u_, u_, u_, u_, u_, u_, u_, u_, u_] [])) _
      refine XS.iload X13.here hx rfl (hb hby at_112) rfl ?_
      show Steps p.tables e below (T13.setTop (mkF m 114 #[vI p0, vI p1, vI p2, vI p3, vI (1 : Int32), vI z14, vI z25, vI (0 : Int32), vI (0 : Int32), vI (0 : Int32), vI (0 : Int32), vR b3, vR b5, u_, u_, u_, u_, u_, u_, u_, u_, u_, u_, u_, u_, u_, u_, u_, u_] [(.int (1 : Int32))])) _
      refine XS.iconst X13.here hx rfl (hb hby at_114) ?_
      show Steps p.tables e below (T13.setTop (mkF m 115 #[vI p0, vI p1, vI p2, vI p3, vI (1 : Int32), vI z14, vI z25, vI (0 : Int32), vI (0 : Int32), vI (0 : Int32), vI (0 : Int32), vR b3, vR b5, u_, u_, u_, u_, u_, u_, u_, u_, u_, u_, u_, u_, u_, u_, u_, u_] [(.int (1 : Int32)), (.int (1 : Int32))])) _
      refine XS.icmpYes X13.here hx rfl (pc0 := 115) (pc' := 130) rfl (hb hby at_115) rfl (Jvm.Free.XT.ii_le_t (by decide)) (by decide) (by decide) ?_
      show Steps p.tables e below (T13.setTop (mkF m 130 #[vI p0, vI p1, vI p2, vI p3, vI (1 : Int32), vI z14, vI z25, vI (0 : Int32), vI (0 : Int32), vI (0 : Int32), vI (0 : Int32), vR b3, vR b5, u_, u_, u_, u_, u_, u_, u_, u_, u_, u_, u_, u_, u_, u_, u_, u_] [])) _
      refine XS.iload X13.here hx rfl (hb hby at_130) rfl ?_
      show Steps p.tables e below (T13.setTop (mkF m 132 #[vI p0, vI p1, vI p2, vI p3, vI (1 : Int32), vI z14, vI z25, vI (0 : Int32), vI (0 : Int32), vI (0 : Int32), vI (0 : Int32), vR b3, vR b5, u_, u_, u_, u_, u_, u_, u_, u_, u_, u_, u_, u_, u_, u_, u_, u_] [(.int (1 : Int32))])) _
      refine XS.iconst X13.here hx rfl (hb hby at_132) ?_
      show Steps p.tables e below (T13.setTop (mkF m 133 #[vI p0, vI p1, vI p2, vI p3, vI (1 : Int32), vI z14, vI z25, vI (0 : Int32), vI (0 : Int32), vI (0 : Int32), vI (0 : Int32), vR b3, vR b5, u_, u_, u_, u_, u_, u_, u_, u_, u_, u_, u_, u_, u_, u_, u_, u_] [(.int (2 : Int32)), (.int (1 : Int32))])) _
      refine XS.icmpYes X13.here hx rfl (pc0 := 133) (pc' := 148) rfl (hb hby at_133) rfl (Jvm.Free.XT.ii_le_t (by decide)) (by decide) (by decide) ?_
      show Steps p.tables e below (T13.setTop (mkF m 148 #[vI p0, vI p1, vI p2, vI p3, vI (1 : Int32), vI z14, vI z25, vI (0 : Int32), vI (0 : Int32), vI (0 : Int32), vI (0 : Int32), vR b3, vR b5, u_, u_, u_, u_, u_, u_, u_, u_, u_, u_, u_, u_, u_, u_, u_, u_] [])) _
      refine XS.iload X13.here hx rfl (hb hby at_148) rfl ?_
      show Steps p.tables e below (T13.setTop (mkF m 150 #[vI p0, vI p1, vI p2, vI p3, vI (1 : Int32), vI z14, vI z25, vI (0 : Int32), vI (0 : Int32), vI (0 : Int32), vI (0 : Int32), vR b3, vR b5, u_, u_, u_, u_, u_, u_, u_, u_, u_, u_, u_, u_, u_, u_, u_, u_] [(.int z14)])) _
      refine Jvm.OwnK.i2l X13.here hx rfl (hb hby at_150) rfl hz150 ?_
      show Steps p.tables e below (T13.setTop (mkF m 151 #[vI p0, vI p1, vI p2, vI p3, vI (1 : Int32), vI z14, vI z25, vI (0 : Int32), vI (0 : Int32), vI (0 : Int32), vI (0 : Int32), vR b3, vR b5, u_, u_, u_, u_, u_, u_, u_, u_, u_, u_, u_, u_, u_, u_, u_, u_] [(.long z150)])) _
      refine XS.iload X13.here hx rfl (hb hby at_151) rfl ?_
      show Steps p.tables e below (T13.setTop (mkF m 153 #[vI p0, vI p1, vI p2, vI p3, vI (1 : Int32), vI z14, vI z25, vI (0 : Int32), vI (0 : Int32), vI (0 : Int32), vI (0 : Int32), vR b3, vR b5, u_, u_, u_, u_, u_, u_, u_, u_, u_, u_, u_, u_, u_, u_, u_, u_] [(.int (0 : Int32)), (.long z150)])) _
      refine Jvm.OwnK.i2l X13.here hx rfl (hb hby at_153) rfl (v := (0 : Int64)) (by decide) ?_
      show Steps p.tables e below (T13.setTop (mkF m 154 #[vI p0, vI p1, vI p2, vI p3, vI (1 : Int32), vI z14, vI z25, vI (0 : Int32), vI (0 : Int32), vI (0 : Int32), vI (0 : Int32), vR b3, vR b5, u_, u_, u_, u_, u_, u_, u_, u_, u_, u_, u_, u_, u_, u_, u_, u_] [(.long (0 : Int64)), (.long z150)])) _
      refine Jvm.OwnK.ladd X13.here hx rfl (hb hby at_154) rfl hz154 ?_
      show Steps p.tables e below (T13.setTop (mkF m 155 #[vI p0, vI p1, vI p2, vI p3, vI (1 : Int32), vI z14, vI z25, vI (0 : Int32), vI (0 : Int32), vI (0 : Int32), vI (0 : Int32), vR b3, vR b5, u_, u_, u_, u_, u_, u_, u_, u_, u_, u_, u_, u_, u_, u_, u_, u_] [(.long z154)])) _
      refine XS.iload X13.here hx rfl (hb hby at_155) rfl ?_
      show Steps p.tables e below (T13.setTop (mkF m 157 #[vI p0, vI p1, vI p2, vI p3, vI (1 : Int32), vI z14, vI z25, vI (0 : Int32), vI (0 : Int32), vI (0 : Int32), vI (0 : Int32), vR b3, vR b5, u_, u_, u_, u_, u_, u_, u_, u_, u_, u_, u_, u_, u_, u_, u_, u_] [(.int (0 : Int32)), (.long z154)])) _
      refine Jvm.OwnK.i2l X13.here hx rfl (hb hby at_157) rfl (v := (0 : Int64)) (by decide) ?_
      show Steps p.tables e below (T13.setTop (mkF m 158 #[vI p0, vI p1, vI p2, vI p3, vI (1 : Int32), vI z14, vI z25, vI (0 : Int32), vI (0 : Int32), vI (0 : Int32), vI (0 : Int32), vR b3, vR b5, u_, u_, u_, u_, u_, u_, u_, u_, u_, u_, u_, u_, u_, u_, u_, u_] [(.long (0 : Int64)), (.long z154)])) _
      refine Jvm.OwnK.ladd X13.here hx rfl (hb hby at_158) rfl hz158 ?_
      show Steps p.tables e below (T13.setTop (mkF m 159 #[vI p0, vI p1, vI p2, vI p3, vI (1 : Int32), vI z14, vI z25, vI (0 : Int32), vI (0 : Int32), vI (0 : Int32), vI (0 : Int32), vR b3, vR b5, u_, u_, u_, u_, u_, u_, u_, u_, u_, u_, u_, u_, u_, u_, u_, u_] [(.long z158)])) _
      refine XS.lstore X13.here hx rfl (hb hby at_159) rfl (l' := #[vI p0, vI p1, vI p2, vI p3, vI (1 : Int32), vI z14, vI z25, vI (0 : Int32), vI (0 : Int32), vI (0 : Int32), vI (0 : Int32), vR b3, vR b5, vJ z158, s_, u_, u_, u_, u_, u_, u_, u_, u_, u_, u_, u_, u_, u_, u_]) rfl ?_
      show Steps p.tables e below (T13.setTop (mkF m 161 #[vI p0, vI p1, vI p2, vI p3, vI (1 : Int32), vI z14, vI z25, vI (0 : Int32), vI (0 : Int32), vI (0 : Int32), vI (0 : Int32), vR b3, vR b5, vJ z158, s_, u_, u_, u_, u_, u_, u_, u_, u_, u_, u_, u_, u_, u_, u_] [])) _
      refine XS.lload X13.here hx rfl (hb hby at_161) rfl ?_
      show Steps p.tables e below (T13.setTop (mkF m 163 #[vI p0, vI p1, vI p2, vI p3, vI (1 : Int32), vI z14, vI z25, vI (0 : Int32), vI (0 : Int32), vI (0 : Int32), vI (0 : Int32), vR b3, vR b5, vJ z158, s_, u_, u_, u_, u_, u_, u_, u_, u_, u_, u_, u_, u_, u_, u_] [(.long z158)])) _
      refine XS.lconst X13.here hx rfl (hb hby at_163) ?_
      show Steps p.tables e below (T13.setTop (mkF m 164 #[vI p0, vI p1, vI p2, vI p3, vI (1 : Int32), vI z14, vI z25, vI (0 : Int32), vI (0 : Int32), vI (0 : Int32), vI (0 : Int32), vR b3, vR b5, vJ z158, s_, u_, u_, u_, u_, u_, u_, u_, u_, u_, u_, u_, u_, u_, u_] [(.long (0 : Int64)), (.long z158)])) _
      refine Jvm.OwnK.lcmp X13.here hx rfl (hb hby at_164) rfl hz164 ?_
      exact k
    by_cases hb165 : z164 = (0 : Int32)
    · skip
      have c16 : ∀ t, Steps p.tables e below (T13.setTop (mkF m 169 #[vI p0, vI p1, vI p2, vI p3, vI (1 : Int32), vI z14, vI z25, vI (0 : Int32), vI (0 : Int32), vI (0 : Int32), vI (0 : Int32), vR b3, vR b5, vJ z158, s_, u_, u_, u_, u_, u_, u_, u_, u_, u_, u_, u_, u_, u_, u_] [(.int (1 : Int32))])) t → Steps p.tables e below (s₁.setTop (entryFrame m #[(.int p0), (.int p1), (.int p2), (.int p3)] maxLocals)) t := by
        intro t k
        refine c15 t ?_
        show Steps p.tables e below (T13.setTop (mkF m 165 #[vI p0, vI p1, vI p2, vI p3, vI (1 : Int32), vI z14, vI z25, vI (0 : Int32), vI (0 : Int32), vI (0 : Int32), vI (0 : Int32), vR b3, vR b5, vJ z158, s_, u_, u_, u_, u_, u_, u_, u_, u_, u_, u_, u_, u_, u_, u_] [(.int z164)])) _
        refine XS.ifNo X13.here hx rfl (hb hby at_165) rfl (Jvm.Free.XT.i0_ne_f hb165) ?_
        show Steps p.tables e below (T13.setTop (mkF m 168 #[vI p0, vI p1, vI p2, vI p3, vI (1 : Int32), vI z14, vI z25, vI (0 : Int32), vI (0 : Int32), vI (0 : Int32), vI (0 : Int32), vR b3, vR b5, vJ z158, s_, u_, u_, u_, u_, u_, u_, u_, u_, u_, u_, u_, u_, u_, u_] [])) _
        refine XS.iconst X13.here hx rfl (hb hby at_168) ?_
        exact k
      obtain ⟨fs, hr, hrun, hended, hW, hsame⟩ := X13.leave (v := some (.int (1 : Int32))) (fun h => by rw [Bd.returns] at h; cases h)
      refine ⟨_, _, c16 _ ?_, hrun, hended, _, _, rfl, ?_, ⟨_, rfl⟩, hW, hsame.mono (by decide) (by decide)⟩
      · show Steps p.tables e below (T13.setTop (mkF m 169 #[vI p0, vI p1, vI p2, vI p3, vI (1 : Int32), vI z14, vI z25, vI (0 : Int32), vI (0 : Int32), vI (0 : Int32), vI (0 : Int32), vR b3, vR b5, vJ z158, s_, u_, u_, u_, u_, u_, u_, u_, u_, u_, u_, u_, u_, u_, u_] [(.int (1 : Int32))])) _
        exact retOut X13 hx Bd.returns rfl (Or.inl ⟨rfl, by simp, _, rfl⟩) (hb hby at_169) hr
      · show Q0 n0 _ T13.heap _
        rw [e13]
        exact ⟨rfl, by first | assumption | exact N0⟩
    · skip
      obtain ⟨c174_z20, hc174_z20⟩ : ∃ z : Int64, z14.toInt64 = z := ⟨_, rfl⟩
      obtain ⟨c174_z21, hc174_z21⟩ : ∃ z : Int64, (0 : Int64) + c174_z20 = z := ⟨_, rfl⟩
      obtain ⟨c174_z29, hc174_z29⟩ : ∃ z : Int64, z25.toInt64 = z := ⟨_, rfl⟩
      obtain ⟨c174_z30, hc174_z30⟩ : ∃ z : Int64, (0 : Int64) + c174_z29 = z := ⟨_, rfl⟩
      obtain ⟨c174_z60, hc174_z60⟩ : ∃ z : UInt64, FP.l2d c174_z30 = z := ⟨_, rfl⟩
      obtain ⟨c174_z65, hc174_z65⟩ : ∃ z : UInt64, FP.i2d z14 = z := ⟨_, rfl⟩
      obtain ⟨c174_z66, hc174_z66⟩ : ∃ z : UInt64, FP.dmul c174_z60 c174_z65 = z := ⟨_, rfl⟩
      obtain ⟨c174_z68, hc174_z68⟩ : ∃ z : UInt64, FP.l2d c174_z21 = z := ⟨_, rfl⟩
      obtain ⟨c174_z69, hc174_z69⟩ : ∃ z : UInt64, FP.ddiv c174_z66 c174_z68 = z := ⟨_, rfl⟩
      obtain ⟨c174_c70_z1, hc174_c70_z1⟩ : ∃ z : UInt64, FP.i2d z25 = z := ⟨_, rfl⟩
      obtain ⟨c174_c70_z3, hc174_c70_z3⟩ : ∃ z : UInt64, FP.dsub c174_c70_z1 c174_z69 = z := ⟨_, rfl⟩
      obtain ⟨c174_c70_z7, hc174_c70_z7⟩ : ∃ z : Int32, cmpValue (FP.dcmp c174_z69 FP.dconst0) .l = z := ⟨_, rfl⟩
      obtain ⟨c174_c70_z17, hc174_c70_z17⟩ : ∃ z : UInt64, FP.dmul c174_c70_z3 c174_c70_z3 = z := ⟨_, rfl⟩
      obtain ⟨c174_c70_z19, hc174_c70_z19⟩ : ∃ z : UInt64, FP.ddiv c174_c70_z17 c174_z69 = z := ⟨_, rfl⟩
      obtain ⟨c174_c70_rv, hc174_c70_rv⟩ : ∃ z : UInt64, (if c174_c70_z7 = (0 : Int32) then FP.dconst0 else c174_c70_z19) = z := ⟨_, rfl⟩
      obtain ⟨c174_z73, hc174_z73⟩ : ∃ z : UInt64, FP.dadd FP.dconst0 c174_c70_rv = z := ⟨_, rfl⟩
      obtain ⟨c174_z86, hc174_z86⟩ : ∃ z : Int32, z14 - z25 = z := ⟨_, rfl⟩
      obtain ⟨c174_z90, hc174_z90⟩ : ∃ z : Int64, c174_z21 - c174_z30 = z := ⟨_, rfl⟩
      obtain ⟨c174_z91, hc174_z91⟩ : ∃ z : UInt64, FP.l2d c174_z90 = z := ⟨_, rfl⟩
      obtain ⟨c174_z96, hc174_z96⟩ : ∃ z : UInt64, FP.i2d z14 = z := ⟨_, rfl⟩
      obtain ⟨c174_z97, hc174_z97⟩ : ∃ z : UInt64, FP.dmul c174_z91 c174_z96 = z := ⟨_, rfl⟩
      obtain ⟨c174_z99, hc174_z99⟩ : ∃ z : UInt64, FP.l2d c174_z21 = z := ⟨_, rfl⟩
      obtain ⟨c174_z100, hc174_z100⟩ : ∃ z : UInt64, FP.ddiv c174_z97 c174_z99 = z := ⟨_, rfl⟩
      obtain ⟨c174_c101_z1, hc174_c101_z1⟩ : ∃ z : UInt64, FP.i2d c174_z86 = z := ⟨_, rfl⟩
      obtain ⟨c174_c101_z3, hc174_c101_z3⟩ : ∃ z : UInt64, FP.dsub c174_c101_z1 c174_z100 = z := ⟨_, rfl⟩
      obtain ⟨c174_c101_z7, hc174_c101_z7⟩ : ∃ z : Int32, cmpValue (FP.dcmp c174_z100 FP.dconst0) .l = z := ⟨_, rfl⟩
      obtain ⟨c174_c101_z17, hc174_c101_z17⟩ : ∃ z : UInt64, FP.dmul c174_c101_z3 c174_c101_z3 = z := ⟨_, rfl⟩
      obtain ⟨c174_c101_z19, hc174_c101_z19⟩ : ∃ z : UInt64, FP.ddiv c174_c101_z17 c174_z100 = z := ⟨_, rfl⟩
      obtain ⟨c174_c101_rv, hc174_c101_rv⟩ : ∃ z : UInt64, (if c174_c101_z7 = (0 : Int32) then FP.dconst0 else c174_c101_z19) = z := ⟨_, rfl⟩
      obtain ⟨c174_z104, hc174_z104⟩ : ∃ z : UInt64, FP.dadd c174_z73 c174_c101_rv = z := ⟨_, rfl⟩
      obtain ⟨z181, hz181⟩ : ∃ z : Int64, z25.toInt64 = z := ⟨_, rfl⟩
      obtain ⟨z185, hz185⟩ : ∃ z : Int64, z181 + (0 : Int64) = z := ⟨_, rfl⟩
      obtain ⟨z189, hz189⟩ : ∃ z : Int64, z185 + (0 : Int64) = z := ⟨_, rfl⟩
      obtain ⟨z196, hz196⟩ : ∃ z : Int64, z158 - z189 = z := ⟨_, rfl⟩
      obtain ⟨z205, hz205⟩ : ∃ z : Int32, lcmpW z189 (0 : Int64) = z := ⟨_, rfl⟩
      have z00 : (0 : Int64).toInt = 0 := by decide
      have z32_0 : (0 : Int32).toInt = 0 := by decide
      have i20_0 := Jvm.OwnF.i2l_v hc174_z20
      have i29_0 := Jvm.OwnF.i2l_v hc174_z29
      have i21_0 := Jvm.OwnF.ladd_v hc174_z21 (by omega)
      have i30_0 := Jvm.OwnF.ladd_v hc174_z30 (by omega)
      have j150 := Jvm.OwnF.i2l_v hz150
      have j154 := Jvm.OwnF.ladd_v hz154 (by omega)
      have j158 := Jvm.OwnF.ladd_v hz158 (by omega)
      have eN : c174_z21.toInt = z158.toInt := by omega
      have nz164 : z158.toInt ≠ 0 := fun q => hb165 (by rw [← hz164]; exact (lw_eq _ _).mpr (Int64.toInt_inj.mp (by rw [q, z00])))
      have bN : 1 ≤ c174_z21.toInt ∧ c174_z21.toInt ≤ 12285 := by omega
      have bK : 0 ≤ c174_z30.toInt ∧ c174_z30.toInt ≤ c174_z21.toInt := by omega
      have bh0 : 0 ≤ z14.toInt ∧ z14.toInt ≤ 4095 := by omega
      have bh1 : 0 ≤ (0 : Int32).toInt ∧ (0 : Int32).toInt ≤ 4095 := by omega
      have bh2 : 0 ≤ (0 : Int32).toInt ∧ (0 : Int32).toInt ≤ 4095 := by omega
      have hQb := Qn_b bh0 bh1 bh2 bN bK
      have Rb0 := Rb bh1 bh2
      have Rb1 := Rb bh0 bh2
      have Rb2 := Rb bh0 bh1
      have sh0 := sh (g := z25.toInt) (h := z14.toInt) (by omega) (by omega) (by omega) bK bN Rb0
      obtain ⟨⟨c174_nn66, c174_nn69, c174_c70_nn3, c174_c70_nn17, c174_c70_nn19, c174_nn73, c174_nn97, c174_nn100, c174_c101_nn3, c174_c101_nn17, c174_c101_nn19, c174_nn104⟩, acc0⟩ := Jvm.OwnF.itemS (by omega) (by omega) (by omega) (by omega) (by omega) bN.1 bN.2 Rb0.1 ⟨by decide, by decide⟩ hQb Qe0 (Jvm.OwnF.Acc.zero 44 (Qn c174_z21.toInt c174_z30.toInt z14.toInt (0 : Int32).toInt (0 : Int32).toInt)) (by omega) hc174_z60 hc174_z65 hc174_z66 hc174_z68 hc174_z69 hc174_c70_z1 hc174_c70_z3 hc174_c70_z7 hc174_c70_z17 hc174_c70_z19 hc174_c70_rv hc174_z73 hc174_z86 hc174_z90 hc174_z91 hc174_z96 hc174_z97 hc174_z99 hc174_z100 hc174_c101_z1 hc174_c101_z3 hc174_c101_z7 hc174_c101_z17 hc174_c101_z19 hc174_c101_rv hc174_z104
      have f17 := (V9.other W13 (Nat.ne_of_lt (Nat.lt_of_lt_of_le (V3).lt (Nat.le_of_eq g5.symm))))
      obtain ⟨_, _, ⟨T18, L18, k18, n18⟩, -, X18, ⟨Lc18, hQ18, ql18, qy18, qz18⟩, st18⟩ := Jvm.LawKit.callS X13 hx (y := (⟨"com/example/tidy_ranker/tidyranker/classification/ChiSquare", "score", "([I[I)D"⟩ : MethodName)) hown (mvT hZ (hw _ (List.mem_of_getElem? (i := 2) rfl))) (mvT hZ (hw _ (List.mem_of_getElem? (i := 3) rfl))) (mvT hZ (hw _ (List.mem_of_getElem? (i := 4) rfl))) (mvT hZ (hw _ (List.mem_of_getElem? (i := 5) rfl))) (by decide) (backOf (W := 0) (rm1_1 l Z a0 hw [] b5 b3 k5 z25 k3 z14 c174_z20 c174_z21 c174_z29 c174_z30 c174_z60 c174_z65 c174_z66 c174_z68 c174_z69 c174_c70_z1 c174_c70_z3 c174_c70_z7 c174_c70_z17 c174_c70_z19 c174_c70_rv c174_z73 c174_z86 c174_z90 c174_z91 c174_z96 c174_z97 c174_z99 c174_z100 c174_c101_z1 c174_c101_z3 c174_c101_z7 c174_c101_z17 c174_c101_z19 c174_c101_rv c174_z104 h13 n0 (Nat.le_trans (Nat.le_trans (Nat.le_trans (Nat.le_trans Z0 E3.1) E5.1) (Keep.of_wr W9).1) (Keep.of_wr W13).1) V13 f17 hc174_z20 hc174_z21 hc174_z29 hc174_z30 hc174_z60 hc174_z65 hc174_z66 hc174_z68 hc174_z69 hc174_c70_z1 hc174_c70_z3 hc174_c70_z7 hc174_c70_z17 hc174_c70_z19 hc174_c70_rv hc174_z73 hc174_z86 hc174_z90 hc174_z91 hc174_z96 hc174_z97 hc174_z99 hc174_z100 hc174_c101_z1 hc174_c101_z3 hc174_c101_z7 hc174_c101_z17 hc174_c101_z19 hc174_c101_rv hc174_z104 c174_nn66 c174_nn69 c174_c70_nn3 c174_c70_nn17 c174_c70_nn19 c174_nn73 c174_nn97 c174_nn100 c174_c101_nn3 c174_c101_nn17 c174_c101_nn19 c174_nn104) hZ (hw _ (List.mem_of_getElem? (i := 5) rfl)) (hw _ (List.mem_of_getElem? (i := 4) rfl)) (by decide) (by decide)) (g := (mkF m 174 #[vI p0, vI p1, vI p2, vI p3, vI (1 : Int32), vI z14, vI z25, vI (0 : Int32), vI (0 : Int32), vI (0 : Int32), vI (0 : Int32), vR b3, vR b5, vJ z158, s_, u_, u_, u_, u_, u_, u_, u_, u_, u_, u_, u_, u_, u_, u_] [(.ref b3), (.ref b5)])) rfl (by rw [hml]; rfl) (argsL := [(.ref b5), (.ref b3)]) (rest := []) (lenOf pd_1 rfl) rfl (by show 2 * 0 + _ ≤ _; exact Nat.le_of_eq rfl) (hb hby at_174) (fun _ _ => ⟨rfl, e13, (by decide : 2 + 0 ≤ _), (by decide : 2 + 0 ≤ _)⟩)
      dsimp only [Pt.U, Pt.locs, Pt.cells, Pt.slots] at X18 ql18 qy18 qz18 st18 hQ18
      subst ql18 qy18 qz18
      obtain ⟨rfl, N18q, e18⟩ := hQ18
      have N18 := Fr.app N13 N18q
      have j181 := Jvm.OwnF.i2l_v hz181
      have j185 := Jvm.OwnF.ladd_v hz185 (by omega)
      have j189 := Jvm.OwnF.ladd_v hz189 (by omega)
      have j196 := Jvm.OwnF.lsub_v hz196 (by omega)
      have eK : c174_z30.toInt = z189.toInt := by omega
      have c19 : ∀ t, Steps p.tables e below (T18.setTop (mkF m 206 #[vI p0, vI p1, vI p2, vI p3, vI (1 : Int32), vI z14, vI z25, vI (0 : Int32), vI (0 : Int32), vI (0 : Int32), vI (0 : Int32), vR b3, vR b5, vJ z158, s_, vD c174_z104, s_, vJ z189, s_, vJ z196, s_, vD FP.dconst0, s_, u_, u_, u_, u_, u_, u_] [(.int z205)])) t → Steps p.tables e below (s₁.setTop (entryFrame m #[(.int p0), (.int p1), (.int p2), (.int p3)] maxLocals)) t := by
        intro t k
        refine c15 t ?_
        show Steps p.tables e below (T13.setTop (mkF m 165 #[vI p0, vI p1, vI p2, vI p3, vI (1 : Int32), vI z14, vI z25, vI (0 : Int32), vI (0 : Int32), vI (0 : Int32), vI (0 : Int32), vR b3, vR b5, vJ z158, s_, u_, u_, u_, u_, u_, u_, u_, u_, u_, u_, u_, u_, u_, u_] [(.int z164)])) _
        refine XS.ifYes X13.here hx rfl (pc0 := 165) (pc' := 170) rfl (hb hby at_165) rfl (Jvm.Free.XT.i0_ne_t hb165) (by decide) (by decide) ?_
        show Steps p.tables e below (T13.setTop (mkF m 170 #[vI p0, vI p1, vI p2, vI p3, vI (1 : Int32), vI z14, vI z25, vI (0 : Int32), vI (0 : Int32), vI (0 : Int32), vI (0 : Int32), vR b3, vR b5, vJ z158, s_, u_, u_, u_, u_, u_, u_, u_, u_, u_, u_, u_, u_, u_, u_] [])) _
        refine XS.aload X13.here hx rfl (hb hby at_170) rfl rfl ?_
        show Steps p.tables e below (T13.setTop (mkF m 172 #[vI p0, vI p1, vI p2, vI p3, vI (1 : Int32), vI z14, vI z25, vI (0 : Int32), vI (0 : Int32), vI (0 : Int32), vI (0 : Int32), vR b3, vR b5, vJ z158, s_, u_, u_, u_, u_, u_, u_, u_, u_, u_, u_, u_, u_, u_, u_] [(.ref b5)])) _
        refine XS.aload X13.here hx rfl (hb hby at_172) rfl rfl ?_
        show Steps p.tables e below (T13.setTop (mkF m 174 #[vI p0, vI p1, vI p2, vI p3, vI (1 : Int32), vI z14, vI z25, vI (0 : Int32), vI (0 : Int32), vI (0 : Int32), vI (0 : Int32), vR b3, vR b5, vJ z158, s_, u_, u_, u_, u_, u_, u_, u_, u_, u_, u_, u_, u_, u_, u_] [(.ref b3), (.ref b5)])) _
        refine st18 _ ?_
        show Steps p.tables e below (T18.setTop (mkF m 177 #[vI p0, vI p1, vI p2, vI p3, vI (1 : Int32), vI z14, vI z25, vI (0 : Int32), vI (0 : Int32), vI (0 : Int32), vI (0 : Int32), vR b3, vR b5, vJ z158, s_, u_, u_, u_, u_, u_, u_, u_, u_, u_, u_, u_, u_, u_, u_] [(.double c174_z104)])) _
        refine XS.dstore X18.here hx rfl (hb hby at_177) rfl (l' := #[vI p0, vI p1, vI p2, vI p3, vI (1 : Int32), vI z14, vI z25, vI (0 : Int32), vI (0 : Int32), vI (0 : Int32), vI (0 : Int32), vR b3, vR b5, vJ z158, s_, vD c174_z104, s_, u_, u_, u_, u_, u_, u_, u_, u_, u_, u_, u_, u_]) rfl ?_
        show Steps p.tables e below (T18.setTop (mkF m 179 #[vI p0, vI p1, vI p2, vI p3, vI (1 : Int32), vI z14, vI z25, vI (0 : Int32), vI (0 : Int32), vI (0 : Int32), vI (0 : Int32), vR b3, vR b5, vJ z158, s_, vD c174_z104, s_, u_, u_, u_, u_, u_, u_, u_, u_, u_, u_, u_, u_] [])) _
        refine XS.iload X18.here hx rfl (hb hby at_179) rfl ?_
        show Steps p.tables e below (T18.setTop (mkF m 181 #[vI p0, vI p1, vI p2, vI p3, vI (1 : Int32), vI z14, vI z25, vI (0 : Int32), vI (0 : Int32), vI (0 : Int32), vI (0 : Int32), vR b3, vR b5, vJ z158, s_, vD c174_z104, s_, u_, u_, u_, u_, u_, u_, u_, u_, u_, u_, u_, u_] [(.int z25)])) _
        refine Jvm.OwnK.i2l X18.here hx rfl (hb hby at_181) rfl hz181 ?_
        show Steps p.tables e below (T18.setTop (mkF m 182 #[vI p0, vI p1, vI p2, vI p3, vI (1 : Int32), vI z14, vI z25, vI (0 : Int32), vI (0 : Int32), vI (0 : Int32), vI (0 : Int32), vR b3, vR b5, vJ z158, s_, vD c174_z104, s_, u_, u_, u_, u_, u_, u_, u_, u_, u_, u_, u_, u_] [(.long z181)])) _
        refine XS.iload X18.here hx rfl (hb hby at_182) rfl ?_
        show Steps p.tables e below (T18.setTop (mkF m 184 #[vI p0, vI p1, vI p2, vI p3, vI (1 : Int32), vI z14, vI z25, vI (0 : Int32), vI (0 : Int32), vI (0 : Int32), vI (0 : Int32), vR b3, vR b5, vJ z158, s_, vD c174_z104, s_, u_, u_, u_, u_, u_, u_, u_, u_, u_, u_, u_, u_] [(.int (0 : Int32)), (.long z181)])) _
        refine Jvm.OwnK.i2l X18.here hx rfl (hb hby at_184) rfl (v := (0 : Int64)) (by decide) ?_
        show Steps p.tables e below (T18.setTop (mkF m 185 #[vI p0, vI p1, vI p2, vI p3, vI (1 : Int32), vI z14, vI z25, vI (0 : Int32), vI (0 : Int32), vI (0 : Int32), vI (0 : Int32), vR b3, vR b5, vJ z158, s_, vD c174_z104, s_, u_, u_, u_, u_, u_, u_, u_, u_, u_, u_, u_, u_] [(.long (0 : Int64)), (.long z181)])) _
        refine Jvm.OwnK.ladd X18.here hx rfl (hb hby at_185) rfl hz185 ?_
        show Steps p.tables e below (T18.setTop (mkF m 186 #[vI p0, vI p1, vI p2, vI p3, vI (1 : Int32), vI z14, vI z25, vI (0 : Int32), vI (0 : Int32), vI (0 : Int32), vI (0 : Int32), vR b3, vR b5, vJ z158, s_, vD c174_z104, s_, u_, u_, u_, u_, u_, u_, u_, u_, u_, u_, u_, u_] [(.long z185)])) _
        refine XS.iload X18.here hx rfl (hb hby at_186) rfl ?_
        show Steps p.tables e below (T18.setTop (mkF m 188 #[vI p0, vI p1, vI p2, vI p3, vI (1 : Int32), vI z14, vI z25, vI (0 : Int32), vI (0 : Int32), vI (0 : Int32), vI (0 : Int32), vR b3, vR b5, vJ z158, s_, vD c174_z104, s_, u_, u_, u_, u_, u_, u_, u_, u_, u_, u_, u_, u_] [(.int (0 : Int32)), (.long z185)])) _
        refine Jvm.OwnK.i2l X18.here hx rfl (hb hby at_188) rfl (v := (0 : Int64)) (by decide) ?_
        show Steps p.tables e below (T18.setTop (mkF m 189 #[vI p0, vI p1, vI p2, vI p3, vI (1 : Int32), vI z14, vI z25, vI (0 : Int32), vI (0 : Int32), vI (0 : Int32), vI (0 : Int32), vR b3, vR b5, vJ z158, s_, vD c174_z104, s_, u_, u_, u_, u_, u_, u_, u_, u_, u_, u_, u_, u_] [(.long (0 : Int64)), (.long z185)])) _
        refine Jvm.OwnK.ladd X18.here hx rfl (hb hby at_189) rfl hz189 ?_
        show Steps p.tables e below (T18.setTop (mkF m 190 #[vI p0, vI p1, vI p2, vI p3, vI (1 : Int32), vI z14, vI z25, vI (0 : Int32), vI (0 : Int32), vI (0 : Int32), vI (0 : Int32), vR b3, vR b5, vJ z158, s_, vD c174_z104, s_, u_, u_, u_, u_, u_, u_, u_, u_, u_, u_, u_, u_] [(.long z189)])) _
        refine XS.lstore X18.here hx rfl (hb hby at_190) rfl (l' := #[vI p0, vI p1, vI p2, vI p3, vI (1 : Int32), vI z14, vI z25, vI (0 : Int32), vI (0 : Int32), vI (0 : Int32), vI (0 : Int32), vR b3, vR b5, vJ z158, s_, vD c174_z104, s_, vJ z189, s_, u_, u_, u_, u_, u_, u_, u_, u_, u_, u_]) rfl ?_
        show Steps p.tables e below (T18.setTop (mkF m 192 #[vI p0, vI p1, vI p2, vI p3, vI (1 : Int32), vI z14, vI z25, vI (0 : Int32), vI (0 : Int32), vI (0 : Int32), vI (0 : Int32), vR b3, vR b5, vJ z158, s_, vD c174_z104, s_, vJ z189, s_, u_, u_, u_, u_, u_, u_, u_, u_, u_, u_] [])) _
        refine XS.lload X18.here hx rfl (hb hby at_192) rfl ?_
        show Steps p.tables e below (T18.setTop (mkF m 194 #[vI p0, vI p1, vI p2, vI p3, vI (1 : Int32), vI z14, vI z25, vI (0 : Int32), vI (0 : Int32), vI (0 : Int32), vI (0 : Int32), vR b3, vR b5, vJ z158, s_, vD c174_z104, s_, vJ z189, s_, u_, u_, u_, u_, u_, u_, u_, u_, u_, u_] [(.long z158)])) _
        refine XS.lload X18.here hx rfl (hb hby at_194) rfl ?_
        show Steps p.tables e below (T18.setTop (mkF m 196 #[vI p0, vI p1, vI p2, vI p3, vI (1 : Int32), vI z14, vI z25, vI (0 : Int32), vI (0 : Int32), vI (0 : Int32), vI (0 : Int32), vR b3, vR b5, vJ z158, s_, vD c174_z104, s_, vJ z189, s_, u_, u_, u_, u_, u_, u_, u_, u_, u_, u_] [(.long z189), (.long z158)])) _
        refine Jvm.OwnK.lsub X18.here hx rfl (hb hby at_196) rfl hz196 ?_
        show Steps p.tables e below (T18.setTop (mkF m 197 #[vI p0, vI p1, vI p2, vI p3, vI (1 : Int32), vI z14, vI z25, vI (0 : Int32), vI (0 : Int32), vI (0 : Int32), vI (0 : Int32), vR b3, vR b5, vJ z158, s_, vD c174_z104, s_, vJ z189, s_, u_, u_, u_, u_, u_, u_, u_, u_, u_, u_] [(.long z196)])) _
        refine XS.lstore X18.here hx rfl (hb hby at_197) rfl (l' := #[vI p0, vI p1, vI p2, vI p3, vI (1 : Int32), vI z14, vI z25, vI (0 : Int32), vI (0 : Int32), vI (0 : Int32), vI (0 : Int32), vR b3, vR b5, vJ z158, s_, vD c174_z104, s_, vJ z189, s_, vJ z196, s_, u_, u_, u_, u_, u_, u_, u_, u_]) rfl ?_
        show Steps p.tables e below (T18.setTop (mkF m 199 #[vI p0, vI p1, vI p2, vI p3, vI (1 : Int32), vI z14, vI z25, vI (0 : Int32), vI (0 : Int32), vI (0 : Int32), vI (0 : Int32), vR b3, vR b5, vJ z158, s_, vD c174_z104, s_, vJ z189, s_, vJ z196, s_, u_, u_, u_, u_, u_, u_, u_, u_] [])) _
        refine XS.dconst0 X18.here hx rfl (hb hby at_199) (v := FP.dconst0) rfl ?_
        show Steps p.tables e below (T18.setTop (mkF m 200 #[vI p0, vI p1, vI p2, vI p3, vI (1 : Int32), vI z14, vI z25, vI (0 : Int32), vI (0 : Int32), vI (0 : Int32), vI (0 : Int32), vR b3, vR b5, vJ z158, s_, vD c174_z104, s_, vJ z189, s_, vJ z196, s_, u_, u_, u_, u_, u_, u_, u_, u_] [(.double FP.dconst0)])) _
        refine XS.dstore X18.here hx rfl (hb hby at_200) rfl (l' := #[vI p0, vI p1, vI p2, vI p3, vI (1 : Int32), vI z14, vI z25, vI (0 : Int32), vI (0 : Int32), vI (0 : Int32), vI (0 : Int32), vR b3, vR b5, vJ z158, s_, vD c174_z104, s_, vJ z189, s_, vJ z196, s_, vD FP.dconst0, s_, u_, u_, u_, u_, u_, u_]) rfl ?_
        show Steps p.tables e below (T18.setTop (mkF m 202 #[vI p0, vI p1, vI p2, vI p3, vI (1 : Int32), vI z14, vI z25, vI (0 : Int32), vI (0 : Int32), vI (0 : Int32), vI (0 : Int32), vR b3, vR b5, vJ z158, s_, vD c174_z104, s_, vJ z189, s_, vJ z196, s_, vD FP.dconst0, s_, u_, u_, u_, u_, u_, u_] [])) _
        refine XS.lload X18.here hx rfl (hb hby at_202) rfl ?_
        show Steps p.tables e below (T18.setTop (mkF m 204 #[vI p0, vI p1, vI p2, vI p3, vI (1 : Int32), vI z14, vI z25, vI (0 : Int32), vI (0 : Int32), vI (0 : Int32), vI (0 : Int32), vR b3, vR b5, vJ z158, s_, vD c174_z104, s_, vJ z189, s_, vJ z196, s_, vD FP.dconst0, s_, u_, u_, u_, u_, u_, u_] [(.long z189)])) _
        refine XS.lconst X18.here hx rfl (hb hby at_204) ?_
        show Steps p.tables e below (T18.setTop (mkF m 205 #[vI p0, vI p1, vI p2, vI p3, vI (1 : Int32), vI z14, vI z25, vI (0 : Int32), vI (0 : Int32), vI (0 : Int32), vI (0 : Int32), vR b3, vR b5, vJ z158, s_, vD c174_z104, s_, vJ z189, s_, vJ z196, s_, vD FP.dconst0, s_, u_, u_, u_, u_, u_, u_] [(.long (0 : Int64)), (.long z189)])) _
        refine Jvm.OwnK.lcmp X18.here hx rfl (hb hby at_205) rfl hz205 ?_
        exact k
      by_cases hb206 : z205 = (0 : Int32)
      · skip
        obtain ⟨z270, hz270⟩ : ∃ z : UInt64, FP.dmul FP.dconst0 (4517329193108106637 : UInt64) = z := ⟨_, rfl⟩
        obtain ⟨z277, hz277⟩ : ∃ z : UInt64, FP.dadd FP.dconst0 z270 = z := ⟨_, rfl⟩
        obtain ⟨z284, hz284⟩ : ∃ z : UInt64, FP.dsub FP.dconst0 z270 = z := ⟨_, rfl⟩
        obtain ⟨z291, hz291⟩ : ∃ z : Int32, cmpValue (FP.dcmp z284 c174_z104) .g = z := ⟨_, rfl⟩
        have kz : z189.toInt = 0 := by have := (lw_eq _ _).mp (hz205.trans hb206); rw [this]; exact z00
        have dz0 : z25.toInt * c174_z21.toInt - c174_z30.toInt * z14.toInt = 0 := by
          rw [show z25.toInt = 0 by omega, show c174_z30.toInt = 0 by omega, Int.zero_mul, Int.zero_mul]; rfl
        have aS := acc0
        rw [dz0] at aS
        simp only [Int.zero_mul, Int.add_zero] at aS
        obtain ⟨nn270, nn277, nn284, fs, fh, fl, lo1, hi1⟩ := Jvm.OwnF.finR hQb (by decide) (aS.mono (by decide)) (Jvm.OwnF.Acc.zero 5 _) hz270 hz277 hz284
        have c20 : ∀ t, Steps p.tables e below (T18.setTop (mkF m 292 #[vI p0, vI p1, vI p2, vI p3, vI (1 : Int32), vI z14, vI z25, vI (0 : Int32), vI (0 : Int32), vI (0 : Int32), vI (0 : Int32), vR b3, vR b5, vJ z158, s_, vD c174_z104, s_, vJ z189, s_, vJ z196, s_, vD FP.dconst0, s_, vD z270, s_, vD z277, s_, vD z284, s_] [(.int z291)])) t → Steps p.tables e below (s₁.setTop (entryFrame m #[(.int p0), (.int p1), (.int p2), (.int p3)] maxLocals)) t := by
          intro t k
          refine c19 t ?_
          show Steps p.tables e below (T18.setTop (mkF m 206 #[vI p0, vI p1, vI p2, vI p3, vI (1 : Int32), vI z14, vI z25, vI (0 : Int32), vI (0 : Int32), vI (0 : Int32), vI (0 : Int32), vR b3, vR b5, vJ z158, s_, vD c174_z104, s_, vJ z189, s_, vJ z196, s_, vD FP.dconst0, s_, u_, u_, u_, u_, u_, u_] [(.int z205)])) _
          refine XS.ifYes X18.here hx rfl (pc0 := 206) (pc' := 265) rfl (hb hby at_206) rfl (Jvm.Free.XT.i0_eq_t hb206) (by decide) (by decide) ?_
          show Steps p.tables e below (T18.setTop (mkF m 265 #[vI p0, vI p1, vI p2, vI p3, vI (1 : Int32), vI z14, vI z25, vI (0 : Int32), vI (0 : Int32), vI (0 : Int32), vI (0 : Int32), vR b3, vR b5, vJ z158, s_, vD c174_z104, s_, vJ z189, s_, vJ z196, s_, vD FP.dconst0, s_, u_, u_, u_, u_, u_, u_] [])) _
          refine XS.dload X18.here hx rfl (hb hby at_265) rfl ?_
          show Steps p.tables e below (T18.setTop (mkF m 267 #[vI p0, vI p1, vI p2, vI p3, vI (1 : Int32), vI z14, vI z25, vI (0 : Int32), vI (0 : Int32), vI (0 : Int32), vI (0 : Int32), vR b3, vR b5, vJ z158, s_, vD c174_z104, s_, vJ z189, s_, vJ z196, s_, vD FP.dconst0, s_, u_, u_, u_, u_, u_, u_] [(.double FP.dconst0)])) _
          refine X18.ldc2DoubleC hx hown (mvT hZ (hw _ (List.mem_of_getElem? (i := 9) rfl))) (g := (mkF m 267 #[vI p0, vI p1, vI p2, vI p3, vI (1 : Int32), vI z14, vI z25, vI (0 : Int32), vI (0 : Int32), vI (0 : Int32), vI (0 : Int32), vR b3, vR b5, vJ z158, s_, vD c174_z104, s_, vJ z189, s_, vJ z196, s_, vD FP.dconst0, s_, u_, u_, u_, u_, u_, u_] [(.double FP.dconst0)])) rfl (hb hby at_267) _ ?_
          show Steps p.tables e below (T18.setTop (mkF m 270 #[vI p0, vI p1, vI p2, vI p3, vI (1 : Int32), vI z14, vI z25, vI (0 : Int32), vI (0 : Int32), vI (0 : Int32), vI (0 : Int32), vR b3, vR b5, vJ z158, s_, vD c174_z104, s_, vJ z189, s_, vJ z196, s_, vD FP.dconst0, s_, u_, u_, u_, u_, u_, u_] [(.double (4517329193108106637 : UInt64)), (.double FP.dconst0)])) _
          refine Jvm.OwnK.dmul X18.here hx rfl (hb hby at_270) rfl hz270 nn270 ?_
          show Steps p.tables e below (T18.setTop (mkF m 271 #[vI p0, vI p1, vI p2, vI p3, vI (1 : Int32), vI z14, vI z25, vI (0 : Int32), vI (0 : Int32), vI (0 : Int32), vI (0 : Int32), vR b3, vR b5, vJ z158, s_, vD c174_z104, s_, vJ z189, s_, vJ z196, s_, vD FP.dconst0, s_, u_, u_, u_, u_, u_, u_] [(.double z270)])) _
          refine XS.dstore X18.here hx rfl (hb hby at_271) rfl (l' := #[vI p0, vI p1, vI p2, vI p3, vI (1 : Int32), vI z14, vI z25, vI (0 : Int32), vI (0 : Int32), vI (0 : Int32), vI (0 : Int32), vR b3, vR b5, vJ z158, s_, vD c174_z104, s_, vJ z189, s_, vJ z196, s_, vD FP.dconst0, s_, vD z270, s_, u_, u_, u_, u_]) rfl ?_
          show Steps p.tables e below (T18.setTop (mkF m 273 #[vI p0, vI p1, vI p2, vI p3, vI (1 : Int32), vI z14, vI z25, vI (0 : Int32), vI (0 : Int32), vI (0 : Int32), vI (0 : Int32), vR b3, vR b5, vJ z158, s_, vD c174_z104, s_, vJ z189, s_, vJ z196, s_, vD FP.dconst0, s_, vD z270, s_, u_, u_, u_, u_] [])) _
          refine XS.dload X18.here hx rfl (hb hby at_273) rfl ?_
          show Steps p.tables e below (T18.setTop (mkF m 275 #[vI p0, vI p1, vI p2, vI p3, vI (1 : Int32), vI z14, vI z25, vI (0 : Int32), vI (0 : Int32), vI (0 : Int32), vI (0 : Int32), vR b3, vR b5, vJ z158, s_, vD c174_z104, s_, vJ z189, s_, vJ z196, s_, vD FP.dconst0, s_, vD z270, s_, u_, u_, u_, u_] [(.double FP.dconst0)])) _
          refine XS.dload X18.here hx rfl (hb hby at_275) rfl ?_
          show Steps p.tables e below (T18.setTop (mkF m 277 #[vI p0, vI p1, vI p2, vI p3, vI (1 : Int32), vI z14, vI z25, vI (0 : Int32), vI (0 : Int32), vI (0 : Int32), vI (0 : Int32), vR b3, vR b5, vJ z158, s_, vD c174_z104, s_, vJ z189, s_, vJ z196, s_, vD FP.dconst0, s_, vD z270, s_, u_, u_, u_, u_] [(.double z270), (.double FP.dconst0)])) _
          refine Jvm.OwnK.dadd X18.here hx rfl (hb hby at_277) rfl hz277 nn277 ?_
          show Steps p.tables e below (T18.setTop (mkF m 278 #[vI p0, vI p1, vI p2, vI p3, vI (1 : Int32), vI z14, vI z25, vI (0 : Int32), vI (0 : Int32), vI (0 : Int32), vI (0 : Int32), vR b3, vR b5, vJ z158, s_, vD c174_z104, s_, vJ z189, s_, vJ z196, s_, vD FP.dconst0, s_, vD z270, s_, u_, u_, u_, u_] [(.double z277)])) _
          refine XS.dstore X18.here hx rfl (hb hby at_278) rfl (l' := #[vI p0, vI p1, vI p2, vI p3, vI (1 : Int32), vI z14, vI z25, vI (0 : Int32), vI (0 : Int32), vI (0 : Int32), vI (0 : Int32), vR b3, vR b5, vJ z158, s_, vD c174_z104, s_, vJ z189, s_, vJ z196, s_, vD FP.dconst0, s_, vD z270, s_, vD z277, s_, u_, u_]) rfl ?_
          show Steps p.tables e below (T18.setTop (mkF m 280 #[vI p0, vI p1, vI p2, vI p3, vI (1 : Int32), vI z14, vI z25, vI (0 : Int32), vI (0 : Int32), vI (0 : Int32), vI (0 : Int32), vR b3, vR b5, vJ z158, s_, vD c174_z104, s_, vJ z189, s_, vJ z196, s_, vD FP.dconst0, s_, vD z270, s_, vD z277, s_, u_, u_] [])) _
          refine XS.dload X18.here hx rfl (hb hby at_280) rfl ?_
          show Steps p.tables e below (T18.setTop (mkF m 282 #[vI p0, vI p1, vI p2, vI p3, vI (1 : Int32), vI z14, vI z25, vI (0 : Int32), vI (0 : Int32), vI (0 : Int32), vI (0 : Int32), vR b3, vR b5, vJ z158, s_, vD c174_z104, s_, vJ z189, s_, vJ z196, s_, vD FP.dconst0, s_, vD z270, s_, vD z277, s_, u_, u_] [(.double FP.dconst0)])) _
          refine XS.dload X18.here hx rfl (hb hby at_282) rfl ?_
          show Steps p.tables e below (T18.setTop (mkF m 284 #[vI p0, vI p1, vI p2, vI p3, vI (1 : Int32), vI z14, vI z25, vI (0 : Int32), vI (0 : Int32), vI (0 : Int32), vI (0 : Int32), vR b3, vR b5, vJ z158, s_, vD c174_z104, s_, vJ z189, s_, vJ z196, s_, vD FP.dconst0, s_, vD z270, s_, vD z277, s_, u_, u_] [(.double z270), (.double FP.dconst0)])) _
          refine Jvm.OwnK.dsub X18.here hx rfl (hb hby at_284) rfl hz284 nn284 ?_
          show Steps p.tables e below (T18.setTop (mkF m 285 #[vI p0, vI p1, vI p2, vI p3, vI (1 : Int32), vI z14, vI z25, vI (0 : Int32), vI (0 : Int32), vI (0 : Int32), vI (0 : Int32), vR b3, vR b5, vJ z158, s_, vD c174_z104, s_, vJ z189, s_, vJ z196, s_, vD FP.dconst0, s_, vD z270, s_, vD z277, s_, u_, u_] [(.double z284)])) _
          refine XS.dstore X18.here hx rfl (hb hby at_285) rfl (l' := #[vI p0, vI p1, vI p2, vI p3, vI (1 : Int32), vI z14, vI z25, vI (0 : Int32), vI (0 : Int32), vI (0 : Int32), vI (0 : Int32), vR b3, vR b5, vJ z158, s_, vD c174_z104, s_, vJ z189, s_, vJ z196, s_, vD FP.dconst0, s_, vD z270, s_, vD z277, s_, vD z284, s_]) rfl ?_
          show Steps p.tables e below (T18.setTop (mkF m 287 #[vI p0, vI p1, vI p2, vI p3, vI (1 : Int32), vI z14, vI z25, vI (0 : Int32), vI (0 : Int32), vI (0 : Int32), vI (0 : Int32), vR b3, vR b5, vJ z158, s_, vD c174_z104, s_, vJ z189, s_, vJ z196, s_, vD FP.dconst0, s_, vD z270, s_, vD z277, s_, vD z284, s_] [])) _
          refine XS.dload X18.here hx rfl (hb hby at_287) rfl ?_
          show Steps p.tables e below (T18.setTop (mkF m 289 #[vI p0, vI p1, vI p2, vI p3, vI (1 : Int32), vI z14, vI z25, vI (0 : Int32), vI (0 : Int32), vI (0 : Int32), vI (0 : Int32), vR b3, vR b5, vJ z158, s_, vD c174_z104, s_, vJ z189, s_, vJ z196, s_, vD FP.dconst0, s_, vD z270, s_, vD z277, s_, vD z284, s_] [(.double z284)])) _
          refine XS.dload X18.here hx rfl (hb hby at_289) rfl ?_
          show Steps p.tables e below (T18.setTop (mkF m 291 #[vI p0, vI p1, vI p2, vI p3, vI (1 : Int32), vI z14, vI z25, vI (0 : Int32), vI (0 : Int32), vI (0 : Int32), vI (0 : Int32), vR b3, vR b5, vJ z158, s_, vD c174_z104, s_, vJ z189, s_, vJ z196, s_, vD FP.dconst0, s_, vD z270, s_, vD z277, s_, vD z284, s_] [(.double c174_z104), (.double z284)])) _
          refine XS.dcmpS X18.here hx rfl (hb hby at_291) rfl hz291 ?_
          exact k
        by_cases hb292 : z291 < (0 : Int32)
        · skip
          obtain ⟨z307, hz307⟩ : ∃ z : Int32, cmpValue (FP.dcmp c174_z104 z277) .g = z := ⟨_, rfl⟩
          have c21 : ∀ t, Steps p.tables e below (T18.setTop (mkF m 308 #[vI p0, vI p1, vI p2, vI p3, vI (1 : Int32), vI z14, vI z25, vI (0 : Int32), vI (0 : Int32), vI (0 : Int32), vI (0 : Int32), vR b3, vR b5, vJ z158, s_, vD c174_z104, s_, vJ z189, s_, vJ z196, s_, vD FP.dconst0, s_, vD z270, s_, vD z277, s_, vD z284, s_] [(.int z307)])) t → Steps p.tables e below (s₁.setTop (entryFrame m #[(.int p0), (.int p1), (.int p2), (.int p3)] maxLocals)) t := by
            intro t k
            refine c20 t ?_
            show Steps p.tables e below (T18.setTop (mkF m 292 #[vI p0, vI p1, vI p2, vI p3, vI (1 : Int32), vI z14, vI z25, vI (0 : Int32), vI (0 : Int32), vI (0 : Int32), vI (0 : Int32), vR b3, vR b5, vJ z158, s_, vD c174_z104, s_, vJ z189, s_, vJ z196, s_, vD FP.dconst0, s_, vD z270, s_, vD z277, s_, vD z284, s_] [(.int z291)])) _
            refine XS.ifYes X18.here hx rfl (pc0 := 292) (pc' := 303) rfl (hb hby at_292) rfl (Jvm.Free.XT.i0_lt_t hb292) (by decide) (by decide) ?_
            show Steps p.tables e below (T18.setTop (mkF m 303 #[vI p0, vI p1, vI p2, vI p3, vI (1 : Int32), vI z14, vI z25, vI (0 : Int32), vI (0 : Int32), vI (0 : Int32), vI (0 : Int32), vR b3, vR b5, vJ z158, s_, vD c174_z104, s_, vJ z189, s_, vJ z196, s_, vD FP.dconst0, s_, vD z270, s_, vD z277, s_, vD z284, s_] [])) _
            refine XS.dload X18.here hx rfl (hb hby at_303) rfl ?_
            show Steps p.tables e below (T18.setTop (mkF m 305 #[vI p0, vI p1, vI p2, vI p3, vI (1 : Int32), vI z14, vI z25, vI (0 : Int32), vI (0 : Int32), vI (0 : Int32), vI (0 : Int32), vR b3, vR b5, vJ z158, s_, vD c174_z104, s_, vJ z189, s_, vJ z196, s_, vD FP.dconst0, s_, vD z270, s_, vD z277, s_, vD z284, s_] [(.double c174_z104)])) _
            refine XS.dload X18.here hx rfl (hb hby at_305) rfl ?_
            show Steps p.tables e below (T18.setTop (mkF m 307 #[vI p0, vI p1, vI p2, vI p3, vI (1 : Int32), vI z14, vI z25, vI (0 : Int32), vI (0 : Int32), vI (0 : Int32), vI (0 : Int32), vR b3, vR b5, vJ z158, s_, vD c174_z104, s_, vJ z189, s_, vJ z196, s_, vD FP.dconst0, s_, vD z270, s_, vD z277, s_, vD z284, s_] [(.double z277), (.double c174_z104)])) _
            refine XS.dcmpS X18.here hx rfl (hb hby at_307) rfl hz307 ?_
            exact k
          by_cases hb308 : z307 < (0 : Int32)
          · skip
            have c22 : ∀ t, Steps p.tables e below (T18.setTop (mkF m 324 #[vI p0, vI p1, vI p2, vI p3, vI (1 : Int32), vI z14, vI z25, vI (0 : Int32), vI (0 : Int32), vI (0 : Int32), vI (0 : Int32), vR b3, vR b5, vJ z158, s_, vD c174_z104, s_, vJ z189, s_, vJ z196, s_, vD FP.dconst0, s_, vD z270, s_, vD z277, s_, vD z284, s_] [(.int (1 : Int32))])) t → Steps p.tables e below (s₁.setTop (entryFrame m #[(.int p0), (.int p1), (.int p2), (.int p3)] maxLocals)) t := by
              intro t k
              refine c21 t ?_
              show Steps p.tables e below (T18.setTop (mkF m 308 #[vI p0, vI p1, vI p2, vI p3, vI (1 : Int32), vI z14, vI z25, vI (0 : Int32), vI (0 : Int32), vI (0 : Int32), vI (0 : Int32), vR b3, vR b5, vJ z158, s_, vD c174_z104, s_, vJ z189, s_, vJ z196, s_, vD FP.dconst0, s_, vD z270, s_, vD z277, s_, vD z284, s_] [(.int z307)])) _
              refine XS.ifYes X18.here hx rfl (pc0 := 308) (pc' := 319) rfl (hb hby at_308) rfl (Jvm.Free.XT.i0_lt_t hb308) (by decide) (by decide) ?_
              show Steps p.tables e below (T18.setTop (mkF m 319 #[vI p0, vI p1, vI p2, vI p3, vI (1 : Int32), vI z14, vI z25, vI (0 : Int32), vI (0 : Int32), vI (0 : Int32), vI (0 : Int32), vR b3, vR b5, vJ z158, s_, vD c174_z104, s_, vJ z189, s_, vJ z196, s_, vD FP.dconst0, s_, vD z270, s_, vD z277, s_, vD z284, s_] [])) _
              refine XS.iconst X18.here hx rfl (hb hby at_319) ?_
              show Steps p.tables e below (T18.setTop (mkF m 320 #[vI p0, vI p1, vI p2, vI p3, vI (1 : Int32), vI z14, vI z25, vI (0 : Int32), vI (0 : Int32), vI (0 : Int32), vI (0 : Int32), vR b3, vR b5, vJ z158, s_, vD c174_z104, s_, vJ z189, s_, vJ z196, s_, vD FP.dconst0, s_, vD z270, s_, vD z277, s_, vD z284, s_] [(.int (1 : Int32))])) _
              refine XS.goto X18.here hx rfl (pc0 := 320) (pc' := 324) rfl (hb hby at_320) (by decide) (by decide) ?_
              exact k
            obtain ⟨fs, hr, hrun, hended, hW, hsame⟩ := X18.leave (v := some (.int (1 : Int32))) (fun h => by rw [Bd.returns] at h; cases h)
            refine ⟨_, _, c22 _ ?_, hrun, hended, _, _, rfl, ?_, ⟨_, rfl⟩, hW, hsame.mono (by decide) (by decide)⟩
            · show Steps p.tables e below (T18.setTop (mkF m 324 #[vI p0, vI p1, vI p2, vI p3, vI (1 : Int32), vI z14, vI z25, vI (0 : Int32), vI (0 : Int32), vI (0 : Int32), vI (0 : Int32), vR b3, vR b5, vJ z158, s_, vD c174_z104, s_, vJ z189, s_, vJ z196, s_, vD FP.dconst0, s_, vD z270, s_, vD z277, s_, vD z284, s_] [(.int (1 : Int32))])) _
              exact retOut X18 hx Bd.returns rfl (Or.inl ⟨rfl, by simp, _, rfl⟩) (hb hby at_324) hr
            · show Q0 n0 _ T18.heap _
              rw [e18]
              exact ⟨rfl, by first | assumption | exact N0⟩
          · skip
            obtain ⟨z315, hz315⟩ : ∃ z : Int32, cmpValue (FP.dcmp c174_z104 z277) .l = z := ⟨_, rfl⟩
            have br316 := cmpF fs fh hi1 hz307 hz315 hb308
            have c23 : ∀ t, Steps p.tables e below (T18.setTop (mkF m 324 #[vI p0, vI p1, vI p2, vI p3, vI (1 : Int32), vI z14, vI z25, vI (0 : Int32), vI (0 : Int32), vI (0 : Int32), vI (0 : Int32), vR b3, vR b5, vJ z158, s_, vD c174_z104, s_, vJ z189, s_, vJ z196, s_, vD FP.dconst0, s_, vD z270, s_, vD z277, s_, vD z284, s_] [(.int (1 : Int32))])) t → Steps p.tables e below (s₁.setTop (entryFrame m #[(.int p0), (.int p1), (.int p2), (.int p3)] maxLocals)) t := by
              intro t k
              refine c21 t ?_
              show Steps p.tables e below (T18.setTop (mkF m 308 #[vI p0, vI p1, vI p2, vI p3, vI (1 : Int32), vI z14, vI z25, vI (0 : Int32), vI (0 : Int32), vI (0 : Int32), vI (0 : Int32), vR b3, vR b5, vJ z158, s_, vD c174_z104, s_, vJ z189, s_, vJ z196, s_, vD FP.dconst0, s_, vD z270, s_, vD z277, s_, vD z284, s_] [(.int z307)])) _
              refine XS.ifNo X18.here hx rfl (hb hby at_308) rfl (Jvm.Free.XT.i0_lt_f hb308) ?_
              show Steps p.tables e below (T18.setTop (mkF m 311 #[vI p0, vI p1, vI p2, vI p3, vI (1 : Int32), vI z14, vI z25, vI (0 : Int32), vI (0 : Int32), vI (0 : Int32), vI (0 : Int32), vR b3, vR b5, vJ z158, s_, vD c174_z104, s_, vJ z189, s_, vJ z196, s_, vD FP.dconst0, s_, vD z270, s_, vD z277, s_, vD z284, s_] [])) _
              refine XS.dload X18.here hx rfl (hb hby at_311) rfl ?_
              show Steps p.tables e below (T18.setTop (mkF m 313 #[vI p0, vI p1, vI p2, vI p3, vI (1 : Int32), vI z14, vI z25, vI (0 : Int32), vI (0 : Int32), vI (0 : Int32), vI (0 : Int32), vR b3, vR b5, vJ z158, s_, vD c174_z104, s_, vJ z189, s_, vJ z196, s_, vD FP.dconst0, s_, vD z270, s_, vD z277, s_, vD z284, s_] [(.double c174_z104)])) _
              refine XS.dload X18.here hx rfl (hb hby at_313) rfl ?_
              show Steps p.tables e below (T18.setTop (mkF m 315 #[vI p0, vI p1, vI p2, vI p3, vI (1 : Int32), vI z14, vI z25, vI (0 : Int32), vI (0 : Int32), vI (0 : Int32), vI (0 : Int32), vR b3, vR b5, vJ z158, s_, vD c174_z104, s_, vJ z189, s_, vJ z196, s_, vD FP.dconst0, s_, vD z270, s_, vD z277, s_, vD z284, s_] [(.double z277), (.double c174_z104)])) _
              refine XS.dcmpS X18.here hx rfl (hb hby at_315) rfl hz315 ?_
              show Steps p.tables e below (T18.setTop (mkF m 316 #[vI p0, vI p1, vI p2, vI p3, vI (1 : Int32), vI z14, vI z25, vI (0 : Int32), vI (0 : Int32), vI (0 : Int32), vI (0 : Int32), vR b3, vR b5, vJ z158, s_, vD c174_z104, s_, vJ z189, s_, vJ z196, s_, vD FP.dconst0, s_, vD z270, s_, vD z277, s_, vD z284, s_] [(.int z315)])) _
              refine XS.ifNo X18.here hx rfl (hb hby at_316) rfl (Jvm.Free.XT.i0_ne_f br316) ?_
              show Steps p.tables e below (T18.setTop (mkF m 319 #[vI p0, vI p1, vI p2, vI p3, vI (1 : Int32), vI z14, vI z25, vI (0 : Int32), vI (0 : Int32), vI (0 : Int32), vI (0 : Int32), vR b3, vR b5, vJ z158, s_, vD c174_z104, s_, vJ z189, s_, vJ z196, s_, vD FP.dconst0, s_, vD z270, s_, vD z277, s_, vD z284, s_] [])) _
              refine XS.iconst X18.here hx rfl (hb hby at_319) ?_
              show Steps p.tables e below (T18.setTop (mkF m 320 #[vI p0, vI p1, vI p2, vI p3, vI (1 : Int32), vI z14, vI z25, vI (0 : Int32), vI (0 : Int32), vI (0 : Int32), vI (0 : Int32), vR b3, vR b5, vJ z158, s_, vD c174_z104, s_, vJ z189, s_, vJ z196, s_, vD FP.dconst0, s_, vD z270, s_, vD z277, s_, vD z284, s_] [(.int (1 : Int32))])) _
              refine XS.goto X18.here hx rfl (pc0 := 320) (pc' := 324) rfl (hb hby at_320) (by decide) (by decide) ?_
              exact k
            obtain ⟨fs, hr, hrun, hended, hW, hsame⟩ := X18.leave (v := some (.int (1 : Int32))) (fun h => by rw [Bd.returns] at h; cases h)
            refine ⟨_, _, c23 _ ?_, hrun, hended, _, _, rfl, ?_, ⟨_, rfl⟩, hW, hsame.mono (by decide) (by decide)⟩
            · show Steps p.tables e below (T18.setTop (mkF m 324 #[vI p0, vI p1, vI p2, vI p3, vI (1 : Int32), vI z14, vI z25, vI (0 : Int32), vI (0 : Int32), vI (0 : Int32), vI (0 : Int32), vR b3, vR b5, vJ z158, s_, vD c174_z104, s_, vJ z189, s_, vJ z196, s_, vD FP.dconst0, s_, vD z270, s_, vD z277, s_, vD z284, s_] [(.int (1 : Int32))])) _
              exact retOut X18 hx Bd.returns rfl (Or.inl ⟨rfl, by simp, _, rfl⟩) (hb hby at_324) hr
            · show Q0 n0 _ T18.heap _
              rw [e18]
              exact ⟨rfl, by first | assumption | exact N0⟩
        · skip
          obtain ⟨z299, hz299⟩ : ∃ z : Int32, cmpValue (FP.dcmp z284 c174_z104) .l = z := ⟨_, rfl⟩
          obtain ⟨z307, hz307⟩ : ∃ z : Int32, cmpValue (FP.dcmp c174_z104 z277) .g = z := ⟨_, rfl⟩
          have br300 := cmpF fl fs lo1 hz291 hz299 hb292
          have c24 : ∀ t, Steps p.tables e below (T18.setTop (mkF m 308 #[vI p0, vI p1, vI p2, vI p3, vI (1 : Int32), vI z14, vI z25, vI (0 : Int32), vI (0 : Int32), vI (0 : Int32), vI (0 : Int32), vR b3, vR b5, vJ z158, s_, vD c174_z104, s_, vJ z189, s_, vJ z196, s_, vD FP.dconst0, s_, vD z270, s_, vD z277, s_, vD z284, s_] [(.int z307)])) t → Steps p.tables e below (s₁.setTop (entryFrame m #[(.int p0), (.int p1), (.int p2), (.int p3)] maxLocals)) t := by
            intro t k
            refine c20 t ?_
            show Steps p.tables e below (T18.setTop (mkF m 292 #[vI p0, vI p1, vI p2, vI p3, vI (1 : Int32), vI z14, vI z25, vI (0 : Int32), vI (0 : Int32), vI (0 : Int32), vI (0 : Int32), vR b3, vR b5, vJ z158, s_, vD c174_z104, s_, vJ z189, s_, vJ z196, s_, vD FP.dconst0, s_, vD z270, s_, vD z277, s_, vD z284, s_] [(.int z291)])) _
            refine XS.ifNo X18.here hx rfl (hb hby at_292) rfl (Jvm.Free.XT.i0_lt_f hb292) ?_
            show Steps p.tables e below (T18.setTop (mkF m 295 #[vI p0, vI p1, vI p2, vI p3, vI (1 : Int32), vI z14, vI z25, vI (0 : Int32), vI (0 : Int32), vI (0 : Int32), vI (0 : Int32), vR b3, vR b5, vJ z158, s_, vD c174_z104, s_, vJ z189, s_, vJ z196, s_, vD FP.dconst0, s_, vD z270, s_, vD z277, s_, vD z284, s_] [])) _
            refine XS.dload X18.here hx rfl (hb hby at_295) rfl ?_
            show Steps p.tables e below (T18.setTop (mkF m 297 #[vI p0, vI p1, vI p2, vI p3, vI (1 : Int32), vI z14, vI z25, vI (0 : Int32), vI (0 : Int32), vI (0 : Int32), vI (0 : Int32), vR b3, vR b5, vJ z158, s_, vD c174_z104, s_, vJ z189, s_, vJ z196, s_, vD FP.dconst0, s_, vD z270, s_, vD z277, s_, vD z284, s_] [(.double z284)])) _
            refine XS.dload X18.here hx rfl (hb hby at_297) rfl ?_
            show Steps p.tables e below (T18.setTop (mkF m 299 #[vI p0, vI p1, vI p2, vI p3, vI (1 : Int32), vI z14, vI z25, vI (0 : Int32), vI (0 : Int32), vI (0 : Int32), vI (0 : Int32), vR b3, vR b5, vJ z158, s_, vD c174_z104, s_, vJ z189, s_, vJ z196, s_, vD FP.dconst0, s_, vD z270, s_, vD z277, s_, vD z284, s_] [(.double c174_z104), (.double z284)])) _
            refine XS.dcmpS X18.here hx rfl (hb hby at_299) rfl hz299 ?_
            show Steps p.tables e below (T18.setTop (mkF m 300 #[vI p0, vI p1, vI p2, vI p3, vI (1 : Int32), vI z14, vI z25, vI (0 : Int32), vI (0 : Int32), vI (0 : Int32), vI (0 : Int32), vR b3, vR b5, vJ z158, s_, vD c174_z104, s_, vJ z189, s_, vJ z196, s_, vD FP.dconst0, s_, vD z270, s_, vD z277, s_, vD z284, s_] [(.int z299)])) _
            refine XS.ifNo X18.here hx rfl (hb hby at_300) rfl (Jvm.Free.XT.i0_ne_f br300) ?_
            show Steps p.tables e below (T18.setTop (mkF m 303 #[vI p0, vI p1, vI p2, vI p3, vI (1 : Int32), vI z14, vI z25, vI (0 : Int32), vI (0 : Int32), vI (0 : Int32), vI (0 : Int32), vR b3, vR b5, vJ z158, s_, vD c174_z104, s_, vJ z189, s_, vJ z196, s_, vD FP.dconst0, s_, vD z270, s_, vD z277, s_, vD z284, s_] [])) _
            refine XS.dload X18.here hx rfl (hb hby at_303) rfl ?_
            show Steps p.tables e below (T18.setTop (mkF m 305 #[vI p0, vI p1, vI p2, vI p3, vI (1 : Int32), vI z14, vI z25, vI (0 : Int32), vI (0 : Int32), vI (0 : Int32), vI (0 : Int32), vR b3, vR b5, vJ z158, s_, vD c174_z104, s_, vJ z189, s_, vJ z196, s_, vD FP.dconst0, s_, vD z270, s_, vD z277, s_, vD z284, s_] [(.double c174_z104)])) _
            refine XS.dload X18.here hx rfl (hb hby at_305) rfl ?_
            show Steps p.tables e below (T18.setTop (mkF m 307 #[vI p0, vI p1, vI p2, vI p3, vI (1 : Int32), vI z14, vI z25, vI (0 : Int32), vI (0 : Int32), vI (0 : Int32), vI (0 : Int32), vR b3, vR b5, vJ z158, s_, vD c174_z104, s_, vJ z189, s_, vJ z196, s_, vD FP.dconst0, s_, vD z270, s_, vD z277, s_, vD z284, s_] [(.double z277), (.double c174_z104)])) _
            refine XS.dcmpS X18.here hx rfl (hb hby at_307) rfl hz307 ?_
            exact k
          by_cases hb308 : z307 < (0 : Int32)
          · skip
            have c25 : ∀ t, Steps p.tables e below (T18.setTop (mkF m 324 #[vI p0, vI p1, vI p2, vI p3, vI (1 : Int32), vI z14, vI z25, vI (0 : Int32), vI (0 : Int32), vI (0 : Int32), vI (0 : Int32), vR b3, vR b5, vJ z158, s_, vD c174_z104, s_, vJ z189, s_, vJ z196, s_, vD FP.dconst0, s_, vD z270, s_, vD z277, s_, vD z284, s_] [(.int (1 : Int32))])) t → Steps p.tables e below (s₁.setTop (entryFrame m #[(.int p0), (.int p1), (.int p2), (.int p3)] maxLocals)) t := by
              intro t k
              refine c24 t ?_
              show Steps p.tables e below (T18.setTop (mkF m 308 #[vI p0, vI p1, vI p2, vI p3, vI (1 : Int32), vI z14, vI z25, vI (0 : Int32), vI (0 : Int32), vI (0 : Int32), vI (0 : Int32), vR b3, vR b5, vJ z158, s_, vD c174_z104, s_, vJ z189, s_, vJ z196, s_, vD FP.dconst0, s_, vD z270, s_, vD z277, s_, vD z284, s_] [(.int z307)])) _
              refine XS.ifYes X18.here hx rfl (pc0 := 308) (pc' := 319) rfl (hb hby at_308) rfl (Jvm.Free.XT.i0_lt_t hb308) (by decide) (by decide) ?_
              show Steps p.tables e below (T18.setTop (mkF m 319 #[vI p0, vI p1, vI p2, vI p3, vI (1 : Int32), vI z14, vI z25, vI (0 : Int32), vI (0 : Int32), vI (0 : Int32), vI (0 : Int32), vR b3, vR b5, vJ z158, s_, vD c174_z104, s_, vJ z189, s_, vJ z196, s_, vD FP.dconst0, s_, vD z270, s_, vD z277, s_, vD z284, s_] [])) _
              refine XS.iconst X18.here hx rfl (hb hby at_319) ?_
              show Steps p.tables e below (T18.setTop (mkF m 320 #[vI p0, vI p1, vI p2, vI p3, vI (1 : Int32), vI z14, vI z25, vI (0 : Int32), vI (0 : Int32), vI (0 : Int32), vI (0 : Int32), vR b3, vR b5, vJ z158, s_, vD c174_z104, s_, vJ z189, s_, vJ z196, s_, vD FP.dconst0, s_, vD z270, s_, vD z277, s_, vD z284, s_] [(.int (1 : Int32))])) _
              refine XS.goto X18.here hx rfl (pc0 := 320) (pc' := 324) rfl (hb hby at_320) (by decide) (by decide) ?_
              exact k
            obtain ⟨fs, hr, hrun, hended, hW, hsame⟩ := X18.leave (v := some (.int (1 : Int32))) (fun h => by rw [Bd.returns] at h; cases h)
            refine ⟨_, _, c25 _ ?_, hrun, hended, _, _, rfl, ?_, ⟨_, rfl⟩, hW, hsame.mono (by decide) (by decide)⟩
            · show Steps p.tables e below (T18.setTop (mkF m 324 #[vI p0, vI p1, vI p2, vI p3, vI (1 : Int32), vI z14, vI z25, vI (0 : Int32), vI (0 : Int32), vI (0 : Int32), vI (0 : Int32), vR b3, vR b5, vJ z158, s_, vD c174_z104, s_, vJ z189, s_, vJ z196, s_, vD FP.dconst0, s_, vD z270, s_, vD z277, s_, vD z284, s_] [(.int (1 : Int32))])) _
              exact retOut X18 hx Bd.returns rfl (Or.inl ⟨rfl, by simp, _, rfl⟩) (hb hby at_324) hr
            · show Q0 n0 _ T18.heap _
              rw [e18]
              exact ⟨rfl, by first | assumption | exact N0⟩
          · skip
            obtain ⟨z315, hz315⟩ : ∃ z : Int32, cmpValue (FP.dcmp c174_z104 z277) .l = z := ⟨_, rfl⟩
            have br316 := cmpF fs fh hi1 hz307 hz315 hb308
            have c26 : ∀ t, Steps p.tables e below (T18.setTop (mkF m 324 #[vI p0, vI p1, vI p2, vI p3, vI (1 : Int32), vI z14, vI z25, vI (0 : Int32), vI (0 : Int32), vI (0 : Int32), vI (0 : Int32), vR b3, vR b5, vJ z158, s_, vD c174_z104, s_, vJ z189, s_, vJ z196, s_, vD FP.dconst0, s_, vD z270, s_, vD z277, s_, vD z284, s_] [(.int (1 : Int32))])) t → Steps p.tables e below (s₁.setTop (entryFrame m #[(.int p0), (.int p1), (.int p2), (.int p3)] maxLocals)) t := by
              intro t k
              refine c24 t ?_
              show Steps p.tables e below (T18.setTop (mkF m 308 #[vI p0, vI p1, vI p2, vI p3, vI (1 : Int32), vI z14, vI z25, vI (0 : Int32), vI (0 : Int32), vI (0 : Int32), vI (0 : Int32), vR b3, vR b5, vJ z158, s_, vD c174_z104, s_, vJ z189, s_, vJ z196, s_, vD FP.dconst0, s_, vD z270, s_, vD z277, s_, vD z284, s_] [(.int z307)])) _
              refine XS.ifNo X18.here hx rfl (hb hby at_308) rfl (Jvm.Free.XT.i0_lt_f hb308) ?_
              show Steps p.tables e below (T18.setTop (mkF m 311 #[vI p0, vI p1, vI p2, vI p3, vI (1 : Int32), vI z14, vI z25, vI (0 : Int32), vI (0 : Int32), vI (0 : Int32), vI (0 : Int32), vR b3, vR b5, vJ z158, s_, vD c174_z104, s_, vJ z189, s_, vJ z196, s_, vD FP.dconst0, s_, vD z270, s_, vD z277, s_, vD z284, s_] [])) _
              refine XS.dload X18.here hx rfl (hb hby at_311) rfl ?_
              show Steps p.tables e below (T18.setTop (mkF m 313 #[vI p0, vI p1, vI p2, vI p3, vI (1 : Int32), vI z14, vI z25, vI (0 : Int32), vI (0 : Int32), vI (0 : Int32), vI (0 : Int32), vR b3, vR b5, vJ z158, s_, vD c174_z104, s_, vJ z189, s_, vJ z196, s_, vD FP.dconst0, s_, vD z270, s_, vD z277, s_, vD z284, s_] [(.double c174_z104)])) _
              refine XS.dload X18.here hx rfl (hb hby at_313) rfl ?_
              show Steps p.tables e below (T18.setTop (mkF m 315 #[vI p0, vI p1, vI p2, vI p3, vI (1 : Int32), vI z14, vI z25, vI (0 : Int32), vI (0 : Int32), vI (0 : Int32), vI (0 : Int32), vR b3, vR b5, vJ z158, s_, vD c174_z104, s_, vJ z189, s_, vJ z196, s_, vD FP.dconst0, s_, vD z270, s_, vD z277, s_, vD z284, s_] [(.double z277), (.double c174_z104)])) _
              refine XS.dcmpS X18.here hx rfl (hb hby at_315) rfl hz315 ?_
              show Steps p.tables e below (T18.setTop (mkF m 316 #[vI p0, vI p1, vI p2, vI p3, vI (1 : Int32), vI z14, vI z25, vI (0 : Int32), vI (0 : Int32), vI (0 : Int32), vI (0 : Int32), vR b3, vR b5, vJ z158, s_, vD c174_z104, s_, vJ z189, s_, vJ z196, s_, vD FP.dconst0, s_, vD z270, s_, vD z277, s_, vD z284, s_] [(.int z315)])) _
              refine XS.ifNo X18.here hx rfl (hb hby at_316) rfl (Jvm.Free.XT.i0_ne_f br316) ?_
              show Steps p.tables e below (T18.setTop (mkF m 319 #[vI p0, vI p1, vI p2, vI p3, vI (1 : Int32), vI z14, vI z25, vI (0 : Int32), vI (0 : Int32), vI (0 : Int32), vI (0 : Int32), vR b3, vR b5, vJ z158, s_, vD c174_z104, s_, vJ z189, s_, vJ z196, s_, vD FP.dconst0, s_, vD z270, s_, vD z277, s_, vD z284, s_] [])) _
              refine XS.iconst X18.here hx rfl (hb hby at_319) ?_
              show Steps p.tables e below (T18.setTop (mkF m 320 #[vI p0, vI p1, vI p2, vI p3, vI (1 : Int32), vI z14, vI z25, vI (0 : Int32), vI (0 : Int32), vI (0 : Int32), vI (0 : Int32), vR b3, vR b5, vJ z158, s_, vD c174_z104, s_, vJ z189, s_, vJ z196, s_, vD FP.dconst0, s_, vD z270, s_, vD z277, s_, vD z284, s_] [(.int (1 : Int32))])) _
              refine XS.goto X18.here hx rfl (pc0 := 320) (pc' := 324) rfl (hb hby at_320) (by decide) (by decide) ?_
              exact k
            obtain ⟨fs, hr, hrun, hended, hW, hsame⟩ := X18.leave (v := some (.int (1 : Int32))) (fun h => by rw [Bd.returns] at h; cases h)
            refine ⟨_, _, c26 _ ?_, hrun, hended, _, _, rfl, ?_, ⟨_, rfl⟩, hW, hsame.mono (by decide) (by decide)⟩
            · show Steps p.tables e below (T18.setTop (mkF m 324 #[vI p0, vI p1, vI p2, vI p3, vI (1 : Int32), vI z14, vI z25, vI (0 : Int32), vI (0 : Int32), vI (0 : Int32), vI (0 : Int32), vR b3, vR b5, vJ z158, s_, vD c174_z104, s_, vJ z189, s_, vJ z196, s_, vD FP.dconst0, s_, vD z270, s_, vD z277, s_, vD z284, s_] [(.int (1 : Int32))])) _
              exact retOut X18 hx Bd.returns rfl (Or.inl ⟨rfl, by simp, _, rfl⟩) (hb hby at_324) hr
            · show Q0 n0 _ T18.heap _
              rw [e18]
              exact ⟨rfl, by first | assumption | exact N0⟩
      · skip
        obtain ⟨z212, hz212⟩ : ∃ z : Int32, lcmpW z196 (0 : Int64) = z := ⟨_, rfl⟩
        have c27 : ∀ t, Steps p.tables e below (T18.setTop (mkF m 213 #[vI p0, vI p1, vI p2, vI p3, vI (1 : Int32), vI z14, vI z25, vI (0 : Int32), vI (0 : Int32), vI (0 : Int32), vI (0 : Int32), vR b3, vR b5, vJ z158, s_, vD c174_z104, s_, vJ z189, s_, vJ z196, s_, vD FP.dconst0, s_, u_, u_, u_, u_, u_, u_] [(.int z212)])) t → Steps p.tables e below (s₁.setTop (entryFrame m #[(.int p0), (.int p1), (.int p2), (.int p3)] maxLocals)) t := by
          intro t k
          refine c19 t ?_
          show Steps p.tables e below (T18.setTop (mkF m 206 #[vI p0, vI p1, vI p2, vI p3, vI (1 : Int32), vI z14, vI z25, vI (0 : Int32), vI (0 : Int32), vI (0 : Int32), vI (0 : Int32), vR b3, vR b5, vJ z158, s_, vD c174_z104, s_, vJ z189, s_, vJ z196, s_, vD FP.dconst0, s_, u_, u_, u_, u_, u_, u_] [(.int z205)])) _
          refine XS.ifNo X18.here hx rfl (hb hby at_206) rfl (Jvm.Free.XT.i0_eq_f hb206) ?_
          show Steps p.tables e below (T18.setTop (mkF m 209 #[vI p0, vI p1, vI p2, vI p3, vI (1 : Int32), vI z14, vI z25, vI (0 : Int32), vI (0 : Int32), vI (0 : Int32), vI (0 : Int32), vR b3, vR b5, vJ z158, s_, vD c174_z104, s_, vJ z189, s_, vJ z196, s_, vD FP.dconst0, s_, u_, u_, u_, u_, u_, u_] [])) _
          refine XS.lload X18.here hx rfl (hb hby at_209) rfl ?_
          show Steps p.tables e below (T18.setTop (mkF m 211 #[vI p0, vI p1, vI p2, vI p3, vI (1 : Int32), vI z14, vI z25, vI (0 : Int32), vI (0 : Int32), vI (0 : Int32), vI (0 : Int32), vR b3, vR b5, vJ z158, s_, vD c174_z104, s_, vJ z189, s_, vJ z196, s_, vD FP.dconst0, s_, u_, u_, u_, u_, u_, u_] [(.long z196)])) _
          refine XS.lconst X18.here hx rfl (hb hby at_211) ?_
          show Steps p.tables e below (T18.setTop (mkF m 212 #[vI p0, vI p1, vI p2, vI p3, vI (1 : Int32), vI z14, vI z25, vI (0 : Int32), vI (0 : Int32), vI (0 : Int32), vI (0 : Int32), vR b3, vR b5, vJ z158, s_, vD c174_z104, s_, vJ z189, s_, vJ z196, s_, vD FP.dconst0, s_, u_, u_, u_, u_, u_, u_] [(.long (0 : Int64)), (.long z196)])) _
          refine Jvm.OwnK.lcmp X18.here hx rfl (hb hby at_212) rfl hz212 ?_
          exact k
        by_cases hb213 : z212 = (0 : Int32)
        · skip
          obtain ⟨z270, hz270⟩ : ∃ z : UInt64, FP.dmul FP.dconst0 (4517329193108106637 : UInt64) = z := ⟨_, rfl⟩
          obtain ⟨z277, hz277⟩ : ∃ z : UInt64, FP.dadd FP.dconst0 z270 = z := ⟨_, rfl⟩
          obtain ⟨z284, hz284⟩ : ∃ z : UInt64, FP.dsub FP.dconst0 z270 = z := ⟨_, rfl⟩
          obtain ⟨z291, hz291⟩ : ∃ z : Int32, cmpValue (FP.dcmp z284 c174_z104) .g = z := ⟨_, rfl⟩
          have lz : z196.toInt = 0 := by have := (lw_eq _ _).mp (hz212.trans hb213); rw [this]; exact z00
          have dz0 : z25.toInt * c174_z21.toInt - c174_z30.toInt * z14.toInt = 0 := by
            rw [show z25.toInt = z14.toInt by omega, show c174_z30.toInt = c174_z21.toInt by omega, Int.mul_comm]; omega
          have aS := acc0
          rw [dz0] at aS
          simp only [Int.zero_mul, Int.add_zero] at aS
          obtain ⟨nn270, nn277, nn284, fs, fh, fl, lo1, hi1⟩ := Jvm.OwnF.finR hQb (by decide) (aS.mono (by decide)) (Jvm.OwnF.Acc.zero 5 _) hz270 hz277 hz284
          have c28 : ∀ t, Steps p.tables e below (T18.setTop (mkF m 292 #[vI p0, vI p1, vI p2, vI p3, vI (1 : Int32), vI z14, vI z25, vI (0 : Int32), vI (0 : Int32), vI (0 : Int32), vI (0 : Int32), vR b3, vR b5, vJ z158, s_, vD c174_z104, s_, vJ z189, s_, vJ z196, s_, vD FP.dconst0, s_, vD z270, s_, vD z277, s_, vD z284, s_] [(.int z291)])) t → Steps p.tables e below (s₁.setTop (entryFrame m #[(.int p0), (.int p1), (.int p2), (.int p3)] maxLocals)) t := by
            intro t k
            refine c27 t ?_
            show Steps p.tables e below (T18.setTop (mkF m 213 #[vI p0, vI p1, vI p2, vI p3, vI (1 : Int32), vI z14, vI z25, vI (0 : Int32), vI (0 : Int32), vI (0 : Int32), vI (0 : Int32), vR b3, vR b5, vJ z158, s_, vD c174_z104, s_, vJ z189, s_, vJ z196, s_, vD FP.dconst0, s_, u_, u_, u_, u_, u_, u_] [(.int z212)])) _
            refine XS.ifYes X18.here hx rfl (pc0 := 213) (pc' := 265) rfl (hb hby at_213) rfl (Jvm.Free.XT.i0_eq_t hb213) (by decide) (by decide) ?_
            show Steps p.tables e below (T18.setTop (mkF m 265 #[vI p0, vI p1, vI p2, vI p3, vI (1 : Int32), vI z14, vI z25, vI (0 : Int32), vI (0 : Int32), vI (0 : Int32), vI (0 : Int32), vR b3, vR b5, vJ z158, s_, vD c174_z104, s_, vJ z189, s_, vJ z196, s_, vD FP.dconst0, s_, u_, u_, u_, u_, u_, u_] [])) _
            refine XS.dload X18.here hx rfl (hb hby at_265) rfl ?_
            show Steps p.tables e below (T18.setTop (mkF m 267 #[vI p0, vI p1, vI p2, vI p3, vI (1 : Int32), vI z14, vI z25, vI (0 : Int32), vI (0 : Int32), vI (0 : Int32), vI (0 : Int32), vR b3, vR b5, vJ z158, s_, vD c174_z104, s_, vJ z189, s_, vJ z196, s_, vD FP.dconst0, s_, u_, u_, u_, u_, u_, u_] [(.double FP.dconst0)])) _
            refine X18.ldc2DoubleC hx hown (mvT hZ (hw _ (List.mem_of_getElem? (i := 9) rfl))) (g := (mkF m 267 #[vI p0, vI p1, vI p2, vI p3, vI (1 : Int32), vI z14, vI z25, vI (0 : Int32), vI (0 : Int32), vI (0 : Int32), vI (0 : Int32), vR b3, vR b5, vJ z158, s_, vD c174_z104, s_, vJ z189, s_, vJ z196, s_, vD FP.dconst0, s_, u_, u_, u_, u_, u_, u_] [(.double FP.dconst0)])) rfl (hb hby at_267) _ ?_
            show Steps p.tables e below (T18.setTop (mkF m 270 #[vI p0, vI p1, vI p2, vI p3, vI (1 : Int32), vI z14, vI z25, vI (0 : Int32), vI (0 : Int32), vI (0 : Int32), vI (0 : Int32), vR b3, vR b5, vJ z158, s_, vD c174_z104, s_, vJ z189, s_, vJ z196, s_, vD FP.dconst0, s_, u_, u_, u_, u_, u_, u_] [(.double (4517329193108106637 : UInt64)), (.double FP.dconst0)])) _
            refine Jvm.OwnK.dmul X18.here hx rfl (hb hby at_270) rfl hz270 nn270 ?_
            show Steps p.tables e below (T18.setTop (mkF m 271 #[vI p0, vI p1, vI p2, vI p3, vI (1 : Int32), vI z14, vI z25, vI (0 : Int32), vI (0 : Int32), vI (0 : Int32), vI (0 : Int32), vR b3, vR b5, vJ z158, s_, vD c174_z104, s_, vJ z189, s_, vJ z196, s_, vD FP.dconst0, s_, u_, u_, u_, u_, u_, u_] [(.double z270)])) _
            refine XS.dstore X18.here hx rfl (hb hby at_271) rfl (l' := #[vI p0, vI p1, vI p2, vI p3, vI (1 : Int32), vI z14, vI z25, vI (0 : Int32), vI (0 : Int32), vI (0 : Int32), vI (0 : Int32), vR b3, vR b5, vJ z158, s_, vD c174_z104, s_, vJ z189, s_, vJ z196, s_, vD FP.dconst0, s_, vD z270, s_, u_, u_, u_, u_]) rfl ?_
            show Steps p.tables e below (T18.setTop (mkF m 273 #[vI p0, vI p1, vI p2, vI p3, vI (1 : Int32), vI z14, vI z25, vI (0 : Int32), vI (0 : Int32), vI (0 : Int32), vI (0 : Int32), vR b3, vR b5, vJ z158, s_, vD c174_z104, s_, vJ z189, s_, vJ z196, s_, vD FP.dconst0, s_, vD z270, s_, u_, u_, u_, u_] [])) _
            refine XS.dload X18.here hx rfl (hb hby at_273) rfl ?_
            show Steps p.tables e below (T18.setTop (mkF m 275 #[vI p0, vI p1, vI p2, vI p3, vI (1 : Int32), vI z14, vI z25, vI (0 : Int32), vI (0 : Int32), vI (0 : Int32), vI (0 : Int32), vR b3, vR b5, vJ z158, s_, vD c174_z104, s_, vJ z189, s_, vJ z196, s_, vD FP.dconst0, s_, vD z270, s_, u_, u_, u_, u_] [(.double FP.dconst0)])) _
            refine XS.dload X18.here hx rfl (hb hby at_275) rfl ?_
            show Steps p.tables e below (T18.setTop (mkF m 277 #[vI p0, vI p1, vI p2, vI p3, vI (1 : Int32), vI z14, vI z25, vI (0 : Int32), vI (0 : Int32), vI (0 : Int32), vI (0 : Int32), vR b3, vR b5, vJ z158, s_, vD c174_z104, s_, vJ z189, s_, vJ z196, s_, vD FP.dconst0, s_, vD z270, s_, u_, u_, u_, u_] [(.double z270), (.double FP.dconst0)])) _
            refine Jvm.OwnK.dadd X18.here hx rfl (hb hby at_277) rfl hz277 nn277 ?_
            show Steps p.tables e below (T18.setTop (mkF m 278 #[vI p0, vI p1, vI p2, vI p3, vI (1 : Int32), vI z14, vI z25, vI (0 : Int32), vI (0 : Int32), vI (0 : Int32), vI (0 : Int32), vR b3, vR b5, vJ z158, s_, vD c174_z104, s_, vJ z189, s_, vJ z196, s_, vD FP.dconst0, s_, vD z270, s_, u_, u_, u_, u_] [(.double z277)])) _
            refine XS.dstore X18.here hx rfl (hb hby at_278) rfl (l' := #[vI p0, vI p1, vI p2, vI p3, vI (1 : Int32), vI z14, vI z25, vI (0 : Int32), vI (0 : Int32), vI (0 : Int32), vI (0 : Int32), vR b3, vR b5, vJ z158, s_, vD c174_z104, s_, vJ z189, s_, vJ z196, s_, vD FP.dconst0, s_, vD z270, s_, vD z277, s_, u_, u_]) rfl ?_
            show Steps p.tables e below (T18.setTop (mkF m 280 #[vI p0, vI p1, vI p2, vI p3, vI (1 : Int32), vI z14, vI z25, vI (0 : Int32), vI (0 : Int32), vI (0 : Int32), vI (0 : Int32), vR b3, vR b5, vJ z158, s_, vD c174_z104, s_, vJ z189, s_, vJ z196, s_, vD FP.dconst0, s_, vD z270, s_, vD z277, s_, u_, u_] [])) _
            refine XS.dload X18.here hx rfl (hb hby at_280) rfl ?_
            show Steps p.tables e below (T18.setTop (mkF m 282 #[vI p0, vI p1, vI p2, vI p3, vI (1 : Int32), vI z14, vI z25, vI (0 : Int32), vI (0 : Int32), vI (0 : Int32), vI (0 : Int32), vR b3, vR b5, vJ z158, s_, vD c174_z104, s_, vJ z189, s_, vJ z196, s_, vD FP.dconst0, s_, vD z270, s_, vD z277, s_, u_, u_] [(.double FP.dconst0)])) _
            refine XS.dload X18.here hx rfl (hb hby at_282) rfl ?_
            show Steps p.tables e below (T18.setTop (mkF m 284 #[vI p0, vI p1, vI p2, vI p3, vI (1 : Int32), vI z14, vI z25, vI (0 : Int32), vI (0 : Int32), vI (0 : Int32), vI (0 : Int32), vR b3, vR b5, vJ z158, s_, vD c174_z104, s_, vJ z189, s_, vJ z196, s_, vD FP.dconst0, s_, vD z270, s_, vD z277, s_, u_, u_] [(.double z270), (.double FP.dconst0)])) _
            refine Jvm.OwnK.dsub X18.here hx rfl (hb hby at_284) rfl hz284 nn284 ?_
            show Steps p.tables e below (T18.setTop (mkF m 285 #[vI p0, vI p1, vI p2, vI p3, vI (1 : Int32), vI z14, vI z25, vI (0 : Int32), vI (0 : Int32), vI (0 : Int32), vI (0 : Int32), vR b3, vR b5, vJ z158, s_, vD c174_z104, s_, vJ z189, s_, vJ z196, s_, vD FP.dconst0, s_, vD z270, s_, vD z277, s_, u_, u_] [(.double z284)])) _
            refine XS.dstore X18.here hx rfl (hb hby at_285) rfl (l' := #[vI p0, vI p1, vI p2, vI p3, vI (1 : Int32), vI z14, vI z25, vI (0 : Int32), vI (0 : Int32), vI (0 : Int32), vI (0 : Int32), vR b3, vR b5, vJ z158, s_, vD c174_z104, s_, vJ z189, s_, vJ z196, s_, vD FP.dconst0, s_, vD z270, s_, vD z277, s_, vD z284, s_]) rfl ?_
            show Steps p.tables e below (T18.setTop (mkF m 287 #[vI p0, vI p1, vI p2, vI p3, vI (1 : Int32), vI z14, vI z25, vI (0 : Int32), vI (0 : Int32), vI (0 : Int32), vI (0 : Int32), vR b3, vR b5, vJ z158, s_, vD c174_z104, s_, vJ z189, s_, vJ z196, s_, vD FP.dconst0, s_, vD z270, s_, vD z277, s_, vD z284, s_] [])) _
            refine XS.dload X18.here hx rfl (hb hby at_287) rfl ?_
            show Steps p.tables e below (T18.setTop (mkF m 289 #[vI p0, vI p1, vI p2, vI p3, vI (1 : Int32), vI z14, vI z25, vI (0 : Int32), vI (0 : Int32), vI (0 : Int32), vI (0 : Int32), vR b3, vR b5, vJ z158, s_, vD c174_z104, s_, vJ z189, s_, vJ z196, s_, vD FP.dconst0, s_, vD z270, s_, vD z277, s_, vD z284, s_] [(.double z284)])) _
            refine XS.dload X18.here hx rfl (hb hby at_289) rfl ?_
            show Steps p.tables e below (T18.setTop (mkF m 291 #[vI p0, vI p1, vI p2, vI p3, vI (1 : Int32), vI z14, vI z25, vI (0 : Int32), vI (0 : Int32), vI (0 : Int32), vI (0 : Int32), vR b3, vR b5, vJ z158, s_, vD c174_z104, s_, vJ z189, s_, vJ z196, s_, vD FP.dconst0, s_, vD z270, s_, vD z277, s_, vD z284, s_] [(.double c174_z104), (.double z284)])) _
            refine XS.dcmpS X18.here hx rfl (hb hby at_291) rfl hz291 ?_
            exact k
          by_cases hb292 : z291 < (0 : Int32)
          · skip
            obtain ⟨z307, hz307⟩ : ∃ z : Int32, cmpValue (FP.dcmp c174_z104 z277) .g = z := ⟨_, rfl⟩
            have c29 : ∀ t, Steps p.tables e below (T18.setTop (mkF m 308 #[vI p0, vI p1, vI p2, vI p3, vI (1 : Int32), vI z14, vI z25, vI (0 : Int32), vI (0 : Int32), vI (0 : Int32), vI (0 : Int32), vR b3, vR b5, vJ z158, s_, vD c174_z104, s_, vJ z189, s_, vJ z196, s_, vD FP.dconst0, s_, vD z270, s_, vD z277, s_, vD z284, s_] [(.int z307)])) t → Steps p.tables e below (s₁.setTop (entryFrame m #[(.int p0), (.int p1), (.int p2), (.int p3)] maxLocals)) t := by
              intro t k
              refine c28 t ?_
              show Steps p.tables e below (T18.setTop (mkF m 292 #[vI p0, vI p1, vI p2, vI p3, vI (1 : Int32), vI z14, vI z25, vI (0 : Int32), vI (0 : Int32), vI (0 : Int32), vI (0 : Int32), vR b3, vR b5, vJ z158, s_, vD c174_z104, s_, vJ z189, s_, vJ z196, s_, vD FP.dconst0, s_, vD z270, s_, vD z277, s_, vD z284, s_] [(.int z291)])) _
              refine XS.ifYes X18.here hx rfl (pc0 := 292) (pc' := 303) rfl (hb hby at_292) rfl (Jvm.Free.XT.i0_lt_t hb292) (by decide) (by decide) ?_
              show Steps p.tables e below (T18.setTop (mkF m 303 #[vI p0, vI p1, vI p2, vI p3, vI (1 : Int32), vI z14, vI z25, vI (0 : Int32), vI (0 : Int32), vI (0 : Int32), vI (0 : Int32), vR b3, vR b5, vJ z158, s_, vD c174_z104, s_, vJ z189, s_, vJ z196, s_, vD FP.dconst0, s_, vD z270, s_, vD z277, s_, vD z284, s_] [])) _
              refine XS.dload X18.here hx rfl (hb hby at_303) rfl ?_
              show Steps p.tables e below (T18.setTop (mkF m 305 #[vI p0, vI p1, vI p2, vI p3, vI (1 : Int32), vI z14, vI z25, vI (0 : Int32), vI (0 : Int32), vI (0 : Int32), vI (0 : Int32), vR b3, vR b5, vJ z158, s_, vD c174_z104, s_, vJ z189, s_, vJ z196, s_, vD FP.dconst0, s_, vD z270, s_, vD z277, s_, vD z284, s_] [(.double c174_z104)])) _
              refine XS.dload X18.here hx rfl (hb hby at_305) rfl ?_
              show Steps p.tables e below (T18.setTop (mkF m 307 #[vI p0, vI p1, vI p2, vI p3, vI (1 : Int32), vI z14, vI z25, vI (0 : Int32), vI (0 : Int32), vI (0 : Int32), vI (0 : Int32), vR b3, vR b5, vJ z158, s_, vD c174_z104, s_, vJ z189, s_, vJ z196, s_, vD FP.dconst0, s_, vD z270, s_, vD z277, s_, vD z284, s_] [(.double z277), (.double c174_z104)])) _
              refine XS.dcmpS X18.here hx rfl (hb hby at_307) rfl hz307 ?_
              exact k
            by_cases hb308 : z307 < (0 : Int32)
            · skip
              have c30 : ∀ t, Steps p.tables e below (T18.setTop (mkF m 324 #[vI p0, vI p1, vI p2, vI p3, vI (1 : Int32), vI z14, vI z25, vI (0 : Int32), vI (0 : Int32), vI (0 : Int32), vI (0 : Int32), vR b3, vR b5, vJ z158, s_, vD c174_z104, s_, vJ z189, s_, vJ z196, s_, vD FP.dconst0, s_, vD z270, s_, vD z277, s_, vD z284, s_] [(.int (1 : Int32))])) t → Steps p.tables e below (s₁.setTop (entryFrame m #[(.int p0), (.int p1), (.int p2), (.int p3)] maxLocals)) t := by
                intro t k
                refine c29 t ?_
                show Steps p.tables e below (T18.setTop (mkF m 308 #[vI p0, vI p1, vI p2, vI p3, vI (1 : Int32), vI z14, vI z25, vI (0 : Int32), vI (0 : Int32), vI (0 : Int32), vI (0 : Int32), vR b3, vR b5, vJ z158, s_, vD c174_z104, s_, vJ z189, s_, vJ z196, s_, vD FP.dconst0, s_, vD z270, s_, vD z277, s_, vD z284, s_] [(.int z307)])) _
                refine XS.ifYes X18.here hx rfl (pc0 := 308) (pc' := 319) rfl (hb hby at_308) rfl (Jvm.Free.XT.i0_lt_t hb308) (by decide) (by decide) ?_
                show Steps p.tables e below (T18.setTop (mkF m 319 #[vI p0, vI p1, vI p2, vI p3, vI (1 : Int32), vI z14, vI z25, vI (0 : Int32), vI (0 : Int32), vI (0 : Int32), vI (0 : Int32), vR b3, vR b5, vJ z158, s_, vD c174_z104, s_, vJ z189, s_, vJ z196, s_, vD FP.dconst0, s_, vD z270, s_, vD z277, s_, vD z284, s_] [])) _
                refine XS.iconst X18.here hx rfl (hb hby at_319) ?_
                show Steps p.tables e below (T18.setTop (mkF m 320 #[vI p0, vI p1, vI p2, vI p3, vI (1 : Int32), vI z14, vI z25, vI (0 : Int32), vI (0 : Int32), vI (0 : Int32), vI (0 : Int32), vR b3, vR b5, vJ z158, s_, vD c174_z104, s_, vJ z189, s_, vJ z196, s_, vD FP.dconst0, s_, vD z270, s_, vD z277, s_, vD z284, s_] [(.int (1 : Int32))])) _
                refine XS.goto X18.here hx rfl (pc0 := 320) (pc' := 324) rfl (hb hby at_320) (by decide) (by decide) ?_
                exact k
              obtain ⟨fs, hr, hrun, hended, hW, hsame⟩ := X18.leave (v := some (.int (1 : Int32))) (fun h => by rw [Bd.returns] at h; cases h)
              refine ⟨_, _, c30 _ ?_, hrun, hended, _, _, rfl, ?_, ⟨_, rfl⟩, hW, hsame.mono (by decide) (by decide)⟩
              · show Steps p.tables e below (T18.setTop (mkF m 324 #[vI p0, vI p1, vI p2, vI p3, vI (1 : Int32), vI z14, vI z25, vI (0 : Int32), vI (0 : Int32), vI (0 : Int32), vI (0 : Int32), vR b3, vR b5, vJ z158, s_, vD c174_z104, s_, vJ z189, s_, vJ z196, s_, vD FP.dconst0, s_, vD z270, s_, vD z277, s_, vD z284, s_] [(.int (1 : Int32))])) _
                exact retOut X18 hx Bd.returns rfl (Or.inl ⟨rfl, by simp, _, rfl⟩) (hb hby at_324) hr
              · show Q0 n0 _ T18.heap _
                rw [e18]
                exact ⟨rfl, by first | assumption | exact N0⟩
            · skip
              obtain ⟨z315, hz315⟩ : ∃ z : Int32, cmpValue (FP.dcmp c174_z104 z277) .l = z := ⟨_, rfl⟩
              have br316 := cmpF fs fh hi1 hz307 hz315 hb308
              have c31 : ∀ t, Steps p.tables e below (T18.setTop (mkF m 324 #[vI p0, vI p1, vI p2, vI p3, vI (1 : Int32), vI z14, vI z25, vI (0 : Int32), vI (0 : Int32), vI (0 : Int32), vI (0 : Int32), vR b3, vR b5, vJ z158, s_, vD c174_z104, s_, vJ z189, s_, vJ z196, s_, vD FP.dconst0, s_, vD z270, s_, vD z277, s_, vD z284, s_] [(.int (1 : Int32))])) t → Steps p.tables e below (s₁.setTop (entryFrame m #[(.int p0), (.int p1), (.int p2), (.int p3)] maxLocals)) t := by
                intro t k
                refine c29 t ?_
                show Steps p.tables e below (T18.setTop (mkF m 308 #[vI p0, vI p1, vI p2, vI p3, vI (1 : Int32), vI z14, vI z25, vI (0 : Int32), vI (0 : Int32), vI (0 : Int32), vI (0 : Int32), vR b3, vR b5, vJ z158, s_, vD c174_z104, s_, vJ z189, s_, vJ z196, s_, vD FP.dconst0, s_, vD z270, s_, vD z277, s_, vD z284, s_] [(.int z307)])) _
                refine XS.ifNo X18.here hx rfl (hb hby at_308) rfl (Jvm.Free.XT.i0_lt_f hb308) ?_
                show Steps p.tables e below (T18.setTop (mkF m 311 #[vI p0, vI p1, vI p2, vI p3, vI (1 : Int32), vI z14, vI z25, vI (0 : Int32), vI (0 : Int32), vI (0 : Int32), vI (0 : Int32), vR b3, vR b5, vJ z158, s_, vD c174_z104, s_, vJ z189, s_, vJ z196, s_, vD FP.dconst0, s_, vD z270, s_, vD z277, s_, vD z284, s_] [])) _
                refine XS.dload X18.here hx rfl (hb hby at_311) rfl ?_
                show Steps p.tables e below (T18.setTop (mkF m 313 #[vI p0, vI p1, vI p2, vI p3, vI (1 : Int32), vI z14, vI z25, vI (0 : Int32), vI (0 : Int32), vI (0 : Int32), vI (0 : Int32), vR b3, vR b5, vJ z158, s_, vD c174_z104, s_, vJ z189, s_, vJ z196, s_, vD FP.dconst0, s_, vD z270, s_, vD z277, s_, vD z284, s_] [(.double c174_z104)])) _
                refine XS.dload X18.here hx rfl (hb hby at_313) rfl ?_
                show Steps p.tables e below (T18.setTop (mkF m 315 #[vI p0, vI p1, vI p2, vI p3, vI (1 : Int32), vI z14, vI z25, vI (0 : Int32), vI (0 : Int32), vI (0 : Int32), vI (0 : Int32), vR b3, vR b5, vJ z158, s_, vD c174_z104, s_, vJ z189, s_, vJ z196, s_, vD FP.dconst0, s_, vD z270, s_, vD z277, s_, vD z284, s_] [(.double z277), (.double c174_z104)])) _
                refine XS.dcmpS X18.here hx rfl (hb hby at_315) rfl hz315 ?_
                show Steps p.tables e below (T18.setTop (mkF m 316 #[vI p0, vI p1, vI p2, vI p3, vI (1 : Int32), vI z14, vI z25, vI (0 : Int32), vI (0 : Int32), vI (0 : Int32), vI (0 : Int32), vR b3, vR b5, vJ z158, s_, vD c174_z104, s_, vJ z189, s_, vJ z196, s_, vD FP.dconst0, s_, vD z270, s_, vD z277, s_, vD z284, s_] [(.int z315)])) _
                refine XS.ifNo X18.here hx rfl (hb hby at_316) rfl (Jvm.Free.XT.i0_ne_f br316) ?_
                show Steps p.tables e below (T18.setTop (mkF m 319 #[vI p0, vI p1, vI p2, vI p3, vI (1 : Int32), vI z14, vI z25, vI (0 : Int32), vI (0 : Int32), vI (0 : Int32), vI (0 : Int32), vR b3, vR b5, vJ z158, s_, vD c174_z104, s_, vJ z189, s_, vJ z196, s_, vD FP.dconst0, s_, vD z270, s_, vD z277, s_, vD z284, s_] [])) _
                refine XS.iconst X18.here hx rfl (hb hby at_319) ?_
                show Steps p.tables e below (T18.setTop (mkF m 320 #[vI p0, vI p1, vI p2, vI p3, vI (1 : Int32), vI z14, vI z25, vI (0 : Int32), vI (0 : Int32), vI (0 : Int32), vI (0 : Int32), vR b3, vR b5, vJ z158, s_, vD c174_z104, s_, vJ z189, s_, vJ z196, s_, vD FP.dconst0, s_, vD z270, s_, vD z277, s_, vD z284, s_] [(.int (1 : Int32))])) _
                refine XS.goto X18.here hx rfl (pc0 := 320) (pc' := 324) rfl (hb hby at_320) (by decide) (by decide) ?_
                exact k
              obtain ⟨fs, hr, hrun, hended, hW, hsame⟩ := X18.leave (v := some (.int (1 : Int32))) (fun h => by rw [Bd.returns] at h; cases h)
              refine ⟨_, _, c31 _ ?_, hrun, hended, _, _, rfl, ?_, ⟨_, rfl⟩, hW, hsame.mono (by decide) (by decide)⟩
              · show Steps p.tables e below (T18.setTop (mkF m 324 #[vI p0, vI p1, vI p2, vI p3, vI (1 : Int32), vI z14, vI z25, vI (0 : Int32), vI (0 : Int32), vI (0 : Int32), vI (0 : Int32), vR b3, vR b5, vJ z158, s_, vD c174_z104, s_, vJ z189, s_, vJ z196, s_, vD FP.dconst0, s_, vD z270, s_, vD z277, s_, vD z284, s_] [(.int (1 : Int32))])) _
                exact retOut X18 hx Bd.returns rfl (Or.inl ⟨rfl, by simp, _, rfl⟩) (hb hby at_324) hr
              · show Q0 n0 _ T18.heap _
                rw [e18]
                exact ⟨rfl, by first | assumption | exact N0⟩
          · skip
            obtain ⟨z299, hz299⟩ : ∃ z : Int32, cmpValue (FP.dcmp z284 c174_z104) .l = z := ⟨_, rfl⟩
            obtain ⟨z307, hz307⟩ : ∃ z : Int32, cmpValue (FP.dcmp c174_z104 z277) .g = z := ⟨_, rfl⟩
            have br300 := cmpF fl fs lo1 hz291 hz299 hb292
            have c32 : ∀ t, Steps p.tables e below (T18.setTop (mkF m 308 #[vI p0, vI p1, vI p2, vI p3, vI (1 : Int32), vI z14, vI z25, vI (0 : Int32), vI (0 : Int32), vI (0 : Int32), vI (0 : Int32), vR b3, vR b5, vJ z158, s_, vD c174_z104, s_, vJ z189, s_, vJ z196, s_, vD FP.dconst0, s_, vD z270, s_, vD z277, s_, vD z284, s_] [(.int z307)])) t → Steps p.tables e below (s₁.setTop (entryFrame m #[(.int p0), (.int p1), (.int p2), (.int p3)] maxLocals)) t := by
              intro t k
              refine c28 t ?_
              show Steps p.tables e below (T18.setTop (mkF m 292 #[vI p0, vI p1, vI p2, vI p3, vI (1 : Int32), vI z14, vI z25, vI (0 : Int32), vI (0 : Int32), vI (0 : Int32), vI (0 : Int32), vR b3, vR b5, vJ z158, s_, vD c174_z104, s_, vJ z189, s_, vJ z196, s_, vD FP.dconst0, s_, vD z270, s_, vD z277, s_, vD z284, s_] [(.int z291)])) _
              refine XS.ifNo X18.here hx rfl (hb hby at_292) rfl (Jvm.Free.XT.i0_lt_f hb292) ?_
              show Steps p.tables e below (T18.setTop (mkF m 295 #[vI p0, vI p1, vI p2, vI p3, vI (1 : Int32), vI z14, vI z25, vI (0 : Int32), vI (0 : Int32), vI (0 : Int32), vI (0 : Int32), vR b3, vR b5, vJ z158, s_, vD c174_z104, s_, vJ z189, s_, vJ z196, s_, vD FP.dconst0, s_, vD z270, s_, vD z277, s_, vD z284, s_] [])) _
              refine XS.dload X18.here hx rfl (hb hby at_295) rfl ?_
              show Steps p.tables e below (T18.setTop (mkF m 297 #[vI p0, vI p1, vI p2, vI p3, vI (1 : Int32), vI z14, vI z25, vI (0 : Int32), vI (0 : Int32), vI (0 : Int32), vI (0 : Int32), vR b3, vR b5, vJ z158, s_, vD c174_z104, s_, vJ z189, s_, vJ z196, s_, vD FP.dconst0, s_, vD z270, s_, vD z277, s_, vD z284, s_] [(.double z284)])) _
              refine XS.dload X18.here hx rfl (hb hby at_297) rfl ?_
              show Steps p.tables e below (T18.setTop (mkF m 299 #[vI p0, vI p1, vI p2, vI p3, vI (1 : Int32), vI z14, vI z25, vI (0 : Int32), vI (0 : Int32), vI (0 : Int32), vI (0 : Int32), vR b3, vR b5, vJ z158, s_, vD c174_z104, s_, vJ z189, s_, vJ z196, s_, vD FP.dconst0, s_, vD z270, s_, vD z277, s_, vD z284, s_] [(.double c174_z104), (.double z284)])) _
              refine XS.dcmpS X18.here hx rfl (hb hby at_299) rfl hz299 ?_
              show Steps p.tables e below (T18.setTop (mkF m 300 #[vI p0, vI p1, vI p2, vI p3, vI (1 : Int32), vI z14, vI z25, vI (0 : Int32), vI (0 : Int32), vI (0 : Int32), vI (0 : Int32), vR b3, vR b5, vJ z158, s_, vD c174_z104, s_, vJ z189, s_, vJ z196, s_, vD FP.dconst0, s_, vD z270, s_, vD z277, s_, vD z284, s_] [(.int z299)])) _
              refine XS.ifNo X18.here hx rfl (hb hby at_300) rfl (Jvm.Free.XT.i0_ne_f br300) ?_
              show Steps p.tables e below (T18.setTop (mkF m 303 #[vI p0, vI p1, vI p2, vI p3, vI (1 : Int32), vI z14, vI z25, vI (0 : Int32), vI (0 : Int32), vI (0 : Int32), vI (0 : Int32), vR b3, vR b5, vJ z158, s_, vD c174_z104, s_, vJ z189, s_, vJ z196, s_, vD FP.dconst0, s_, vD z270, s_, vD z277, s_, vD z284, s_] [])) _
              refine XS.dload X18.here hx rfl (hb hby at_303) rfl ?_
              show Steps p.tables e below (T18.setTop (mkF m 305 #[vI p0, vI p1, vI p2, vI p3, vI (1 : Int32), vI z14, vI z25, vI (0 : Int32), vI (0 : Int32), vI (0 : Int32), vI (0 : Int32), vR b3, vR b5, vJ z158, s_, vD c174_z104, s_, vJ z189, s_, vJ z196, s_, vD FP.dconst0, s_, vD z270, s_, vD z277, s_, vD z284, s_] [(.double c174_z104)])) _
              refine XS.dload X18.here hx rfl (hb hby at_305) rfl ?_
              show Steps p.tables e below (T18.setTop (mkF m 307 #[vI p0, vI p1, vI p2, vI p3, vI (1 : Int32), vI z14, vI z25, vI (0 : Int32), vI (0 : Int32), vI (0 : Int32), vI (0 : Int32), vR b3, vR b5, vJ z158, s_, vD c174_z104, s_, vJ z189, s_, vJ z196, s_, vD FP.dconst0, s_, vD z270, s_, vD z277, s_, vD z284, s_] [(.double z277), (.double c174_z104)])) _
              refine XS.dcmpS X18.here hx rfl (hb hby at_307) rfl hz307 ?_
              exact k
            by_cases hb308 : z307 < (0 : Int32)
            · skip
              have c33 : ∀ t, Steps p.tables e below (T18.setTop (mkF m 324 #[vI p0, vI p1, vI p2, vI p3, vI (1 : Int32), vI z14, vI z25, vI (0 : Int32), vI (0 : Int32), vI (0 : Int32), vI (0 : Int32), vR b3, vR b5, vJ z158, s_, vD c174_z104, s_, vJ z189, s_, vJ z196, s_, vD FP.dconst0, s_, vD z270, s_, vD z277, s_, vD z284, s_] [(.int (1 : Int32))])) t → Steps p.tables e below (s₁.setTop (entryFrame m #[(.int p0), (.int p1), (.int p2), (.int p3)] maxLocals)) t := by
                intro t k
                refine c32 t ?_
                show Steps p.tables e below (T18.setTop (mkF m 308 #[vI p0, vI p1, vI p2, vI p3, vI (1 : Int32), vI z14, vI z25, vI (0 : Int32), vI (0 : Int32), vI (0 : Int32), vI (0 : Int32), vR b3, vR b5, vJ z158, s_, vD c174_z104, s_, vJ z189, s_, vJ z196, s_, vD FP.dconst0, s_, vD z270, s_, vD z277, s_, vD z284, s_] [(.int z307)])) _
                refine XS.ifYes X18.here hx rfl (pc0 := 308) (pc' := 319) rfl (hb hby at_308) rfl (Jvm.Free.XT.i0_lt_t hb308) (by decide) (by decide) ?_
                show Steps p.tables e below (T18.setTop (mkF m 319 #[vI p0, vI p1, vI p2, vI p3, vI (1 : Int32), vI z14, vI z25, vI (0 : Int32), vI (0 : Int32), vI (0 : Int32), vI (0 : Int32), vR b3, vR b5, vJ z158, s_, vD c174_z104, s_, vJ z189, s_, vJ z196, s_, vD FP.dconst0, s_, vD z270, s_, vD z277, s_, vD z284, s_] [])) _
                refine XS.iconst X18.here hx rfl (hb hby at_319) ?_
                show Steps p.tables e below (T18.setTop (mkF m 320 #[vI p0, vI p1, vI p2, vI p3, vI (1 : Int32), vI z14, vI z25, vI (0 : Int32), vI (0 : Int32), vI (0 : Int32), vI (0 : Int32), vR b3, vR b5, vJ z158, s_, vD c174_z104, s_, vJ z189, s_, vJ z196, s_, vD FP.dconst0, s_, vD z270, s_, vD z277, s_, vD z284, s_] [(.int (1 : Int32))])) _
                refine XS.goto X18.here hx rfl (pc0 := 320) (pc' := 324) rfl (hb hby at_320) (by decide) (by decide) ?_
                exact k
              obtain ⟨fs, hr, hrun, hended, hW, hsame⟩ := X18.leave (v := some (.int (1 : Int32))) (fun h => by rw [Bd.returns] at h; cases h)
              refine ⟨_, _, c33 _ ?_, hrun, hended, _, _, rfl, ?_, ⟨_, rfl⟩, hW, hsame.mono (by decide) (by decide)⟩
              · show Steps p.tables e below (T18.setTop (mkF m 324 #[vI p0, vI p1, vI p2, vI p3, vI (1 : Int32), vI z14, vI z25, vI (0 : Int32), vI (0 : Int32), vI (0 : Int32), vI (0 : Int32), vR b3, vR b5, vJ z158, s_, vD c174_z104, s_, vJ z189, s_, vJ z196, s_, vD FP.dconst0, s_, vD z270, s_, vD z277, s_, vD z284, s_] [(.int (1 : Int32))])) _
                exact retOut X18 hx Bd.returns rfl (Or.inl ⟨rfl, by simp, _, rfl⟩) (hb hby at_324) hr
              · show Q0 n0 _ T18.heap _
                rw [e18]
                exact ⟨rfl, by first | assumption | exact N0⟩
            · skip
              obtain ⟨z315, hz315⟩ : ∃ z : Int32, cmpValue (FP.dcmp c174_z104 z277) .l = z := ⟨_, rfl⟩
              have br316 := cmpF fs fh hi1 hz307 hz315 hb308
              have c34 : ∀ t, Steps p.tables e below (T18.setTop (mkF m 324 #[vI p0, vI p1, vI p2, vI p3, vI (1 : Int32), vI z14, vI z25, vI (0 : Int32), vI (0 : Int32), vI (0 : Int32), vI (0 : Int32), vR b3, vR b5, vJ z158, s_, vD c174_z104, s_, vJ z189, s_, vJ z196, s_, vD FP.dconst0, s_, vD z270, s_, vD z277, s_, vD z284, s_] [(.int (1 : Int32))])) t → Steps p.tables e below (s₁.setTop (entryFrame m #[(.int p0), (.int p1), (.int p2), (.int p3)] maxLocals)) t := by
                intro t k
                refine c32 t ?_
                show Steps p.tables e below (T18.setTop (mkF m 308 #[vI p0, vI p1, vI p2, vI p3, vI (1 : Int32), vI z14, vI z25, vI (0 : Int32), vI (0 : Int32), vI (0 : Int32), vI (0 : Int32), vR b3, vR b5, vJ z158, s_, vD c174_z104, s_, vJ z189, s_, vJ z196, s_, vD FP.dconst0, s_, vD z270, s_, vD z277, s_, vD z284, s_] [(.int z307)])) _
                refine XS.ifNo X18.here hx rfl (hb hby at_308) rfl (Jvm.Free.XT.i0_lt_f hb308) ?_
                show Steps p.tables e below (T18.setTop (mkF m 311 #[vI p0, vI p1, vI p2, vI p3, vI (1 : Int32), vI z14, vI z25, vI (0 : Int32), vI (0 : Int32), vI (0 : Int32), vI (0 : Int32), vR b3, vR b5, vJ z158, s_, vD c174_z104, s_, vJ z189, s_, vJ z196, s_, vD FP.dconst0, s_, vD z270, s_, vD z277, s_, vD z284, s_] [])) _
                refine XS.dload X18.here hx rfl (hb hby at_311) rfl ?_
                show Steps p.tables e below (T18.setTop (mkF m 313 #[vI p0, vI p1, vI p2, vI p3, vI (1 : Int32), vI z14, vI z25, vI (0 : Int32), vI (0 : Int32), vI (0 : Int32), vI (0 : Int32), vR b3, vR b5, vJ z158, s_, vD c174_z104, s_, vJ z189, s_, vJ z196, s_, vD FP.dconst0, s_, vD z270, s_, vD z277, s_, vD z284, s_] [(.double c174_z104)])) _
                refine XS.dload X18.here hx rfl (hb hby at_313) rfl ?_
                show Steps p.tables e below (T18.setTop (mkF m 315 #[vI p0, vI p1, vI p2, vI p3, vI (1 : Int32), vI z14, vI z25, vI (0 : Int32), vI (0 : Int32), vI (0 : Int32), vI (0 : Int32), vR b3, vR b5, vJ z158, s_, vD c174_z104, s_, vJ z189, s_, vJ z196, s_, vD FP.dconst0, s_, vD z270, s_, vD z277, s_, vD z284, s_] [(.double z277), (.double c174_z104)])) _
                refine XS.dcmpS X18.here hx rfl (hb hby at_315) rfl hz315 ?_
                show Steps p.tables e below (T18.setTop (mkF m 316 #[vI p0, vI p1, vI p2, vI p3, vI (1 : Int32), vI z14, vI z25, vI (0 : Int32), vI (0 : Int32), vI (0 : Int32), vI (0 : Int32), vR b3, vR b5, vJ z158, s_, vD c174_z104, s_, vJ z189, s_, vJ z196, s_, vD FP.dconst0, s_, vD z270, s_, vD z277, s_, vD z284, s_] [(.int z315)])) _
                refine XS.ifNo X18.here hx rfl (hb hby at_316) rfl (Jvm.Free.XT.i0_ne_f br316) ?_
                show Steps p.tables e below (T18.setTop (mkF m 319 #[vI p0, vI p1, vI p2, vI p3, vI (1 : Int32), vI z14, vI z25, vI (0 : Int32), vI (0 : Int32), vI (0 : Int32), vI (0 : Int32), vR b3, vR b5, vJ z158, s_, vD c174_z104, s_, vJ z189, s_, vJ z196, s_, vD FP.dconst0, s_, vD z270, s_, vD z277, s_, vD z284, s_] [])) _
                refine XS.iconst X18.here hx rfl (hb hby at_319) ?_
                show Steps p.tables e below (T18.setTop (mkF m 320 #[vI p0, vI p1, vI p2, vI p3, vI (1 : Int32), vI z14, vI z25, vI (0 : Int32), vI (0 : Int32), vI (0 : Int32), vI (0 : Int32), vR b3, vR b5, vJ z158, s_, vD c174_z104, s_, vJ z189, s_, vJ z196, s_, vD FP.dconst0, s_, vD z270, s_, vD z277, s_, vD z284, s_] [(.int (1 : Int32))])) _
                refine XS.goto X18.here hx rfl (pc0 := 320) (pc' := 324) rfl (hb hby at_320) (by decide) (by decide) ?_
                exact k
              obtain ⟨fs, hr, hrun, hended, hW, hsame⟩ := X18.leave (v := some (.int (1 : Int32))) (fun h => by rw [Bd.returns] at h; cases h)
              refine ⟨_, _, c34 _ ?_, hrun, hended, _, _, rfl, ?_, ⟨_, rfl⟩, hW, hsame.mono (by decide) (by decide)⟩
              · show Steps p.tables e below (T18.setTop (mkF m 324 #[vI p0, vI p1, vI p2, vI p3, vI (1 : Int32), vI z14, vI z25, vI (0 : Int32), vI (0 : Int32), vI (0 : Int32), vI (0 : Int32), vR b3, vR b5, vJ z158, s_, vD c174_z104, s_, vJ z189, s_, vJ z196, s_, vD FP.dconst0, s_, vD z270, s_, vD z277, s_, vD z284, s_] [(.int (1 : Int32))])) _
                exact retOut X18 hx Bd.returns rfl (Or.inl ⟨rfl, by simp, _, rfl⟩) (hb hby at_324) hr
              · show Q0 n0 _ T18.heap _
                rw [e18]
                exact ⟨rfl, by first | assumption | exact N0⟩
        · skip
          obtain ⟨z218, hz218⟩ : ∃ z : Int64, z25.toInt64 = z := ⟨_, rfl⟩
          obtain ⟨z221, hz221⟩ : ∃ z : Int64, z14.toInt64 = z := ⟨_, rfl⟩
          obtain ⟨c228_z2, hc228_z2⟩ : ∃ z : Int32, lcmpW z221 (0 : Int64) = z := ⟨_, rfl⟩
          obtain ⟨c228_z11, hc228_z11⟩ : ∃ z : Int64, z218 * z158 = z := ⟨_, rfl⟩
          obtain ⟨c228_z15, hc228_z15⟩ : ∃ z : Int64, z189 * z221 = z := ⟨_, rfl⟩
          obtain ⟨c228_z16, hc228_z16⟩ : ∃ z : Int64, c228_z11 - c228_z15 = z := ⟨_, rfl⟩
          obtain ⟨c228_z23, hc228_z23⟩ : ∃ z : Int64, c228_z16 * c228_z16 = z := ⟨_, rfl⟩
          obtain ⟨c228_z24, hc228_z24⟩ : ∃ z : UInt64, FP.l2d c228_z23 = z := ⟨_, rfl⟩
          obtain ⟨c228_z28, hc228_z28⟩ : ∃ z : Int64, z221 * z189 = z := ⟨_, rfl⟩
          obtain ⟨c228_z31, hc228_z31⟩ : ∃ z : Int64, c228_z28 * z196 = z := ⟨_, rfl⟩
          obtain ⟨c228_z32, hc228_z32⟩ : ∃ z : UInt64, FP.l2d c228_z31 = z := ⟨_, rfl⟩
          obtain ⟨c228_z33, hc228_z33⟩ : ∃ z : UInt64, FP.ddiv c228_z24 c228_z32 = z := ⟨_, rfl⟩
          obtain ⟨c228_rv, hc228_rv⟩ : ∃ z : UInt64, (if c228_z2 = (0 : Int32) then FP.dconst0 else c228_z33) = z := ⟨_, rfl⟩
          obtain ⟨c243_z2, hc243_z2⟩ : ∃ z : Int32, lcmpW (0 : Int64) (0 : Int64) = z := ⟨_, rfl⟩
          obtain ⟨c243_z11, hc243_z11⟩ : ∃ z : Int64, (0 : Int64) * z158 = z := ⟨_, rfl⟩
          obtain ⟨c243_z15, hc243_z15⟩ : ∃ z : Int64, z189 * (0 : Int64) = z := ⟨_, rfl⟩
          obtain ⟨c243_z16, hc243_z16⟩ : ∃ z : Int64, c243_z11 - c243_z15 = z := ⟨_, rfl⟩
          obtain ⟨c243_z23, hc243_z23⟩ : ∃ z : Int64, c243_z16 * c243_z16 = z := ⟨_, rfl⟩
          obtain ⟨c243_z24, hc243_z24⟩ : ∃ z : UInt64, FP.l2d c243_z23 = z := ⟨_, rfl⟩
          obtain ⟨c243_z28, hc243_z28⟩ : ∃ z : Int64, (0 : Int64) * z189 = z := ⟨_, rfl⟩
          obtain ⟨c243_z31, hc243_z31⟩ : ∃ z : Int64, c243_z28 * z196 = z := ⟨_, rfl⟩
          obtain ⟨c243_z32, hc243_z32⟩ : ∃ z : UInt64, FP.l2d c243_z31 = z := ⟨_, rfl⟩
          obtain ⟨c243_z33, hc243_z33⟩ : ∃ z : UInt64, FP.ddiv c243_z24 c243_z32 = z := ⟨_, rfl⟩
          obtain ⟨c243_rv, hc243_rv⟩ : ∃ z : UInt64, (if c243_z2 = (0 : Int32) then FP.dconst0 else c243_z33) = z := ⟨_, rfl⟩
          obtain ⟨z246, hz246⟩ : ∃ z : UInt64, FP.dadd c228_rv c243_rv = z := ⟨_, rfl⟩
          obtain ⟨c259_z2, hc259_z2⟩ : ∃ z : Int32, lcmpW (0 : Int64) (0 : Int64) = z := ⟨_, rfl⟩
          obtain ⟨c259_z11, hc259_z11⟩ : ∃ z : Int64, (0 : Int64) * z158 = z := ⟨_, rfl⟩
          obtain ⟨c259_z15, hc259_z15⟩ : ∃ z : Int64, z189 * (0 : Int64) = z := ⟨_, rfl⟩
          obtain ⟨c259_z16, hc259_z16⟩ : ∃ z : Int64, c259_z11 - c259_z15 = z := ⟨_, rfl⟩
          obtain ⟨c259_z23, hc259_z23⟩ : ∃ z : Int64, c259_z16 * c259_z16 = z := ⟨_, rfl⟩
          obtain ⟨c259_z24, hc259_z24⟩ : ∃ z : UInt64, FP.l2d c259_z23 = z := ⟨_, rfl⟩
          obtain ⟨c259_z28, hc259_z28⟩ : ∃ z : Int64, (0 : Int64) * z189 = z := ⟨_, rfl⟩
          obtain ⟨c259_z31, hc259_z31⟩ : ∃ z : Int64, c259_z28 * z196 = z := ⟨_, rfl⟩
          obtain ⟨c259_z32, hc259_z32⟩ : ∃ z : UInt64, FP.l2d c259_z31 = z := ⟨_, rfl⟩
          obtain ⟨c259_z33, hc259_z33⟩ : ∃ z : UInt64, FP.ddiv c259_z24 c259_z32 = z := ⟨_, rfl⟩
          obtain ⟨c259_rv, hc259_rv⟩ : ∃ z : UInt64, (if c259_z2 = (0 : Int32) then FP.dconst0 else c259_z33) = z := ⟨_, rfl⟩
          obtain ⟨z262, hz262⟩ : ∃ z : UInt64, FP.dadd z246 c259_rv = z := ⟨_, rfl⟩
          obtain ⟨z270, hz270⟩ : ∃ z : UInt64, FP.dmul z262 (4517329193108106637 : UInt64) = z := ⟨_, rfl⟩
          obtain ⟨z277, hz277⟩ : ∃ z : UInt64, FP.dadd z262 z270 = z := ⟨_, rfl⟩
          obtain ⟨z284, hz284⟩ : ∃ z : UInt64, FP.dsub z262 z270 = z := ⟨_, rfl⟩
          obtain ⟨z291, hz291⟩ : ∃ z : Int32, cmpValue (FP.dcmp z284 c174_z104) .g = z := ⟨_, rfl⟩
          have kz : z189.toInt ≠ 0 := fun q => hb206 (by rw [← hz205]; exact (lw_eq _ _).mpr (Int64.toInt_inj.mp (by rw [q, z00])))
          have lz : z196.toInt ≠ 0 := fun q => hb213 (by rw [← hz212]; exact (lw_eq _ _).mpr (Int64.toInt_inj.mp (by rw [q, z00])))
          have jz218 := Jvm.OwnF.i2l_v hz218
          have jz221 := Jvm.OwnF.i2l_v hz221
          have hq0 : z221.toInt ≠ 0 → z158.toInt * (z189.toInt * z221.toInt) * ((z158.toInt - z189.toInt) * (Hn (0 : Int32).toInt * Hn (0 : Int32).toInt)) = Qn c174_z21.toInt c174_z30.toInt z14.toInt (0 : Int32).toInt (0 : Int32).toInt := fun q => by rw [← eN, ← eK, jz221]; exact Qe0 (by omega) (by omega) (by omega)
          obtain ⟨c228_nn33, t0⟩ := Jvm.OwnF.termS (R := Hn (0 : Int32).toInt * Hn (0 : Int32).toInt) (by omega) (by omega) (by omega) (by omega) j196 (by omega) (by omega) Rb0.1 hq0 hc228_z2 hc228_z11 hc228_z15 hc228_z16 hc228_z23 hc228_z24 hc228_z28 hc228_z31 hc228_z32 hc228_z33 hc228_rv
          rw [jz218, jz221, ← eN, ← eK] at t0
          obtain ⟨_, _, ⟨T35, L35, k35, n35⟩, -, X35, ⟨Lc35, hQ35, ql35, qy35, qz35⟩, st35⟩ := Jvm.LawKit.callS X18 hx (y := (⟨"com/example/tidy_ranker/tidyranker/classification/ChiSquareScorePinLaw", "term", "(JJJJJ)D"⟩ : MethodName)) hown (mvT hZ (hw _ (List.mem_of_getElem? (i := 10) rfl))) (mvT hZ (hw _ (List.mem_of_getElem? (i := 11) rfl))) (mvT hZ (hw _ (List.mem_of_getElem? (i := 12) rfl))) (mvT hZ (hw _ (List.mem_of_getElem? (i := 13) rfl))) (by decide) (backOf (W := 0) (rm3 l Z a0 hw [] z218 z221 z158 z189 z196 c228_z2 c228_z11 c228_z15 c228_z16 c228_z23 c228_z24 c228_z28 c228_z31 c228_z32 c228_z33 c228_rv h13 n0 (Nat.le_trans (Nat.le_trans (Nat.le_trans (Nat.le_trans Z0 E3.1) E5.1) (Keep.of_wr W9).1) (Keep.of_wr W13).1) hc228_z2 hc228_z11 hc228_z15 hc228_z16 hc228_z23 hc228_z24 hc228_z28 hc228_z31 hc228_z32 hc228_z33 hc228_rv c228_nn33) hZ (hw _ (List.mem_of_getElem? (i := 13) rfl)) (hw _ (List.mem_of_getElem? (i := 12) rfl)) (by decide) (by decide)) (g := (mkF m 228 #[vI p0, vI p1, vI p2, vI p3, vI (1 : Int32), vI z14, vI z25, vI (0 : Int32), vI (0 : Int32), vI (0 : Int32), vI (0 : Int32), vR b3, vR b5, vJ z158, s_, vD c174_z104, s_, vJ z189, s_, vJ z196, s_, vD FP.dconst0, s_, u_, u_, u_, u_, u_, u_] [(.long z196), (.long z189), (.long z158), (.long z221), (.long z218)])) rfl (by rw [hml]; rfl) (argsL := [(.long z218), (.long z221), (.long z158), (.long z189), (.long z196)]) (rest := []) (lenOf pd_2 rfl) rfl (by show 2 * 0 + _ ≤ _; exact Nat.le_of_eq rfl) (hb hby at_228) (fun _ _ => ⟨rfl, e18, (by decide : 2 + 0 ≤ _), (by decide : 2 + 0 ≤ _)⟩)
          dsimp only [Pt.U, Pt.locs, Pt.cells, Pt.slots] at X35 ql35 qy35 qz35 st35 hQ35
          subst ql35 qy35 qz35
          obtain ⟨rfl, N35q, e35⟩ := hQ35
          have N35 := Fr.app N18 N35q
          have hq1 : (0 : Int64).toInt ≠ 0 → z158.toInt * (z189.toInt * (0 : Int64).toInt) * ((z158.toInt - z189.toInt) * (Hn z14.toInt * Hn (0 : Int32).toInt)) = Qn c174_z21.toInt c174_z30.toInt z14.toInt (0 : Int32).toInt (0 : Int32).toInt := fun q => by rw [← eN, ← eK, show (0 : Int64).toInt = (0 : Int32).toInt from rfl]; exact Qe1 (by omega) (by omega) (by omega)
          obtain ⟨c243_nn33, t1⟩ := Jvm.OwnF.termS (R := Hn z14.toInt * Hn (0 : Int32).toInt) (by omega) (by omega) (by omega) (by omega) j196 (by omega) (by omega) Rb1.1 hq1 hc243_z2 hc243_z11 hc243_z15 hc243_z16 hc243_z23 hc243_z24 hc243_z28 hc243_z31 hc243_z32 hc243_z33 hc243_rv
          rw [z00, Int.zero_mul, Int.mul_zero, Int.sub_self, Int.zero_mul, Int.zero_mul] at t1
          obtain ⟨nn246, u1⟩ := Jvm.OwnF.addAcc (by decide) hQb t0 t1 (by omega) hz246
          obtain ⟨_, _, ⟨T36, L36, k36, n36⟩, -, X36, ⟨Lc36, hQ36, ql36, qy36, qz36⟩, st36⟩ := Jvm.LawKit.callS X35 hx (y := (⟨"com/example/tidy_ranker/tidyranker/classification/ChiSquareScorePinLaw", "term", "(JJJJJ)D"⟩ : MethodName)) hown (mvT hZ (hw _ (List.mem_of_getElem? (i := 10) rfl))) (mvT hZ (hw _ (List.mem_of_getElem? (i := 11) rfl))) (mvT hZ (hw _ (List.mem_of_getElem? (i := 12) rfl))) (mvT hZ (hw _ (List.mem_of_getElem? (i := 13) rfl))) (by decide) (backOf (W := 2) (rm3 l Z a0 hw [] (0 : Int64) (0 : Int64) z158 z189 z196 c243_z2 c243_z11 c243_z15 c243_z16 c243_z23 c243_z24 c243_z28 c243_z31 c243_z32 c243_z33 c243_rv h13 n0 (Nat.le_trans (Nat.le_trans (Nat.le_trans (Nat.le_trans Z0 E3.1) E5.1) (Keep.of_wr W9).1) (Keep.of_wr W13).1) hc243_z2 hc243_z11 hc243_z15 hc243_z16 hc243_z23 hc243_z24 hc243_z28 hc243_z31 hc243_z32 hc243_z33 hc243_rv c243_nn33) hZ (hw _ (List.mem_of_getElem? (i := 13) rfl)) (hw _ (List.mem_of_getElem? (i := 12) rfl)) (by decide) (by decide)) (g := (mkF m 243 #[vI p0, vI p1, vI p2, vI p3, vI (1 : Int32), vI z14, vI z25, vI (0 : Int32), vI (0 : Int32), vI (0 : Int32), vI (0 : Int32), vR b3, vR b5, vJ z158, s_, vD c174_z104, s_, vJ z189, s_, vJ z196, s_, vD FP.dconst0, s_, u_, u_, u_, u_, u_, u_] [(.long z196), (.long z189), (.long z158), (.long (0 : Int64)), (.long (0 : Int64)), (.double c228_rv)])) rfl (by rw [hml]; rfl) (argsL := [(.long (0 : Int64)), (.long (0 : Int64)), (.long z158), (.long z189), (.long z196)]) (rest := [(.double c228_rv)]) (lenOf pd_2 rfl) rfl (by show 2 * 0 + _ ≤ _; exact Nat.le_of_eq rfl) (hb hby at_243) (fun _ _ => ⟨rfl, e35, (by decide : 2 + 0 ≤ _), (by decide : 2 + 0 ≤ _)⟩)
          dsimp only [Pt.U, Pt.locs, Pt.cells, Pt.slots] at X36 ql36 qy36 qz36 st36 hQ36
          subst ql36 qy36 qz36
          obtain ⟨rfl, N36q, e36⟩ := hQ36
          have N36 := Fr.app N35 N36q
          have hq2 : (0 : Int64).toInt ≠ 0 → z158.toInt * (z189.toInt * (0 : Int64).toInt) * ((z158.toInt - z189.toInt) * (Hn z14.toInt * Hn (0 : Int32).toInt)) = Qn c174_z21.toInt c174_z30.toInt z14.toInt (0 : Int32).toInt (0 : Int32).toInt := fun q => by rw [← eN, ← eK, show (0 : Int64).toInt = (0 : Int32).toInt from rfl]; exact Qe2 (by omega) (by omega) (by omega)
          obtain ⟨c259_nn33, t2⟩ := Jvm.OwnF.termS (R := Hn z14.toInt * Hn (0 : Int32).toInt) (by omega) (by omega) (by omega) (by omega) j196 (by omega) (by omega) Rb2.1 hq2 hc259_z2 hc259_z11 hc259_z15 hc259_z16 hc259_z23 hc259_z24 hc259_z28 hc259_z31 hc259_z32 hc259_z33 hc259_rv
          rw [z00, Int.zero_mul, Int.mul_zero, Int.sub_self, Int.zero_mul, Int.zero_mul] at t2
          obtain ⟨nn262, u2⟩ := Jvm.OwnF.addAcc (by decide) hQb u1 (t2.mono (by decide)) (by omega) hz262
          obtain ⟨_, _, ⟨T37, L37, k37, n37⟩, -, X37, ⟨Lc37, hQ37, ql37, qy37, qz37⟩, st37⟩ := Jvm.LawKit.callS X36 hx (y := (⟨"com/example/tidy_ranker/tidyranker/classification/ChiSquareScorePinLaw", "term", "(JJJJJ)D"⟩ : MethodName)) hown (mvT hZ (hw _ (List.mem_of_getElem? (i := 10) rfl))) (mvT hZ (hw _ (List.mem_of_getElem? (i := 11) rfl))) (mvT hZ (hw _ (List.mem_of_getElem? (i := 12) rfl))) (mvT hZ (hw _ (List.mem_of_getElem? (i := 13) rfl))) (by decide) (backOf (W := 2) (rm3 l Z a0 hw [] (0 : Int64) (0 : Int64) z158 z189 z196 c259_z2 c259_z11 c259_z15 c259_z16 c259_z23 c259_z24 c259_z28 c259_z31 c259_z32 c259_z33 c259_rv h13 n0 (Nat.le_trans (Nat.le_trans (Nat.le_trans (Nat.le_trans Z0 E3.1) E5.1) (Keep.of_wr W9).1) (Keep.of_wr W13).1) hc259_z2 hc259_z11 hc259_z15 hc259_z16 hc259_z23 hc259_z24 hc259_z28 hc259_z31 hc259_z32 hc259_z33 hc259_rv c259_nn33) hZ (hw _ (List.mem_of_getElem? (i := 13) rfl)) (hw _ (List.mem_of_getElem? (i := 12) rfl)) (by decide) (by decide)) (g := (mkF m 259 #[vI p0, vI p1, vI p2, vI p3, vI (1 : Int32), vI z14, vI z25, vI (0 : Int32), vI (0 : Int32), vI (0 : Int32), vI (0 : Int32), vR b3, vR b5, vJ z158, s_, vD c174_z104, s_, vJ z189, s_, vJ z196, s_, vD FP.dconst0, s_, u_, u_, u_, u_, u_, u_] [(.long z196), (.long z189), (.long z158), (.long (0 : Int64)), (.long (0 : Int64)), (.double z246)])) rfl (by rw [hml]; rfl) (argsL := [(.long (0 : Int64)), (.long (0 : Int64)), (.long z158), (.long z189), (.long z196)]) (rest := [(.double z246)]) (lenOf pd_2 rfl) rfl (by show 2 * 0 + _ ≤ _; exact Nat.le_of_eq rfl) (hb hby at_259) (fun _ _ => ⟨rfl, e36, (by decide : 2 + 0 ≤ _), (by decide : 2 + 0 ≤ _)⟩)
          dsimp only [Pt.U, Pt.locs, Pt.cells, Pt.slots] at X37 ql37 qy37 qz37 st37 hQ37
          subst ql37 qy37 qz37
          obtain ⟨rfl, N37q, e37⟩ := hQ37
          have N37 := Fr.app N36 N37q
          have uS : Jvm.OwnF.Acc 5 (Qn c174_z21.toInt c174_z30.toInt z14.toInt (0 : Int32).toInt (0 : Int32).toInt) (0 + (z25.toInt * c174_z21.toInt - c174_z30.toInt * z14.toInt) * (z25.toInt * c174_z21.toInt - c174_z30.toInt * z14.toInt) * (c174_z21.toInt * (Hn (0 : Int32).toInt * Hn (0 : Int32).toInt))) z262 := u2.of_eq (by omega)
          obtain ⟨nn270, nn277, nn284, fs, fh, fl, lo1, hi1⟩ := Jvm.OwnF.finR hQb (by omega) (acc0.mono (by decide)) uS hz270 hz277 hz284
          have c38 : ∀ t, Steps p.tables e below (T37.setTop (mkF m 292 #[vI p0, vI p1, vI p2, vI p3, vI (1 : Int32), vI z14, vI z25, vI (0 : Int32), vI (0 : Int32), vI (0 : Int32), vI (0 : Int32), vR b3, vR b5, vJ z158, s_, vD c174_z104, s_, vJ z189, s_, vJ z196, s_, vD z262, s_, vD z270, s_, vD z277, s_, vD z284, s_] [(.int z291)])) t → Steps p.tables e below (s₁.setTop (entryFrame m #[(.int p0), (.int p1), (.int p2), (.int p3)] maxLocals)) t := by
            intro t k
            refine c27 t ?_
            show Steps p.tables e below (T18.setTop (mkF m 213 #[vI p0, vI p1, vI p2, vI p3, vI (1 : Int32), vI z14, vI z25, vI (0 : Int32), vI (0 : Int32), vI (0 : Int32), vI (0 : Int32), vR b3, vR b5, vJ z158, s_, vD c174_z104, s_, vJ z189, s_, vJ z196, s_, vD FP.dconst0, s_, u_, u_, u_, u_, u_, u_] [(.int z212)])) _
            refine XS.ifNo X18.here hx rfl (hb hby at_213) rfl (Jvm.Free.XT.i0_eq_f hb213) ?_
            show Steps p.tables e below (T18.setTop (mkF m 216 #[vI p0, vI p1, vI p2, vI p3, vI (1 : Int32), vI z14, vI z25, vI (0 : Int32), vI (0 : Int32), vI (0 : Int32), vI (0 : Int32), vR b3, vR b5, vJ z158, s_, vD c174_z104, s_, vJ z189, s_, vJ z196, s_, vD FP.dconst0, s_, u_, u_, u_, u_, u_, u_] [])) _
            refine XS.iload X18.here hx rfl (hb hby at_216) rfl ?_
            show Steps p.tables e below (T18.setTop (mkF m 218 #[vI p0, vI p1, vI p2, vI p3, vI (1 : Int32), vI z14, vI z25, vI (0 : Int32), vI (0 : Int32), vI (0 : Int32), vI (0 : Int32), vR b3, vR b5, vJ z158, s_, vD c174_z104, s_, vJ z189, s_, vJ z196, s_, vD FP.dconst0, s_, u_, u_, u_, u_, u_, u_] [(.int z25)])) _
            refine Jvm.OwnK.i2l X18.here hx rfl (hb hby at_218) rfl hz218 ?_
            show Steps p.tables e below (T18.setTop (mkF m 219 #[vI p0, vI p1, vI p2, vI p3, vI (1 : Int32), vI z14, vI z25, vI (0 : Int32), vI (0 : Int32), vI (0 : Int32), vI (0 : Int32), vR b3, vR b5, vJ z158, s_, vD c174_z104, s_, vJ z189, s_, vJ z196, s_, vD FP.dconst0, s_, u_, u_, u_, u_, u_, u_] [(.long z218)])) _
            refine XS.iload X18.here hx rfl (hb hby at_219) rfl ?_
            show Steps p.tables e below (T18.setTop (mkF m 221 #[vI p0, vI p1, vI p2, vI p3, vI (1 : Int32), vI z14, vI z25, vI (0 : Int32), vI (0 : Int32), vI (0 : Int32), vI (0 : Int32), vR b3, vR b5, vJ z158, s_, vD c174_z104, s_, vJ z189, s_, vJ z196, s_, vD FP.dconst0, s_, u_, u_, u_, u_, u_, u_] [(.int z14), (.long z218)])) _
            refine Jvm.OwnK.i2l X18.here hx rfl (hb hby at_221) rfl hz221 ?_
            show Steps p.tables e below (T18.setTop (mkF m 222 #[vI p0, vI p1, vI p2, vI p3, vI (1 : Int32), vI z14, vI z25, vI (0 : Int32), vI (0 : Int32), vI (0 : Int32), vI (0 : Int32), vR b3, vR b5, vJ z158, s_, vD c174_z104, s_, vJ z189, s_, vJ z196, s_, vD FP.dconst0, s_, u_, u_, u_, u_, u_, u_] [(.long z221), (.long z218)])) _
            refine XS.lload X18.here hx rfl (hb hby at_222) rfl ?_
            show Steps p.tables e below (T18.setTop (mkF m 224 #[vI p0, vI p1, vI p2, vI p3, vI (1 : Int32), vI z14, vI z25, vI (0 : Int32), vI (0 : Int32), vI (0 : Int32), vI (0 : Int32), vR b3, vR b5, vJ z158, s_, vD c174_z104, s_, vJ z189, s_, vJ z196, s_, vD FP.dconst0, s_, u_, u_, u_, u_, u_, u_] [(.long z158), (.long z221), (.long z218)])) _
            refine XS.lload X18.here hx rfl (hb hby at_224) rfl ?_
            show Steps p.tables e below (T18.setTop (mkF m 226 #[vI p0, vI p1, vI p2, vI p3, vI (1 : Int32), vI z14, vI z25, vI (0 : Int32), vI (0 : Int32), vI (0 : Int32), vI (0 : Int32), vR b3, vR b5, vJ z158, s_, vD c174_z104, s_, vJ z189, s_, vJ z196, s_, vD FP.dconst0, s_, u_, u_, u_, u_, u_, u_] [(.long z189), (.long z158), (.long z221), (.long z218)])) _
            refine XS.lload X18.here hx rfl (hb hby at_226) rfl ?_
            show Steps p.tables e below (T18.setTop (mkF m 228 #[vI p0, vI p1, vI p2, vI p3, vI (1 : Int32), vI z14, vI z25, vI (0 : Int32), vI (0 : Int32), vI (0 : Int32), vI (0 : Int32), vR b3, vR b5, vJ z158, s_, vD c174_z104, s_, vJ z189, s_, vJ z196, s_, vD FP.dconst0, s_, u_, u_, u_, u_, u_, u_] [(.long z196), (.long z189), (.long z158), (.long z221), (.long z218)])) _
            refine st35 _ ?_
            show Steps p.tables e below (T35.setTop (mkF m 231 #[vI p0, vI p1, vI p2, vI p3, vI (1 : Int32), vI z14, vI z25, vI (0 : Int32), vI (0 : Int32), vI (0 : Int32), vI (0 : Int32), vR b3, vR b5, vJ z158, s_, vD c174_z104, s_, vJ z189, s_, vJ z196, s_, vD FP.dconst0, s_, u_, u_, u_, u_, u_, u_] [(.double c228_rv)])) _
            refine XS.iload X35.here hx rfl (hb hby at_231) rfl ?_
            show Steps p.tables e below (T35.setTop (mkF m 233 #[vI p0, vI p1, vI p2, vI p3, vI (1 : Int32), vI z14, vI z25, vI (0 : Int32), vI (0 : Int32), vI (0 : Int32), vI (0 : Int32), vR b3, vR b5, vJ z158, s_, vD c174_z104, s_, vJ z189, s_, vJ z196, s_, vD FP.dconst0, s_, u_, u_, u_, u_, u_, u_] [(.int (0 : Int32)), (.double c228_rv)])) _
            refine Jvm.OwnK.i2l X35.here hx rfl (hb hby at_233) rfl (v := (0 : Int64)) (by decide) ?_
            show Steps p.tables e below (T35.setTop (mkF m 234 #[vI p0, vI p1, vI p2, vI p3, vI (1 : Int32), vI z14, vI z25, vI (0 : Int32), vI (0 : Int32), vI (0 : Int32), vI (0 : Int32), vR b3, vR b5, vJ z158, s_, vD c174_z104, s_, vJ z189, s_, vJ z196, s_, vD FP.dconst0, s_, u_, u_, u_, u_, u_, u_] [(.long (0 : Int64)), (.double c228_rv)])) _
            refine XS.iload X35.here hx rfl (hb hby at_234) rfl ?_
            show Steps p.tables e below (T35.setTop (mkF m 236 #[vI p0, vI p1, vI p2, vI p3, vI (1 : Int32), vI z14, vI z25, vI (0 : Int32), vI (0 : Int32), vI (0 : Int32), vI (0 : Int32), vR b3, vR b5, vJ z158, s_, vD c174_z104, s_, vJ z189, s_, vJ z196, s_, vD FP.dconst0, s_, u_, u_, u_, u_, u_, u_] [(.int (0 : Int32)), (.long (0 : Int64)), (.double c228_rv)])) _
            refine Jvm.OwnK.i2l X35.here hx rfl (hb hby at_236) rfl (v := (0 : Int64)) (by decide) ?_
            show Steps p.tables e below (T35.setTop (mkF m 237 #[vI p0, vI p1, vI p2, vI p3, vI (1 : Int32), vI z14, vI z25, vI (0 : Int32), vI (0 : Int32), vI (0 : Int32), vI (0 : Int32), vR b3, vR b5, vJ z158, s_, vD c174_z104, s_, vJ z189, s_, vJ z196, s_, vD FP.dconst0, s_, u_, u_, u_, u_, u_, u_] [(.long (0 : Int64)), (.long (0 : Int64)), (.double c228_rv)])) _
            refine XS.lload X35.here hx rfl (hb hby at_237) rfl ?_
            show Steps p.tables e below (T35.setTop (mkF m 239 #[vI p0, vI p1, vI p2, vI p3, vI (1 : Int32), vI z14, vI z25, vI (0 : Int32), vI (0 : Int32), vI (0 : Int32), vI (0 : Int32), vR b3, vR b5, vJ z158, s_, vD c174_z104, s_, vJ z189, s_, vJ z196, s_, vD FP.dconst0, s_, u_, u_, u_, u_, u_, u_] [(.long z158), (.long (0 : Int64)), (.long (0 : Int64)), (.double c228_rv)])) _
            refine XS.lload X35.here hx rfl (hb hby at_239) rfl ?_
            show Steps p.tables e below (T35.setTop (mkF m 241 #[vI p0, vI p1, vI p2, vI p3, vI (1 : Int32), vI z14, vI z25, vI (0 : Int32), vI (0 : Int32), vI (0 : Int32), vI (0 : Int32), vR b3, vR b5, vJ z158, s_, vD c174_z104, s_, vJ z189, s_, vJ z196, s_, vD FP.dconst0, s_, u_, u_, u_, u_, u_, u_] [(.long z189), (.long z158), (.long (0 : Int64)), (.long (0 : Int64)), (.double c228_rv)])) _
            refine XS.lload X35.here hx rfl (hb hby at_241) rfl ?_
            show Steps p.tables e below (T35.setTop (mkF m 243 #[vI p0, vI p1, vI p2, vI p3, vI (1 : Int32), vI z14, vI z25, vI (0 : Int32), vI (0 : Int32), vI (0 : Int32), vI (0 : Int32), vR b3, vR b5, vJ z158, s_, vD c174_z104, s_, vJ z189, s_, vJ z196, s_, vD FP.dconst0, s_, u_, u_, u_, u_, u_, u_] [(.long z196), (.long z189), (.long z158), (.long (0 : Int64)), (.long (0 : Int64)), (.double c228_rv)])) _
            refine st36 _ ?_
            show Steps p.tables e below (T36.setTop (mkF m 246 #[vI p0, vI p1, vI p2, vI p3, vI (1 : Int32), vI z14, vI z25, vI (0 : Int32), vI (0 : Int32), vI (0 : Int32), vI (0 : Int32), vR b3, vR b5, vJ z158, s_, vD c174_z104, s_, vJ z189, s_, vJ z196, s_, vD FP.dconst0, s_, u_, u_, u_, u_, u_, u_] [(.double c243_rv), (.double c228_rv)])) _
            refine Jvm.OwnK.dadd X36.here hx rfl (hb hby at_246) rfl hz246 nn246 ?_
            show Steps p.tables e below (T36.setTop (mkF m 247 #[vI p0, vI p1, vI p2, vI p3, vI (1 : Int32), vI z14, vI z25, vI (0 : Int32), vI (0 : Int32), vI (0 : Int32), vI (0 : Int32), vR b3, vR b5, vJ z158, s_, vD c174_z104, s_, vJ z189, s_, vJ z196, s_, vD FP.dconst0, s_, u_, u_, u_, u_, u_, u_] [(.double z246)])) _
            refine XS.iload X36.here hx rfl (hb hby at_247) rfl ?_
            show Steps p.tables e below (T36.setTop (mkF m 249 #[vI p0, vI p1, vI p2, vI p3, vI (1 : Int32), vI z14, vI z25, vI (0 : Int32), vI (0 : Int32), vI (0 : Int32), vI (0 : Int32), vR b3, vR b5, vJ z158, s_, vD c174_z104, s_, vJ z189, s_, vJ z196, s_, vD FP.dconst0, s_, u_, u_, u_, u_, u_, u_] [(.int (0 : Int32)), (.double z246)])) _
            refine Jvm.OwnK.i2l X36.here hx rfl (hb hby at_249) rfl (v := (0 : Int64)) (by decide) ?_
            show Steps p.tables e below (T36.setTop (mkF m 250 #[vI p0, vI p1, vI p2, vI p3, vI (1 : Int32), vI z14, vI z25, vI (0 : Int32), vI (0 : Int32), vI (0 : Int32), vI (0 : Int32), vR b3, vR b5, vJ z158, s_, vD c174_z104, s_, vJ z189, s_, vJ z196, s_, vD FP.dconst0, s_, u_, u_, u_, u_, u_, u_] [(.long (0 : Int64)), (.double z246)])) _
            refine XS.iload X36.here hx rfl (hb hby at_250) rfl ?_
            show Steps p.tables e below (T36.setTop (mkF m 252 #[vI p0, vI p1, vI p2, vI p3, vI (1 : Int32), vI z14, vI z25, vI (0 : Int32), vI (0 : Int32), vI (0 : Int32), vI (0 : Int32), vR b3, vR b5, vJ z158, s_, vD c174_z104, s_, vJ z189, s_, vJ z196, s_, vD FP.dconst0, s_, u_, u_, u_, u_, u_, u_] [(.int (0 : Int32)), (.long (0 : Int64)), (.double z246)])) _
            refine Jvm.OwnK.i2l X36.here hx rfl (hb hby at_252) rfl (v := (0 : Int64)) (by decide) ?_
            show Steps p.tables e below (T36.setTop (mkF m 253 #[vI p0, vI p1, vI p2, vI p3, vI (1 : Int32), vI z14, vI z25, vI (0 : Int32), vI (0 : Int32), vI (0 : Int32), vI (0 : Int32), vR b3, vR b5, vJ z158, s_, vD c174_z104, s_, vJ z189, s_, vJ z196, s_, vD FP.dconst0, s_, u_, u_, u_, u_, u_, u_] [(.long (0 : Int64)), (.long (0 : Int64)), (.double z246)])) _
            refine XS.lload X36.here hx rfl (hb hby at_253) rfl ?_
            show Steps p.tables e below (T36.setTop (mkF m 255 #[vI p0, vI p1, vI p2, vI p3, vI (1 : Int32), vI z14, vI z25, vI (0 : Int32), vI (0 : Int32), vI (0 : Int32), vI (0 : Int32), vR b3, vR b5, vJ z158, s_, vD c174_z104, s_, vJ z189, s_, vJ z196, s_, vD FP.dconst0, s_, u_, u_, u_, u_, u_, u_] [(.long z158), (.long (0 : Int64)), (.long (0 : Int64)), (.double z246)])) _
            refine XS.lload X36.here hx rfl (hb hby at_255) rfl ?_
            show Steps p.tables e below (T36.setTop (mkF m 257 #[vI p0, vI p1, vI p2, vI p3, vI (1 : Int32), vI z14, vI z25, vI (0 : Int32), vI (0 : Int32), vI (0 : Int32), vI (0 : Int32), vR b3, vR b5, vJ z158, s_, vD c174_z104, s_, vJ z189, s_, vJ z196, s_, vD FP.dconst0, s_, u_, u_, u_, u_, u_, u_] [(.long z189), (.long z158), (.long (0 : Int64)), (.long (0 : Int64)), (.double z246)])) _
            refine XS.lload X36.here hx rfl (hb hby at_257) rfl ?_
            show Steps p.tables e below (T36.setTop (mkF m 259 #[vI p0, vI p1, vI p2, vI p3, vI (1 : Int32), vI z14, vI z25, vI (0 : Int32), vI (0 : Int32), vI (0 : Int32), vI (0 : Int32), vR b3, vR b5, vJ z158, s_, vD c174_z104, s_, vJ z189, s_, vJ z196, s_, vD FP.dconst0, s_, u_, u_, u_, u_, u_, u_] [(.long z196), (.long z189), (.long z158), (.long (0 : Int64)), (.long (0 : Int64)), (.double z246)])) _
            refine st37 _ ?_
            show Steps p.tables e below (T37.setTop (mkF m 262 #[vI p0, vI p1, vI p2, vI p3, vI (1 : Int32), vI z14, vI z25, vI (0 : Int32), vI (0 : Int32), vI (0 : Int32), vI (0 : Int32), vR b3, vR b5, vJ z158, s_, vD c174_z104, s_, vJ z189, s_, vJ z196, s_, vD FP.dconst0, s_, u_, u_, u_, u_, u_, u_] [(.double c259_rv), (.double z246)])) _
            refine Jvm.OwnK.dadd X37.here hx rfl (hb hby at_262) rfl hz262 nn262 ?_
            show Steps p.tables e below (T37.setTop (mkF m 263 #[vI p0, vI p1, vI p2, vI p3, vI (1 : Int32), vI z14, vI z25, vI (0 : Int32), vI (0 : Int32), vI (0 : Int32), vI (0 : Int32), vR b3, vR b5, vJ z158, s_, vD c174_z104, s_, vJ z189, s_, vJ z196, s_, vD FP.dconst0, s_, u_, u_, u_, u_, u_, u_] [(.double z262)])) _
            refine XS.dstore X37.here hx rfl (hb hby at_263) rfl (l' := #[vI p0, vI p1, vI p2, vI p3, vI (1 : Int32), vI z14, vI z25, vI (0 : Int32), vI (0 : Int32), vI (0 : Int32), vI (0 : Int32), vR b3, vR b5, vJ z158, s_, vD c174_z104, s_, vJ z189, s_, vJ z196, s_, vD z262, s_, u_, u_, u_, u_, u_, u_]) rfl ?_
            show Steps p.tables e below (T37.setTop (mkF m 265 #[vI p0, vI p1, vI p2, vI p3, vI (1 : Int32), vI z14, vI z25, vI (0 : Int32), vI (0 : Int32), vI (0 : Int32), vI (0 : Int32), vR b3, vR b5, vJ z158, s_, vD c174_z104, s_, vJ z189, s_, vJ z196, s_, vD z262, s_, u_, u_, u_, u_, u_, u_] [])) _
            refine XS.dload X37.here hx rfl (hb hby at_265) rfl ?_
            show Steps p.tables e below (T37.setTop (mkF m 267 #[vI p0, vI p1, vI p2, vI p3, vI (1 : Int32), vI z14, vI z25, vI (0 : Int32), vI (0 : Int32), vI (0 : Int32), vI (0 : Int32), vR b3, vR b5, vJ z158, s_, vD c174_z104, s_, vJ z189, s_, vJ z196, s_, vD z262, s_, u_, u_, u_, u_, u_, u_] [(.double z262)])) _
            refine X37.ldc2DoubleC hx hown (mvT hZ (hw _ (List.mem_of_getElem? (i := 9) rfl))) (g := (mkF m 267 #[vI p0, vI p1, vI p2, vI p3, vI (1 : Int32), vI z14, vI z25, vI (0 : Int32), vI (0 : Int32), vI (0 : Int32), vI (0 : Int32), vR b3, vR b5, vJ z158, s_, vD c174_z104, s_, vJ z189, s_, vJ z196, s_, vD z262, s_, u_, u_, u_, u_, u_, u_] [(.double z262)])) rfl (hb hby at_267) _ ?_
            show Steps p.tables e below (T37.setTop (mkF m 270 #[vI p0, vI p1, vI p2, vI p3, vI (1 : Int32), vI z14, vI z25, vI (0 : Int32), vI (0 : Int32), vI (0 : Int32), vI (0 : Int32), vR b3, vR b5, vJ z158, s_, vD c174_z104, s_, vJ z189, s_, vJ z196, s_, vD z262, s_, u_, u_, u_, u_, u_, u_] [(.double (4517329193108106637 : UInt64)), (.double z262)])) _
            refine Jvm.OwnK.dmul X37.here hx rfl (hb hby at_270) rfl hz270 nn270 ?_
            show Steps p.tables e below (T37.setTop (mkF m 271 #[vI p0, vI p1, vI p2, vI p3, vI (1 : Int32), vI z14, vI z25, vI (0 : Int32), vI (0 : Int32), vI (0 : Int32), vI (0 : Int32), vR b3, vR b5, vJ z158, s_, vD c174_z104, s_, vJ z189, s_, vJ z196, s_, vD z262, s_, u_, u_, u_, u_, u_, u_] [(.double z270)])) _
            refine XS.dstore X37.here hx rfl (hb hby at_271) rfl (l' := #[vI p0, vI p1, vI p2, vI p3, vI (1 : Int32), vI z14, vI z25, vI (0 : Int32), vI (0 : Int32), vI (0 : Int32), vI (0 : Int32), vR b3, vR b5, vJ z158, s_, vD c174_z104, s_, vJ z189, s_, vJ z196, s_, vD z262, s_, vD z270, s_, u_, u_, u_, u_]) rfl ?_
            show Steps p.tables e below (T37.setTop (mkF m 273 #[vI p0, vI p1, vI p2, vI p3, vI (1 : Int32), vI z14, vI z25, vI (0 : Int32), vI (0 : Int32), vI (0 : Int32), vI (0 : Int32), vR b3, vR b5, vJ z158, s_, vD c174_z104, s_, vJ z189, s_, vJ z196, s_, vD z262, s_, vD z270, s_, u_, u_, u_, u_] [])) _
            refine XS.dload X37.here hx rfl (hb hby at_273) rfl ?_
            show Steps p.tables e below (T37.setTop (mkF m 275 #[vI p0, vI p1, vI p2, vI p3, vI (1 : Int32), vI z14, vI z25, vI (0 : Int32), vI (0 : Int32), vI (0 : Int32), vI (0 : Int32), vR b3, vR b5, vJ z158, s_, vD c174_z104, s_, vJ z189, s_, vJ z196, s_, vD z262, s_, vD z270, s_, u_, u_, u_, u_] [(.double z262)])) _
            refine XS.dload X37.here hx rfl (hb hby at_275) rfl ?_
            show Steps p.tables e below (T37.setTop (mkF m 277 #[vI p0, vI p1, vI p2, vI p3, vI (1 : Int32), vI z14, vI z25, vI (0 : Int32), vI (0 : Int32), vI (0 : Int32), vI (0 : Int32), vR b3, vR b5, vJ z158, s_, vD c174_z104, s_, vJ z189, s_, vJ z196, s_, vD z262, s_, vD z270, s_, u_, u_, u_, u_] [(.double z270), (.double z262)])) _
            refine Jvm.OwnK.dadd X37.here hx rfl (hb hby at_277) rfl hz277 nn277 ?_
            show Steps p.tables e below (T37.setTop (mkF m 278 #[vI p0, vI p1, vI p2, vI p3, vI (1 : Int32), vI z14, vI z25, vI (0 : Int32), vI (0 : Int32), vI (0 : Int32), vI (0 : Int32), vR b3, vR b5, vJ z158, s_, vD c174_z104, s_, vJ z189, s_, vJ z196, s_, vD z262, s_, vD z270, s_, u_, u_, u_, u_] [(.double z277)])) _
            refine XS.dstore X37.here hx rfl (hb hby at_278) rfl (l' := #[vI p0, vI p1, vI p2, vI p3, vI (1 : Int32), vI z14, vI z25, vI (0 : Int32), vI (0 : Int32), vI (0 : Int32), vI (0 : Int32), vR b3, vR b5, vJ z158, s_, vD c174_z104, s_, vJ z189, s_, vJ z196, s_, vD z262, s_, vD z270, s_, vD z277, s_, u_, u_]) rfl ?_
            show Steps p.tables e below (T37.setTop (mkF m 280 #[vI p0, vI p1, vI p2, vI p3, vI (1 : Int32), vI z14, vI z25, vI (0 : Int32), vI (0 : Int32), vI (0 : Int32), vI (0 : Int32), vR b3, vR b5, vJ z158, s_, vD c174_z104, s_, vJ z189, s_, vJ z196, s_, vD z262, s_, vD z270, s_, vD z277, s_, u_, u_] [])) _
            refine XS.dload X37.here hx rfl (hb hby at_280) rfl ?_
            show Steps p.tables e below (T37.setTop (mkF m 282 #[vI p0, vI p1, vI p2, vI p3, vI (1 : Int32), vI z14, vI z25, vI (0 : Int32), vI (0 : Int32), vI (0 : Int32), vI (0 : Int32), vR b3, vR b5, vJ z158, s_, vD c174_z104, s_, vJ z189, s_, vJ z196, s_, vD z262, s_, vD z270, s_, vD z277, s_, u_, u_] [(.double z262)])) _
            refine XS.dload X37.here hx rfl (hb hby at_282) rfl ?_
            show Steps p.tables e below (T37.setTop (mkF m 284 #[vI p0, vI p1, vI p2, vI p3, vI (1 : Int32), vI z14, vI z25, vI (0 : Int32), vI (0 : Int32), vI (0 : Int32), vI (0 : Int32), vR b3, vR b5, vJ z158, s_, vD c174_z104, s_, vJ z189, s_, vJ z196, s_, vD z262, s_, vD z270, s_, vD z277, s_, u_, u_] [(.double z270), (.double z262)])) _
            refine Jvm.OwnK.dsub X37.here hx rfl (hb hby at_284) rfl hz284 nn284 ?_
            show Steps p.tables e below (T37.setTop (mkF m 285 #[vI p0, vI p1, vI p2, vI p3, vI (1 : Int32), vI z14, vI z25, vI (0 : Int32), vI (0 : Int32), vI (0 : Int32), vI (0 : Int32), vR b3, vR b5, vJ z158, s_, vD c174_z104, s_, vJ z189, s_, vJ z196, s_, vD z262, s_, vD z270, s_, vD z277, s_, u_, u_] [(.double z284)])) _
            refine XS.dstore X37.here hx rfl (hb hby at_285) rfl (l' := #[vI p0, vI p1, vI p2, vI p3, vI (1 : Int32), vI z14, vI z25, vI (0 : Int32), vI (0 : Int32), vI (0 : Int32), vI (0 : Int32), vR b3, vR b5, vJ z158, s_, vD c174_z104, s_, vJ z189, s_, vJ z196, s_, vD z262, s_, vD z270, s_, vD z277, s_, vD z284, s_]) rfl ?_
            show Steps p.tables e below (T37.setTop (mkF m 287 #[vI p0, vI p1, vI p2, vI p3, vI (1 : Int32), vI z14, vI z25, vI (0 : Int32), vI (0 : Int32), vI (0 : Int32), vI (0 : Int32), vR b3, vR b5, vJ z158, s_, vD c174_z104, s_, vJ z189, s_, vJ z196, s_, vD z262, s_, vD z270, s_, vD z277, s_, vD z284, s_] [])) _
            refine XS.dload X37.here hx rfl (hb hby at_287) rfl ?_
            show Steps p.tables e below (T37.setTop (mkF m 289 #[vI p0, vI p1, vI p2, vI p3, vI (1 : Int32), vI z14, vI z25, vI (0 : Int32), vI (0 : Int32), vI (0 : Int32), vI (0 : Int32), vR b3, vR b5, vJ z158, s_, vD c174_z104, s_, vJ z189, s_, vJ z196, s_, vD z262, s_, vD z270, s_, vD z277, s_, vD z284, s_] [(.double z284)])) _
            refine XS.dload X37.here hx rfl (hb hby at_289) rfl ?_
            show Steps p.tables e below (T37.setTop (mkF m 291 #[vI p0, vI p1, vI p2, vI p3, vI (1 : Int32), vI z14, vI z25, vI (0 : Int32), vI (0 : Int32), vI (0 : Int32), vI (0 : Int32), vR b3, vR b5, vJ z158, s_, vD c174_z104, s_, vJ z189, s_, vJ z196, s_, vD z262, s_, vD z270, s_, vD z277, s_, vD z284, s_] [(.double c174_z104), (.double z284)])) _
            refine XS.dcmpS X37.here hx rfl (hb hby at_291) rfl hz291 ?_
            exact k
          by_cases hb292 : z291 < (0 : Int32)
          · skip
            obtain ⟨z307, hz307⟩ : ∃ z : Int32, cmpValue (FP.dcmp c174_z104 z277) .g = z := ⟨_, rfl⟩
            have c39 : ∀ t, Steps p.tables e below (T37.setTop (mkF m 308 #[vI p0, vI p1, vI p2, vI p3, vI (1 : Int32), vI z14, vI z25, vI (0 : Int32), vI (0 : Int32), vI (0 : Int32), vI (0 : Int32), vR b3, vR b5, vJ z158, s_, vD c174_z104, s_, vJ z189, s_, vJ z196, s_, vD z262, s_, vD z270, s_, vD z277, s_, vD z284, s_] [(.int z307)])) t → Steps p.tables e below (s₁.setTop (entryFrame m #[(.int p0), (.int p1), (.int p2), (.int p3)] maxLocals)) t := by
              intro t k
              refine c38 t ?_
              show Steps p.tables e below (T37.setTop (mkF m 292 #[vI p0, vI p1, vI p2, vI p3, vI (1 : Int32), vI z14, vI z25, vI (0 : Int32), vI (0 : Int32), vI (0 : Int32), vI (0 : Int32), vR b3, vR b5, vJ z158, s_, vD c174_z104, s_, vJ z189, s_, vJ z196, s_, vD z262, s_, vD z270, s_, vD z277, s_, vD z284, s_] [(.int z291)])) _
              refine XS.ifYes X37.here hx rfl (pc0 := 292) (pc' := 303) rfl (hb hby at_292) rfl (Jvm.Free.XT.i0_lt_t hb292) (by decide) (by decide) ?_
              show Steps p.tables e below (T37.setTop (mkF m 303 #[vI p0, vI p1, vI p2, vI p3, vI (1 : Int32), vI z14, vI z25, vI (0 : Int32), vI (0 : Int32), vI (0 : Int32), vI (0 : Int32), vR b3, vR b5, vJ z158, s_, vD c174_z104, s_, vJ z189, s_, vJ z196, s_, vD z262, s_, vD z270, s_, vD z277, s_, vD z284, s_] [])) _
              refine XS.dload X37.here hx rfl (hb hby at_303) rfl ?_
              show Steps p.tables e below (T37.setTop (mkF m 305 #[vI p0, vI p1, vI p2, vI p3, vI (1 : Int32), vI z14, vI z25, vI (0 : Int32), vI (0 : Int32), vI (0 : Int32), vI (0 : Int32), vR b3, vR b5, vJ z158, s_, vD c174_z104, s_, vJ z189, s_, vJ z196, s_, vD z262, s_, vD z270, s_, vD z277, s_, vD z284, s_] [(.double c174_z104)])) _
              refine XS.dload X37.here hx rfl (hb hby at_305) rfl ?_
              show Steps p.tables e below (T37.setTop (mkF m 307 #[vI p0, vI p1, vI p2, vI p3, vI (1 : Int32), vI z14, vI z25, vI (0 : Int32), vI (0 : Int32), vI (0 : Int32), vI (0 : Int32), vR b3, vR b5, vJ z158, s_, vD c174_z104, s_, vJ z189, s_, vJ z196, s_, vD z262, s_, vD z270, s_, vD z277, s_, vD z284, s_] [(.double z277), (.double c174_z104)])) _
              refine XS.dcmpS X37.here hx rfl (hb hby at_307) rfl hz307 ?_
              exact k
            by_cases hb308 : z307 < (0 : Int32)
            · skip
              have c40 : ∀ t, Steps p.tables e below (T37.setTop (mkF m 324 #[vI p0, vI p1, vI p2, vI p3, vI (1 : Int32), vI z14, vI z25, vI (0 : Int32), vI (0 : Int32), vI (0 : Int32), vI (0 : Int32), vR b3, vR b5, vJ z158, s_, vD c174_z104, s_, vJ z189, s_, vJ z196, s_, vD z262, s_, vD z270, s_, vD z277, s_, vD z284, s_] [(.int (1 : Int32))])) t → Steps p.tables e below (s₁.setTop (entryFrame m #[(.int p0), (.int p1), (.int p2), (.int p3)] maxLocals)) t := by
                intro t k
                refine c39 t ?_
                show Steps p.tables e below (T37.setTop (mkF m 308 #[vI p0, vI p1, vI p2, vI p3, vI (1 : Int32), vI z14, vI z25, vI (0 : Int32), vI (0 : Int32), vI (0 : Int32), vI (0 : Int32), vR b3, vR b5, vJ z158, s_, vD c174_z104, s_, vJ z189, s_, vJ z196, s_, vD z262, s_, vD z270, s_, vD z277, s_, vD z284, s_] [(.int z307)])) _
                refine XS.ifYes X37.here hx rfl (pc0 := 308) (pc' := 319) rfl (hb hby at_308) rfl (Jvm.Free.XT.i0_lt_t hb308) (by decide) (by decide) ?_
                show Steps p.tables e below (T37.setTop (mkF m 319 #[vI p0, vI p1, vI p2, vI p3, vI (1 : Int32), vI z14, vI z25, vI (0 : Int32), vI (0 : Int32), vI (0 : Int32), vI (0 : Int32), vR b3, vR b5, vJ z158, s_, vD c174_z104, s_, vJ z189, s_, vJ z196, s_, vD z262, s_, vD z270, s_, vD z277, s_, vD z284, s_] [])) _
                refine XS.iconst X37.here hx rfl (hb hby at_319) ?_
                show Steps p.tables e below (T37.setTop (mkF m 320 #[vI p0, vI p1, vI p2, vI p3, vI (1 : Int32), vI z14, vI z25, vI (0 : Int32), vI (0 : Int32), vI (0 : Int32), vI (0 : Int32), vR b3, vR b5, vJ z158, s_, vD c174_z104, s_, vJ z189, s_, vJ z196, s_, vD z262, s_, vD z270, s_, vD z277, s_, vD z284, s_] [(.int (1 : Int32))])) _
                refine XS.goto X37.here hx rfl (pc0 := 320) (pc' := 324) rfl (hb hby at_320) (by decide) (by decide) ?_
                exact k
              obtain ⟨fs, hr, hrun, hended, hW, hsame⟩ := X37.leave (v := some (.int (1 : Int32))) (fun h => by rw [Bd.returns] at h; cases h)
              refine ⟨_, _, c40 _ ?_, hrun, hended, _, _, rfl, ?_, ⟨_, rfl⟩, hW, hsame.mono (by decide) (by decide)⟩
              · show Steps p.tables e below (T37.setTop (mkF m 324 #[vI p0, vI p1, vI p2, vI p3, vI (1 : Int32), vI z14, vI z25, vI (0 : Int32), vI (0 : Int32), vI (0 : Int32), vI (0 : Int32), vR b3, vR b5, vJ z158, s_, vD c174_z104, s_, vJ z189, s_, vJ z196, s_, vD z262, s_, vD z270, s_, vD z277, s_, vD z284, s_] [(.int (1 : Int32))])) _
                exact retOut X37 hx Bd.returns rfl (Or.inl ⟨rfl, by simp, _, rfl⟩) (hb hby at_324) hr
              · show Q0 n0 _ T37.heap _
                rw [e37]
                exact ⟨rfl, by first | assumption | exact N0⟩
            · skip
              obtain ⟨z315, hz315⟩ : ∃ z : Int32, cmpValue (FP.dcmp c174_z104 z277) .l = z := ⟨_, rfl⟩
              have br316 := cmpF fs fh hi1 hz307 hz315 hb308
              have c41 : ∀ t, Steps p.tables e below (T37.setTop (mkF m 324 #[vI p0, vI p1, vI p2, vI p3, vI (1 : Int32), vI z14, vI z25, vI (0 : Int32), vI (0 : Int32), vI (0 : Int32), vI (0 : Int32), vR b3, vR b5, vJ z158, s_, vD c174_z104, s_, vJ z189, s_, vJ z196, s_, vD z262, s_, vD z270, s_, vD z277, s_, vD z284, s_] [(.int (1 : Int32))])) t → Steps p.tables e below (s₁.setTop (entryFrame m #[(.int p0), (.int p1), (.int p2), (.int p3)] maxLocals)) t := by
                intro t k
                refine c39 t ?_
                show Steps p.tables e below (T37.setTop (mkF m 308 #[vI p0, vI p1, vI p2, vI p3, vI (1 : Int32), vI z14, vI z25, vI (0 : Int32), vI (0 : Int32), vI (0 : Int32), vI (0 : Int32), vR b3, vR b5, vJ z158, s_, vD c174_z104, s_, vJ z189, s_, vJ z196, s_, vD z262, s_, vD z270, s_, vD z277, s_, vD z284, s_] [(.int z307)])) _
                refine XS.ifNo X37.here hx rfl (hb hby at_308) rfl (Jvm.Free.XT.i0_lt_f hb308) ?_
                show Steps p.tables e below (T37.setTop (mkF m 311 #[vI p0, vI p1, vI p2, vI p3, vI (1 : Int32), vI z14, vI z25, vI (0 : Int32), vI (0 : Int32), vI (0 : Int32), vI (0 : Int32), vR b3, vR b5, vJ z158, s_, vD c174_z104, s_, vJ z189, s_, vJ z196, s_, vD z262, s_, vD z270, s_, vD z277, s_, vD z284, s_] [])) _
                refine XS.dload X37.here hx rfl (hb hby at_311) rfl ?_
                show Steps p.tables e below (T37.setTop (mkF m 313 #[vI p0, vI p1, vI p2, vI p3, vI (1 : Int32), vI z14, vI z25, vI (0 : Int32), vI (0 : Int32), vI (0 : Int32), vI (0 : Int32), vR b3, vR b5, vJ z158, s_, vD c174_z104, s_, vJ z189, s_, vJ z196, s_, vD z262, s_, vD z270, s_, vD z277, s_, vD z284, s_] [(.double c174_z104)])) _
                refine XS.dload X37.here hx rfl (hb hby at_313) rfl ?_
                show Steps p.tables e below (T37.setTop (mkF m 315 #[vI p0, vI p1, vI p2, vI p3, vI (1 : Int32), vI z14, vI z25, vI (0 : Int32), vI (0 : Int32), vI (0 : Int32), vI (0 : Int32), vR b3, vR b5, vJ z158, s_, vD c174_z104, s_, vJ z189, s_, vJ z196, s_, vD z262, s_, vD z270, s_, vD z277, s_, vD z284, s_] [(.double z277), (.double c174_z104)])) _
                refine XS.dcmpS X37.here hx rfl (hb hby at_315) rfl hz315 ?_
                show Steps p.tables e below (T37.setTop (mkF m 316 #[vI p0, vI p1, vI p2, vI p3, vI (1 : Int32), vI z14, vI z25, vI (0 : Int32), vI (0 : Int32), vI (0 : Int32), vI (0 : Int32), vR b3, vR b5, vJ z158, s_, vD c174_z104, s_, vJ z189, s_, vJ z196, s_, vD z262, s_, vD z270, s_, vD z277, s_, vD z284, s_] [(.int z315)])) _
                refine XS.ifNo X37.here hx rfl (hb hby at_316) rfl (Jvm.Free.XT.i0_ne_f br316) ?_
                show Steps p.tables e below (T37.setTop (mkF m 319 #[vI p0, vI p1, vI p2, vI p3, vI (1 : Int32), vI z14, vI z25, vI (0 : Int32), vI (0 : Int32), vI (0 : Int32), vI (0 : Int32), vR b3, vR b5, vJ z158, s_, vD c174_z104, s_, vJ z189, s_, vJ z196, s_, vD z262, s_, vD z270, s_, vD z277, s_, vD z284, s_] [])) _
                refine XS.iconst X37.here hx rfl (hb hby at_319) ?_
                show Steps p.tables e below (T37.setTop (mkF m 320 #[vI p0, vI p1, vI p2, vI p3, vI (1 : Int32), vI z14, vI z25, vI (0 : Int32), vI (0 : Int32), vI (0 : Int32), vI (0 : Int32), vR b3, vR b5, vJ z158, s_, vD c174_z104, s_, vJ z189, s_, vJ z196, s_, vD z262, s_, vD z270, s_, vD z277, s_, vD z284, s_] [(.int (1 : Int32))])) _
                refine XS.goto X37.here hx rfl (pc0 := 320) (pc' := 324) rfl (hb hby at_320) (by decide) (by decide) ?_
                exact k
              obtain ⟨fs, hr, hrun, hended, hW, hsame⟩ := X37.leave (v := some (.int (1 : Int32))) (fun h => by rw [Bd.returns] at h; cases h)
              refine ⟨_, _, c41 _ ?_, hrun, hended, _, _, rfl, ?_, ⟨_, rfl⟩, hW, hsame.mono (by decide) (by decide)⟩
              · show Steps p.tables e below (T37.setTop (mkF m 324 #[vI p0, vI p1, vI p2, vI p3, vI (1 : Int32), vI z14, vI z25, vI (0 : Int32), vI (0 : Int32), vI (0 : Int32), vI (0 : Int32), vR b3, vR b5, vJ z158, s_, vD c174_z104, s_, vJ z189, s_, vJ z196, s_, vD z262, s_, vD z270, s_, vD z277, s_, vD z284, s_] [(.int (1 : Int32))])) _
                exact retOut X37 hx Bd.returns rfl (Or.inl ⟨rfl, by simp, _, rfl⟩) (hb hby at_324) hr
              · show Q0 n0 _ T37.heap _
                rw [e37]
                exact ⟨rfl, by first | assumption | exact N0⟩
          · skip
            obtain ⟨z299, hz299⟩ : ∃ z : Int32, cmpValue (FP.dcmp z284 c174_z104) .l = z := ⟨_, rfl⟩
            obtain ⟨z307, hz307⟩ : ∃ z : Int32, cmpValue (FP.dcmp c174_z104 z277) .g = z := ⟨_, rfl⟩
            have br300 := cmpF fl fs lo1 hz291 hz299 hb292
            have c42 : ∀ t, Steps p.tables e below (T37.setTop (mkF m 308 #[vI p0, vI p1, vI p2, vI p3, vI (1 : Int32), vI z14, vI z25, vI (0 : Int32), vI (0 : Int32), vI (0 : Int32), vI (0 : Int32), vR b3, vR b5, vJ z158, s_, vD c174_z104, s_, vJ z189, s_, vJ z196, s_, vD z262, s_, vD z270, s_, vD z277, s_, vD z284, s_] [(.int z307)])) t → Steps p.tables e below (s₁.setTop (entryFrame m #[(.int p0), (.int p1), (.int p2), (.int p3)] maxLocals)) t := by
              intro t k
              refine c38 t ?_
              show Steps p.tables e below (T37.setTop (mkF m 292 #[vI p0, vI p1, vI p2, vI p3, vI (1 : Int32), vI z14, vI z25, vI (0 : Int32), vI (0 : Int32), vI (0 : Int32), vI (0 : Int32), vR b3, vR b5, vJ z158, s_, vD c174_z104, s_, vJ z189, s_, vJ z196, s_, vD z262, s_, vD z270, s_, vD z277, s_, vD z284, s_] [(.int z291)])) _
              refine XS.ifNo X37.here hx rfl (hb hby at_292) rfl (Jvm.Free.XT.i0_lt_f hb292) ?_
              show Steps p.tables e below (T37.setTop (mkF m 295 #[vI p0, vI p1, vI p2, vI p3, vI (1 : Int32), vI z14, vI z25, vI (0 : Int32), vI (0 : Int32), vI (0 : Int32), vI (0 : Int32), vR b3, vR b5, vJ z158, s_, vD c174_z104, s_, vJ z189, s_, vJ z196, s_, vD z262, s_, vD z270, s_, vD z277, s_, vD z284, s_] [])) _
              refine XS.dload X37.here hx rfl (hb hby at_295) rfl ?_
              show Steps p.tables e below (T37.setTop (mkF m 297 #[vI p0, vI p1, vI p2, vI p3, vI (1 : Int32), vI z14, vI z25, vI (0 : Int32), vI (0 : Int32), vI (0 : Int32), vI (0 : Int32), vR b3, vR b5, vJ z158, s_, vD c174_z104, s_, vJ z189, s_, vJ z196, s_, vD z262, s_, vD z270, s_, vD z277, s_, vD z284, s_] [(.double z284)])) _
              refine XS.dload X37.here hx rfl (hb hby at_297) rfl ?_
              show Steps p.tables e below (T37.setTop (mkF m 299 #[vI p0, vI p1, vI p2, vI p3, vI (1 : Int32), vI z14, vI z25, vI (0 : Int32), vI (0 : Int32), vI (0 : Int32), vI (0 : Int32), vR b3, vR b5, vJ z158, s_, vD c174_z104, s_, vJ z189, s_, vJ z196, s_, vD z262, s_, vD z270, s_, vD z277, s_, vD z284, s_] [(.double c174_z104), (.double z284)])) _
              refine XS.dcmpS X37.here hx rfl (hb hby at_299) rfl hz299 ?_
              show Steps p.tables e below (T37.setTop (mkF m 300 #[vI p0, vI p1, vI p2, vI p3, vI (1 : Int32), vI z14, vI z25, vI (0 : Int32), vI (0 : Int32), vI (0 : Int32), vI (0 : Int32), vR b3, vR b5, vJ z158, s_, vD c174_z104, s_, vJ z189, s_, vJ z196, s_, vD z262, s_, vD z270, s_, vD z277, s_, vD z284, s_] [(.int z299)])) _
              refine XS.ifNo X37.here hx rfl (hb hby at_300) rfl (Jvm.Free.XT.i0_ne_f br300) ?_
              show Steps p.tables e below (T37.setTop (mkF m 303 #[vI p0, vI p1, vI p2, vI p3, vI (1 : Int32), vI z14, vI z25, vI (0 : Int32), vI (0 : Int32), vI (0 : Int32), vI (0 : Int32), vR b3, vR b5, vJ z158, s_, vD c174_z104, s_, vJ z189, s_, vJ z196, s_, vD z262, s_, vD z270, s_, vD z277, s_, vD z284, s_] [])) _
              refine XS.dload X37.here hx rfl (hb hby at_303) rfl ?_
              show Steps p.tables e below (T37.setTop (mkF m 305 #[vI p0, vI p1, vI p2, vI p3, vI (1 : Int32), vI z14, vI z25, vI (0 : Int32), vI (0 : Int32), vI (0 : Int32), vI (0 : Int32), vR b3, vR b5, vJ z158, s_, vD c174_z104, s_, vJ z189, s_, vJ z196, s_, vD z262, s_, vD z270, s_, vD z277, s_, vD z284, s_] [(.double c174_z104)])) _
              refine XS.dload X37.here hx rfl (hb hby at_305) rfl ?_
              show Steps p.tables e below (T37.setTop (mkF m 307 #[vI p0, vI p1, vI p2, vI p3, vI (1 : Int32), vI z14, vI z25, vI (0 : Int32), vI (0 : Int32), vI (0 : Int32), vI (0 : Int32), vR b3, vR b5, vJ z158, s_, vD c174_z104, s_, vJ z189, s_, vJ z196, s_, vD z262, s_, vD z270, s_, vD z277, s_, vD z284, s_] [(.double z277), (.double c174_z104)])) _
              refine XS.dcmpS X37.here hx rfl (hb hby at_307) rfl hz307 ?_
              exact k
            by_cases hb308 : z307 < (0 : Int32)
            · skip
              have c43 : ∀ t, Steps p.tables e below (T37.setTop (mkF m 324 #[vI p0, vI p1, vI p2, vI p3, vI (1 : Int32), vI z14, vI z25, vI (0 : Int32), vI (0 : Int32), vI (0 : Int32), vI (0 : Int32), vR b3, vR b5, vJ z158, s_, vD c174_z104, s_, vJ z189, s_, vJ z196, s_, vD z262, s_, vD z270, s_, vD z277, s_, vD z284, s_] [(.int (1 : Int32))])) t → Steps p.tables e below (s₁.setTop (entryFrame m #[(.int p0), (.int p1), (.int p2), (.int p3)] maxLocals)) t := by
                intro t k
                refine c42 t ?_
                show Steps p.tables e below (T37.setTop (mkF m 308 #[vI p0, vI p1, vI p2, vI p3, vI (1 : Int32), vI z14, vI z25, vI (0 : Int32), vI (0 : Int32), vI (0 : Int32), vI (0 : Int32), vR b3, vR b5, vJ z158, s_, vD c174_z104, s_, vJ z189, s_, vJ z196, s_, vD z262, s_, vD z270, s_, vD z277, s_, vD z284, s_] [(.int z307)])) _
                refine XS.ifYes X37.here hx rfl (pc0 := 308) (pc' := 319) rfl (hb hby at_308) rfl (Jvm.Free.XT.i0_lt_t hb308) (by decide) (by decide) ?_
                show Steps p.tables e below (T37.setTop (mkF m 319 #[vI p0, vI p1, vI p2, vI p3, vI (1 : Int32), vI z14, vI z25, vI (0 : Int32), vI (0 : Int32), vI (0 : Int32), vI (0 : Int32), vR b3, vR b5, vJ z158, s_, vD c174_z104, s_, vJ z189, s_, vJ z196, s_, vD z262, s_, vD z270, s_, vD z277, s_, vD z284, s_] [])) _
                refine XS.iconst X37.here hx rfl (hb hby at_319) ?_
                show Steps p.tables e below (T37.setTop (mkF m 320 #[vI p0, vI p1, vI p2, vI p3, vI (1 : Int32), vI z14, vI z25, vI (0 : Int32), vI (0 : Int32), vI (0 : Int32), vI (0 : Int32), vR b3, vR b5, vJ z158, s_, vD c174_z104, s_, vJ z189, s_, vJ z196, s_, vD z262, s_, vD z270, s_, vD z277, s_, vD z284, s_] [(.int (1 : Int32))])) _
                refine XS.goto X37.here hx rfl (pc0 := 320) (pc' := 324) rfl (hb hby at_320) (by decide) (by decide) ?_
                exact k
              obtain ⟨fs, hr, hrun, hended, hW, hsame⟩ := X37.leave (v := some (.int (1 : Int32))) (fun h => by rw [Bd.returns] at h; cases h)
              refine ⟨_, _, c43 _ ?_, hrun, hended, _, _, rfl, ?_, ⟨_, rfl⟩, hW, hsame.mono (by decide) (by decide)⟩
              · show Steps p.tables e below (T37.setTop (mkF m 324 #[vI p0, vI p1, vI p2, vI p3, vI (1 : Int32), vI z14, vI z25, vI (0 : Int32), vI (0 : Int32), vI (0 : Int32), vI (0 : Int32), vR b3, vR b5, vJ z158, s_, vD c174_z104, s_, vJ z189, s_, vJ z196, s_, vD z262, s_, vD z270, s_, vD z277, s_, vD z284, s_] [(.int (1 : Int32))])) _
                exact retOut X37 hx Bd.returns rfl (Or.inl ⟨rfl, by simp, _, rfl⟩) (hb hby at_324) hr
              · show Q0 n0 _ T37.heap _
                rw [e37]
                exact ⟨rfl, by first | assumption | exact N0⟩
            · skip
              obtain ⟨z315, hz315⟩ : ∃ z : Int32, cmpValue (FP.dcmp c174_z104 z277) .l = z := ⟨_, rfl⟩
              have br316 := cmpF fs fh hi1 hz307 hz315 hb308
              have c44 : ∀ t, Steps p.tables e below (T37.setTop (mkF m 324 #[vI p0, vI p1, vI p2, vI p3, vI (1 : Int32), vI z14, vI z25, vI (0 : Int32), vI (0 : Int32), vI (0 : Int32), vI (0 : Int32), vR b3, vR b5, vJ z158, s_, vD c174_z104, s_, vJ z189, s_, vJ z196, s_, vD z262, s_, vD z270, s_, vD z277, s_, vD z284, s_] [(.int (1 : Int32))])) t → Steps p.tables e below (s₁.setTop (entryFrame m #[(.int p0), (.int p1), (.int p2), (.int p3)] maxLocals)) t := by
                intro t k
                refine c42 t ?_
                show Steps p.tables e below (T37.setTop (mkF m 308 #[vI p0, vI p1, vI p2, vI p3, vI (1 : Int32), vI z14, vI z25, vI (0 : Int32), vI (0 : Int32), vI (0 : Int32), vI (0 : Int32), vR b3, vR b5, vJ z158, s_, vD c174_z104, s_, vJ z189, s_, vJ z196, s_, vD z262, s_, vD z270, s_, vD z277, s_, vD z284, s_] [(.int z307)])) _
                refine XS.ifNo X37.here hx rfl (hb hby at_308) rfl (Jvm.Free.XT.i0_lt_f hb308) ?_
                show Steps p.tables e below (T37.setTop (mkF m 311 #[vI p0, vI p1, vI p2, vI p3, vI (1 : Int32), vI z14, vI z25, vI (0 : Int32), vI (0 : Int32), vI (0 : Int32), vI (0 : Int32), vR b3, vR b5, vJ z158, s_, vD c174_z104, s_, vJ z189, s_, vJ z196, s_, vD z262, s_, vD z270, s_, vD z277, s_, vD z284, s_] [])) _
                refine XS.dload X37.here hx rfl (hb hby at_311) rfl ?_
                show Steps p.tables e below (T37.setTop (mkF m 313 #[vI p0, vI p1, vI p2, vI p3, vI (1 : Int32), vI z14, vI z25, vI (0 : Int32), vI (0 : Int32), vI (0 : Int32), vI (0 : Int32), vR b3, vR b5, vJ z158, s_, vD c174_z104, s_, vJ z189, s_, vJ z196, s_, vD z262, s_, vD z270, s_, vD z277, s_, vD z284, s_] [(.double c174_z104)])) _
                refine XS.dload X37.here hx rfl (hb hby at_313) rfl ?_
                show Steps p.tables e below (T37.setTop (mkF m 315 #[vI p0, vI p1, vI p2, vI p3, vI (1 : Int32), vI z14, vI z25, vI (0 : Int32), vI (0 : Int32), vI (0 : Int32), vI (0 : Int32), vR b3, vR b5, vJ z158, s_, vD c174_z104, s_, vJ z189, s_, vJ z196, s_, vD z262, s_, vD z270, s_, vD z277, s_, vD z284, s_] [(.double z277), (.double c174_z104)])) _
                refine XS.dcmpS X37.here hx rfl (hb hby at_315) rfl hz315 ?_
                show Steps p.tables e below (T37.setTop (mkF m 316 #[vI p0, vI p1, vI p2, vI p3, vI (1 : Int32), vI z14, vI z25, vI (0 : Int32), vI (0 : Int32), vI (0 : Int32), vI (0 : Int32), vR b3, vR b5, vJ z158, s_, vD c174_z104, s_, vJ z189, s_, vJ z196, s_, vD z262, s_, vD z270, s_, vD z277, s_, vD z284, s_] [(.int z315)])) _
                refine XS.ifNo X37.here hx rfl (hb hby at_316) rfl (Jvm.Free.XT.i0_ne_f br316) ?_
                show Steps p.tables e below (T37.setTop (mkF m 319 #[vI p0, vI p1, vI p2, vI p3, vI (1 : Int32), vI z14, vI z25, vI (0 : Int32), vI (0 : Int32), vI (0 : Int32), vI (0 : Int32), vR b3, vR b5, vJ z158, s_, vD c174_z104, s_, vJ z189, s_, vJ z196, s_, vD z262, s_, vD z270, s_, vD z277, s_, vD z284, s_] [])) _
                refine XS.iconst X37.here hx rfl (hb hby at_319) ?_
                show Steps p.tables e below (T37.setTop (mkF m 320 #[vI p0, vI p1, vI p2, vI p3, vI (1 : Int32), vI z14, vI z25, vI (0 : Int32), vI (0 : Int32), vI (0 : Int32), vI (0 : Int32), vR b3, vR b5, vJ z158, s_, vD c174_z104, s_, vJ z189, s_, vJ z196, s_, vD z262, s_, vD z270, s_, vD z277, s_, vD z284, s_] [(.int (1 : Int32))])) _
                refine XS.goto X37.here hx rfl (pc0 := 320) (pc' := 324) rfl (hb hby at_320) (by decide) (by decide) ?_
                exact k
              obtain ⟨fs, hr, hrun, hended, hW, hsame⟩ := X37.leave (v := some (.int (1 : Int32))) (fun h => by rw [Bd.returns] at h; cases h)
              refine ⟨_, _, c44 _ ?_, hrun, hended, _, _, rfl, ?_, ⟨_, rfl⟩, hW, hsame.mono (by decide) (by decide)⟩
              · show Steps p.tables e below (T37.setTop (mkF m 324 #[vI p0, vI p1, vI p2, vI p3, vI (1 : Int32), vI z14, vI z25, vI (0 : Int32), vI (0 : Int32), vI (0 : Int32), vI (0 : Int32), vR b3, vR b5, vJ z158, s_, vD c174_z104, s_, vJ z189, s_, vJ z196, s_, vD z262, s_, vD z270, s_, vD z277, s_, vD z284, s_] [(.int (1 : Int32))])) _
                exact retOut X37 hx Bd.returns rfl (Or.inl ⟨rfl, by simp, _, rfl⟩) (hb hby at_324) hr
              · show Q0 n0 _ T37.heap _
                rw [e37]
                exact ⟨rfl, by first | assumption | exact N0⟩
  · obtain rfl := q2
    obtain ⟨z150, hz150⟩ : ∃ z : Int64, z14.toInt64 = z := ⟨_, rfl⟩
    obtain ⟨z153, hz153⟩ : ∃ z : Int64, z32.toInt64 = z := ⟨_, rfl⟩
    obtain ⟨z154, hz154⟩ : ∃ z : Int64, z150 + z153 = z := ⟨_, rfl⟩
    obtain ⟨z158, hz158⟩ : ∃ z : Int64, z154 + (0 : Int64) = z := ⟨_, rfl⟩
    obtain ⟨z164, hz164⟩ : ∃ z : Int32, lcmpW z158 (0 : Int64) = z := ⟨_, rfl⟩
    obtain ⟨T45, h45, k45, X45, e45, E45, A45, st45⟩ := newP X0 hx hZ (hw _ (List.mem_of_getElem? (i := 1) rfl)) e0 (g := (mkF m 90 #[vI p0, vI p1, vI p2, vI p3, vI (2 : Int32), vI z14, vI z25, vI z32, vI z43, vI (0 : Int32), vI (0 : Int32), u_, u_, u_, u_, u_, u_, u_, u_, u_, u_, u_, u_, u_, u_, u_, u_, u_, u_] [(.int (2 : Int32))])) rfl (hb hby at_90) rfl (by decide) (cap := 2) (by decide) (by decide) (by decide) (by decide)
    obtain ⟨b45, g45⟩ : ∃ z, z = h0.size := ⟨_, rfl⟩
    rw [← g45] at A45 st45
    have gn45 : n0 ≤ b45 := Nat.le_trans Z0 (Nat.le_of_eq g45.symm)
    have gz45 : h0.size ≤ b45 := Nat.le_trans ((Keep.refl h0 [])).1 (Nat.le_of_eq g45.symm)
    have K46 : Keep h0 h45 [] := (Keep.refl h0 []).ext E45
    have V45 : Arv Z h45 b45 k45 .int (2 : Int32) [(.int (0 : Int32)), (.int (0 : Int32))] (.int (0 : Int32)) := (Arv.new A45 (by decide)).pad (pad_rep [] (.int (0 : Int32)) 2)
    obtain ⟨T47, h47, k47, X47, e47, E47, A47, st47⟩ := newP X45 hx hZ (hw _ (List.mem_of_getElem? (i := 1) rfl)) e45 (g := (mkF m 96 #[vI p0, vI p1, vI p2, vI p3, vI (2 : Int32), vI z14, vI z25, vI z32, vI z43, vI (0 : Int32), vI (0 : Int32), vR b45, u_, u_, u_, u_, u_, u_, u_, u_, u_, u_, u_, u_, u_, u_, u_, u_, u_] [(.int (2 : Int32))])) rfl (hb hby at_96) rfl (by decide) (cap := 2) (by decide) (by decide) (by decide) (by decide)
    obtain ⟨b47, g47⟩ : ∃ z, z = h45.size := ⟨_, rfl⟩
    rw [← g47] at A47 st47
    have gn47 : n0 ≤ b47 := Nat.le_trans (Nat.le_trans Z0 E45.1) (Nat.le_of_eq g47.symm)
    have gz47 : h0.size ≤ b47 := Nat.le_trans (K46).1 (Nat.le_of_eq g47.symm)
    have K48 : Keep h0 h47 [] := K46.ext E47
    have V47 : Arv Z h47 b47 k47 .int (2 : Int32) [(.int (0 : Int32)), (.int (0 : Int32))] (.int (0 : Int32)) := (Arv.new A47 (by decide)).pad (pad_rep [] (.int (0 : Int32)) 2)
    have f49 := (V45.ext E47)
    obtain ⟨cl50, Ar50, q50, S50, Nn50, Ha50, G50⟩ := id f49
    have in50 : ¬ ((0 : Int32) < 0 ∨ cl50.slots.size ≤ ((0 : Int32)).toNatClampNeg) := inb_of S50 ⟨by decide, by decide⟩
    obtain ⟨T51, h51, X51, e51, W51, st51⟩ := stI X47 hx hZ e47 Ar50 (j := (0 : Int32)) in50 (g := (mkF m 105 #[vI p0, vI p1, vI p2, vI p3, vI (2 : Int32), vI z14, vI z25, vI z32, vI z43, vI (0 : Int32), vI (0 : Int32), vR b45, vR b47, u_, u_, u_, u_, u_, u_, u_, u_, u_, u_, u_, u_, u_, u_, u_, u_] [(.int z14), (.int (0 : Int32)), (.ref b45)])) rfl rfl (hb hby at_105)
    have N51 := Fr.snoc X51 N0 gn45
    have K52 : Keep h0 h51 [] := K48.wr W51 (Or.inr gz45)
    have V51 : Arv Z h51 b45 k45 .int (2 : Int32) [(.int z14), (.int (0 : Int32))] (.int (0 : Int32)) := Arv.set Ar50 q50 S50 Nn50 Ha50 G50 rfl W51 0 rfl (show (0 : Nat) < 2 by decide)
    have f53 := (V47.other W51 (Ne.symm (Nat.ne_of_lt (Nat.lt_of_lt_of_le (V45).lt (Nat.le_of_eq g47.symm)))))
    obtain ⟨cl54, Ar54, q54, S54, Nn54, Ha54, G54⟩ := id f53
    have in54 : ¬ ((0 : Int32) < 0 ∨ cl54.slots.size ≤ ((0 : Int32)).toNatClampNeg) := inb_of S54 ⟨by decide, by decide⟩
    obtain ⟨T55, h55, X55, e55, W55, st55⟩ := stI X51 hx hZ e51 Ar54 (j := (0 : Int32)) in54 (g := (mkF m 111 #[vI p0, vI p1, vI p2, vI p3, vI (2 : Int32), vI z14, vI z25, vI z32, vI z43, vI (0 : Int32), vI (0 : Int32), vR b45, vR b47, u_, u_, u_, u_, u_, u_, u_, u_, u_, u_, u_, u_, u_, u_, u_, u_] [(.int z25), (.int (0 : Int32)), (.ref b47)])) rfl rfl (hb hby at_111)
    have N55 := Fr.snoc X55 N51 gn47
    have K56 : Keep h0 h55 [] := K52.wr W55 (Or.inr gz47)
    have V55 : Arv Z h55 b47 k47 .int (2 : Int32) [(.int z25), (.int (0 : Int32))] (.int (0 : Int32)) := Arv.set Ar54 q54 S54 Nn54 Ha54 G54 rfl W55 0 rfl (show (0 : Nat) < 2 by decide)
    have f57 := (V51.other W55 (Nat.ne_of_lt (Nat.lt_of_lt_of_le (V45).lt (Nat.le_of_eq g47.symm))))
    obtain ⟨cl58, Ar58, q58, S58, Nn58, Ha58, G58⟩ := id f57
    have in58 : ¬ ((1 : Int32) < 0 ∨ cl58.slots.size ≤ ((1 : Int32)).toNatClampNeg) := inb_of S58 ⟨by decide, by decide⟩
    obtain ⟨T59, h59, X59, e59, W59, st59⟩ := stI X55 hx hZ e55 Ar58 (j := (1 : Int32)) in58 (g := (mkF m 123 #[vI p0, vI p1, vI p2, vI p3, vI (2 : Int32), vI z14, vI z25, vI z32, vI z43, vI (0 : Int32), vI (0 : Int32), vR b45, vR b47, u_, u_, u_, u_, u_, u_, u_, u_, u_, u_, u_, u_, u_, u_, u_, u_] [(.int z32), (.int (1 : Int32)), (.ref b45)])) rfl rfl (hb hby at_123)
    have N59 := Fr.snoc X59 N55 gn45
    have K60 : Keep h0 h59 [] := K56.wr W59 (Or.inr gz45)
    have V59 : Arv Z h59 b45 k45 .int (2 : Int32) [(.int z14), (.int z32)] (.int (0 : Int32)) := Arv.set Ar58 q58 S58 Nn58 Ha58 G58 rfl W59 1 rfl (show (1 : Nat) < 2 by decide)
    have f61 := (V55.other W59 (Ne.symm (Nat.ne_of_lt (Nat.lt_of_lt_of_le (V45).lt (Nat.le_of_eq g47.symm)))))
    obtain ⟨cl62, Ar62, q62, S62, Nn62, Ha62, G62⟩ := id f61
    have in62 : ¬ ((1 : Int32) < 0 ∨ cl62.slots.size ≤ ((1 : Int32)).toNatClampNeg) := inb_of S62 ⟨by decide, by decide⟩
    obtain ⟨T63, h63, X63, e63, W63, st63⟩ := stI X59 hx hZ e59 Ar62 (j := (1 : Int32)) in62 (g := (mkF m 129 #[vI p0, vI p1, vI p2, vI p3, vI (2 : Int32), vI z14, vI z25, vI z32, vI z43, vI (0 : Int32), vI (0 : Int32), vR b45, vR b47, u_, u_, u_, u_, u_, u_, u_, u_, u_, u_, u_, u_, u_, u_, u_, u_] [(.int z43), (.int (1 : Int32)), (.ref b47)])) rfl rfl (hb hby at_129)
    have N63 := Fr.snoc X63 N59 gn47
    have K64 : Keep h0 h63 [] := K60.wr W63 (Or.inr gz47)
    have V63 : Arv Z h63 b47 k47 .int (2 : Int32) [(.int z25), (.int z43)] (.int (0 : Int32)) := Arv.set Ar62 q62 S62 Nn62 Ha62 G62 rfl W63 1 rfl (show (1 : Nat) < 2 by decide)
    have c65 : ∀ t, Steps p.tables e below (T63.setTop (mkF m 165 #[vI p0, vI p1, vI p2, vI p3, vI (2 : Int32), vI z14, vI z25, vI z32, vI z43, vI (0 : Int32), vI (0 : Int32), vR b45, vR b47, vJ z158, s_, u_, u_, u_, u_, u_, u_, u_, u_, u_, u_, u_, u_, u_, u_] [(.int z164)])) t → Steps p.tables e below (s₁.setTop (entryFrame m #[(.int p0), (.int p1), (.int p2), (.int p3)] maxLocals)) t := by
      intro t k
      refine c1 t ?_
      show Steps p.tables e below (s₁.setTop (mkF m 64 #[vI p0, vI p1, vI p2, vI p3, vI (2 : Int32), vI z14, vI z25, vI z32, vI z43, vI z50, vI z61, u_, u_, u_, u_, u_, u_, u_, u_, u_, u_, u_, u_, u_, u_, u_, u_, u_, u_] [])) _
      refine XS.iload X0.here hx rfl (hb hby at_64) rfl ?_
      show Steps p.tables e below (s₁.setTop (mkF m 66 #[vI p0, vI p1, vI p2, vI p3, vI (2 : Int32), vI z14, vI z25, vI z32, vI z43, vI z50, vI z61, u_, u_, u_, u_, u_, u_, u_, u_, u_, u_, u_, u_, u_, u_, u_, u_, u_, u_] [(.int (2 : Int32))])) _
      refine XS.iconst X0.here hx rfl (hb hby at_66) ?_
      show Steps p.tables e below (s₁.setTop (mkF m 67 #[vI p0, vI p1, vI p2, vI p3, vI (2 : Int32), vI z14, vI z25, vI z32, vI z43, vI z50, vI z61, u_, u_, u_, u_, u_, u_, u_, u_, u_, u_, u_, u_, u_, u_, u_, u_, u_, u_] [(.int (2 : Int32)), (.int (2 : Int32))])) _
      refine XS.icmpYes X0.here hx rfl (pc0 := 67) (pc' := 76) rfl (hb hby at_67) rfl (Jvm.Free.XT.ii_ge_t (by decide)) (by decide) (by decide) ?_
      show Steps p.tables e below (s₁.setTop (mkF m 76 #[vI p0, vI p1, vI p2, vI p3, vI (2 : Int32), vI z14, vI z25, vI z32, vI z43, vI z50, vI z61, u_, u_, u_, u_, u_, u_, u_, u_, u_, u_, u_, u_, u_, u_, u_, u_, u_, u_] [])) _
      refine XS.iload X0.here hx rfl (hb hby at_76) rfl ?_
      show Steps p.tables e below (s₁.setTop (mkF m 78 #[vI p0, vI p1, vI p2, vI p3, vI (2 : Int32), vI z14, vI z25, vI z32, vI z43, vI z50, vI z61, u_, u_, u_, u_, u_, u_, u_, u_, u_, u_, u_, u_, u_, u_, u_, u_, u_, u_] [(.int (2 : Int32))])) _
      refine XS.iconst X0.here hx rfl (hb hby at_78) ?_
      show Steps p.tables e below (s₁.setTop (mkF m 79 #[vI p0, vI p1, vI p2, vI p3, vI (2 : Int32), vI z14, vI z25, vI z32, vI z43, vI z50, vI z61, u_, u_, u_, u_, u_, u_, u_, u_, u_, u_, u_, u_, u_, u_, u_, u_, u_, u_] [(.int (3 : Int32)), (.int (2 : Int32))])) _
      refine XS.icmpNo X0.here hx rfl (hb hby at_79) rfl (Jvm.Free.XT.ii_ge_f (by decide)) ?_
      show Steps p.tables e below (s₁.setTop (mkF m 82 #[vI p0, vI p1, vI p2, vI p3, vI (2 : Int32), vI z14, vI z25, vI z32, vI z43, vI z50, vI z61, u_, u_, u_, u_, u_, u_, u_, u_, u_, u_, u_, u_, u_, u_, u_, u_, u_, u_] [])) _
      refine XS.iconst X0.here hx rfl (hb hby at_82) ?_
      show Steps p.tables e below (s₁.setTop (mkF m 83 #[vI p0, vI p1, vI p2, vI p3, vI (2 : Int32), vI z14, vI z25, vI z32, vI z43, vI z50, vI z61, u_, u_, u_, u_, u_, u_, u_, u_, u_, u_, u_, u_, u_, u_, u_, u_, u_, u_] [(.int (0 : Int32))])) _
      refine XS.istore X0.here hx rfl (hb hby at_83) rfl (l' := #[vI p0, vI p1, vI p2, vI p3, vI (2 : Int32), vI z14, vI z25, vI z32, vI z43, vI (0 : Int32), vI z61, u_, u_, u_, u_, u_, u_, u_, u_, u_, u_, u_, u_, u_, u_, u_, u_, u_, u_]) rfl ?_
      show Steps p.tables e below (s₁.setTop (mkF m 85 #[vI p0, vI p1, vI p2, vI p3, vI (2 : Int32), vI z14, vI z25, vI z32, vI z43, vI (0 : Int32), vI z61, u_, u_, u_, u_, u_, u_, u_, u_, u_, u_, u_, u_, u_, u_, u_, u_, u_, u_] [])) _
      refine XS.iconst X0.here hx rfl (hb hby at_85) ?_
      show Steps p.tables e below (s₁.setTop (mkF m 86 #[vI p0, vI p1, vI p2, vI p3, vI (2 : Int32), vI z14, vI z25, vI z32, vI z43, vI (0 : Int32), vI z61, u_, u_, u_, u_, u_, u_, u_, u_, u_, u_, u_, u_, u_, u_, u_, u_, u_, u_] [(.int (0 : Int32))])) _
      refine XS.istore X0.here hx rfl (hb hby at_86) rfl (l' := #[vI p0, vI p1, vI p2, vI p3, vI (2 : Int32), vI z14, vI z25, vI z32, vI z43, vI (0 : Int32), vI (0 : Int32), u_, u_, u_, u_, u_, u_, u_, u_, u_, u_, u_, u_, u_, u_, u_, u_, u_, u_]) rfl ?_
      show Steps p.tables e below (s₁.setTop (mkF m 88 #[vI p0, vI p1, vI p2, vI p3, vI (2 : Int32), vI z14, vI z25, vI z32, vI z43, vI (0 : Int32), vI (0 : Int32), u_, u_, u_, u_, u_, u_, u_, u_, u_, u_, u_, u_, u_, u_, u_, u_, u_, u_] [])) _
      refine XS.iload X0.here hx rfl (hb hby at_88) rfl ?_
      show Steps p.tables e below (s₁.setTop (mkF m 90 #[vI p0, vI p1, vI p2, vI p3, vI (2 : Int32), vI z14, vI z25, vI z32, vI z43, vI (0 : Int32), vI (0 : Int32), u_, u_, u_, u_, u_, u_, u_, u_, u_, u_, u_, u_, u_, u_, u_, u_, u_, u_] [(.int (2 : Int32))])) _
      refine st45 _ ?_
      show Steps p.tables e below (T45.setTop (mkF m 92 #[vI p0, vI p1, vI p2, vI p3, vI (2 : Int32), vI z14, vI z25, vI z32, vI z43, vI (0 : Int32), vI (0 : Int32), u_, u_, u_, u_, u_, u_, u_, u_, u_, u_, u_, u_, u_, u_, u_, u_, u_, u_] [(.ref b45)])) _
      refine XS.astore X45.here hx rfl (hb hby at_92) rfl rfl (l' := #[vI p0, vI p1, vI p2, vI p3, vI (2 : Int32), vI z14, vI z25, vI z32, vI z43, vI (0 : Int32), vI (0 : Int32), vR b45, u_, u_, u_, u_, u_, u_, u_, u_, u_, u_, u_, u_, u_, u_, u_, u_, u_]) rfl ?_
      show Steps p.tables e below (T45.setTop (mkF m 94 #[vI p0, vI p1, vI p2, vI p3, vI (2 : Int32), vI z14, vI z25, vI z32, vI z43, vI (0 : Int32), vI (0 : Int32), vR b45, u_, u_, u_, u_, u_, u_, u_, u_, u_, u_, u_, u_, u_, u_, u_, u_, u_] [])) _
      refine XS.iload X45.here hx rfl (hb hby at_94) rfl ?_
      show Steps p.tables e below (T45.setTop (mkF m 96 #[vI p0, vI p1, vI p2, vI p3, vI (2 : Int32), vI z14, vI z25, vI z32, vI z43, vI (0 : Int32), vI (0 : Int32), vR b45, u_, u_, u_, u_, u_, u_, u_, u_, u_, u_, u_, u_, u_, u_, u_, u_, u_] [(.int (2 : Int32))])) _
      refine st47 _ ?_
      show Steps p.tables e below (T47.setTop (mkF m 98 #[vI p0, vI p1, vI p2, vI p3, vI (2 : Int32), vI z14, vI z25, vI z32, vI z43, vI (0 : Int32), vI (0 : Int32), vR b45, u_, u_, u_, u_, u_, u_, u_, u_, u_, u_, u_, u_, u_, u_, u_, u_, u_] [(.ref b47)])) _
      refine XS.astore X47.here hx rfl (hb hby at_98) rfl rfl (l' := #[vI p0, vI p1, vI p2, vI p3, vI (2 : Int32), vI z14, vI z25, vI z32, vI z43, vI (0 : Int32), vI (0 : Int32), vR b45, vR b47, u_, u_, u_, u_, u_, u_, u_, u_, u_, u_, u_, u_, u_, u_, u_, u_]) rfl ?_
      show Steps p.tables e below (T47.setTop (mkF m 100 #[vI p0, vI p1, vI p2, vI p3, vI (2 : Int32), vI z14, vI z25, vI z32, vI z43, vI (0 : Int32), vI (0 : Int32), vR b45, vR b47, u_, u_, u_, u_, u_, u_, u_, u_, u_, u_, u_, u_, u_, u_, u_, u_] [])) _
      refine XS.aload X47.here hx rfl (hb hby at_100) rfl rfl ?_
      show Steps p.tables e below (T47.setTop (mkF m 102 #[vI p0, vI p1, vI p2, vI p3, vI (2 : Int32), vI z14, vI z25, vI z32, vI z43, vI (0 : Int32), vI (0 : Int32), vR b45, vR b47, u_, u_, u_, u_, u_, u_, u_, u_, u_, u_, u_, u_, u_, u_, u_, u_] [(.ref b45)])) _
      refine XS.iconst X47.here hx rfl (hb hby at_102) ?_
      show Steps p.tables e below (T47.setTop (mkF m 103 #[vI p0, vI p1, vI p2, vI p3, vI (2 : Int32), vI z14, vI z25, vI z32, vI z43, vI (0 : Int32), vI (0 : Int32), vR b45, vR b47, u_, u_, u_, u_, u_, u_, u_, u_, u_, u_, u_, u_, u_, u_, u_, u_] [(.int (0 : Int32)), (.ref b45)])) _
      refine XS.iload X47.here hx rfl (hb hby at_103) rfl ?_
      show Steps p.tables e below (T47.setTop (mkF m 105 #[vI p0, vI p1, vI p2, vI p3, vI (2 : Int32), vI z14, vI z25, vI z32, vI z43, vI (0 : Int32), vI (0 : Int32), vR b45, vR b47, u_, u_, u_, u_, u_, u_, u_, u_, u_, u_, u_, u_, u_, u_, u_, u_] [(.int z14), (.int (0 : Int32)), (.ref b45)])) _
      refine st51 _ ?_
      show Steps p.tables e below (T51.setTop (mkF m 106 #[vI p0, vI p1, vI p2, vI p3, vI (2 : Int32), vI z14, vI z25, vI z32, vI z43, vI (0 : Int32), vI (0 : Int32), vR b45, vR b47, u_, u_, u_, u_, u_, u_, u_, u_, u_, u_, u_, u_, u_, u_, u_, u_] [])) _
      refine XS.aload X51.here hx rfl (hb hby at_106) rfl rfl ?_
      show Steps p.tables e below (T51.setTop (mkF m 108 #[vI p0, vI p1, vI p2, vI p3, vI (2 : Int32), vI z14, vI z25, vI z32, vI z43, vI (0 : Int32), vI (0 : Int32), vR b45, vR b47, u_, u_, u_, u_, u_, u_, u_, u_, u_, u_, u_, u_, u_, u_, u_, u_] [(.ref b47)])) _
      refine XS.iconst X51.here hx rfl (hb hby at_108) ?_
      show Steps p.tables e below (T51.setTop (mkF m 109 #[vI p0, vI p1, vI p2, vI p3, vI (2 : Int32), vI z14, vI z25, vI z32, vI z43, vI (0 : Int32), vI (0 : Int32), vR b45, vR b47, u_, u_, u_, u_, u_, u_, u_, u_, u_, u_, u_, u_, u_, u_, u_, u_] [(.int (0 : Int32)), (.ref b47)])) _
      refine XS.iload X51.here hx rfl (hb hby at_109) rfl ?_
      show Steps p.tables e below (T51.setTop (mkF m 111 #[vI p0, vI p1, vI p2, vI p3, vI (2 : Int32), vI z14, vI z25, vI z32, vI z43, vI (0 : Int32), vI (0 : Int32), vR b45, vR b47, u_, u_, u_, u_, u_, u_, u_, u_, u_, u_, u_, u_, u_, u_, u_, u_] [(.int z25), (.int (0 : Int32)), (.ref b47)])) _
      refine st55 _ ?_
      show Steps p.tables e below (T55.setTop (mkF m 112 #[vI p0, vI p1, vI p2, vI p3, vI (2 : Int32), vI z14, vI z25, vI z32, vI z43, vI (0 : Int32), vI (0 : Int32), vR b45, vR b47, u_, u_, u_, u_, u_, u_, u_, u_, u_, u_, u_, u_, u_, u_, u_, u_] [])) _
      refine XS.iload X55.here hx rfl (hb hby at_112) rfl ?_
      show Steps p.tables e below (T55.setTop (mkF m 114 #[vI p0, vI p1, vI p2, vI p3, vI (2 : Int32), vI z14, vI z25, vI z32, vI z43, vI (0 : Int32), vI (0 : Int32), vR b45, vR b47, u_, u_, u_, u_, u_, u_, u_, u_, u_, u_, u_, u_, u_, u_, u_, u_] [(.int (2 : Int32))])) _
      refine XS.iconst X55.here hx rfl (hb hby at_114) ?_
      show Steps p.tables e below (T55.setTop (mkF m 115 #[vI p0, vI p1, vI p2, vI p3, vI (2 : Int32), vI z14, vI z25, vI z32, vI z43, vI (0 : Int32), vI (0 : Int32), vR b45, vR b47, u_, u_, u_, u_, u_, u_, u_, u_, u_, u_, u_, u_, u_, u_, u_, u_] [(.int (1 : Int32)), (.int (2 : Int32))])) _
      refine XS.icmpNo X55.here hx rfl (hb hby at_115) rfl (Jvm.Free.XT.ii_le_f (by decide)) ?_
      show Steps p.tables e below (T55.setTop (mkF m 118 #[vI p0, vI p1, vI p2, vI p3, vI (2 : Int32), vI z14, vI z25, vI z32, vI z43, vI (0 : Int32), vI (0 : Int32), vR b45, vR b47, u_, u_, u_, u_, u_, u_, u_, u_, u_, u_, u_, u_, u_, u_, u_, u_] [])) _
      refine XS.aload X55.here hx rfl (hb hby at_118) rfl rfl ?_
      show Steps p.tables e below (T55.setTop (mkF m 120 #[vI p0, vI p1, vI p2, vI p3, vI (2 : Int32), vI z14, vI z25, vI z32, vI z43, vI (0 : Int32), vI (0 : Int32), vR b45, vR b47, u_, u_, u_, u_, u_, u_, u_, u_, u_, u_, u_, u_, u_, u_, u_, u_] [(.ref b45)])) _
      refine XS.iconst X55.here hx rfl (hb hby at_120) ?_
      show Steps p.tables e below (T55.setTop (mkF m 121 #[vI p0, vI p1, vI p2, vI p3, vI (2 : Int32), vI z14, vI z25, vI z32, vI z43, vI (0 : Int32), vI (0 : Int32), vR b45, vR b47, u_, u_, u_, u_, u_, u_, u_, u_, u_, u_, u_, u_, u_, u_, u_, u_] [(.int (1 : Int32)), (.ref b45)])) _
      refine XS.iload X55.here hx rfl (hb hby at_121) rfl ?_
      show Steps p.tables e below (T55.setTop (mkF m 123 #[vI p0, vI p1, vI p2, vI p3, vI (2 : Int32), vI z14, vI z25, vI z32, vI z43, vI (0 : Int32), vI (0 : Int32), vR b45, vR b47, u_, u_, u_, u_, u_, u_, u_, u_, u_, u_, u_, u_, u_, u_, u_, u_] [(.int z32), (.int (1 : Int32)), (.ref b45)])) _
      refine st59 _ ?_
      show Steps p.tables e below (T59.setTop (mkF m 124 #[vI p0, vI p1, vI p2, vI p3, vI (2 : Int32), vI z14, vI z25, vI z32, vI z43, vI (0 : Int32), vI (0 : Int32), vR b45, vR b47, u_, u_, u_, u_, u_, u_, u_, u_, u_, u_, u_, u_, u_, u_, u_, u_] [])) _
      refine XS.aload X59.here hx rfl (hb hby at_124) rfl rfl ?_
      show Steps p.tables e below (T59.setTop (mkF m 126 #[vI p0, vI p1, vI p2, vI p3, vI (2 : Int32), vI z14, vI z25, vI z32, vI z43, vI (0 : Int32), vI (0 : Int32), vR b45, vR b47, u_, u_, u_, u_, u_, u_, u_, u_, u_, u_, u_, u_, u_, u_, u_, u_] [(.ref b47)])) _
      refine XS.iconst X59.here hx rfl (hb hby at_126) ?_
      show Steps p.tables e below (T59.setTop (mkF m 127 #[vI p0, vI p1, vI p2, vI p3, vI (2 : Int32), vI z14, vI z25, vI z32, vI z43, vI (0 : Int32), vI (0 : Int32), vR b45, vR b47, u_, u_, u_, u_, u_, u_, u_, u_, u_, u_, u_, u_, u_, u_, u_, u_] [(.int (1 : Int32)), (.ref b47)])) _
      refine XS.iload X59.here hx rfl (hb hby at_127) rfl ?_
      show Steps p.tables e below (T59.setTop (mkF m 129 #[vI p0, vI p1, vI p2, vI p3, vI (2 : Int32), vI z14, vI z25, vI z32, vI z43, vI (0 : Int32), vI (0 : Int32), vR b45, vR b47, u_, u_, u_, u_, u_, u_, u_, u_, u_, u_, u_, u_, u_, u_, u_, u_] [(.int z43), (.int (1 : Int32)), (.ref b47)])) _
      refine st63 _ ?_
      show Steps p.tables e below (T63.setTop (mkF m 130 #[vI p0, vI p1, vI p2, vI p3, vI (2 : Int32), vI z14, vI z25, vI z32, vI z43, vI (0 : Int32), vI (0 : Int32), vR b45, vR b47, u_, u_, u_, u_, u_, u_, u_, u_, u_, u_, u_, u_, u_, u_, u_, u_] [])) _
      refine XS.iload X63.here hx rfl (hb hby at_130) rfl ?_
      show Steps p.tables e below (T63.setTop (mkF m 132 #[vI p0, vI p1, vI p2, vI p3, vI (2 : Int32), vI z14, vI z25, vI z32, vI z43, vI (0 : Int32), vI (0 : Int32), vR b45, vR b47, u_, u_, u_, u_, u_, u_, u_, u_, u_, u_, u_, u_, u_, u_, u_, u_] [(.int (2 : Int32))])) _
      refine XS.iconst X63.here hx rfl (hb hby at_132) ?_
      show Steps p.tables e below (T63.setTop (mkF m 133 #[vI p0, vI p1, vI p2, vI p3, vI (2 : Int32), vI z14, vI z25, vI z32, vI z43, vI (0 : Int32), vI (0 : Int32), vR b45, vR b47, u_, u_, u_, u_, u_, u_, u_, u_, u_, u_, u_, u_, u_, u_, u_, u_] [(.int (2 : Int32)), (.int (2 : Int32))])) _
      refine XS.icmpYes X63.here hx rfl (pc0 := 133) (pc' := 148) rfl (hb hby at_133) rfl (Jvm.Free.XT.ii_le_t (by decide)) (by decide) (by decide) ?_
      show Steps p.tables e below (T63.setTop (mkF m 148 #[vI p0, vI p1, vI p2, vI p3, vI (2 : Int32), vI z14, vI z25, vI z32, vI z43, vI (0 : Int32), vI (0 : Int32), vR b45, vR b47, u_, u_, u_, u_, u_, u_, u_, u_, u_, u_, u_, u_, u_, u_, u_, u_] [])) _
      refine XS.iload X63.here hx rfl (hb hby at_148) rfl ?_
      show Steps p.tables e below (T63.setTop (mkF m 150 #[vI p0, vI p1, vI p2, vI p3, vI (2 : Int32), vI z14, vI z25, vI z32, vI z43, vI (0 : Int32), vI (0 : Int32), vR b45, vR b47, u_, u_, u_, u_, u_, u_, u_, u_, u_, u_, u_, u_, u_, u_, u_, u_] [(.int z14)])) _
      refine Jvm.OwnK.i2l X63.here hx rfl (hb hby at_150) rfl hz150 ?_
      show Steps p.tables e below (T63.setTop (mkF m 151 #[vI p0, vI p1, vI p2, vI p3, vI (2 : Int32), vI z14, vI z25, vI z32, vI z43, vI (0 : Int32), vI (0 : Int32), vR b45, vR b47, u_, u_, u_, u_, u_, u_, u_, u_, u_, u_, u_, u_, u_, u_, u_, u_] [(.long z150)])) _
      refine XS.iload X63.here hx rfl (hb hby at_151) rfl ?_
      show Steps p.tables e below (T63.setTop (mkF m 153 #[vI p0, vI p1, vI p2, vI p3, vI (2 : Int32), vI z14, vI z25, vI z32, vI z43, vI (0 : Int32), vI (0 : Int32), vR b45, vR b47, u_, u_, u_, u_, u_, u_, u_, u_, u_, u_, u_, u_, u_, u_, u_, u_] [(.int z32), (.long z150)])) _
      refine Jvm.OwnK.i2l X63.here hx rfl (hb hby at_153) rfl hz153 ?_
      show Steps p.tables e below (T63.setTop (mkF m 154 #[vI p0, vI p1, vI p2, vI p3, vI (2 : Int32), vI z14, vI z25, vI z32, vI z43, vI (0 : Int32), vI (0 : Int32), vR b45, vR b47, u_, u_, u_, u_, u_, u_, u_, u_, u_, u_, u_, u_, u_, u_, u_, u_] [(.long z153), (.long z150)])) _
      refine Jvm.OwnK.ladd X63.here hx rfl (hb hby at_154) rfl hz154 ?_
      show Steps p.tables e below (T63.setTop (mkF m 155 #[vI p0, vI p1, vI p2, vI p3, vI (2 : Int32), vI z14, vI z25, vI z32, vI z43, vI (0 : Int32), vI (0 : Int32), vR b45, vR b47, u_, u_, u_, u_, u_, u_, u_, u_, u_, u_, u_, u_, u_, u_, u_, u_] [(.long z154)])) _
      refine XS.iload X63.here hx rfl (hb hby at_155) rfl ?_
      show Steps p.tables e below (T63.setTop (mkF m 157 #[vI p0, vI p1, vI p2, vI p3, vI (2 : Int32), vI z14, vI z25, vI z32, vI z43, vI (0 : Int32), vI (0 : Int32), vR b45, vR b47, u_, u_, u_, u_, u_, u_, u_, u_, u_, u_, u_, u_, u_, u_, u_, u_] [(.int (0 : Int32)), (.long z154)])) _
      refine Jvm.OwnK.i2l X63.here hx rfl (hb hby at_157) rfl (v := (0 : Int64)) (by decide) ?_
      show Steps p.tables e below (T63.setTop (mkF m 158 #[vI p0, vI p1, vI p2, vI p3, vI (2 : Int32), vI z14, vI z25, vI z32, vI z43, vI (0 : Int32), vI (0 : Int32), vR b45, vR b47, u_, u_, u_, u_, u_, u_, u_, u_, u_, u_, u_, u_, u_, u_, u_, u_] [(.long (0 : Int64)), (.long z154)])) _
      refine Jvm.OwnK.ladd X63.here hx rfl (hb hby at_158) rfl hz158 ?_
      show Steps p.tables e below (T63.setTop (mkF m 159 #[vI p0, vI p1, vI p2, vI p3, vI (2 : Int32), vI z14, vI z25, vI z32, vI z43, vI (0 : Int32), vI (0 : Int32), vR b45, vR b47, u_, u_, u_, u_, u_, u_, u_, u_, u_, u_, u_, u_, u_, u_, u_, u_] [(.long z158)])) _
      refine XS.lstore X63.here hx rfl (hb hby at_159) rfl (l' := #[vI p0, vI p1, vI p2, vI p3, vI (2 : Int32), vI z14, vI z25, vI z32, vI z43, vI (0 : Int32), vI (0 : Int32), vR b45, vR b47, vJ z158, s_, u_, u_, u_, u_, u_, u_, u_, u_, u_, u_, u_, u_, u_, u_]) rfl ?_
      show Steps p.tables e below (T63.setTop (mkF m 161 #[vI p0, vI p1, vI p2, vI p3, vI (2 : Int32), vI z14, vI z25, vI z32, vI z43, vI (0 : Int32), vI (0 : Int32), vR b45, vR b47, vJ z158, s_, u_, u_, u_, u_, u_, u_, u_, u_, u_, u_, u_, u_, u_, u_] [])) _
      refine XS.lload X63.here hx rfl (hb hby at_161) rfl ?_
      show Steps p.tables e below (T63.setTop (mkF m 163 #[vI p0, vI p1, vI p2, vI p3, vI (2 : Int32), vI z14, vI z25, vI z32, vI z43, vI (0 : Int32), vI (0 : Int32), vR b45, vR b47, vJ z158, s_, u_, u_, u_, u_, u_, u_, u_, u_, u_, u_, u_, u_, u_, u_] [(.long z158)])) _
      refine XS.lconst X63.here hx rfl (hb hby at_163) ?_
      show Steps p.tables e below (T63.setTop (mkF m 164 #[vI p0, vI p1, vI p2, vI p3, vI (2 : Int32), vI z14, vI z25, vI z32, vI z43, vI (0 : Int32), vI (0 : Int32), vR b45, vR b47, vJ z158, s_, u_, u_, u_, u_, u_, u_, u_, u_, u_, u_, u_, u_, u_, u_] [(.long (0 : Int64)), (.long z158)])) _
      refine Jvm.OwnK.lcmp X63.here hx rfl (hb hby at_164) rfl hz164 ?_
      exact k
    by_cases hb165 : z164 = (0 : Int32)
    · skip
      have c66 : ∀ t, Steps p.tables e below (T63.setTop (mkF m 169 #[vI p0, vI p1, vI p2, vI p3, vI (2 : Int32), vI z14, vI z25, vI z32, vI z43, vI (0 : Int32), vI (0 : Int32), vR b45, vR b47, vJ z158, s_, u_, u_, u_, u_, u_, u_, u_, u_, u_, u_, u_, u_, u_, u_] [(.int (1 : Int32))])) t → Steps p.tables e below (s₁.setTop (entryFrame m #[(.int p0), (.int p1), (.int p2), (.int p3)] maxLocals)) t := by
        intro t k
        refine c65 t ?_
        show Steps p.tables e below (T63.setTop (mkF m 165 #[vI p0, vI p1, vI p2, vI p3, vI (2 : Int32), vI z14, vI z25, vI z32, vI z43, vI (0 : Int32), vI (0 : Int32), vR b45, vR b47, vJ z158, s_, u_, u_, u_, u_, u_, u_, u_, u_, u_, u_, u_, u_, u_, u_] [(.int z164)])) _
        refine XS.ifNo X63.here hx rfl (hb hby at_165) rfl (Jvm.Free.XT.i0_ne_f hb165) ?_
        show Steps p.tables e below (T63.setTop (mkF m 168 #[vI p0, vI p1, vI p2, vI p3, vI (2 : Int32), vI z14, vI z25, vI z32, vI z43, vI (0 : Int32), vI (0 : Int32), vR b45, vR b47, vJ z158, s_, u_, u_, u_, u_, u_, u_, u_, u_, u_, u_, u_, u_, u_, u_] [])) _
        refine XS.iconst X63.here hx rfl (hb hby at_168) ?_
        exact k
      obtain ⟨fs, hr, hrun, hended, hW, hsame⟩ := X63.leave (v := some (.int (1 : Int32))) (fun h => by rw [Bd.returns] at h; cases h)
      refine ⟨_, _, c66 _ ?_, hrun, hended, _, _, rfl, ?_, ⟨_, rfl⟩, hW, hsame.mono (by decide) (by decide)⟩
      · show Steps p.tables e below (T63.setTop (mkF m 169 #[vI p0, vI p1, vI p2, vI p3, vI (2 : Int32), vI z14, vI z25, vI z32, vI z43, vI (0 : Int32), vI (0 : Int32), vR b45, vR b47, vJ z158, s_, u_, u_, u_, u_, u_, u_, u_, u_, u_, u_, u_, u_, u_, u_] [(.int (1 : Int32))])) _
        exact retOut X63 hx Bd.returns rfl (Or.inl ⟨rfl, by simp, _, rfl⟩) (hb hby at_169) hr
      · show Q0 n0 _ T63.heap _
        rw [e63]
        exact ⟨rfl, by first | assumption | exact N0⟩
    · skip
      obtain ⟨c174_z20, hc174_z20⟩ : ∃ z : Int64, z14.toInt64 = z := ⟨_, rfl⟩
      obtain ⟨c174_z21, hc174_z21⟩ : ∃ z : Int64, (0 : Int64) + c174_z20 = z := ⟨_, rfl⟩
      obtain ⟨c174_z29, hc174_z29⟩ : ∃ z : Int64, z25.toInt64 = z := ⟨_, rfl⟩
      obtain ⟨c174_z30, hc174_z30⟩ : ∃ z : Int64, (0 : Int64) + c174_z29 = z := ⟨_, rfl⟩
      obtain ⟨c174_z20_2, hc174_z20_2⟩ : ∃ z : Int64, z32.toInt64 = z := ⟨_, rfl⟩
      obtain ⟨c174_z21_2, hc174_z21_2⟩ : ∃ z : Int64, c174_z21 + c174_z20_2 = z := ⟨_, rfl⟩
      obtain ⟨c174_z29_2, hc174_z29_2⟩ : ∃ z : Int64, z43.toInt64 = z := ⟨_, rfl⟩
      obtain ⟨c174_z30_2, hc174_z30_2⟩ : ∃ z : Int64, c174_z30 + c174_z29_2 = z := ⟨_, rfl⟩
      obtain ⟨c174_z60, hc174_z60⟩ : ∃ z : UInt64, FP.l2d c174_z30_2 = z := ⟨_, rfl⟩
      obtain ⟨c174_z65, hc174_z65⟩ : ∃ z : UInt64, FP.i2d z14 = z := ⟨_, rfl⟩
      obtain ⟨c174_z66, hc174_z66⟩ : ∃ z : UInt64, FP.dmul c174_z60 c174_z65 = z := ⟨_, rfl⟩
      obtain ⟨c174_z68, hc174_z68⟩ : ∃ z : UInt64, FP.l2d c174_z21_2 = z := ⟨_, rfl⟩
      obtain ⟨c174_z69, hc174_z69⟩ : ∃ z : UInt64, FP.ddiv c174_z66 c174_z68 = z := ⟨_, rfl⟩
      obtain ⟨c174_c70_z1, hc174_c70_z1⟩ : ∃ z : UInt64, FP.i2d z25 = z := ⟨_, rfl⟩
      obtain ⟨c174_c70_z3, hc174_c70_z3⟩ : ∃ z : UInt64, FP.dsub c174_c70_z1 c174_z69 = z := ⟨_, rfl⟩
      obtain ⟨c174_c70_z7, hc174_c70_z7⟩ : ∃ z : Int32, cmpValue (FP.dcmp c174_z69 FP.dconst0) .l = z := ⟨_, rfl⟩
      obtain ⟨c174_c70_z17, hc174_c70_z17⟩ : ∃ z : UInt64, FP.dmul c174_c70_z3 c174_c70_z3 = z := ⟨_, rfl⟩
      obtain ⟨c174_c70_z19, hc174_c70_z19⟩ : ∃ z : UInt64, FP.ddiv c174_c70_z17 c174_z69 = z := ⟨_, rfl⟩
      obtain ⟨c174_c70_rv, hc174_c70_rv⟩ : ∃ z : UInt64, (if c174_c70_z7 = (0 : Int32) then FP.dconst0 else c174_c70_z19) = z := ⟨_, rfl⟩
      obtain ⟨c174_z73, hc174_z73⟩ : ∃ z : UInt64, FP.dadd FP.dconst0 c174_c70_rv = z := ⟨_, rfl⟩
      obtain ⟨c174_z86, hc174_z86⟩ : ∃ z : Int32, z14 - z25 = z := ⟨_, rfl⟩
      obtain ⟨c174_z90, hc174_z90⟩ : ∃ z : Int64, c174_z21_2 - c174_z30_2 = z := ⟨_, rfl⟩
      obtain ⟨c174_z91, hc174_z91⟩ : ∃ z : UInt64, FP.l2d c174_z90 = z := ⟨_, rfl⟩
      obtain ⟨c174_z96, hc174_z96⟩ : ∃ z : UInt64, FP.i2d z14 = z := ⟨_, rfl⟩
      obtain ⟨c174_z97, hc174_z97⟩ : ∃ z : UInt64, FP.dmul c174_z91 c174_z96 = z := ⟨_, rfl⟩
      obtain ⟨c174_z99, hc174_z99⟩ : ∃ z : UInt64, FP.l2d c174_z21_2 = z := ⟨_, rfl⟩
      obtain ⟨c174_z100, hc174_z100⟩ : ∃ z : UInt64, FP.ddiv c174_z97 c174_z99 = z := ⟨_, rfl⟩
      obtain ⟨c174_c101_z1, hc174_c101_z1⟩ : ∃ z : UInt64, FP.i2d c174_z86 = z := ⟨_, rfl⟩
      obtain ⟨c174_c101_z3, hc174_c101_z3⟩ : ∃ z : UInt64, FP.dsub c174_c101_z1 c174_z100 = z := ⟨_, rfl⟩
      obtain ⟨c174_c101_z7, hc174_c101_z7⟩ : ∃ z : Int32, cmpValue (FP.dcmp c174_z100 FP.dconst0) .l = z := ⟨_, rfl⟩
      obtain ⟨c174_c101_z17, hc174_c101_z17⟩ : ∃ z : UInt64, FP.dmul c174_c101_z3 c174_c101_z3 = z := ⟨_, rfl⟩
      obtain ⟨c174_c101_z19, hc174_c101_z19⟩ : ∃ z : UInt64, FP.ddiv c174_c101_z17 c174_z100 = z := ⟨_, rfl⟩
      obtain ⟨c174_c101_rv, hc174_c101_rv⟩ : ∃ z : UInt64, (if c174_c101_z7 = (0 : Int32) then FP.dconst0 else c174_c101_z19) = z := ⟨_, rfl⟩
      obtain ⟨c174_z104, hc174_z104⟩ : ∃ z : UInt64, FP.dadd c174_z73 c174_c101_rv = z := ⟨_, rfl⟩
      obtain ⟨c174_z60_2, hc174_z60_2⟩ : ∃ z : UInt64, FP.l2d c174_z30_2 = z := ⟨_, rfl⟩
      obtain ⟨c174_z65_2, hc174_z65_2⟩ : ∃ z : UInt64, FP.i2d z32 = z := ⟨_, rfl⟩
      obtain ⟨c174_z66_2, hc174_z66_2⟩ : ∃ z : UInt64, FP.dmul c174_z60_2 c174_z65_2 = z := ⟨_, rfl⟩
      obtain ⟨c174_z68_2, hc174_z68_2⟩ : ∃ z : UInt64, FP.l2d c174_z21_2 = z := ⟨_, rfl⟩
      obtain ⟨c174_z69_2, hc174_z69_2⟩ : ∃ z : UInt64, FP.ddiv c174_z66_2 c174_z68_2 = z := ⟨_, rfl⟩
      obtain ⟨c174_c70_2_z1, hc174_c70_2_z1⟩ : ∃ z : UInt64, FP.i2d z43 = z := ⟨_, rfl⟩
      obtain ⟨c174_c70_2_z3, hc174_c70_2_z3⟩ : ∃ z : UInt64, FP.dsub c174_c70_2_z1 c174_z69_2 = z := ⟨_, rfl⟩
      obtain ⟨c174_c70_2_z7, hc174_c70_2_z7⟩ : ∃ z : Int32, cmpValue (FP.dcmp c174_z69_2 FP.dconst0) .l = z := ⟨_, rfl⟩
      obtain ⟨c174_c70_2_z17, hc174_c70_2_z17⟩ : ∃ z : UInt64, FP.dmul c174_c70_2_z3 c174_c70_2_z3 = z := ⟨_, rfl⟩
      obtain ⟨c174_c70_2_z19, hc174_c70_2_z19⟩ : ∃ z : UInt64, FP.ddiv c174_c70_2_z17 c174_z69_2 = z := ⟨_, rfl⟩
      obtain ⟨c174_c70_2_rv, hc174_c70_2_rv⟩ : ∃ z : UInt64, (if c174_c70_2_z7 = (0 : Int32) then FP.dconst0 else c174_c70_2_z19) = z := ⟨_, rfl⟩
      obtain ⟨c174_z73_2, hc174_z73_2⟩ : ∃ z : UInt64, FP.dadd c174_z104 c174_c70_2_rv = z := ⟨_, rfl⟩
      obtain ⟨c174_z86_2, hc174_z86_2⟩ : ∃ z : Int32, z32 - z43 = z := ⟨_, rfl⟩
      obtain ⟨c174_z90_2, hc174_z90_2⟩ : ∃ z : Int64, c174_z21_2 - c174_z30_2 = z := ⟨_, rfl⟩
      obtain ⟨c174_z91_2, hc174_z91_2⟩ : ∃ z : UInt64, FP.l2d c174_z90_2 = z := ⟨_, rfl⟩
      obtain ⟨c174_z96_2, hc174_z96_2⟩ : ∃ z : UInt64, FP.i2d z32 = z := ⟨_, rfl⟩
      obtain ⟨c174_z97_2, hc174_z97_2⟩ : ∃ z : UInt64, FP.dmul c174_z91_2 c174_z96_2 = z := ⟨_, rfl⟩
      obtain ⟨c174_z99_2, hc174_z99_2⟩ : ∃ z : UInt64, FP.l2d c174_z21_2 = z := ⟨_, rfl⟩
      obtain ⟨c174_z100_2, hc174_z100_2⟩ : ∃ z : UInt64, FP.ddiv c174_z97_2 c174_z99_2 = z := ⟨_, rfl⟩
      obtain ⟨c174_c101_2_z1, hc174_c101_2_z1⟩ : ∃ z : UInt64, FP.i2d c174_z86_2 = z := ⟨_, rfl⟩
      obtain ⟨c174_c101_2_z3, hc174_c101_2_z3⟩ : ∃ z : UInt64, FP.dsub c174_c101_2_z1 c174_z100_2 = z := ⟨_, rfl⟩
      obtain ⟨c174_c101_2_z7, hc174_c101_2_z7⟩ : ∃ z : Int32, cmpValue (FP.dcmp c174_z100_2 FP.dconst0) .l = z := ⟨_, rfl⟩
      obtain ⟨c174_c101_2_z17, hc174_c101_2_z17⟩ : ∃ z : UInt64, FP.dmul c174_c101_2_z3 c174_c101_2_z3 = z := ⟨_, rfl⟩
      obtain ⟨c174_c101_2_z19, hc174_c101_2_z19⟩ : ∃ z : UInt64, FP.ddiv c174_c101_2_z17 c174_z100_2 = z := ⟨_, rfl⟩
      obtain ⟨c174_c101_2_rv, hc174_c101_2_rv⟩ : ∃ z : UInt64, (if c174_c101_2_z7 = (0 : Int32) then FP.dconst0 else c174_c101_2_z19) = z := ⟨_, rfl⟩
      obtain ⟨c174_z104_2, hc174_z104_2⟩ : ∃ z : UInt64, FP.dadd c174_z73_2 c174_c101_2_rv = z := ⟨_, rfl⟩
      obtain ⟨z181, hz181⟩ : ∃ z : Int64, z25.toInt64 = z := ⟨_, rfl⟩
      obtain ⟨z184, hz184⟩ : ∃ z : Int64, z43.toInt64 = z := ⟨_, rfl⟩
      obtain ⟨z185, hz185⟩ : ∃ z : Int64, z181 + z184 = z := ⟨_, rfl⟩
      obtain ⟨z189, hz189⟩ : ∃ z : Int64, z185 + (0 : Int64) = z := ⟨_, rfl⟩
      obtain ⟨z196, hz196⟩ : ∃ z : Int64, z158 - z189 = z := ⟨_, rfl⟩
      obtain ⟨z205, hz205⟩ : ∃ z : Int32, lcmpW z189 (0 : Int64) = z := ⟨_, rfl⟩
      have z00 : (0 : Int64).toInt = 0 := by decide
      have z32_0 : (0 : Int32).toInt = 0 := by decide
      have i20_0 := Jvm.OwnF.i2l_v hc174_z20
      have i29_0 := Jvm.OwnF.i2l_v hc174_z29
      have i21_0 := Jvm.OwnF.ladd_v hc174_z21 (by omega)
      have i30_0 := Jvm.OwnF.ladd_v hc174_z30 (by omega)
      have i20_1 := Jvm.OwnF.i2l_v hc174_z20_2
      have i29_1 := Jvm.OwnF.i2l_v hc174_z29_2
      have i21_1 := Jvm.OwnF.ladd_v hc174_z21_2 (by omega)
      have i30_1 := Jvm.OwnF.ladd_v hc174_z30_2 (by omega)
      have j150 := Jvm.OwnF.i2l_v hz150
      have j153 := Jvm.OwnF.i2l_v hz153
      have j154 := Jvm.OwnF.ladd_v hz154 (by omega)
      have j158 := Jvm.OwnF.ladd_v hz158 (by omega)
      have eN : c174_z21_2.toInt = z158.toInt := by omega
      have nz164 : z158.toInt ≠ 0 := fun q => hb165 (by rw [← hz164]; exact (lw_eq _ _).mpr (Int64.toInt_inj.mp (by rw [q, z00])))
      have bN : 1 ≤ c174_z21_2.toInt ∧ c174_z21_2.toInt ≤ 12285 := by omega
      have bK : 0 ≤ c174_z30_2.toInt ∧ c174_z30_2.toInt ≤ c174_z21_2.toInt := by omega
      have bh0 : 0 ≤ z14.toInt ∧ z14.toInt ≤ 4095 := by omega
      have bh1 : 0 ≤ z32.toInt ∧ z32.toInt ≤ 4095 := by omega
      have bh2 : 0 ≤ (0 : Int32).toInt ∧ (0 : Int32).toInt ≤ 4095 := by omega
      have hQb := Qn_b bh0 bh1 bh2 bN bK
      have Rb0 := Rb bh1 bh2
      have Rb1 := Rb bh0 bh2
      have Rb2 := Rb bh0 bh1
      have sh0 := sh (g := z25.toInt) (h := z14.toInt) (by omega) (by omega) (by omega) bK bN Rb0
      have sh1 := sh (g := z43.toInt) (h := z32.toInt) (by omega) (by omega) (by omega) bK bN Rb1
      obtain ⟨⟨c174_nn66, c174_nn69, c174_c70_nn3, c174_c70_nn17, c174_c70_nn19, c174_nn73, c174_nn97, c174_nn100, c174_c101_nn3, c174_c101_nn17, c174_c101_nn19, c174_nn104⟩, acc0⟩ := Jvm.OwnF.itemS (by omega) (by omega) (by omega) (by omega) (by omega) bN.1 bN.2 Rb0.1 ⟨by decide, by decide⟩ hQb Qe0 (Jvm.OwnF.Acc.zero 44 (Qn c174_z21_2.toInt c174_z30_2.toInt z14.toInt z32.toInt (0 : Int32).toInt)) (by omega) hc174_z60 hc174_z65 hc174_z66 hc174_z68 hc174_z69 hc174_c70_z1 hc174_c70_z3 hc174_c70_z7 hc174_c70_z17 hc174_c70_z19 hc174_c70_rv hc174_z73 hc174_z86 hc174_z90 hc174_z91 hc174_z96 hc174_z97 hc174_z99 hc174_z100 hc174_c101_z1 hc174_c101_z3 hc174_c101_z7 hc174_c101_z17 hc174_c101_z19 hc174_c101_rv hc174_z104
      obtain ⟨⟨c174_nn66_2, c174_nn69_2, c174_c70_2_nn3, c174_c70_2_nn17, c174_c70_2_nn19, c174_nn73_2, c174_nn97_2, c174_nn100_2, c174_c101_2_nn3, c174_c101_2_nn17, c174_c101_2_nn19, c174_nn104_2⟩, acc1⟩ := Jvm.OwnF.itemS (by omega) (by omega) (by omega) (by omega) (by omega) bN.1 bN.2 Rb1.1 ⟨by decide, by decide⟩ hQb Qe1 acc0 (by omega) hc174_z60_2 hc174_z65_2 hc174_z66_2 hc174_z68_2 hc174_z69_2 hc174_c70_2_z1 hc174_c70_2_z3 hc174_c70_2_z7 hc174_c70_2_z17 hc174_c70_2_z19 hc174_c70_2_rv hc174_z73_2 hc174_z86_2 hc174_z90_2 hc174_z91_2 hc174_z96_2 hc174_z97_2 hc174_z99_2 hc174_z100_2 hc174_c101_2_z1 hc174_c101_2_z3 hc174_c101_2_z7 hc174_c101_2_z17 hc174_c101_2_z19 hc174_c101_2_rv hc174_z104_2
      have f67 := (V59.other W63 (Nat.ne_of_lt (Nat.lt_of_lt_of_le (V45).lt (Nat.le_of_eq g47.symm))))
      obtain ⟨_, _, ⟨T68, L68, k68, n68⟩, -, X68, ⟨Lc68, hQ68, ql68, qy68, qz68⟩, st68⟩ := Jvm.LawKit.callS X63 hx (y := (⟨"com/example/tidy_ranker/tidyranker/classification/ChiSquare", "score", "([I[I)D"⟩ : MethodName)) hown (mvT hZ (hw _ (List.mem_of_getElem? (i := 2) rfl))) (mvT hZ (hw _ (List.mem_of_getElem? (i := 3) rfl))) (mvT hZ (hw _ (List.mem_of_getElem? (i := 4) rfl))) (mvT hZ (hw _ (List.mem_of_getElem? (i := 5) rfl))) (by decide) (backOf (W := 0) (rm1_2 l Z a0 hw [] b47 b45 k47 z25 z43 k45 z14 z32 c174_z20 c174_z21 c174_z29 c174_z30 c174_z20_2 c174_z21_2 c174_z29_2 c174_z30_2 c174_z60 c174_z65 c174_z66 c174_z68 c174_z69 c174_c70_z1 c174_c70_z3 c174_c70_z7 c174_c70_z17 c174_c70_z19 c174_c70_rv c174_z73 c174_z86 c174_z90 c174_z91 c174_z96 c174_z97 c174_z99 c174_z100 c174_c101_z1 c174_c101_z3 c174_c101_z7 c174_c101_z17 c174_c101_z19 c174_c101_rv c174_z104 c174_z60_2 c174_z65_2 c174_z66_2 c174_z68_2 c174_z69_2 c174_c70_2_z1 c174_c70_2_z3 c174_c70_2_z7 c174_c70_2_z17 c174_c70_2_z19 c174_c70_2_rv c174_z73_2 c174_z86_2 c174_z90_2 c174_z91_2 c174_z96_2 c174_z97_2 c174_z99_2 c174_z100_2 c174_c101_2_z1 c174_c101_2_z3 c174_c101_2_z7 c174_c101_2_z17 c174_c101_2_z19 c174_c101_2_rv c174_z104_2 h63 n0 (Nat.le_trans (Nat.le_trans (Nat.le_trans (Nat.le_trans (Nat.le_trans (Nat.le_trans Z0 E45.1) E47.1) (Keep.of_wr W51).1) (Keep.of_wr W55).1) (Keep.of_wr W59).1) (Keep.of_wr W63).1) V63 f67 hc174_z20 hc174_z21 hc174_z29 hc174_z30 hc174_z20_2 hc174_z21_2 hc174_z29_2 hc174_z30_2 hc174_z60 hc174_z65 hc174_z66 hc174_z68 hc174_z69 hc174_c70_z1 hc174_c70_z3 hc174_c70_z7 hc174_c70_z17 hc174_c70_z19 hc174_c70_rv hc174_z73 hc174_z86 hc174_z90 hc174_z91 hc174_z96 hc174_z97 hc174_z99 hc174_z100 hc174_c101_z1 hc174_c101_z3 hc174_c101_z7 hc174_c101_z17 hc174_c101_z19 hc174_c101_rv hc174_z104 hc174_z60_2 hc174_z65_2 hc174_z66_2 hc174_z68_2 hc174_z69_2 hc174_c70_2_z1 hc174_c70_2_z3 hc174_c70_2_z7 hc174_c70_2_z17 hc174_c70_2_z19 hc174_c70_2_rv hc174_z73_2 hc174_z86_2 hc174_z90_2 hc174_z91_2 hc174_z96_2 hc174_z97_2 hc174_z99_2 hc174_z100_2 hc174_c101_2_z1 hc174_c101_2_z3 hc174_c101_2_z7 hc174_c101_2_z17 hc174_c101_2_z19 hc174_c101_2_rv hc174_z104_2 c174_nn66 c174_nn69 c174_c70_nn3 c174_c70_nn17 c174_c70_nn19 c174_nn73 c174_nn97 c174_nn100 c174_c101_nn3 c174_c101_nn17 c174_c101_nn19 c174_nn104 c174_nn66_2 c174_nn69_2 c174_c70_2_nn3 c174_c70_2_nn17 c174_c70_2_nn19 c174_nn73_2 c174_nn97_2 c174_nn100_2 c174_c101_2_nn3 c174_c101_2_nn17 c174_c101_2_nn19 c174_nn104_2) hZ (hw _ (List.mem_of_getElem? (i := 5) rfl)) (hw _ (List.mem_of_getElem? (i := 4) rfl)) (by decide) (by decide)) (g := (mkF m 174 #[vI p0, vI p1, vI p2, vI p3, vI (2 : Int32), vI z14, vI z25, vI z32, vI z43, vI (0 : Int32), vI (0 : Int32), vR b45, vR b47, vJ z158, s_, u_, u_, u_, u_, u_, u_, u_, u_, u_, u_, u_, u_, u_, u_] [(.ref b45), (.ref b47)])) rfl (by rw [hml]; rfl) (argsL := [(.ref b47), (.ref b45)]) (rest := []) (lenOf pd_1 rfl) rfl (by show 2 * 0 + _ ≤ _; exact Nat.le_of_eq rfl) (hb hby at_174) (fun _ _ => ⟨rfl, e63, (by decide : 2 + 0 ≤ _), (by decide : 4 + 0 ≤ _)⟩)
      dsimp only [Pt.U, Pt.locs, Pt.cells, Pt.slots] at X68 ql68 qy68 qz68 st68 hQ68
      subst ql68 qy68 qz68
      obtain ⟨rfl, N68q, e68⟩ := hQ68
      have N68 := Fr.app N63 N68q
      have j181 := Jvm.OwnF.i2l_v hz181
      have j184 := Jvm.OwnF.i2l_v hz184
      have j185 := Jvm.OwnF.ladd_v hz185 (by omega)
      have j189 := Jvm.OwnF.ladd_v hz189 (by omega)
      have j196 := Jvm.OwnF.lsub_v hz196 (by omega)
      have eK : c174_z30_2.toInt = z189.toInt := by omega
      have c69 : ∀ t, Steps p.tables e below (T68.setTop (mkF m 206 #[vI p0, vI p1, vI p2, vI p3, vI (2 : Int32), vI z14, vI z25, vI z32, vI z43, vI (0 : Int32), vI (0 : Int32), vR b45, vR b47, vJ z158, s_, vD c174_z104_2, s_, vJ z189, s_, vJ z196, s_, vD FP.dconst0, s_, u_, u_, u_, u_, u_, u_] [(.int z205)])) t → Steps p.tables e below (s₁.setTop (entryFrame m #[(.int p0), (.int p1), (.int p2), (.int p3)] maxLocals)) t := by
        intro t k
        refine c65 t ?_
        show Steps p.tables e below (T63.setTop (mkF m 165 #[vI p0, vI p1, vI p2, vI p3, vI (2 : Int32), vI z14, vI z25, vI z32, vI z43, vI (0 : Int32), vI (0 : Int32), vR b45, vR b47, vJ z158, s_, u_, u_, u_, u_, u_, u_, u_, u_, u_, u_, u_, u_, u_, u_] [(.int z164)])) _
        refine XS.ifYes X63.here hx rfl (pc0 := 165) (pc' := 170) rfl (hb hby at_165) rfl (Jvm.Free.XT.i0_ne_t hb165) (by decide) (by decide) ?_
        show Steps p.tables e below (T63.setTop (mkF m 170 #[vI p0, vI p1, vI p2, vI p3, vI (2 : Int32), vI z14, vI z25, vI z32, vI z43, vI (0 : Int32), vI (0 : Int32), vR b45, vR b47, vJ z158, s_, u_, u_, u_, u_, u_, u_, u_, u_, u_, u_, u_, u_, u_, u_] [])) _
        refine XS.aload X63.here hx rfl (hb hby at_170) rfl rfl ?_
        show Steps p.tables e below (T63.setTop (mkF m 172 #[vI p0, vI p1, vI p2, vI p3, vI (2 : Int32), vI z14, vI z25, vI z32, vI z43, vI (0 : Int32), vI (0 : Int32), vR b45, vR b47, vJ z158, s_, u_, u_, u_, u_, u_, u_, u_, u_, u_, u_, u_, u_, u_, u_] [(.ref b47)])) _
        refine XS.aload X63.here hx rfl (hb hby at_172) rfl rfl ?_
        show Steps p.tables e below (T63.setTop (mkF m 174 #[vI p0, vI p1, vI p2, vI p3, vI (2 : Int32), vI z14, vI z25, vI z32, vI z43, vI (0 : Int32), vI (0 : Int32), vR b45, vR b47, vJ z158, s_, u_, u_, u_, u_, u_, u_, u_, u_, u_, u_, u_, u_, u_, u_] [(.ref b45), (.ref b47)])) _
        refine st68 _ ?_
        show Steps p.tables e below (T68.setTop (mkF m 177 #[vI p0, vI p1, vI p2, vI p3, vI (2 : Int32), vI z14, vI z25, vI z32, vI z43, vI (0 : Int32), vI (0 : Int32), vR b45, vR b47, vJ z158, s_, u_, u_, u_, u_, u_, u_, u_, u_, u_, u_, u_, u_, u_, u_] [(.double c174_z104_2)])) _
        refine XS.dstore X68.here hx rfl (hb hby at_177) rfl (l' := #[vI p0, vI p1, vI p2, vI p3, vI (2 : Int32), vI z14, vI z25, vI z32, vI z43, vI (0 : Int32), vI (0 : Int32), vR b45, vR b47, vJ z158, s_, vD c174_z104_2, s_, u_, u_, u_, u_, u_, u_, u_, u_, u_, u_, u_, u_]) rfl ?_
        show Steps p.tables e below (T68.setTop (mkF m 179 #[vI p0, vI p1, vI p2, vI p3, vI (2 : Int32), vI z14, vI z25, vI z32, vI z43, vI (0 : Int32), vI (0 : Int32), vR b45, vR b47, vJ z158, s_, vD c174_z104_2, s_, u_, u_, u_, u_, u_, u_, u_, u_, u_, u_, u_, u_] [])) _
        refine XS.iload X68.here hx rfl (hb hby at_179) rfl ?_
        show Steps p.tables e below (T68.setTop (mkF m 181 #[vI p0, vI p1, vI p2, vI p3, vI (2 : Int32), vI z14, vI z25, vI z32, vI z43, vI (0 : Int32), vI (0 : Int32), vR b45, vR b47, vJ z158, s_, vD c174_z104_2, s_, u_, u_, u_, u_, u_, u_, u_, u_, u_, u_, u_, u_] [(.int z25)])) _
        refine Jvm.OwnK.i2l X68.here hx rfl (hb hby at_181) rfl hz181 ?_
        show Steps p.tables e below (T68.setTop (mkF m 182 #[vI p0, vI p1, vI p2, vI p3, vI (2 : Int32), vI z14, vI z25, vI z32, vI z43, vI (0 : Int32), vI (0 : Int32), vR b45, vR b47, vJ z158, s_, vD c174_z104_2, s_, u_, u_, u_, u_, u_, u_, u_, u_, u_, u_, u_, u_] [(.long z181)])) _
        refine XS.iload X68.here hx rfl (hb hby at_182) rfl ?_
        show Steps p.tables e below (T68.setTop (mkF m 184 #[vI p0, vI p1, vI p2, vI p3, vI (2 : Int32), vI z14, vI z25, vI z32, vI z43, vI (0 : Int32), vI (0 : Int32), vR b45, vR b47, vJ z158, s_, vD c174_z104_2, s_, u_, u_, u_, u_, u_, u_, u_, u_, u_, u_, u_, u_] [(.int z43), (.long z181)])) _
        refine Jvm.OwnK.i2l X68.here hx rfl (hb hby at_184) rfl hz184 ?_
        show Steps p.tables e below (T68.setTop (mkF m 185 #[vI p0, vI p1, vI p2, vI p3, vI (2 : Int32), vI z14, vI z25, vI z32, vI z43, vI (0 : Int32), vI (0 : Int32), vR b45, vR b47, vJ z158, s_, vD c174_z104_2, s_, u_, u_, u_, u_, u_, u_, u_, u_, u_, u_, u_, u_] [(.long z184), (.long z181)])) _
        refine Jvm.OwnK.ladd X68.here hx rfl (hb hby at_185) rfl hz185 ?_
        show Steps p.tables e below (T68.setTop (mkF m 186 #[vI p0, vI p1, vI p2, vI p3, vI (2 : Int32), vI z14, vI z25, vI z32, vI z43, vI (0 : Int32), vI (0 : Int32), vR b45, vR b47, vJ z158, s_, vD c174_z104_2, s_, u_, u_, u_, u_, u_, u_, u_, u_, u_, u_, u_, u_] [(.long z185)])) _
        refine XS.iload X68.here hx rfl (hb hby at_186) rfl ?_
        show Steps p.tables e below (T68.setTop (mkF m 188 #[vI p0, vI p1, vI p2, vI p3, vI (2 : Int32), vI z14, vI z25, vI z32, vI z43, vI (0 : Int32), vI (0 : Int32), vR b45, vR b47, vJ z158, s_, vD c174_z104_2, s_, u_, u_, u_, u_, u_, u_, u_, u_, u_, u_, u_, u_] [(.int (0 : Int32)), (.long z185)])) _
        refine Jvm.OwnK.i2l X68.here hx rfl (hb hby at_188) rfl (v := (0 : Int64)) (by decide) ?_
        show Steps p.tables e below (T68.setTop (mkF m 189 #[vI p0, vI p1, vI p2, vI p3, vI (2 : Int32), vI z14, vI z25, vI z32, vI z43, vI (0 : Int32), vI (0 : Int32), vR b45, vR b47, vJ z158, s_, vD c174_z104_2, s_, u_, u_, u_, u_, u_, u_, u_, u_, u_, u_, u_, u_] [(.long (0 : Int64)), (.long z185)])) _
        refine Jvm.OwnK.ladd X68.here hx rfl (hb hby at_189) rfl hz189 ?_
        show Steps p.tables e below (T68.setTop (mkF m 190 #[vI p0, vI p1, vI p2, vI p3, vI (2 : Int32), vI z14, vI z25, vI z32, vI z43, vI (0 : Int32), vI (0 : Int32), vR b45, vR b47, vJ z158, s_, vD c174_z104_2, s_, u_, u_, u_, u_, u_, u_, u_, u_, u_, u_, u_, u_] [(.long z189)])) _
        refine XS.lstore X68.here hx rfl (hb hby at_190) rfl (l' := #[vI p0, vI p1, vI p2, vI p3, vI (2 : Int32), vI z14, vI z25, vI z32, vI z43, vI (0 : Int32), vI (0 : Int32), vR b45, vR b47, vJ z158, s_, vD c174_z104_2, s_, vJ z189, s_, u_, u_, u_, u_, u_, u_, u_, u_, u_, u_]) rfl ?_
        show Steps p.tables e below (T68.setTop (mkF m 192 #[vI p0, vI p1, vI p2, vI p3, vI (2 : Int32), vI z14, vI z25, vI z32, vI z43, vI (0 : Int32), vI (0 : Int32), vR b45, vR b47, vJ z158, s_, vD c174_z104_2, s_, vJ z189, s_, u_, u_, u_, u_, u_, u_, u_, u_, u_, u_] [])) _
        refine XS.lload X68.here hx rfl (hb hby at_192) rfl ?_
        show Steps p.tables e below (T68.setTop (mkF m 194 #[vI p0, vI p1, vI p2, vI p3, vI (2 : Int32), vI z14, vI z25, vI z32, vI z43, vI (0 : Int32), vI (0 : Int32), vR b45, vR b47, vJ z158, s_, vD c174_z104_2, s_, vJ z189, s_, u_, u_, u_, u_, u_, u_, u_, u_, u_, u_] [(.long z158)])) _
        refine XS.lload X68.here hx rfl (hb hby at_194) rfl ?_
        show Steps p.tables e below (T68.setTop (mkF m 196 #[vI p0, vI p1, vI p2, vI p3, vI (2 : Int32), vI z14, vI z25, vI z32, vI z43, vI (0 : Int32), vI (0 : Int32), vR b45, vR b47, vJ z158, s_, vD c174_z104_2, s_, vJ z189, s_, u_, u_, u_, u_, u_, u_, u_, u_, u_, u_] [(.long z189), (.long z158)])) _
        refine Jvm.OwnK.lsub X68.here hx rfl (hb hby at_196) rfl hz196 ?_
        show Steps p.tables e below (T68.setTop (mkF m 197 #[vI p0, vI p1, vI p2, vI p3, vI (2 : Int32), vI z14, vI z25, vI z32, vI z43, vI (0 : Int32), vI (0 : Int32), vR b45, vR b47, vJ z158, s_, vD c174_z104_2, s_, vJ z189, s_, u_, u_, u_, u_, u_, u_, u_, u_, u_, u_] [(.long z196)])) _
        refine XS.lstore X68.here hx rfl (hb hby at_197) rfl (l' := #[vI p0, vI p1, vI p2, vI p3, vI (2 : Int32), vI z14, vI z25, vI z32, vI z43, vI (0 : Int32), vI (0 : Int32), vR b45, vR b47, vJ z158, s_, vD c174_z104_2, s_, vJ z189, s_, vJ z196, s_, u_, u_, u_, u_, u_, u_, u_, u_]) rfl ?_
        show Steps p.tables e below (T68.setTop (mkF m 199 #[vI p0, vI p1, vI p2, vI p3, vI (2 : Int32), vI z14, vI z25, vI z32, vI z43, vI (0 : Int32), vI (0 : Int32), vR b45, vR b47, vJ z158, s_, vD c174_z104_2, s_, vJ z189, s_, vJ z196, s_, u_, u_, u_, u_, u_, u_, u_, u_] [])) _
        refine XS.dconst0 X68.here hx rfl (hb hby at_199) (v := FP.dconst0) rfl ?_
        show Steps p.tables e below (T68.setTop (mkF m 200 #[vI p0, vI p1, vI p2, vI p3, vI (2 : Int32), vI z14, vI z25, vI z32, vI z43, vI (0 : Int32), vI (0 : Int32), vR b45, vR b47, vJ z158, s_, vD c174_z104_2, s_, vJ z189, s_, vJ z196, s_, u_, u_, u_, u_, u_, u_, u_, u_] [(.double FP.dconst0)])) _
        refine XS.dstore X68.here hx rfl (hb hby at_200) rfl (l' := #[vI p0, vI p1, vI p2, vI p3, vI (2 : Int32), vI z14, vI z25, vI z32, vI z43, vI (0 : Int32), vI (0 : Int32), vR b45, vR b47, vJ z158, s_, vD c174_z104_2, s_, vJ z189, s_, vJ z196, s_, vD FP.dconst0, s_, u_, u_, u_, u_, u_, u_]) rfl ?_
        show Steps p.tables e below (T68.setTop (mkF m 202 #[vI p0, vI p1, vI p2, vI p3, vI (2 : Int32), vI z14, vI z25, vI z32, vI z43, vI (0 : Int32), vI (0 : Int32), vR b45, vR b47, vJ z158, s_, vD c174_z104_2, s_, vJ z189, s_, vJ z196, s_, vD FP.dconst0, s_, u_, u_, u_, u_, u_, u_] [])) _
        refine XS.lload X68.here hx rfl (hb hby at_202) rfl ?_
        show Steps p.tables e below (T68.setTop (mkF m 204 #[vI p0, vI p1, vI p2, vI p3, vI (2 : Int32), vI z14, vI z25, vI z32, vI z43, vI (0 : Int32), vI (0 : Int32), vR b45, vR b47, vJ z158, s_, vD c174_z104_2, s_, vJ z189, s_, vJ z196, s_, vD FP.dconst0, s_, u_, u_, u_, u_, u_, u_] [(.long z189)])) _
        refine XS.lconst X68.here hx rfl (hb hby at_204) ?_
        show Steps p.tables e below (T68.setTop (mkF m 205 #[vI p0, vI p1, vI p2, vI p3, vI (2 : Int32), vI z14, vI z25, vI z32, vI z43, vI (0 : Int32), vI (0 : Int32), vR b45, vR b47, vJ z158, s_, vD c174_z104_2, s_, vJ z189, s_, vJ z196, s_, vD FP.dconst0, s_, u_, u_, u_, u_, u_, u_] [(.long (0 : Int64)), (.long z189)])) _
        refine Jvm.OwnK.lcmp X68.here hx rfl (hb hby at_205) rfl hz205 ?_
        exact k
      by_cases hb206 : z205 = (0 : Int32)
      · skip
        obtain ⟨z270, hz270⟩ : ∃ z : UInt64, FP.dmul FP.dconst0 (4517329193108106637 : UInt64) = z := ⟨_, rfl⟩
        obtain ⟨z277, hz277⟩ : ∃ z : UInt64, FP.dadd FP.dconst0 z270 = z := ⟨_, rfl⟩
        obtain ⟨z284, hz284⟩ : ∃ z : UInt64, FP.dsub FP.dconst0 z270 = z := ⟨_, rfl⟩
        obtain ⟨z291, hz291⟩ : ∃ z : Int32, cmpValue (FP.dcmp z284 c174_z104_2) .g = z := ⟨_, rfl⟩
        have kz : z189.toInt = 0 := by have := (lw_eq _ _).mp (hz205.trans hb206); rw [this]; exact z00
        have dz0 : z25.toInt * c174_z21_2.toInt - c174_z30_2.toInt * z14.toInt = 0 := by
          rw [show z25.toInt = 0 by omega, show c174_z30_2.toInt = 0 by omega, Int.zero_mul, Int.zero_mul]; rfl
        have dz1 : z43.toInt * c174_z21_2.toInt - c174_z30_2.toInt * z32.toInt = 0 := by
          rw [show z43.toInt = 0 by omega, show c174_z30_2.toInt = 0 by omega, Int.zero_mul, Int.zero_mul]; rfl
        have aS := acc1
        rw [dz0] at aS
        rw [dz1] at aS
        simp only [Int.zero_mul, Int.add_zero] at aS
        obtain ⟨nn270, nn277, nn284, fs, fh, fl, lo1, hi1⟩ := Jvm.OwnF.finR hQb (by decide) (aS.mono (by decide)) (Jvm.OwnF.Acc.zero 5 _) hz270 hz277 hz284
        have c70 : ∀ t, Steps p.tables e below (T68.setTop (mkF m 292 #[vI p0, vI p1, vI p2, vI p3, vI (2 : Int32), vI z14, vI z25, vI z32, vI z43, vI (0 : Int32), vI (0 : Int32), vR b45, vR b47, vJ z158, s_, vD c174_z104_2, s_, vJ z189, s_, vJ z196, s_, vD FP.dconst0, s_, vD z270, s_, vD z277, s_, vD z284, s_] [(.int z291)])) t → Steps p.tables e below (s₁.setTop (entryFrame m #[(.int p0), (.int p1), (.int p2), (.int p3)] maxLocals)) t := by
          intro t k
          refine c69 t ?_
          show Steps p.tables e below (T68.setTop (mkF m 206 #[vI p0, vI p1, vI p2, vI p3, vI (2 : Int32), vI z14, vI z25, vI z32, vI z43, vI (0 : Int32), vI (0 : Int32), vR b45, vR b47, vJ z158, s_, vD c174_z104_2, s_, vJ z189, s_, vJ z196, s_, vD FP.dconst0, s_, u_, u_, u_, u_, u_, u_] [(.int z205)])) _
          refine XS.ifYes X68.here hx rfl (pc0 := 206) (pc' := 265) rfl (hb hby at_206) rfl (Jvm.Free.XT.i0_eq_t hb206) (by decide) (by decide) ?_
          show Steps p.tables e below (T68.setTop (mkF m 265 #[vI p0, vI p1, vI p2, vI p3, vI (2 : Int32), vI z14, vI z25, vI z32, vI z43, vI (0 : Int32), vI (0 : Int32), vR b45, vR b47, vJ z158, s_, vD c174_z104_2, s_, vJ z189, s_, vJ z196, s_, vD FP.dconst0, s_, u_, u_, u_, u_, u_, u_] [])) _
          refine XS.dload X68.here hx rfl (hb hby at_265) rfl ?_
          show Steps p.tables e below (T68.setTop (mkF m 267 #[vI p0, vI p1, vI p2, vI p3, vI (2 : Int32), vI z14, vI z25, vI z32, vI z43, vI (0 : Int32), vI (0 : Int32), vR b45, vR b47, vJ z158, s_, vD c174_z104_2, s_, vJ z189, s_, vJ z196, s_, vD FP.dconst0, s_, u_, u_, u_, u_, u_, u_] [(.double FP.dconst0)])) _
          refine X68.ldc2DoubleC hx hown (mvT hZ (hw _ (List.mem_of_getElem? (i := 9) rfl))) (g := (mkF m 267 #[vI p0, vI p1, vI p2, vI p3, vI (2 : Int32), vI z14, vI z25, vI z32, vI z43, vI (0 : Int32), vI (0 : Int32), vR b45, vR b47, vJ z158, s_, vD c174_z104_2, s_, vJ z189, s_, vJ z196, s_, vD FP.dconst0, s_, u_, u_, u_, u_, u_, u_] [(.double FP.dconst0)])) rfl (hb hby at_267) _ ?_
          show Steps p.tables e below (T68.setTop (mkF m 270 #[vI p0, vI p1, vI p2, vI p3, vI (2 : Int32), vI z14, vI z25, vI z32, vI z43, vI (0 : Int32), vI (0 : Int32), vR b45, vR b47, vJ z158, s_, vD c174_z104_2, s_, vJ z189, s_, vJ z196, s_, vD FP.dconst0, s_, u_, u_, u_, u_, u_, u_] [(.double (4517329193108106637 : UInt64)), (.double FP.dconst0)])) _
          refine Jvm.OwnK.dmul X68.here hx rfl (hb hby at_270) rfl hz270 nn270 ?_
          show Steps p.tables e below (T68.setTop (mkF m 271 #[vI p0, vI p1, vI p2, vI p3, vI (2 : Int32), vI z14, vI z25, vI z32, vI z43, vI (0 : Int32), vI (0 : Int32), vR b45, vR b47, vJ z158, s_, vD c174_z104_2, s_, vJ z189, s_, vJ z196, s_, vD FP.dconst0, s_, u_, u_, u_, u_, u_, u_] [(.double z270)])) _
          refine XS.dstore X68.here hx rfl (hb hby at_271) rfl (l' := #[vI p0, vI p1, vI p2, vI p3, vI (2 : Int32), vI z14, vI z25, vI z32, vI z43, vI (0 : Int32), vI (0 : Int32), vR b45, vR b47, vJ z158, s_, vD c174_z104_2, s_, vJ z189, s_, vJ z196, s_, vD FP.dconst0, s_, vD z270, s_, u_, u_, u_, u_]) rfl ?_
          show Steps p.tables e below (T68.setTop (mkF m 273 #[vI p0, vI p1, vI p2, vI p3, vI (2 : Int32), vI z14, vI z25, vI z32, vI z43, vI (0 : Int32), vI (0 : Int32), vR b45, vR b47, vJ z158, s_, vD c174_z104_2, s_, vJ z189, s_, vJ z196, s_, vD FP.dconst0, s_, vD z270, s_, u_, u_, u_, u_] [])) _
          refine XS.dload X68.here hx rfl (hb hby at_273) rfl ?_
          show Steps p.tables e below (T68.setTop (mkF m 275 #[vI p0, vI p1, vI p2, vI p3, vI (2 : Int32), vI z14, vI z25, vI z32, vI z43, vI (0 : Int32), vI (0 : Int32), vR b45, vR b47, vJ z158, s_, vD c174_z104_2, s_, vJ z189, s_, vJ z196, s_, vD FP.dconst0, s_, vD z270, s_, u_, u_, u_, u_] [(.double FP.dconst0)])) _
          refine XS.dload X68.here hx rfl (hb hby at_275) rfl ?_
          show Steps p.tables e below (T68.setTop (mkF m 277 #[vI p0, vI p1, vI p2, vI p3, vI (2 : Int32), vI z14, vI z25, vI z32, vI z43, vI (0 : Int32), vI (0 : Int32), vR b45, vR b47, vJ z158, s_, vD c174_z104_2, s_, vJ z189, s_, vJ z196, s_, vD FP.dconst0, s_, vD z270, s_, u_, u_, u_, u_] [(.double z270), (.double FP.dconst0)])) _
          refine Jvm.OwnK.dadd X68.here hx rfl (hb hby at_277) rfl hz277 nn277 ?_
          show Steps p.tables e below (T68.setTop (mkF m 278 #[vI p0, vI p1, vI p2, vI p3, vI (2 : Int32), vI z14, vI z25, vI z32, vI z43, vI (0 : Int32), vI (0 : Int32), vR b45, vR b47, vJ z158, s_, vD c174_z104_2, s_, vJ z189, s_, vJ z196, s_, vD FP.dconst0, s_, vD z270, s_, u_, u_, u_, u_] [(.double z277)])) _
          refine XS.dstore X68.here hx rfl (hb hby at_278) rfl (l' := #[vI p0, vI p1, vI p2, vI p3, vI (2 : Int32), vI z14, vI z25, vI z32, vI z43, vI (0 : Int32), vI (0 : Int32), vR b45, vR b47, vJ z158, s_, vD c174_z104_2, s_, vJ z189, s_, vJ z196, s_, vD FP.dconst0, s_, vD z270, s_, vD z277, s_, u_, u_]) rfl ?_
          show Steps p.tables e below (T68.setTop (mkF m 280 #[vI p0, vI p1, vI p2, vI p3, vI (2 : Int32), vI z14, vI z25, vI z32, vI z43, vI (0 : Int32), vI (0 : Int32), vR b45, vR b47, vJ z158, s_, vD c174_z104_2, s_, vJ z189, s_, vJ z196, s_, vD FP.dconst0, s_, vD z270, s_, vD z277, s_, u_, u_] [])) _
          refine XS.dload X68.here hx rfl (hb hby at_280) rfl ?_
          show Steps p.tables e below (T68.setTop (mkF m 282 #[vI p0, vI p1, vI p2, vI p3, vI (2 : Int32), vI z14, vI z25, vI z32, vI z43, vI (0 : Int32), vI (0 : Int32), vR b45, vR b47, vJ z158, s_, vD c174_z104_2, s_, vJ z189, s_, vJ z196, s_, vD FP.dconst0, s_, vD z270, s_, vD z277, s_, u_, u_] [(.double FP.dconst0)])) _
          refine XS.dload X68.here hx rfl (hb hby at_282) rfl ?_
          show Steps p.tables e below (T68.setTop (mkF m 284 #[vI p0, vI p1, vI p2, vI p3, vI (2 : Int32), vI z14, vI z25, vI z32, vI z43, vI (0 : Int32), vI (0 : Int32), vR b45, vR b47, vJ z158, s_, vD c174_z104_2, s_, vJ z189, s_, vJ z196, s_, vD FP.dconst0, s_, vD z270, s_, vD z277, s_, u_, u_] [(.double z270), (.double FP.dconst0)])) _
          refine Jvm.OwnK.dsub X68.here hx rfl (hb hby at_284) rfl hz284 nn284 ?_
          show Steps p.tables e below (T68.setTop (mkF m 285 #[vI p0, vI p1, vI p2, vI p3, vI (2 : Int32), vI z14, vI z25, vI z32, vI z43, vI (0 : Int32), vI (0 : Int32), vR b45, vR b47, vJ z158, s_, vD c174_z104_2, s_, vJ z189, s_, vJ z196, s_, vD FP.dconst0, s_, vD z270, s_, vD z277, s_, u_, u_] [(.double z284)])) _
          refine XS.dstore X68.here hx rfl (hb hby at_285) rfl (l' := #[vI p0, vI p1, vI p2, vI p3, vI (2 : Int32), vI z14, vI z25, vI z32, vI z43, vI (0 : Int32), vI (0 : Int32), vR b45, vR b47, vJ z158, s_, vD c174_z104_2, s_, vJ z189, s_, vJ z196, s_, vD FP.dconst0, s_, vD z270, s_, vD z277, s_, vD z284, s_]) rfl ?_
          show Steps p.tables e below (T68.setTop (mkF m 287 #[vI p0, vI p1, vI p2, vI p3, vI (2 : Int32), vI z14, vI z25, vI z32, vI z43, vI (0 : Int32), vI (0 : Int32), vR b45, vR b47, vJ z158, s_, vD c174_z104_2, s_, vJ z189, s_, vJ z196, s_, vD FP.dconst0, s_, vD z270, s_, vD z277, s_, vD z284, s_] [])) _
          refine XS.dload X68.here hx rfl (hb hby at_287) rfl ?_
          show Steps p.tables e below (T68.setTop (mkF m 289 #[vI p0, vI p1, vI p2, vI p3, vI (2 : Int32), vI z14, vI z25, vI z32, vI z43, vI (0 : Int32), vI (0 : Int32), vR b45, vR b47, vJ z158, s_, vD c174_z104_2, s_, vJ z189, s_, vJ z196, s_, vD FP.dconst0, s_, vD z270, s_, vD z277, s_, vD z284, s_] [(.double z284)])) _
          refine XS.dload X68.here hx rfl (hb hby at_289) rfl ?_
          show Steps p.tables e below (T68.setTop (mkF m 291 #[vI p0, vI p1, vI p2, vI p3, vI (2 : Int32), vI z14, vI z25, vI z32, vI z43, vI (0 : Int32), vI (0 : Int32), vR b45, vR b47, vJ z158, s_, vD c174_z104_2, s_, vJ z189, s_, vJ z196, s_, vD FP.dconst0, s_, vD z270, s_, vD z277, s_, vD z284, s_] [(.double c174_z104_2), (.double z284)])) _
          refine XS.dcmpS X68.here hx rfl (hb hby at_291) rfl hz291 ?_
          exact k
        by_cases hb292 : z291 < (0 : Int32)
        · skip
          obtain ⟨z307, hz307⟩ : ∃ z : Int32, cmpValue (FP.dcmp c174_z104_2 z277) .g = z := ⟨_, rfl⟩
          have c71 : ∀ t, Steps p.tables e below (T68.setTop (mkF m 308 #[vI p0, vI p1, vI p2, vI p3, vI (2 : Int32), vI z14, vI z25, vI z32, vI z43, vI (0 : Int32), vI (0 : Int32), vR b45, vR b47, vJ z158, s_, vD c174_z104_2, s_, vJ z189, s_, vJ z196, s_, vD FP.dconst0, s_, vD z270, s_, vD z277, s_, vD z284, s_] [(.int z307)])) t → Steps p.tables e below (s₁.setTop (entryFrame m #[(.int p0), (.int p1), (.int p2), (.int p3)] maxLocals)) t := by
            intro t k
            refine c70 t ?_
            show Steps p.tables e below (T68.setTop (mkF m 292 #[vI p0, vI p1, vI p2, vI p3, vI (2 : Int32), vI z14, vI z25, vI z32, vI z43, vI (0 : Int32), vI (0 : Int32), vR b45, vR b47, vJ z158, s_, vD c174_z104_2, s_, vJ z189, s_, vJ z196, s_, vD FP.dconst0, s_, vD z270, s_, vD z277, s_, vD z284, s_] [(.int z291)])) _
            refine XS.ifYes X68.here hx rfl (pc0 := 292) (pc' := 303) rfl (hb hby at_292) rfl (Jvm.Free.XT.i0_lt_t hb292) (by decide) (by decide) ?_
            show Steps p.tables e below (T68.setTop (mkF m 303 #[vI p0, vI p1, vI p2, vI p3, vI (2 : Int32), vI z14, vI z25, vI z32, vI z43, vI (0 : Int32), vI (0 : Int32), vR b45, vR b47, vJ z158, s_, vD c174_z104_2, s_, vJ z189, s_, vJ z196, s_, vD FP.dconst0, s_, vD z270, s_, vD z277, s_, vD z284, s_] [])) _
            refine XS.dload X68.here hx rfl (hb hby at_303) rfl ?_
            show Steps p.tables e below (T68.setTop (mkF m 305 #[vI p0, vI p1, vI p2, vI p3, vI (2 : Int32), vI z14, vI z25, vI z32, vI z43, vI (0 : Int32), vI (0 : Int32), vR b45, vR b47, vJ z158, s_, vD c174_z104_2, s_, vJ z189, s_, vJ z196, s_, vD FP.dconst0, s_, vD z270, s_, vD z277, s_, vD z284, s_] [(.double c174_z104_2)])) _
            refine XS.dload X68.here hx rfl (hb hby at_305) rfl ?_
            show Steps p.tables e below (T68.setTop (mkF m 307 #[vI p0, vI p1, vI p2, vI p3, vI (2 : Int32), vI z14, vI z25, vI z32, vI z43, vI (0 : Int32), vI (0 : Int32), vR b45, vR b47, vJ z158, s_, vD c174_z104_2, s_, vJ z189, s_, vJ z196, s_, vD FP.dconst0, s_, vD z270, s_, vD z277, s_, vD z284, s_] [(.double z277), (.double c174_z104_2)])) _
            refine XS.dcmpS X68.here hx rfl (hb hby at_307) rfl hz307 ?_
            exact k
          by_cases hb308 : z307 < (0 : Int32)
          · skip
            have c72 : ∀ t, Steps p.tables e below (T68.setTop (mkF m 324 #[vI p0, vI p1, vI p2, vI p3, vI (2 : Int32), vI z14, vI z25, vI z32, vI z43, vI (0 : Int32), vI (0 : Int32), vR b45, vR b47, vJ z158, s_, vD c174_z104_2, s_, vJ z189, s_, vJ z196, s_, vD FP.dconst0, s_, vD z270, s_, vD z277, s_, vD z284, s_] [(.int (1 : Int32))])) t → Steps p.tables e below (s₁.setTop (entryFrame m #[(.int p0), (.int p1), (.int p2), (.int p3)] maxLocals)) t := by
              intro t k
              refine c71 t ?_
              show Steps p.tables e below (T68.setTop (mkF m 308 #[vI p0, vI p1, vI p2, vI p3, vI (2 : Int32), vI z14, vI z25, vI z32, vI z43, vI (0 : Int32), vI (0 : Int32), vR b45, vR b47, vJ z158, s_, vD c174_z104_2, s_, vJ z189, s_, vJ z196, s_, vD FP.dconst0, s_, vD z270, s_, vD z277, s_, vD z284, s_] [(.int z307)])) _
              refine XS.ifYes X68.here hx rfl (pc0 := 308) (pc' := 319) rfl (hb hby at_308) rfl (Jvm.Free.XT.i0_lt_t hb308) (by decide) (by decide) ?_
              show Steps p.tables e below (T68.setTop (mkF m 319 #[vI p0, vI p1, vI p2, vI p3, vI (2 : Int32), vI z14, vI z25, vI z32, vI z43, vI (0 : Int32), vI (0 : Int32), vR b45, vR b47, vJ z158, s_, vD c174_z104_2, s_, vJ z189, s_, vJ z196, s_, vD FP.dconst0, s_, vD z270, s_, vD z277, s_, vD z284, s_] [])) _
              refine XS.iconst X68.here hx rfl (hb hby at_319) ?_
              show Steps p.tables e below (T68.setTop (mkF m 320 #[vI p0, vI p1, vI p2, vI p3, vI (2 : Int32), vI z14, vI z25, vI z32, vI z43, vI (0 : Int32), vI (0 : Int32), vR b45, vR b47, vJ z158, s_, vD c174_z104_2, s_, vJ z189, s_, vJ z196, s_, vD FP.dconst0, s_, vD z270, s_, vD z277, s_, vD z284, s_] [(.int (1 : Int32))])) _
              refine XS.goto X68.here hx rfl (pc0 := 320) (pc' := 324) rfl (hb hby at_320) (by decide) (by decide) ?_
              exact k
            obtain ⟨fs, hr, hrun, hended, hW, hsame⟩ := X68.leave (v := some (.int (1 : Int32))) (fun h => by rw [Bd.returns] at h; cases h)
            refine ⟨_, _, c72 _ ?_, hrun, hended, _, _, rfl, ?_, ⟨_, rfl⟩, hW, hsame.mono (by decide) (by decide)⟩
            · show Steps p.tables e below (T68.setTop (mkF m 324 #[vI p0, vI p1, vI p2, vI p3, vI (2 : Int32), vI z14, vI z25, vI z32, vI z43, vI (0 : Int32), vI (0 : Int32), vR b45, vR b47, vJ z158, s_, vD c174_z104_2, s_, vJ z189, s_, vJ z196, s_, vD FP.dconst0, s_, vD z270, s_, vD z277, s_, vD z284, s_] [(.int (1 : Int32))])) _
              exact retOut X68 hx Bd.returns rfl (Or.inl ⟨rfl, by simp, _, rfl⟩) (hb hby at_324) hr
            · show Q0 n0 _ T68.heap _
              rw [e68]
              exact ⟨rfl, by first | assumption | exact N0⟩
          · skip
            obtain ⟨z315, hz315⟩ : ∃ z : Int32, cmpValue (FP.dcmp c174_z104_2 z277) .l = z := ⟨_, rfl⟩
            have br316 := cmpF fs fh hi1 hz307 hz315 hb308
            have c73 : ∀ t, Steps p.tables e below (T68.setTop (mkF m 324 #[vI p0, vI p1, vI p2, vI p3, vI (2 : Int32), vI z14, vI z25, vI z32, vI z43, vI (0 : Int32), vI (0 : Int32), vR b45, vR b47, vJ z158, s_, vD c174_z104_2, s_, vJ z189, s_, vJ z196, s_, vD FP.dconst0, s_, vD z270, s_, vD z277, s_, vD z284, s_] [(.int (1 : Int32))])) t → Steps p.tables e below (s₁.setTop (entryFrame m #[(.int p0), (.int p1), (.int p2), (.int p3)] maxLocals)) t := by
              intro t k
              refine c71 t ?_
              show Steps p.tables e below (T68.setTop (mkF m 308 #[vI p0, vI p1, vI p2, vI p3, vI (2 : Int32), vI z14, vI z25, vI z32, vI z43, vI (0 : Int32), vI (0 : Int32), vR b45, vR b47, vJ z158, s_, vD c174_z104_2, s_, vJ z189, s_, vJ z196, s_, vD FP.dconst0, s_, vD z270, s_, vD z277, s_, vD z284, s_] [(.int z307)])) _
              refine XS.ifNo X68.here hx rfl (hb hby at_308) rfl (Jvm.Free.XT.i0_lt_f hb308) ?_
              show Steps p.tables e below (T68.setTop (mkF m 311 #[vI p0, vI p1, vI p2, vI p3, vI (2 : Int32), vI z14, vI z25, vI z32, vI z43, vI (0 : Int32), vI (0 : Int32), vR b45, vR b47, vJ z158, s_, vD c174_z104_2, s_, vJ z189, s_, vJ z196, s_, vD FP.dconst0, s_, vD z270, s_, vD z277, s_, vD z284, s_] [])) _
              refine XS.dload X68.here hx rfl (hb hby at_311) rfl ?_
              show Steps p.tables e below (T68.setTop (mkF m 313 #[vI p0, vI p1, vI p2, vI p3, vI (2 : Int32), vI z14, vI z25, vI z32, vI z43, vI (0 : Int32), vI (0 : Int32), vR b45, vR b47, vJ z158, s_, vD c174_z104_2, s_, vJ z189, s_, vJ z196, s_, vD FP.dconst0, s_, vD z270, s_, vD z277, s_, vD z284, s_] [(.double c174_z104_2)])) _
              refine XS.dload X68.here hx rfl (hb hby at_313) rfl ?_
              show Steps p.tables e below (T68.setTop (mkF m 315 #[vI p0, vI p1, vI p2, vI p3, vI (2 : Int32), vI z14, vI z25, vI z32, vI z43, vI (0 : Int32), vI (0 : Int32), vR b45, vR b47, vJ z158, s_, vD c174_z104_2, s_, vJ z189, s_, vJ z196, s_, vD FP.dconst0, s_, vD z270, s_, vD z277, s_, vD z284, s_] [(.double z277), (.double c174_z104_2)])) _
              refine XS.dcmpS X68.here hx rfl (hb hby at_315) rfl hz315 ?_
              show Steps p.tables e below (T68.setTop (mkF m 316 #[vI p0, vI p1, vI p2, vI p3, vI (2 : Int32), vI z14, vI z25, vI z32, vI z43, vI (0 : Int32), vI (0 : Int32), vR b45, vR b47, vJ z158, s_, vD c174_z104_2, s_, vJ z189, s_, vJ z196, s_, vD FP.dconst0, s_, vD z270, s_, vD z277, s_, vD z284, s_] [(.int z315)])) _
              refine XS.ifNo X68.here hx rfl (hb hby at_316) rfl (Jvm.Free.XT.i0_ne_f br316) ?_
              show Steps p.tables e below (T68.setTop (mkF m 319 #[vI p0, vI p1, vI p2, vI p3, vI (2 : Int32), vI z14, vI z25, vI z32, vI z43, vI (0 : Int32), vI (0 : Int32), vR b45, vR b47, vJ z158, s_, vD c174_z104_2, s_, vJ z189, s_, vJ z196, s_, vD FP.dconst0, s_, vD z270, s_, vD z277, s_, vD z284, s_] [])) _
              refine XS.iconst X68.here hx rfl (hb hby at_319) ?_
              show Steps p.tables e below (T68.setTop (mkF m 320 #[vI p0, vI p1, vI p2, vI p3, vI (2 : Int32), vI z14, vI z25, vI z32, vI z43, vI (0 : Int32), vI (0 : Int32), vR b45, vR b47, vJ z158, s_, vD c174_z104_2, s_, vJ z189, s_, vJ z196, s_, vD FP.dconst0, s_, vD z270, s_, vD z277, s_, vD z284, s_] [(.int (1 : Int32))])) _
              refine XS.goto X68.here hx rfl (pc0 := 320) (pc' := 324) rfl (hb hby at_320) (by decide) (by decide) ?_
              exact k
            obtain ⟨fs, hr, hrun, hended, hW, hsame⟩ := X68.leave (v := some (.int (1 : Int32))) (fun h => by rw [Bd.returns] at h; cases h)
            refine ⟨_, _, c73 _ ?_, hrun, hended, _, _, rfl, ?_, ⟨_, rfl⟩, hW, hsame.mono (by decide) (by decide)⟩
            · show Steps p.tables e below (T68.setTop (mkF m 324 #[vI p0, vI p1, vI p2, vI p3, vI (2 : Int32), vI z14, vI z25, vI z32, vI z43, vI (0 : Int32), vI (0 : Int32), vR b45, vR b47, vJ z158, s_, vD c174_z104_2, s_, vJ z189, s_, vJ z196, s_, vD FP.dconst0, s_, vD z270, s_, vD z277, s_, vD z284, s_] [(.int (1 : Int32))])) _
              exact retOut X68 hx Bd.returns rfl (Or.inl ⟨rfl, by simp, _, rfl⟩) (hb hby at_324) hr
            · show Q0 n0 _ T68.heap _
              rw [e68]
              exact ⟨rfl, by first | assumption | exact N0⟩
        · skip
          obtain ⟨z299, hz299⟩ : ∃ z : Int32, cmpValue (FP.dcmp z284 c174_z104_2) .l = z := ⟨_, rfl⟩
          obtain ⟨z307, hz307⟩ : ∃ z : Int32, cmpValue (FP.dcmp c174_z104_2 z277) .g = z := ⟨_, rfl⟩
          have br300 := cmpF fl fs lo1 hz291 hz299 hb292
          have c74 : ∀ t, Steps p.tables e below (T68.setTop (mkF m 308 #[vI p0, vI p1, vI p2, vI p3, vI (2 : Int32), vI z14, vI z25, vI z32, vI z43, vI (0 : Int32), vI (0 : Int32), vR b45, vR b47, vJ z158, s_, vD c174_z104_2, s_, vJ z189, s_, vJ z196, s_, vD FP.dconst0, s_, vD z270, s_, vD z277, s_, vD z284, s_] [(.int z307)])) t → Steps p.tables e below (s₁.setTop (entryFrame m #[(.int p0), (.int p1), (.int p2), (.int p3)] maxLocals)) t := by
            intro t k
            refine c70 t ?_
            show Steps p.tables e below (T68.setTop (mkF m 292 #[vI p0, vI p1, vI p2, vI p3, vI (2 : Int32), vI z14, vI z25, vI z32, vI z43, vI (0 : Int32), vI (0 : Int32), vR b45, vR b47, vJ z158, s_, vD c174_z104_2, s_, vJ z189, s_, vJ z196, s_, vD FP.dconst0, s_, vD z270, s_, vD z277, s_, vD z284, s_] [(.int z291)])) _
            refine XS.ifNo X68.here hx rfl (hb hby at_292) rfl (Jvm.Free.XT.i0_lt_f hb292) ?_
            show Steps p.tables e below (T68.setTop (mkF m 295 #[vI p0, vI p1, vI p2, vI p3, vI (2 : Int32), vI z14, vI z25, vI z32, vI z43, vI (0 : Int32), vI (0 : Int32), vR b45, vR b47, vJ z158, s_, vD c174_z104_2, s_, vJ z189, s_, vJ z196, s_, vD FP.dconst0, s_, vD z270, s_, vD z277, s_, vD z284, s_] [])) _
            refine XS.dload X68.here hx rfl (hb hby at_295) rfl ?_
            show Steps p.tables e below (T68.setTop (mkF m 297 #[vI p0, vI p1, vI p2, vI p3, vI (2 : Int32), vI z14, vI z25, vI z32, vI z43, vI (0 : Int32), vI (0 : Int32), vR b45, vR b47, vJ z158, s_, vD c174_z104_2, s_, vJ z189, s_, vJ z196, s_, vD FP.dconst0, s_, vD z270, s_, vD z277, s_, vD z284, s_] [(.double z284)])) _
            refine XS.dload X68.here hx rfl (hb hby at_297) rfl ?_
            show Steps p.tables e below (T68.setTop (mkF m 299 #[vI p0, vI p1, vI p2, vI p3, vI (2 : Int32), vI z14, vI z25, vI z32, vI z43, vI (0 : Int32), vI (0 : Int32), vR b45, vR b47, vJ z158, s_, vD c174_z104_2, s_, vJ z189, s_, vJ z196, s_, vD FP.dconst0, s_, vD z270, s_, vD z277, s_, vD z284, s_] [(.double c174_z104_2), (.double z284)])) _
            refine XS.dcmpS X68.here hx rfl (hb hby at_299) rfl hz299 ?_
            show Steps p.tables e below (T68.setTop (mkF m 300 #[vI p0, vI p1, vI p2, vI p3, vI (2 : Int32), vI z14, vI z25, vI z32, vI z43, vI (0 : Int32), vI (0 : Int32), vR b45, vR b47, vJ z158, s_, vD c174_z104_2, s_, vJ z189, s_, vJ z196, s_, vD FP.dconst0, s_, vD z270, s_, vD z277, s_, vD z284, s_] [(.int z299)])) _
            refine XS.ifNo X68.here hx rfl (hb hby at_300) rfl (Jvm.Free.XT.i0_ne_f br300) ?_
            show Steps p.tables e below (T68.setTop (mkF m 303 #[vI p0, vI p1, vI p2, vI p3, vI (2 : Int32), vI z14, vI z25, vI z32, vI z43, vI (0 : Int32), vI (0 : Int32), vR b45, vR b47, vJ z158, s_, vD c174_z104_2, s_, vJ z189, s_, vJ z196, s_, vD FP.dconst0, s_, vD z270, s_, vD z277, s_, vD z284, s_] [])) _
            refine XS.dload X68.here hx rfl (hb hby at_303) rfl ?_
            show Steps p.tables e below (T68.setTop (mkF m 305 #[vI p0, vI p1, vI p2, vI p3, vI (2 : Int32), vI z14, vI z25, vI z32, vI z43, vI (0 : Int32), vI (0 : Int32), vR b45, vR b47, vJ z158, s_, vD c174_z104_2, s_, vJ z189, s_, vJ z196, s_, vD FP.dconst0, s_, vD z270, s_, vD z277, s_, vD z284, s_] [(.double c174_z104_2)])) _
            refine XS.dload X68.here hx rfl (hb hby at_305) rfl ?_
            show Steps p.tables e below (T68.setTop (mkF m 307 #[vI p0, vI p1, vI p2, vI p3, vI (2 : Int32), vI z14, vI z25, vI z32, vI z43, vI (0 : Int32), vI (0 : Int32), vR b45, vR b47, vJ z158, s_, vD c174_z104_2, s_, vJ z189, s_, vJ z196, s_, vD FP.dconst0, s_, vD z270, s_, vD z277, s_, vD z284, s_] [(.double z277), (.double c174_z104_2)])) _
            refine XS.dcmpS X68.here hx rfl (hb hby at_307) rfl hz307 ?_
            exact k
          by_cases hb308 : z307 < (0 : Int32)
          · skip
            have c75 : ∀ t, Steps p.tables e below (T68.setTop (mkF m 324 #[vI p0, vI p1, vI p2, vI p3, vI (2 : Int32), vI z14, vI z25, vI z32, vI z43, vI (0 : Int32), vI (0 : Int32), vR b45, vR b47, vJ z158, s_, vD c174_z104_2, s_, vJ z189, s_, vJ z196, s_, vD FP.dconst0, s_, vD z270, s_, vD z277, s_, vD z284, s_] [(.int (1 : Int32))])) t → Steps p.tables e below (s₁.setTop (entryFrame m #[(.int p0), (.int p1), (.int p2), (.int p3)] maxLocals)) t := by
              intro t k
              refine c74 t ?_
              show Steps p.tables e below (T68.setTop (mkF m 308 #[vI p0, vI p1, vI p2, vI p3, vI (2 : Int32), vI z14, vI z25, vI z32, vI z43, vI (0 : Int32), vI (0 : Int32), vR b45, vR b47, vJ z158, s_, vD c174_z104_2, s_, vJ z189, s_, vJ z196, s_, vD FP.dconst0, s_, vD z270, s_, vD z277, s_, vD z284, s_] [(.int z307)])) _
              refine XS.ifYes X68.here hx rfl (pc0 := 308) (pc' := 319) rfl (hb hby at_308) rfl (Jvm.Free.XT.i0_lt_t hb308) (by decide) (by decide) ?_
              show Steps p.tables e below (T68.setTop (mkF m 319 #[vI p0, vI p1, vI p2, vI p3, vI (2 : Int32), vI z14, vI z25, vI z32, vI z43, vI (0 : Int32), vI (0 : Int32), vR b45, vR b47, vJ z158, s_, vD c174_z104_2, s_, vJ z189, s_, vJ z196, s_, vD FP.dconst0, s_, vD z270, s_, vD z277, s_, vD z284, s_] [])) _
              refine XS.iconst X68.here hx rfl (hb hby at_319) ?_
              show Steps p.tables e below (T68.setTop (mkF m 320 #[vI p0, vI p1, vI p2, vI p3, vI (2 : Int32), vI z14, vI z25, vI z32, vI z43, vI (0 : Int32), vI (0 : Int32), vR b45, vR b47, vJ z158, s_, vD c174_z104_2, s_, vJ z189, s_, vJ z196, s_, vD FP.dconst0, s_, vD z270, s_, vD z277, s_, vD z284, s_] [(.int (1 : Int32))])) _
              refine XS.goto X68.here hx rfl (pc0 := 320) (pc' := 324) rfl (hb hby at_320) (by decide) (by decide) ?_
              exact k
            obtain ⟨fs, hr, hrun, hended, hW, hsame⟩ := X68.leave (v := some (.int (1 : Int32))) (fun h => by rw [Bd.returns] at h; cases h)
            refine ⟨_, _, c75 _ ?_, hrun, hended, _, _, rfl, ?_, ⟨_, rfl⟩, hW, hsame.mono (by decide) (by decide)⟩
            · show Steps p.tables e below (T68.setTop (mkF m 324 #[vI p0, vI p1, vI p2, vI p3, vI (2 : Int32), vI z14, vI z25, vI z32, vI z43, vI (0 : Int32), vI (0 : Int32), vR b45, vR b47, vJ z158, s_, vD c174_z104_2, s_, vJ z189, s_, vJ z196, s_, vD FP.dconst0, s_, vD z270, s_, vD z277, s_, vD z284, s_] [(.int (1 : Int32))])) _
              exact retOut X68 hx Bd.returns rfl (Or.inl ⟨rfl, by simp, _, rfl⟩) (hb hby at_324) hr
            · show Q0 n0 _ T68.heap _
              rw [e68]
              exact ⟨rfl, by first | assumption | exact N0⟩
          · skip
            obtain ⟨z315, hz315⟩ : ∃ z : Int32, cmpValue (FP.dcmp c174_z104_2 z277) .l = z := ⟨_, rfl⟩
            have br316 := cmpF fs fh hi1 hz307 hz315 hb308
            have c76 : ∀ t, Steps p.tables e below (T68.setTop (mkF m 324 #[vI p0, vI p1, vI p2, vI p3, vI (2 : Int32), vI z14, vI z25, vI z32, vI z43, vI (0 : Int32), vI (0 : Int32), vR b45, vR b47, vJ z158, s_, vD c174_z104_2, s_, vJ z189, s_, vJ z196, s_, vD FP.dconst0, s_, vD z270, s_, vD z277, s_, vD z284, s_] [(.int (1 : Int32))])) t → Steps p.tables e below (s₁.setTop (entryFrame m #[(.int p0), (.int p1), (.int p2), (.int p3)] maxLocals)) t := by
              intro t k
              refine c74 t ?_
              show Steps p.tables e below (T68.setTop (mkF m 308 #[vI p0, vI p1, vI p2, vI p3, vI (2 : Int32), vI z14, vI z25, vI z32, vI z43, vI (0 : Int32), vI (0 : Int32), vR b45, vR b47, vJ z158, s_, vD c174_z104_2, s_, vJ z189, s_, vJ z196, s_, vD FP.dconst0, s_, vD z270, s_, vD z277, s_, vD z284, s_] [(.int z307)])) _
              refine XS.ifNo X68.here hx rfl (hb hby at_308) rfl (Jvm.Free.XT.i0_lt_f hb308) ?_
              show Steps p.tables e below (T68.setTop (mkF m 311 #[vI p0, vI p1, vI p2, vI p3, vI (2 : Int32), vI z14, vI z25, vI z32, vI z43, vI (0 : Int32), vI (0 : Int32), vR b45, vR b47, vJ z158, s_, vD c174_z104_2, s_, vJ z189, s_, vJ z196, s_, vD FP.dconst0, s_, vD z270, s_, vD z277, s_, vD z284, s_] [])) _
              refine XS.dload X68.here hx rfl (hb hby at_311) rfl ?_
              show Steps p.tables e below (T68.setTop (mkF m 313 #[vI p0, vI p1, vI p2, vI p3, vI (2 : Int32), vI z14, vI z25, vI z32, vI z43, vI (0 : Int32), vI (0 : Int32), vR b45, vR b47, vJ z158, s_, vD c174_z104_2, s_, vJ z189, s_, vJ z196, s_, vD FP.dconst0, s_, vD z270, s_, vD z277, s_, vD z284, s_] [(.double c174_z104_2)])) _
              refine XS.dload X68.here hx rfl (hb hby at_313) rfl ?_
              show Steps p.tables e below (T68.setTop (mkF m 315 #[vI p0, vI p1, vI p2, vI p3, vI (2 : Int32), vI z14, vI z25, vI z32, vI z43, vI (0 : Int32), vI (0 : Int32), vR b45, vR b47, vJ z158, s_, vD c174_z104_2, s_, vJ z189, s_, vJ z196, s_, vD FP.dconst0, s_, vD z270, s_, vD z277, s_, vD z284, s_] [(.double z277), (.double c174_z104_2)])) _
              refine XS.dcmpS X68.here hx rfl (hb hby at_315) rfl hz315 ?_
              show Steps p.tables e below (T68.setTop (mkF m 316 #[vI p0, vI p1, vI p2, vI p3, vI (2 : Int32), vI z14, vI z25, vI z32, vI z43, vI (0 : Int32), vI (0 : Int32), vR b45, vR b47, vJ z158, s_, vD c174_z104_2, s_, vJ z189, s_, vJ z196, s_, vD FP.dconst0, s_, vD z270, s_, vD z277, s_, vD z284, s_] [(.int z315)])) _
              refine XS.ifNo X68.here hx rfl (hb hby at_316) rfl (Jvm.Free.XT.i0_ne_f br316) ?_
              show Steps p.tables e below (T68.setTop (mkF m 319 #[vI p0, vI p1, vI p2, vI p3, vI (2 : Int32), vI z14, vI z25, vI z32, vI z43, vI (0 : Int32), vI (0 : Int32), vR b45, vR b47, vJ z158, s_, vD c174_z104_2, s_, vJ z189, s_, vJ z196, s_, vD FP.dconst0, s_, vD z270, s_, vD z277, s_, vD z284, s_] [])) _
              refine XS.iconst X68.here hx rfl (hb hby at_319) ?_
              show Steps p.tables e below (T68.setTop (mkF m 320 #[vI p0, vI p1, vI p2, vI p3, vI (2 : Int32), vI z14, vI z25, vI z32, vI z43, vI (0 : Int32), vI (0 : Int32), vR b45, vR b47, vJ z158, s_, vD c174_z104_2, s_, vJ z189, s_, vJ z196, s_, vD FP.dconst0, s_, vD z270, s_, vD z277, s_, vD z284, s_] [(.int (1 : Int32))])) _
              refine XS.goto X68.here hx rfl (pc0 := 320) (pc' := 324) rfl (hb hby at_320) (by decide) (by decide) ?_
              exact k
            obtain ⟨fs, hr, hrun, hended, hW, hsame⟩ := X68.leave (v := some (.int (1 : Int32))) (fun h => by rw [Bd.returns] at h; cases h)
            refine ⟨_, _, c76 _ ?_, hrun, hended, _, _, rfl, ?_, ⟨_, rfl⟩, hW, hsame.mono (by decide) (by decide)⟩
            · show Steps p.tables e below (T68.setTop (mkF m 324 #[vI p0, vI p1, vI p2, vI p3, vI (2 : Int32), vI z14, vI z25, vI z32, vI z43, vI (0 : Int32), vI (0 : Int32), vR b45, vR b47, vJ z158, s_, vD c174_z104_2, s_, vJ z189, s_, vJ z196, s_, vD FP.dconst0, s_, vD z270, s_, vD z277, s_, vD z284, s_] [(.int (1 : Int32))])) _
              exact retOut X68 hx Bd.returns rfl (Or.inl ⟨rfl, by simp, _, rfl⟩) (hb hby at_324) hr
            · show Q0 n0 _ T68.heap _
              rw [e68]
              exact ⟨rfl, by first | assumption | exact N0⟩
      · skip
        obtain ⟨z212, hz212⟩ : ∃ z : Int32, lcmpW z196 (0 : Int64) = z := ⟨_, rfl⟩
        have c77 : ∀ t, Steps p.tables e below (T68.setTop (mkF m 213 #[vI p0, vI p1, vI p2, vI p3, vI (2 : Int32), vI z14, vI z25, vI z32, vI z43, vI (0 : Int32), vI (0 : Int32), vR b45, vR b47, vJ z158, s_, vD c174_z104_2, s_, vJ z189, s_, vJ z196, s_, vD FP.dconst0, s_, u_, u_, u_, u_, u_, u_] [(.int z212)])) t → Steps p.tables e below (s₁.setTop (entryFrame m #[(.int p0), (.int p1), (.int p2), (.int p3)] maxLocals)) t := by
          intro t k
          refine c69 t ?_
          show Steps p.tables e below (T68.setTop (mkF m 206 #[vI p0, vI p1, vI p2, vI p3, vI (2 : Int32), vI z14, vI z25, vI z32, vI z43, vI (0 : Int32), vI (0 : Int32), vR b45, vR b47, vJ z158, s_, vD c174_z104_2, s_, vJ z189, s_, vJ z196, s_, vD FP.dconst0, s_, u_, u_, u_, u_, u_, u_] [(.int z205)])) _
          refine XS.ifNo X68.here hx rfl (hb hby at_206) rfl (Jvm.Free.XT.i0_eq_f hb206) ?_
          show Steps p.tables e below (T68.setTop (mkF m 209 #[vI p0, vI p1, vI p2, vI p3, vI (2 : Int32), vI z14, vI z25, vI z32, vI z43, vI (0 : Int32), vI (0 : Int32), vR b45, vR b47, vJ z158, s_, vD c174_z104_2, s_, vJ z189, s_, vJ z196, s_, vD FP.dconst0, s_, u_, u_, u_, u_, u_, u_] [])) _
          refine XS.lload X68.here hx rfl (hb hby at_209) rfl ?_
          show Steps p.tables e below (T68.setTop (mkF m 211 #[vI p0, vI p1, vI p2, vI p3, vI (2 : Int32), vI z14, vI z25, vI z32, vI z43, vI (0 : Int32), vI (0 : Int32), vR b45, vR b47, vJ z158, s_, vD c174_z104_2, s_, vJ z189, s_, vJ z196, s_, vD FP.dconst0, s_, u_, u_, u_, u_, u_, u_] [(.long z196)])) _
          refine XS.lconst X68.here hx rfl (hb hby at_211) ?_
          show Steps p.tables e below (T68.setTop (mkF m 212 #[vI p0, vI p1, vI p2, vI p3, vI (2 : Int32), vI z14, vI z25, vI z32, vI z43, vI (0 : Int32), vI (0 : Int32), vR b45, vR b47, vJ z158, s_, vD c174_z104_2, s_, vJ z189, s_, vJ z196, s_, vD FP.dconst0, s_, u_, u_, u_, u_, u_, u_] [(.long (0 : Int64)), (.long z196)])) _
          refine Jvm.OwnK.lcmp X68.here hx rfl (hb hby at_212) rfl hz212 ?_
          exact k
        by_cases hb213 : z212 = (0 : Int32)
        · skip
          obtain ⟨z270, hz270⟩ : ∃ z : UInt64, FP.dmul FP.dconst0 (4517329193108106637 : UInt64) = z := ⟨_, rfl⟩
          obtain ⟨z277, hz277⟩ : ∃ z : UInt64, FP.dadd FP.dconst0 z270 = z := ⟨_, rfl⟩
          obtain ⟨z284, hz284⟩ : ∃ z : UInt64, FP.dsub FP.dconst0 z270 = z := ⟨_, rfl⟩
          obtain ⟨z291, hz291⟩ : ∃ z : Int32, cmpValue (FP.dcmp z284 c174_z104_2) .g = z := ⟨_, rfl⟩
          have lz : z196.toInt = 0 := by have := (lw_eq _ _).mp (hz212.trans hb213); rw [this]; exact z00
          have dz0 : z25.toInt * c174_z21_2.toInt - c174_z30_2.toInt * z14.toInt = 0 := by
            rw [show z25.toInt = z14.toInt by omega, show c174_z30_2.toInt = c174_z21_2.toInt by omega, Int.mul_comm]; omega
          have dz1 : z43.toInt * c174_z21_2.toInt - c174_z30_2.toInt * z32.toInt = 0 := by
            rw [show z43.toInt = z32.toInt by omega, show c174_z30_2.toInt = c174_z21_2.toInt by omega, Int.mul_comm]; omega
          have aS := acc1
          rw [dz0] at aS
          rw [dz1] at aS
          simp only [Int.zero_mul, Int.add_zero] at aS
          obtain ⟨nn270, nn277, nn284, fs, fh, fl, lo1, hi1⟩ := Jvm.OwnF.finR hQb (by decide) (aS.mono (by decide)) (Jvm.OwnF.Acc.zero 5 _) hz270 hz277 hz284
          have c78 : ∀ t, Steps p.tables e below (T68.setTop (mkF m 292 #[vI p0, vI p1, vI p2, vI p3, vI (2 : Int32), vI z14, vI z25, vI z32, vI z43, vI (0 : Int32), vI (0 : Int32), vR b45, vR b47, vJ z158, s_, vD c174_z104_2, s_, vJ z189, s_, vJ z196, s_, vD FP.dconst0, s_, vD z270, s_, vD z277, s_, vD z284, s_] [(.int z291)])) t → Steps p.tables e below (s₁.setTop (entryFrame m #[(.int p0), (.int p1), (.int p2), (.int p3)] maxLocals)) t := by
            intro t k
            refine c77 t ?_
            show Steps p.tables e below (T68.setTop (mkF m 213 #[vI p0, vI p1, vI p2, vI p3, vI (2 : Int32), vI z14, vI z25, vI z32, vI z43, vI (0 : Int32), vI (0 : Int32), vR b45, vR b47, vJ z158, s_, vD c174_z104_2, s_, vJ z189, s_, vJ z196, s_, vD FP.dconst0, s_, u_, u_, u_, u_, u_, u_] [(.int z212)])) _
            refine XS.ifYes X68.here hx rfl (pc0 := 213) (pc' := 265) rfl (hb hby at_213) rfl (Jvm.Free.XT.i0_eq_t hb213) (by decide) (by decide) ?_
            show Steps p.tables e below (T68.setTop (mkF m 265 #[vI p0, vI p1, vI p2, vI p3, vI (2 : Int32), vI z14, vI z25, vI z32, vI z43, vI (0 : Int32), vI (0 : Int32), vR b45, vR b47, vJ z158, s_, vD c174_z104_2, s_, vJ z189, s_, vJ z196, s_, vD FP.dconst0, s_, u_, u_, u_, u_, u_, u_] [])) _
            refine XS.dload X68.here hx rfl (hb hby at_265) rfl ?_
            show Steps p.tables e below (T68.setTop (mkF m 267 #[vI p0, vI p1, vI p2, vI p3, vI (2 : Int32), vI z14, vI z25, vI z32, vI z43, vI (0 : Int32), vI (0 : Int32), vR b45, vR b47, vJ z158, s_, vD c174_z104_2, s_, vJ z189, s_, vJ z196, s_, vD FP.dconst0, s_, u_, u_, u_, u_, u_, u_] [(.double FP.dconst0)])) _
            refine X68.ldc2DoubleC hx hown (mvT hZ (hw _ (List.mem_of_getElem? (i := 9) rfl))) (g := (mkF m 267 #[vI p0, vI p1, vI p2, vI p3, vI (2 : Int32), vI z14, vI z25, vI z32, vI z43, vI (0 : Int32), vI (0 : Int32), vR b45, vR b47, vJ z158, s_, vD c174_z104_2, s_, vJ z189, s_, vJ z196, s_, vD FP.dconst0, s_, u_, u_, u_, u_, u_, u_] [(.double FP.dconst0)])) rfl (hb hby at_267) _ ?_
            show Steps p.tables e below (T68.setTop (mkF m 270 #[vI p0, vI p1, vI p2, vI p3, vI (2 : Int32), vI z14, vI z25, vI z32, vI z43, vI (0 : Int32), vI (0 : Int32), vR b45, vR b47, vJ z158, s_, vD c174_z104_2, s_, vJ z189, s_, vJ z196, s_, vD FP.dconst0, s_, u_, u_, u_, u_, u_, u_] [(.double (4517329193108106637 : UInt64)), (.double FP.dconst0)])) _
            refine Jvm.OwnK.dmul X68.here hx rfl (hb hby at_270) rfl hz270 nn270 ?_
            show Steps p.tables e below (T68.setTop (mkF m 271 #[vI p0, vI p1, vI p2, vI p3, vI (2 : Int32), vI z14, vI z25, vI z32, vI z43, vI (0 : Int32), vI (0 : Int32), vR b45, vR b47, vJ z158, s_, vD c174_z104_2, s_, vJ z189, s_, vJ z196, s_, vD FP.dconst0, s_, u_, u_, u_, u_, u_, u_] [(.double z270)])) _
            refine XS.dstore X68.here hx rfl (hb hby at_271) rfl (l' := #[vI p0, vI p1, vI p2, vI p3, vI (2 : Int32), vI z14, vI z25, vI z32, vI z43, vI (0 : Int32), vI (0 : Int32), vR b45, vR b47, vJ z158, s_, vD c174_z104_2, s_, vJ z189, s_, vJ z196, s_, vD FP.dconst0, s_, vD z270, s_, u_, u_, u_, u_]) rfl ?_
            show Steps p.tables e below (T68.setTop (mkF m 273 #[vI p0, vI p1, vI p2, vI p3, vI (2 : Int32), vI z14, vI z25, vI z32, vI z43, vI (0 : Int32), vI (0 : Int32), vR b45, vR b47, vJ z158, s_, vD c174_z104_2, s_, vJ z189, s_, vJ z196, s_, vD FP.dconst0, s_, vD z270, s_, u_, u_, u_, u_] [])) _
            refine XS.dload X68.here hx rfl (hb hby at_273) rfl ?_
            show Steps p.tables e below (T68.setTop (mkF m 275 #[vI p0, vI p1, vI p2, vI p3, vI (2 : Int32), vI z14, vI z25, vI z32, vI z43, vI (0 : Int32), vI (0 : Int32), vR b45, vR b47, vJ z158, s_, vD c174_z104_2, s_, vJ z189, s_, vJ z196, s_, vD FP.dconst0, s_, vD z270, s_, u_, u_, u_, u_] [(.double FP.dconst0)])) _
            refine XS.dload X68.here hx rfl (hb hby at_275) rfl ?_
            show Steps p.tables e below (T68.setTop (mkF m 277 #[vI p0, vI p1, vI p2, vI p3, vI (2 : Int32), vI z14, vI z25, vI z32, vI z43, vI (0 : Int32), vI (0 : Int32), vR b45, vR b47, vJ z158, s_, vD c174_z104_2, s_, vJ z189, s_, vJ z196, s_, vD FP.dconst0, s_, vD z270, s_, u_, u_, u_, u_] [(.double z270), (.double FP.dconst0)])) _
            refine Jvm.OwnK.dadd X68.here hx rfl (hb hby at_277) rfl hz277 nn277 ?_
            show Steps p.tables e below (T68.setTop (mkF m 278 #[vI p0, vI p1, vI p2, vI p3, vI (2 : Int32), vI z14, vI z25, vI z32, vI z43, vI (0 : Int32), vI (0 : Int32), vR b45, vR b47, vJ z158, s_, vD c174_z104_2, s_, vJ z189, s_, vJ z196, s_, vD FP.dconst0, s_, vD z270, s_, u_, u_, u_, u_] [(.double z277)])) _
            refine XS.dstore X68.here hx rfl (hb hby at_278) rfl (l' := #[vI p0, vI p1, vI p2, vI p3, vI (2 : Int32), vI z14, vI z25, vI z32, vI z43, vI (0 : Int32), vI (0 : Int32), vR b45, vR b47, vJ z158, s_, vD c174_z104_2, s_, vJ z189, s_, vJ z196, s_, vD FP.dconst0, s_, vD z270, s_, vD z277, s_, u_, u_]) rfl ?_
            show Steps p.tables e below (T68.setTop (mkF m 280 #[vI p0, vI p1, vI p2, vI p3, vI (2 : Int32), vI z14, vI z25, vI z32, vI z43, vI (0 : Int32), vI (0 : Int32), vR b45, vR b47, vJ z158, s_, vD c174_z104_2, s_, vJ z189, s_, vJ z196, s_, vD FP.dconst0, s_, vD z270, s_, vD z277, s_, u_, u_] [])) _
            refine XS.dload X68.here hx rfl (hb hby at_280) rfl ?_
            show Steps p.tables e below (T68.setTop (mkF m 282 #[vI p0, vI p1, vI p2, vI p3, vI (2 : Int32), vI z14, vI z25, vI z32, vI z43, vI (0 : Int32), vI (0 : Int32), vR b45, vR b47, vJ z158, s_, vD c174_z104_2, s_, vJ z189, s_, vJ z196, s_, vD FP.dconst0, s_, vD z270, s_, vD z277, s_, u_, u_] [(.double FP.dconst0)])) _
            refine XS.dload X68.here hx rfl (hb hby at_282) rfl ?_
            show Steps p.tables e below (T68.setTop (mkF m 284 #[vI p0, vI p1, vI p2, vI p3, vI (2 : Int32), vI z14, vI z25, vI z32, vI z43, vI (0 : Int32), vI (0 : Int32), vR b45, vR b47, vJ z158, s_, vD c174_z104_2, s_, vJ z189, s_, vJ z196, s_, vD FP.dconst0, s_, vD z270, s_, vD z277, s_, u_, u_] [(.double z270), (.double FP.dconst0)])) _
            refine Jvm.OwnK.dsub X68.here hx rfl (hb hby at_284) rfl hz284 nn284 ?_
            show Steps p.tables e below (T68.setTop (mkF m 285 #[vI p0, vI p1, vI p2, vI p3, vI (2 : Int32), vI z14, vI z25, vI z32, vI z43, vI (0 : Int32), vI (0 : Int32), vR b45, vR b47, vJ z158, s_, vD c174_z104_2, s_, vJ z189, s_, vJ z196, s_, vD FP.dconst0, s_, vD z270, s_, vD z277, s_, u_, u_] [(.double z284)])) _
            refine XS.dstore X68.here hx rfl (hb hby at_285) rfl (l' := #[vI p0, vI p1, vI p2, vI p3, vI (2 : Int32), vI z14, vI z25, vI z32, vI z43, vI (0 : Int32), vI (0 : Int32), vR b45, vR b47, vJ z158, s_, vD c174_z104_2, s_, vJ z189, s_, vJ z196, s_, vD FP.dconst0, s_, vD z270, s_, vD z277, s_, vD z284, s_]) rfl ?_
            show Steps p.tables e below (T68.setTop (mkF m 287 #[vI p0, vI p1, vI p2, vI p3, vI (2 : Int32), vI z14, vI z25, vI z32, vI z43, vI (0 : Int32), vI (0 : Int32), vR b45, vR b47, vJ z158, s_, vD c174_z104_2, s_, vJ z189, s_, vJ z196, s_, vD FP.dconst0, s_, vD z270, s_, vD z277, s_, vD z284, s_] [])) _
            refine XS.dload X68.here hx rfl (hb hby at_287) rfl ?_
            show Steps p.tables e below (T68.setTop (mkF m 289 #[vI p0, vI p1, vI p2, vI p3, vI (2 : Int32), vI z14, vI z25, vI z32, vI z43, vI (0 : Int32), vI (0 : Int32), vR b45, vR b47, vJ z158, s_, vD c174_z104_2, s_, vJ z189, s_, vJ z196, s_, vD FP.dconst0, s_, vD z270, s_, vD z277, s_, vD z284, s_] [(.double z284)])) _
            refine XS.dload X68.here hx rfl (hb hby at_289) rfl ?_
            show Steps p.tables e below (T68.setTop (mkF m 291 #[vI p0, vI p1, vI p2, vI p3, vI (2 : Int32), vI z14, vI z25, vI z32, vI z43, vI (0 : Int32), vI (0 : Int32), vR b45, vR b47, vJ z158, s_, vD c174_z104_2, s_, vJ z189, s_, vJ z196, s_, vD FP.dconst0, s_, vD z270, s_, vD z277, s_, vD z284, s_] [(.double c174_z104_2), (.double z284)])) _
            refine XS.dcmpS X68.here hx rfl (hb hby at_291) rfl hz291 ?_
            exact k
          by_cases hb292 : z291 < (0 : Int32)
          · skip
            obtain ⟨z307, hz307⟩ : ∃ z : Int32, cmpValue (FP.dcmp c174_z104_2 z277) .g = z := ⟨_, rfl⟩
            have c79 : ∀ t, Steps p.tables e below (T68.setTop (mkF m 308 #[vI p0, vI p1, vI p2, vI p3, vI (2 : Int32), vI z14, vI z25, vI z32, vI z43, vI (0 : Int32), vI (0 : Int32), vR b45, vR b47, vJ z158, s_, vD c174_z104_2, s_, vJ z189, s_, vJ z196, s_, vD FP.dconst0, s_, vD z270, s_, vD z277, s_, vD z284, s_] [(.int z307)])) t → Steps p.tables e below (s₁.setTop (entryFrame m #[(.int p0), (.int p1), (.int p2), (.int p3)] maxLocals)) t := by
              intro t k
              refine c78 t ?_
              show Steps p.tables e below (T68.setTop (mkF m 292 #[vI p0, vI p1, vI p2, vI p3, vI (2 : Int32), vI z14, vI z25, vI z32, vI z43, vI (0 : Int32), vI (0 : Int32), vR b45, vR b47, vJ z158, s_, vD c174_z104_2, s_, vJ z189, s_, vJ z196, s_, vD FP.dconst0, s_, vD z270, s_, vD z277, s_, vD z284, s_] [(.int z291)])) _
              refine XS.ifYes X68.here hx rfl (pc0 := 292) (pc' := 303) rfl (hb hby at_292) rfl (Jvm.Free.XT.i0_lt_t hb292) (by decide) (by decide) ?_
              show Steps p.tables e below (T68.setTop (mkF m 303 #[vI p0, vI p1, vI p2, vI p3, vI (2 : Int32), vI z14, vI z25, vI z32, vI z43, vI (0 : Int32), vI (0 : Int32), vR b45, vR b47, vJ z158, s_, vD c174_z104_2, s_, vJ z189, s_, vJ z196, s_, vD FP.dconst0, s_, vD z270, s_, vD z277, s_, vD z284, s_] [])) _
              refine XS.dload X68.here hx rfl (hb hby at_303) rfl ?_
              show Steps p.tables e below (T68.setTop (mkF m 305 #[vI p0, vI p1, vI p2, vI p3, vI (2 : Int32), vI z14, vI z25, vI z32, vI z43, vI (0 : Int32), vI (0 : Int32), vR b45, vR b47, vJ z158, s_, vD c174_z104_2, s_, vJ z189, s_, vJ z196, s_, vD FP.dconst0, s_, vD z270, s_, vD z277, s_, vD z284, s_] [(.double c174_z104_2)])) _
              refine XS.dload X68.here hx rfl (hb hby at_305) rfl ?_
              show Steps p.tables e below (T68.setTop (mkF m 307 #[vI p0, vI p1, vI p2, vI p3, vI (2 : Int32), vI z14, vI z25, vI z32, vI z43, vI (0 : Int32), vI (0 : Int32), vR b45, vR b47, vJ z158, s_, vD c174_z104_2, s_, vJ z189, s_, vJ z196, s_, vD FP.dconst0, s_, vD z270, s_, vD z277, s_, vD z284, s_] [(.double z277), (.double c174_z104_2)])) _
              refine XS.dcmpS X68.here hx rfl (hb hby at_307) rfl hz307 ?_
              exact k
            by_cases hb308 : z307 < (0 : Int32)
            · skip
              have c80 : ∀ t, Steps p.tables e below (T68.setTop (mkF m 324 #[vI p0, vI p1, vI p2, vI p3, vI (2 : Int32), vI z14, vI z25, vI z32, vI z43, vI (0 : Int32), vI (0 : Int32), vR b45, vR b47, vJ z158, s_, vD c174_z104_2, s_, vJ z189, s_, vJ z196, s_, vD FP.dconst0, s_, vD z270, s_, vD z277, s_, vD z284, s_] [(.int (1 : Int32))])) t → Steps p.tables e below (s₁.setTop (entryFrame m #[(.int p0), (.int p1), (.int p2), (.int p3)] maxLocals)) t := by
                intro t k
                refine c79 t ?_
                show Steps p.tables e below (T68.setTop (mkF m 308 #[vI p0, vI p1, vI p2, vI p3, vI (2 : Int32), vI z14, vI z25, vI z32, vI z43, vI (0 : Int32), vI (0 : Int32), vR b45, vR b47, vJ z158, s_, vD c174_z104_2, s_, vJ z189, s_, vJ z196, s_, vD FP.dconst0, s_, vD z270, s_, vD z277, s_, vD z284, s_] [(.int z307)])) _
                refine XS.ifYes X68.here hx rfl (pc0 := 308) (pc' := 319) rfl (hb hby at_308) rfl (Jvm.Free.XT.i0_lt_t hb308) (by decide) (by decide) ?_
                show Steps p.tables e below (T68.setTop (mkF m 319 #[vI p0, vI p1, vI p2, vI p3, vI (2 : Int32), vI z14, vI z25, vI z32, vI z43, vI (0 : Int32), vI (0 : Int32), vR b45, vR b47, vJ z158, s_, vD c174_z104_2, s_, vJ z189, s_, vJ z196, s_, vD FP.dconst0, s_, vD z270, s_, vD z277, s_, vD z284, s_] [])) _
                refine XS.iconst X68.here hx rfl (hb hby at_319) ?_
                show Steps p.tables e below (T68.setTop (mkF m 320 #[vI p0, vI p1, vI p2, vI p3, vI (2 : Int32), vI z14, vI z25, vI z32, vI z43, vI (0 : Int32), vI (0 : Int32), vR b45, vR b47, vJ z158, s_, vD c174_z104_2, s_, vJ z189, s_, vJ z196, s_, vD FP.dconst0, s_, vD z270, s_, vD z277, s_, vD z284, s_] [(.int (1 : Int32))])) _
                refine XS.goto X68.here hx rfl (pc0 := 320) (pc' := 324) rfl (hb hby at_320) (by decide) (by decide) ?_
                exact k
              obtain ⟨fs, hr, hrun, hended, hW, hsame⟩ := X68.leave (v := some (.int (1 : Int32))) (fun h => by rw [Bd.returns] at h; cases h)
              refine ⟨_, _, c80 _ ?_, hrun, hended, _, _, rfl, ?_, ⟨_, rfl⟩, hW, hsame.mono (by decide) (by decide)⟩
              · show Steps p.tables e below (T68.setTop (mkF m 324 #[vI p0, vI p1, vI p2, vI p3, vI (2 : Int32), vI z14, vI z25, vI z32, vI z43, vI (0 : Int32), vI (0 : Int32), vR b45, vR b47, vJ z158, s_, vD c174_z104_2, s_, vJ z189, s_, vJ z196, s_, vD FP.dconst0, s_, vD z270, s_, vD z277, s_, vD z284, s_] [(.int (1 : Int32))])) _
                exact retOut X68 hx Bd.returns rfl (Or.inl ⟨rfl, by simp, _, rfl⟩) (hb hby at_324) hr
              · show Q0 n0 _ T68.heap _
                rw [e68]
                exact ⟨rfl, by first | assumption | exact N0⟩
            · skip
              obtain ⟨z315, hz315⟩ : ∃ z : Int32, cmpValue (FP.dcmp c174_z104_2 z277) .l = z := ⟨_, rfl⟩
              have br316 := cmpF fs fh hi1 hz307 hz315 hb308
              have c81 : ∀ t, Steps p.tables e below (T68.setTop (mkF m 324 #[vI p0, vI p1, vI p2, vI p3, vI (2 : Int32), vI z14, vI z25, vI z32, vI z43, vI (0 : Int32), vI (0 : Int32), vR b45, vR b47, vJ z158, s_, vD c174_z104_2, s_, vJ z189, s_, vJ z196, s_, vD FP.dconst0, s_, vD z270, s_, vD z277, s_, vD z284, s_] [(.int (1 : Int32))])) t → Steps p.tables e below (s₁.setTop (entryFrame m #[(.int p0), (.int p1), (.int p2), (.int p3)] maxLocals)) t := by
                intro t k
                refine c79 t ?_
                show Steps p.tables e below (T68.setTop (mkF m 308 #[vI p0, vI p1, vI p2, vI p3, vI (2 : Int32), vI z14, vI z25, vI z32, vI z43, vI (0 : Int32), vI (0 : Int32), vR b45, vR b47, vJ z158, s_, vD c174_z104_2, s_, vJ z189, s_, vJ z196, s_, vD FP.dconst0, s_, vD z270, s_, vD z277, s_, vD z284, s_] [(.int z307)])) _
                refine XS.ifNo X68.here hx rfl (hb hby at_308) rfl (Jvm.Free.XT.i0_lt_f hb308) ?_
                show Steps p.tables e below (T68.setTop (mkF m 311 #[vI p0, vI p1, vI p2, vI p3, vI (2 : Int32), vI z14, vI z25, vI z32, vI z43, vI (0 : Int32), vI (0 : Int32), vR b45, vR b47, vJ z158, s_, vD c174_z104_2, s_, vJ z189, s_, vJ z196, s_, vD FP.dconst0, s_, vD z270, s_, vD z277, s_, vD z284, s_] [])) _
                refine XS.dload X68.here hx rfl (hb hby at_311) rfl ?_
                show Steps p.tables e below (T68.setTop (mkF m 313 #[vI p0, vI p1, vI p2, vI p3, vI (2 : Int32), vI z14, vI z25, vI z32, vI z43, vI (0 : Int32), vI (0 : Int32), vR b45, vR b47, vJ z158, s_, vD c174_z104_2, s_, vJ z189, s_, vJ z196, s_, vD FP.dconst0, s_, vD z270, s_, vD z277, s_, vD z284, s_] [(.double c174_z104_2)])) _
                refine XS.dload X68.here hx rfl (hb hby at_313) rfl ?_
                show Steps p.tables e below (T68.setTop (mkF m 315 #[vI p0, vI p1, vI p2, vI p3, vI (2 : Int32), vI z14, vI z25, vI z32, vI z43, vI (0 : Int32), vI (0 : Int32), vR b45, vR b47, vJ z158, s_, vD c174_z104_2, s_, vJ z189, s_, vJ z196, s_, vD FP.dconst0, s_, vD z270, s_, vD z277, s_, vD z284, s_] [(.double z277), (.double c174_z104_2)])) _
                refine XS.dcmpS X68.here hx rfl (hb hby at_315) rfl hz315 ?_
                show Steps p.tables e below (T68.setTop (mkF m 316 #[vI p0, vI p1, vI p2, vI p3, vI (2 : Int32), vI z14, vI z25, vI z32, vI z43, vI (0 : Int32), vI (0 : Int32), vR b45, vR b47, vJ z158, s_, vD c174_z104_2, s_, vJ z189, s_, vJ z196, s_, vD FP.dconst0, s_, vD z270, s_, vD z277, s_, vD z284, s_] [(.int z315)])) _
                refine XS.ifNo X68.here hx rfl (hb hby at_316) rfl (Jvm.Free.XT.i0_ne_f br316) ?_
                show Steps p.tables e below (T68.setTop (mkF m 319 #[vI p0, vI p1, vI p2, vI p3, vI (2 : Int32), vI z14, vI z25, vI z32, vI z43, vI (0 : Int32), vI (0 : Int32), vR b45, vR b47, vJ z158, s_, vD c174_z104_2, s_, vJ z189, s_, vJ z196, s_, vD FP.dconst0, s_, vD z270, s_, vD z277, s_, vD z284, s_] [])) _
                refine XS.iconst X68.here hx rfl (hb hby at_319) ?_
                show Steps p.tables e below (T68.setTop (mkF m 320 #[vI p0, vI p1, vI p2, vI p3, vI (2 : Int32), vI z14, vI z25, vI z32, vI z43, vI (0 : Int32), vI (0 : Int32), vR b45, vR b47, vJ z158, s_, vD c174_z104_2, s_, vJ z189, s_, vJ z196, s_, vD FP.dconst0, s_, vD z270, s_, vD z277, s_, vD z284, s_] [(.int (1 : Int32))])) _
                refine XS.goto X68.here hx rfl (pc0 := 320) (pc' := 324) rfl (hb hby at_320) (by decide) (by decide) ?_
                exact k
              obtain ⟨fs, hr, hrun, hended, hW, hsame⟩ := X68.leave (v := some (.int (1 : Int32))) (fun h => by rw [Bd.returns] at h; cases h)
              refine ⟨_, _, c81 _ ?_, hrun, hended, _, _, rfl, ?_, ⟨_, rfl⟩, hW, hsame.mono (by decide) (by decide)⟩
              · show Steps p.tables e below (T68.setTop (mkF m 324 #[vI p0, vI p1, vI p2, vI p3, vI (2 : Int32), vI z14, vI z25, vI z32, vI z43, vI (0 : Int32), vI (0 : Int32), vR b45, vR b47, vJ z158, s_, vD c174_z104_2, s_, vJ z189, s_, vJ z196, s_, vD FP.dconst0, s_, vD z270, s_, vD z277, s_, vD z284, s_] [(.int (1 : Int32))])) _
                exact retOut X68 hx Bd.returns rfl (Or.inl ⟨rfl, by simp, _, rfl⟩) (hb hby at_324) hr
              · show Q0 n0 _ T68.heap _
                rw [e68]
                exact ⟨rfl, by first | assumption | exact N0⟩
          · skip
            obtain ⟨z299, hz299⟩ : ∃ z : Int32, cmpValue (FP.dcmp z284 c174_z104_2) .l = z := ⟨_, rfl⟩
            obtain ⟨z307, hz307⟩ : ∃ z : Int32, cmpValue (FP.dcmp c174_z104_2 z277) .g = z := ⟨_, rfl⟩
            have br300 := cmpF fl fs lo1 hz291 hz299 hb292
            have c82 : ∀ t, Steps p.tables e below (T68.setTop (mkF m 308 #[vI p0, vI p1, vI p2, vI p3, vI (2 : Int32), vI z14, vI z25, vI z32, vI z43, vI (0 : Int32), vI (0 : Int32), vR b45, vR b47, vJ z158, s_, vD c174_z104_2, s_, vJ z189, s_, vJ z196, s_, vD FP.dconst0, s_, vD z270, s_, vD z277, s_, vD z284, s_] [(.int z307)])) t → Steps p.tables e below (s₁.setTop (entryFrame m #[(.int p0), (.int p1), (.int p2), (.int p3)] maxLocals)) t := by
              intro t k
              refine c78 t ?_
              show Steps p.tables e below (T68.setTop (mkF m 292 #[vI p0, vI p1, vI p2, vI p3, vI (2 : Int32), vI z14, vI z25, vI z32, vI z43, vI (0 : Int32), vI (0 : Int32), vR b45, vR b47, vJ z158, s_, vD c174_z104_2, s_, vJ z189, s_, vJ z196, s_, vD FP.dconst0, s_, vD z270, s_, vD z277, s_, vD z284, s_] [(.int z291)])) _
              refine XS.ifNo X68.here hx rfl (hb hby at_292) rfl (Jvm.Free.XT.i0_lt_f hb292) ?_
              show Steps p.tables e below (T68.setTop (mkF m 295 #[vI p0, vI p1, vI p2, vI p3, vI (2 : Int32), vI z14, vI z25, vI z32, vI z43, vI (0 : Int32), vI (0 : Int32), vR b45, vR b47, vJ z158, s_, vD c174_z104_2, s_, vJ z189, s_, vJ z196, s_, vD FP.dconst0, s_, vD z270, s_, vD z277, s_, vD z284, s_] [])) _
              refine XS.dload X68.here hx rfl (hb hby at_295) rfl ?_
              show Steps p.tables e below (T68.setTop (mkF m 297 #[vI p0, vI p1, vI p2, vI p3, vI (2 : Int32), vI z14, vI z25, vI z32, vI z43, vI (0 : Int32), vI (0 : Int32), vR b45, vR b47, vJ z158, s_, vD c174_z104_2, s_, vJ z189, s_, vJ z196, s_, vD FP.dconst0, s_, vD z270, s_, vD z277, s_, vD z284, s_] [(.double z284)])) _
              refine XS.dload X68.here hx rfl (hb hby at_297) rfl ?_
              show Steps p.tables e below (T68.setTop (mkF m 299 #[vI p0, vI p1, vI p2, vI p3, vI (2 : Int32), vI z14, vI z25, vI z32, vI z43, vI (0 : Int32), vI (0 : Int32), vR b45, vR b47, vJ z158, s_, vD c174_z104_2, s_, vJ z189, s_, vJ z196, s_, vD FP.dconst0, s_, vD z270, s_, vD z277, s_, vD z284, s_] [(.double c174_z104_2), (.double z284)])) _
              refine XS.dcmpS X68.here hx rfl (hb hby at_299) rfl hz299 ?_
              show Steps p.tables e below (T68.setTop (mkF m 300 #[vI p0, vI p1, vI p2, vI p3, vI (2 : Int32), vI z14, vI z25, vI z32, vI z43, vI (0 : Int32), vI (0 : Int32), vR b45, vR b47, vJ z158, s_, vD c174_z104_2, s_, vJ z189, s_, vJ z196, s_, vD FP.dconst0, s_, vD z270, s_, vD z277, s_, vD z284, s_] [(.int z299)])) _
              refine XS.ifNo X68.here hx rfl (hb hby at_300) rfl (Jvm.Free.XT.i0_ne_f br300) ?_
              show Steps p.tables e below (T68.setTop (mkF m 303 #[vI p0, vI p1, vI p2, vI p3, vI (2 : Int32), vI z14, vI z25, vI z32, vI z43, vI (0 : Int32), vI (0 : Int32), vR b45, vR b47, vJ z158, s_, vD c174_z104_2, s_, vJ z189, s_, vJ z196, s_, vD FP.dconst0, s_, vD z270, s_, vD z277, s_, vD z284, s_] [])) _
              refine XS.dload X68.here hx rfl (hb hby at_303) rfl ?_
              show Steps p.tables e below (T68.setTop (mkF m 305 #[vI p0, vI p1, vI p2, vI p3, vI (2 : Int32), vI z14, vI z25, vI z32, vI z43, vI (0 : Int32), vI (0 : Int32), vR b45, vR b47, vJ z158, s_, vD c174_z104_2, s_, vJ z189, s_, vJ z196, s_, vD FP.dconst0, s_, vD z270, s_, vD z277, s_, vD z284, s_] [(.double c174_z104_2)])) _
              refine XS.dload X68.here hx rfl (hb hby at_305) rfl ?_
              show Steps p.tables e below (T68.setTop (mkF m 307 #[vI p0, vI p1, vI p2, vI p3, vI (2 : Int32), vI z14, vI z25, vI z32, vI z43, vI (0 : Int32), vI (0 : Int32), vR b45, vR b47, vJ z158, s_, vD c174_z104_2, s_, vJ z189, s_, vJ z196, s_, vD FP.dconst0, s_, vD z270, s_, vD z277, s_, vD z284, s_] [(.double z277), (.double c174_z104_2)])) _
              refine XS.dcmpS X68.here hx rfl (hb hby at_307) rfl hz307 ?_
              exact k
            by_cases hb308 : z307 < (0 : Int32)
            · skip
              have c83 : ∀ t, Steps p.tables e below (T68.setTop (mkF m 324 #[vI p0, vI p1, vI p2, vI p3, vI (2 : Int32), vI z14, vI z25, vI z32, vI z43, vI (0 : Int32), vI (0 : Int32), vR b45, vR b47, vJ z158, s_, vD c174_z104_2, s_, vJ z189, s_, vJ z196, s_, vD FP.dconst0, s_, vD z270, s_, vD z277, s_, vD z284, s_] [(.int (1 : Int32))])) t → Steps p.tables e below (s₁.setTop (entryFrame m #[(.int p0), (.int p1), (.int p2), (.int p3)] maxLocals)) t := by
                intro t k
                refine c82 t ?_
                show Steps p.tables e below (T68.setTop (mkF m 308 #[vI p0, vI p1, vI p2, vI p3, vI (2 : Int32), vI z14, vI z25, vI z32, vI z43, vI (0 : Int32), vI (0 : Int32), vR b45, vR b47, vJ z158, s_, vD c174_z104_2, s_, vJ z189, s_, vJ z196, s_, vD FP.dconst0, s_, vD z270, s_, vD z277, s_, vD z284, s_] [(.int z307)])) _
                refine XS.ifYes X68.here hx rfl (pc0 := 308) (pc' := 319) rfl (hb hby at_308) rfl (Jvm.Free.XT.i0_lt_t hb308) (by decide) (by decide) ?_
                show Steps p.tables e below (T68.setTop (mkF m 319 #[vI p0, vI p1, vI p2, vI p3, vI (2 : Int32), vI z14, vI z25, vI z32, vI z43, vI (0 : Int32), vI (0 : Int32), vR b45, vR b47, vJ z158, s_, vD c174_z104_2, s_, vJ z189, s_, vJ z196, s_, vD FP.dconst0, s_, vD z270, s_, vD z277, s_, vD z284, s_] [])) _
                refine XS.iconst X68.here hx rfl (hb hby at_319) ?_
                show Steps p.tables e below (T68.setTop (mkF m 320 #[vI p0, vI p1, vI p2, vI p3, vI (2 : Int32), vI z14, vI z25, vI z32, vI z43, vI (0 : Int32), vI (0 : Int32), vR b45, vR b47, vJ z158, s_, vD c174_z104_2, s_, vJ z189, s_, vJ z196, s_, vD FP.dconst0, s_, vD z270, s_, vD z277, s_, vD z284, s_] [(.int (1 : Int32))])) _
                refine XS.goto X68.here hx rfl (pc0 := 320) (pc' := 324) rfl (hb hby at_320) (by decide) (by decide) ?_
                exact k
              obtain ⟨fs, hr, hrun, hended, hW, hsame⟩ := X68.leave (v := some (.int (1 : Int32))) (fun h => by rw [Bd.returns] at h; cases h)
              refine ⟨_, _, c83 _ ?_, hrun, hended, _, _, rfl, ?_, ⟨_, rfl⟩, hW, hsame.mono (by decide) (by decide)⟩
              · show Steps p.tables e below (T68.setTop (mkF m 324 #[vI p0, vI p1, vI p2, vI p3, vI (2 : Int32), vI z14, vI z25, vI z32, vI z43, vI (0 : Int32), vI (0 : Int32), vR b45, vR b47, vJ z158, s_, vD c174_z104_2, s_, vJ z189, s_, vJ z196, s_, vD FP.dconst0, s_, vD z270, s_, vD z277, s_, vD z284, s_] [(.int (1 : Int32))])) _
                exact retOut X68 hx Bd.returns rfl (Or.inl ⟨rfl, by simp, _, rfl⟩) (hb hby at_324) hr
              · show Q0 n0 _ T68.heap _
                rw [e68]
                exact ⟨rfl, by first | assumption | exact N0⟩
            · skip
              obtain ⟨z315, hz315⟩ : ∃ z : Int32, cmpValue (FP.dcmp c174_z104_2 z277) .l = z := ⟨_, rfl⟩
              have br316 := cmpF fs fh hi1 hz307 hz315 hb308
              have c84 : ∀ t, Steps p.tables e below (T68.setTop (mkF m 324 #[vI p0, vI p1, vI p2, vI p3, vI (2 : Int32), vI z14, vI z25, vI z32, vI z43, vI (0 : Int32), vI (0 : Int32), vR b45, vR b47, vJ z158, s_, vD c174_z104_2, s_, vJ z189, s_, vJ z196, s_, vD FP.dconst0, s_, vD z270, s_, vD z277, s_, vD z284, s_] [(.int (1 : Int32))])) t → Steps p.tables e below (s₁.setTop (entryFrame m #[(.int p0), (.int p1), (.int p2), (.int p3)] maxLocals)) t := by
                intro t k
                refine c82 t ?_
                show Steps p.tables e below (T68.setTop (mkF m 308 #[vI p0, vI p1, vI p2, vI p3, vI (2 : Int32), vI z14, vI z25, vI z32, vI z43, vI (0 : Int32), vI (0 : Int32), vR b45, vR b47, vJ z158, s_, vD c174_z104_2, s_, vJ z189, s_, vJ z196, s_, vD FP.dconst0, s_, vD z270, s_, vD z277, s_, vD z284, s_] [(.int z307)])) _
                refine XS.ifNo X68.here hx rfl (hb hby at_308) rfl (Jvm.Free.XT.i0_lt_f hb308) ?_
                show Steps p.tables e below (T68.setTop (mkF m 311 #[vI p0, vI p1, vI p2, vI p3, vI (2 : Int32), vI z14, vI z25, vI z32, vI z43, vI (0 : Int32), vI (0 : Int32), vR b45, vR b47, vJ z158, s_, vD c174_z104_2, s_, vJ z189, s_, vJ z196, s_, vD FP.dconst0, s_, vD z270, s_, vD z277, s_, vD z284, s_] [])) _
                refine XS.dload X68.here hx rfl (hb hby at_311) rfl ?_
                show Steps p.tables e below (T68.setTop (mkF m 313 #[vI p0, vI p1, vI p2, vI p3, vI (2 : Int32), vI z14, vI z25, vI z32, vI z43, vI (0 : Int32), vI (0 : Int32), vR b45, vR b47, vJ z158, s_, vD c174_z104_2, s_, vJ z189, s_, vJ z196, s_, vD FP.dconst0, s_, vD z270, s_, vD z277, s_, vD z284, s_] [(.double c174_z104_2)])) _
                refine XS.dload X68.here hx rfl (hb hby at_313) rfl ?_
                show Steps p.tables e below (T68.setTop (mkF m 315 #[vI p0, vI p1, vI p2, vI p3, vI (2 : Int32), vI z14, vI z25, vI z32, vI z43, vI (0 : Int32), vI (0 : Int32), vR b45, vR b47, vJ z158, s_, vD c174_z104_2, s_, vJ z189, s_, vJ z196, s_, vD FP.dconst0, s_, vD z270, s_, vD z277, s_, vD z284, s_] [(.double z277), (.double c174_z104_2)])) _
                refine XS.dcmpS X68.here hx rfl (hb hby at_315) rfl hz315 ?_
                show Steps p.tables e below (T68.setTop (mkF m 316 #[vI p0, vI p1, vI p2, vI p3, vI (2 : Int32), vI z14, vI z25, vI z32, vI z43, vI (0 : Int32), vI (0 : Int32), vR b45, vR b47, vJ z158, s_, vD c174_z104_2, s_, vJ z189, s_, vJ z196, s_, vD FP.dconst0, s_, vD z270, s_, vD z277, s_, vD z284, s_] [(.int z315)])) _
                refine XS.ifNo X68.here hx rfl (hb hby at_316) rfl (Jvm.Free.XT.i0_ne_f br316) ?_
                show Steps p.tables e below (T68.setTop (mkF m 319 #[vI p0, vI p1, vI p2, vI p3, vI (2 : Int32), vI z14, vI z25, vI z32, vI z43, vI (0 : Int32), vI (0 : Int32), vR b45, vR b47, vJ z158, s_, vD c174_z104_2, s_, vJ z189, s_, vJ z196, s_, vD FP.dconst0, s_, vD z270, s_, vD z277, s_, vD z284, s_] [])) _
                refine XS.iconst X68.here hx rfl (hb hby at_319) ?_
                show Steps p.tables e below (T68.setTop (mkF m 320 #[vI p0, vI p1, vI p2, vI p3, vI (2 : Int32), vI z14, vI z25, vI z32, vI z43, vI (0 : Int32), vI (0 : Int32), vR b45, vR b47, vJ z158, s_, vD c174_z104_2, s_, vJ z189, s_, vJ z196, s_, vD FP.dconst0, s_, vD z270, s_, vD z277, s_, vD z284, s_] [(.int (1 : Int32))])) _
                refine XS.goto X68.here hx rfl (pc0 := 320) (pc' := 324) rfl (hb hby at_320) (by decide) (by decide) ?_
                exact k
              obtain ⟨fs, hr, hrun, hended, hW, hsame⟩ := X68.leave (v := some (.int (1 : Int32))) (fun h => by rw [Bd.returns] at h; cases h)
              refine ⟨_, _, c84 _ ?_, hrun, hended, _, _, rfl, ?_, ⟨_, rfl⟩, hW, hsame.mono (by decide) (by decide)⟩
              · show Steps p.tables e below (T68.setTop (mkF m 324 #[vI p0, vI p1, vI p2, vI p3, vI (2 : Int32), vI z14, vI z25, vI z32, vI z43, vI (0 : Int32), vI (0 : Int32), vR b45, vR b47, vJ z158, s_, vD c174_z104_2, s_, vJ z189, s_, vJ z196, s_, vD FP.dconst0, s_, vD z270, s_, vD z277, s_, vD z284, s_] [(.int (1 : Int32))])) _
                exact retOut X68 hx Bd.returns rfl (Or.inl ⟨rfl, by simp, _, rfl⟩) (hb hby at_324) hr
              · show Q0 n0 _ T68.heap _
                rw [e68]
                exact ⟨rfl, by first | assumption | exact N0⟩
        · skip
          obtain ⟨z218, hz218⟩ : ∃ z : Int64, z25.toInt64 = z := ⟨_, rfl⟩
          obtain ⟨z221, hz221⟩ : ∃ z : Int64, z14.toInt64 = z := ⟨_, rfl⟩
          obtain ⟨c228_z2, hc228_z2⟩ : ∃ z : Int32, lcmpW z221 (0 : Int64) = z := ⟨_, rfl⟩
          obtain ⟨c228_z11, hc228_z11⟩ : ∃ z : Int64, z218 * z158 = z := ⟨_, rfl⟩
          obtain ⟨c228_z15, hc228_z15⟩ : ∃ z : Int64, z189 * z221 = z := ⟨_, rfl⟩
          obtain ⟨c228_z16, hc228_z16⟩ : ∃ z : Int64, c228_z11 - c228_z15 = z := ⟨_, rfl⟩
          obtain ⟨c228_z23, hc228_z23⟩ : ∃ z : Int64, c228_z16 * c228_z16 = z := ⟨_, rfl⟩
          obtain ⟨c228_z24, hc228_z24⟩ : ∃ z : UInt64, FP.l2d c228_z23 = z := ⟨_, rfl⟩
          obtain ⟨c228_z28, hc228_z28⟩ : ∃ z : Int64, z221 * z189 = z := ⟨_, rfl⟩
          obtain ⟨c228_z31, hc228_z31⟩ : ∃ z : Int64, c228_z28 * z196 = z := ⟨_, rfl⟩
          obtain ⟨c228_z32, hc228_z32⟩ : ∃ z : UInt64, FP.l2d c228_z31 = z := ⟨_, rfl⟩
          obtain ⟨c228_z33, hc228_z33⟩ : ∃ z : UInt64, FP.ddiv c228_z24 c228_z32 = z := ⟨_, rfl⟩
          obtain ⟨c228_rv, hc228_rv⟩ : ∃ z : UInt64, (if c228_z2 = (0 : Int32) then FP.dconst0 else c228_z33) = z := ⟨_, rfl⟩
          obtain ⟨z233, hz233⟩ : ∃ z : Int64, z43.toInt64 = z := ⟨_, rfl⟩
          obtain ⟨z236, hz236⟩ : ∃ z : Int64, z32.toInt64 = z := ⟨_, rfl⟩
          obtain ⟨c243_z2, hc243_z2⟩ : ∃ z : Int32, lcmpW z236 (0 : Int64) = z := ⟨_, rfl⟩
          obtain ⟨c243_z11, hc243_z11⟩ : ∃ z : Int64, z233 * z158 = z := ⟨_, rfl⟩
          obtain ⟨c243_z15, hc243_z15⟩ : ∃ z : Int64, z189 * z236 = z := ⟨_, rfl⟩
          obtain ⟨c243_z16, hc243_z16⟩ : ∃ z : Int64, c243_z11 - c243_z15 = z := ⟨_, rfl⟩
          obtain ⟨c243_z23, hc243_z23⟩ : ∃ z : Int64, c243_z16 * c243_z16 = z := ⟨_, rfl⟩
          obtain ⟨c243_z24, hc243_z24⟩ : ∃ z : UInt64, FP.l2d c243_z23 = z := ⟨_, rfl⟩
          obtain ⟨c243_z28, hc243_z28⟩ : ∃ z : Int64, z236 * z189 = z := ⟨_, rfl⟩
          obtain ⟨c243_z31, hc243_z31⟩ : ∃ z : Int64, c243_z28 * z196 = z := ⟨_, rfl⟩
          obtain ⟨c243_z32, hc243_z32⟩ : ∃ z : UInt64, FP.l2d c243_z31 = z := ⟨_, rfl⟩
          obtain ⟨c243_z33, hc243_z33⟩ : ∃ z : UInt64, FP.ddiv c243_z24 c243_z32 = z := ⟨_, rfl⟩
          obtain ⟨c243_rv, hc243_rv⟩ : ∃ z : UInt64, (if c243_z2 = (0 : Int32) then FP.dconst0 else c243_z33) = z := ⟨_, rfl⟩
          obtain ⟨z246, hz246⟩ : ∃ z : UInt64, FP.dadd c228_rv c243_rv = z := ⟨_, rfl⟩
          obtain ⟨c259_z2, hc259_z2⟩ : ∃ z : Int32, lcmpW (0 : Int64) (0 : Int64) = z := ⟨_, rfl⟩
          obtain ⟨c259_z11, hc259_z11⟩ : ∃ z : Int64, (0 : Int64) * z158 = z := ⟨_, rfl⟩
          obtain ⟨c259_z15, hc259_z15⟩ : ∃ z : Int64, z189 * (0 : Int64) = z := ⟨_, rfl⟩
          obtain ⟨c259_z16, hc259_z16⟩ : ∃ z : Int64, c259_z11 - c259_z15 = z := ⟨_, rfl⟩
          obtain ⟨c259_z23, hc259_z23⟩ : ∃ z : Int64, c259_z16 * c259_z16 = z := ⟨_, rfl⟩
          obtain ⟨c259_z24, hc259_z24⟩ : ∃ z : UInt64, FP.l2d c259_z23 = z := ⟨_, rfl⟩
          obtain ⟨c259_z28, hc259_z28⟩ : ∃ z : Int64, (0 : Int64) * z189 = z := ⟨_, rfl⟩
          obtain ⟨c259_z31, hc259_z31⟩ : ∃ z : Int64, c259_z28 * z196 = z := ⟨_, rfl⟩
          obtain ⟨c259_z32, hc259_z32⟩ : ∃ z : UInt64, FP.l2d c259_z31 = z := ⟨_, rfl⟩
          obtain ⟨c259_z33, hc259_z33⟩ : ∃ z : UInt64, FP.ddiv c259_z24 c259_z32 = z := ⟨_, rfl⟩
          obtain ⟨c259_rv, hc259_rv⟩ : ∃ z : UInt64, (if c259_z2 = (0 : Int32) then FP.dconst0 else c259_z33) = z := ⟨_, rfl⟩
          obtain ⟨z262, hz262⟩ : ∃ z : UInt64, FP.dadd z246 c259_rv = z := ⟨_, rfl⟩
          obtain ⟨z270, hz270⟩ : ∃ z : UInt64, FP.dmul z262 (4517329193108106637 : UInt64) = z := ⟨_, rfl⟩
          obtain ⟨z277, hz277⟩ : ∃ z : UInt64, FP.dadd z262 z270 = z := ⟨_, rfl⟩
          obtain ⟨z284, hz284⟩ : ∃ z : UInt64, FP.dsub z262 z270 = z := ⟨_, rfl⟩
          obtain ⟨z291, hz291⟩ : ∃ z : Int32, cmpValue (FP.dcmp z284 c174_z104_2) .g = z := ⟨_, rfl⟩
          have kz : z189.toInt ≠ 0 := fun q => hb206 (by rw [← hz205]; exact (lw_eq _ _).mpr (Int64.toInt_inj.mp (by rw [q, z00])))
          have lz : z196.toInt ≠ 0 := fun q => hb213 (by rw [← hz212]; exact (lw_eq _ _).mpr (Int64.toInt_inj.mp (by rw [q, z00])))
          have jz218 := Jvm.OwnF.i2l_v hz218
          have jz221 := Jvm.OwnF.i2l_v hz221
          have hq0 : z221.toInt ≠ 0 → z158.toInt * (z189.toInt * z221.toInt) * ((z158.toInt - z189.toInt) * (Hn z32.toInt * Hn (0 : Int32).toInt)) = Qn c174_z21_2.toInt c174_z30_2.toInt z14.toInt z32.toInt (0 : Int32).toInt := fun q => by rw [← eN, ← eK, jz221]; exact Qe0 (by omega) (by omega) (by omega)
          obtain ⟨c228_nn33, t0⟩ := Jvm.OwnF.termS (R := Hn z32.toInt * Hn (0 : Int32).toInt) (by omega) (by omega) (by omega) (by omega) j196 (by omega) (by omega) Rb0.1 hq0 hc228_z2 hc228_z11 hc228_z15 hc228_z16 hc228_z23 hc228_z24 hc228_z28 hc228_z31 hc228_z32 hc228_z33 hc228_rv
          rw [jz218, jz221, ← eN, ← eK] at t0
          obtain ⟨_, _, ⟨T85, L85, k85, n85⟩, -, X85, ⟨Lc85, hQ85, ql85, qy85, qz85⟩, st85⟩ := Jvm.LawKit.callS X68 hx (y := (⟨"com/example/tidy_ranker/tidyranker/classification/ChiSquareScorePinLaw", "term", "(JJJJJ)D"⟩ : MethodName)) hown (mvT hZ (hw _ (List.mem_of_getElem? (i := 10) rfl))) (mvT hZ (hw _ (List.mem_of_getElem? (i := 11) rfl))) (mvT hZ (hw _ (List.mem_of_getElem? (i := 12) rfl))) (mvT hZ (hw _ (List.mem_of_getElem? (i := 13) rfl))) (by decide) (backOf (W := 0) (rm3 l Z a0 hw [] z218 z221 z158 z189 z196 c228_z2 c228_z11 c228_z15 c228_z16 c228_z23 c228_z24 c228_z28 c228_z31 c228_z32 c228_z33 c228_rv h63 n0 (Nat.le_trans (Nat.le_trans (Nat.le_trans (Nat.le_trans (Nat.le_trans (Nat.le_trans Z0 E45.1) E47.1) (Keep.of_wr W51).1) (Keep.of_wr W55).1) (Keep.of_wr W59).1) (Keep.of_wr W63).1) hc228_z2 hc228_z11 hc228_z15 hc228_z16 hc228_z23 hc228_z24 hc228_z28 hc228_z31 hc228_z32 hc228_z33 hc228_rv c228_nn33) hZ (hw _ (List.mem_of_getElem? (i := 13) rfl)) (hw _ (List.mem_of_getElem? (i := 12) rfl)) (by decide) (by decide)) (g := (mkF m 228 #[vI p0, vI p1, vI p2, vI p3, vI (2 : Int32), vI z14, vI z25, vI z32, vI z43, vI (0 : Int32), vI (0 : Int32), vR b45, vR b47, vJ z158, s_, vD c174_z104_2, s_, vJ z189, s_, vJ z196, s_, vD FP.dconst0, s_, u_, u_, u_, u_, u_, u_] [(.long z196), (.long z189), (.long z158), (.long z221), (.long z218)])) rfl (by rw [hml]; rfl) (argsL := [(.long z218), (.long z221), (.long z158), (.long z189), (.long z196)]) (rest := []) (lenOf pd_2 rfl) rfl (by show 2 * 0 + _ ≤ _; exact Nat.le_of_eq rfl) (hb hby at_228) (fun _ _ => ⟨rfl, e68, (by decide : 2 + 0 ≤ _), (by decide : 4 + 0 ≤ _)⟩)
          dsimp only [Pt.U, Pt.locs, Pt.cells, Pt.slots] at X85 ql85 qy85 qz85 st85 hQ85
          subst ql85 qy85 qz85
          obtain ⟨rfl, N85q, e85⟩ := hQ85
          have N85 := Fr.app N68 N85q
          have jz233 := Jvm.OwnF.i2l_v hz233
          have jz236 := Jvm.OwnF.i2l_v hz236
          have hq1 : z236.toInt ≠ 0 → z158.toInt * (z189.toInt * z236.toInt) * ((z158.toInt - z189.toInt) * (Hn z14.toInt * Hn (0 : Int32).toInt)) = Qn c174_z21_2.toInt c174_z30_2.toInt z14.toInt z32.toInt (0 : Int32).toInt := fun q => by rw [← eN, ← eK, jz236]; exact Qe1 (by omega) (by omega) (by omega)
          obtain ⟨c243_nn33, t1⟩ := Jvm.OwnF.termS (R := Hn z14.toInt * Hn (0 : Int32).toInt) (by omega) (by omega) (by omega) (by omega) j196 (by omega) (by omega) Rb1.1 hq1 hc243_z2 hc243_z11 hc243_z15 hc243_z16 hc243_z23 hc243_z24 hc243_z28 hc243_z31 hc243_z32 hc243_z33 hc243_rv
          rw [jz233, jz236, ← eN, ← eK] at t1
          obtain ⟨nn246, u1⟩ := Jvm.OwnF.addAcc (by decide) hQb t0 t1 (by omega) hz246
          obtain ⟨_, _, ⟨T86, L86, k86, n86⟩, -, X86, ⟨Lc86, hQ86, ql86, qy86, qz86⟩, st86⟩ := Jvm.LawKit.callS X85 hx (y := (⟨"com/example/tidy_ranker/tidyranker/classification/ChiSquareScorePinLaw", "term", "(JJJJJ)D"⟩ : MethodName)) hown (mvT hZ (hw _ (List.mem_of_getElem? (i := 10) rfl))) (mvT hZ (hw _ (List.mem_of_getElem? (i := 11) rfl))) (mvT hZ (hw _ (List.mem_of_getElem? (i := 12) rfl))) (mvT hZ (hw _ (List.mem_of_getElem? (i := 13) rfl))) (by decide) (backOf (W := 2) (rm3 l Z a0 hw [] z233 z236 z158 z189 z196 c243_z2 c243_z11 c243_z15 c243_z16 c243_z23 c243_z24 c243_z28 c243_z31 c243_z32 c243_z33 c243_rv h63 n0 (Nat.le_trans (Nat.le_trans (Nat.le_trans (Nat.le_trans (Nat.le_trans (Nat.le_trans Z0 E45.1) E47.1) (Keep.of_wr W51).1) (Keep.of_wr W55).1) (Keep.of_wr W59).1) (Keep.of_wr W63).1) hc243_z2 hc243_z11 hc243_z15 hc243_z16 hc243_z23 hc243_z24 hc243_z28 hc243_z31 hc243_z32 hc243_z33 hc243_rv c243_nn33) hZ (hw _ (List.mem_of_getElem? (i := 13) rfl)) (hw _ (List.mem_of_getElem? (i := 12) rfl)) (by decide) (by decide)) (g := (mkF m 243 #[vI p0, vI p1, vI p2, vI p3, vI (2 : Int32), vI z14, vI z25, vI z32, vI z43, vI (0 : Int32), vI (0 : Int32), vR b45, vR b47, vJ z158, s_, vD c174_z104_2, s_, vJ z189, s_, vJ z196, s_, vD FP.dconst0, s_, u_, u_, u_, u_, u_, u_] [(.long z196), (.long z189), (.long z158), (.long z236), (.long z233), (.double c228_rv)])) rfl (by rw [hml]; rfl) (argsL := [(.long z233), (.long z236), (.long z158), (.long z189), (.long z196)]) (rest := [(.double c228_rv)]) (lenOf pd_2 rfl) rfl (by show 2 * 0 + _ ≤ _; exact Nat.le_of_eq rfl) (hb hby at_243) (fun _ _ => ⟨rfl, e85, (by decide : 2 + 0 ≤ _), (by decide : 4 + 0 ≤ _)⟩)
          dsimp only [Pt.U, Pt.locs, Pt.cells, Pt.slots] at X86 ql86 qy86 qz86 st86 hQ86
          subst ql86 qy86 qz86
          obtain ⟨rfl, N86q, e86⟩ := hQ86
          have N86 := Fr.app N85 N86q
          have hq2 : (0 : Int64).toInt ≠ 0 → z158.toInt * (z189.toInt * (0 : Int64).toInt) * ((z158.toInt - z189.toInt) * (Hn z14.toInt * Hn z32.toInt)) = Qn c174_z21_2.toInt c174_z30_2.toInt z14.toInt z32.toInt (0 : Int32).toInt := fun q => by rw [← eN, ← eK, show (0 : Int64).toInt = (0 : Int32).toInt from rfl]; exact Qe2 (by omega) (by omega) (by omega)
          obtain ⟨c259_nn33, t2⟩ := Jvm.OwnF.termS (R := Hn z14.toInt * Hn z32.toInt) (by omega) (by omega) (by omega) (by omega) j196 (by omega) (by omega) Rb2.1 hq2 hc259_z2 hc259_z11 hc259_z15 hc259_z16 hc259_z23 hc259_z24 hc259_z28 hc259_z31 hc259_z32 hc259_z33 hc259_rv
          rw [z00, Int.zero_mul, Int.mul_zero, Int.sub_self, Int.zero_mul, Int.zero_mul] at t2
          obtain ⟨nn262, u2⟩ := Jvm.OwnF.addAcc (by decide) hQb u1 (t2.mono (by decide)) (by omega) hz262
          obtain ⟨_, _, ⟨T87, L87, k87, n87⟩, -, X87, ⟨Lc87, hQ87, ql87, qy87, qz87⟩, st87⟩ := Jvm.LawKit.callS X86 hx (y := (⟨"com/example/tidy_ranker/tidyranker/classification/ChiSquareScorePinLaw", "term", "(JJJJJ)D"⟩ : MethodName)) hown (mvT hZ (hw _ (List.mem_of_getElem? (i := 10) rfl))) (mvT hZ (hw _ (List.mem_of_getElem? (i := 11) rfl))) (mvT hZ (hw _ (List.mem_of_getElem? (i := 12) rfl))) (mvT hZ (hw _ (List.mem_of_getElem? (i := 13) rfl))) (by decide) (backOf (W := 2) (rm3 l Z a0 hw [] (0 : Int64) (0 : Int64) z158 z189 z196 c259_z2 c259_z11 c259_z15 c259_z16 c259_z23 c259_z24 c259_z28 c259_z31 c259_z32 c259_z33 c259_rv h63 n0 (Nat.le_trans (Nat.le_trans (Nat.le_trans (Nat.le_trans (Nat.le_trans (Nat.le_trans Z0 E45.1) E47.1) (Keep.of_wr W51).1) (Keep.of_wr W55).1) (Keep.of_wr W59).1) (Keep.of_wr W63).1) hc259_z2 hc259_z11 hc259_z15 hc259_z16 hc259_z23 hc259_z24 hc259_z28 hc259_z31 hc259_z32 hc259_z33 hc259_rv c259_nn33) hZ (hw _ (List.mem_of_getElem? (i := 13) rfl)) (hw _ (List.mem_of_getElem? (i := 12) rfl)) (by decide) (by decide)) (g := (mkF m 259 #[vI p0, vI p1, vI p2, vI p3, vI (2 : Int32), vI z14, vI z25, vI z32, vI z43, vI (0 : Int32), vI (0 : Int32), vR b45, vR b47, vJ z158, s_, vD c174_z104_2, s_, vJ z189, s_, vJ z196, s_, vD FP.dconst0, s_, u_, u_, u_, u_, u_, u_] [(.long z196), (.long z189), (.long z158), (.long (0 : Int64)), (.long (0 : Int64)), (.double z246)])) rfl (by rw [hml]; rfl) (argsL := [(.long (0 : Int64)), (.long (0 : Int64)), (.long z158), (.long z189), (.long z196)]) (rest := [(.double z246)]) (lenOf pd_2 rfl) rfl (by show 2 * 0 + _ ≤ _; exact Nat.le_of_eq rfl) (hb hby at_259) (fun _ _ => ⟨rfl, e86, (by decide : 2 + 0 ≤ _), (by decide : 4 + 0 ≤ _)⟩)
          dsimp only [Pt.U, Pt.locs, Pt.cells, Pt.slots] at X87 ql87 qy87 qz87 st87 hQ87
          subst ql87 qy87 qz87
          obtain ⟨rfl, N87q, e87⟩ := hQ87
          have N87 := Fr.app N86 N87q
          have uS : Jvm.OwnF.Acc 5 (Qn c174_z21_2.toInt c174_z30_2.toInt z14.toInt z32.toInt (0 : Int32).toInt) (0 + (z25.toInt * c174_z21_2.toInt - c174_z30_2.toInt * z14.toInt) * (z25.toInt * c174_z21_2.toInt - c174_z30_2.toInt * z14.toInt) * (c174_z21_2.toInt * (Hn z32.toInt * Hn (0 : Int32).toInt)) + (z43.toInt * c174_z21_2.toInt - c174_z30_2.toInt * z32.toInt) * (z43.toInt * c174_z21_2.toInt - c174_z30_2.toInt * z32.toInt) * (c174_z21_2.toInt * (Hn z14.toInt * Hn (0 : Int32).toInt))) z262 := u2.of_eq (by omega)
          obtain ⟨nn270, nn277, nn284, fs, fh, fl, lo1, hi1⟩ := Jvm.OwnF.finR hQb (by omega) (acc1.mono (by decide)) uS hz270 hz277 hz284
          have c88 : ∀ t, Steps p.tables e below (T87.setTop (mkF m 292 #[vI p0, vI p1, vI p2, vI p3, vI (2 : Int32), vI z14, vI z25, vI z32, vI z43, vI (0 : Int32), vI (0 : Int32), vR b45, vR b47, vJ z158, s_, vD c174_z104_2, s_, vJ z189, s_, vJ z196, s_, vD z262, s_, vD z270, s_, vD z277, s_, vD z284, s_] [(.int z291)])) t → Steps p.tables e below (s₁.setTop (entryFrame m #[(.int p0), (.int p1), (.int p2), (.int p3)] maxLocals)) t := by
            intro t k
            refine c77 t ?_
            show Steps p.tables e below (T68.setTop (mkF m 213 #[vI p0, vI p1, vI p2, vI p3, vI (2 : Int32), vI z14, vI z25, vI z32, vI z43, vI (0 : Int32), vI (0 : Int32), vR b45, vR b47, vJ z158, s_, vD c174_z104_2, s_, vJ z189, s_, vJ z196, s_, vD FP.dconst0, s_, u_, u_, u_, u_, u_, u_] [(.int z212)])) _
            refine XS.ifNo X68.here hx rfl (hb hby at_213) rfl (Jvm.Free.XT.i0_eq_f hb213) ?_
            show Steps p.tables e below (T68.setTop (mkF m 216 #[vI p0, vI p1, vI p2, vI p3, vI (2 : Int32), vI z14, vI z25, vI z32, vI z43, vI (0 : Int32), vI (0 : Int32), vR b45, vR b47, vJ z158, s_, vD c174_z104_2, s_, vJ z189, s_, vJ z196, s_, vD FP.dconst0, s_, u_, u_, u_, u_, u_, u_] [])) _
            refine XS.iload X68.here hx rfl (hb hby at_216) rfl ?_
            show Steps p.tables e below (T68.setTop (mkF m 218 #[vI p0, vI p1, vI p2, vI p3, vI (2 : Int32), vI z14, vI z25, vI z32, vI z43, vI (0 : Int32), vI (0 : Int32), vR b45, vR b47, vJ z158, s_, vD c174_z104_2, s_, vJ z189, s_, vJ z196, s_, vD FP.dconst0, s_, u_, u_, u_, u_, u_, u_] [(.int z25)])) _
            refine Jvm.OwnK.i2l X68.here hx rfl (hb hby at_218) rfl hz218 ?_
            show Steps p.tables e below (T68.setTop (mkF m 219 #[vI p0, vI p1, vI p2, vI p3, vI (2 : Int32), vI z14, vI z25, vI z32, vI z43, vI (0 : Int32), vI (0 : Int32), vR b45, vR b47, vJ z158, s_, vD c174_z104_2, s_, vJ z189, s_, vJ z196, s_, vD FP.dconst0, s_, u_, u_, u_, u_, u_, u_] [(.long z218)])) _
            refine XS.iload X68.here hx rfl (hb hby at_219) rfl ?_
            show Steps p.tables e below (T68.setTop (mkF m 221 #[vI p0, vI p1, vI p2, vI p3, vI (2 : Int32), vI z14, vI z25, vI z32, vI z43, vI (0 : Int32), vI (0 : Int32), vR b45, vR b47, vJ z158, s_, vD c174_z104_2, s_, vJ z189, s_, vJ z196, s_, vD FP.dconst0, s_, u_, u_, u_, u_, u_, u_] [(.int z14), (.long z218)])) _
            refine Jvm.OwnK.i2l X68.here hx rfl (hb hby at_221) rfl hz221 ?_
            show Steps p.tables e below (T68.setTop (mkF m 222 #[vI p0, vI p1, vI p2, vI p3, vI (2 : Int32), vI z14, vI z25, vI z32, vI z43, vI (0 : Int32), vI (0 : Int32), vR b45, vR b47, vJ z158, s_, vD c174_z104_2, s_, vJ z189, s_, vJ z196, s_, vD FP.dconst0, s_, u_, u_, u_, u_, u_, u_] [(.long z221), (.long z218)])) _
            refine XS.lload X68.here hx rfl (hb hby at_222) rfl ?_
            show Steps p.tables e below (T68.setTop (mkF m 224 #[vI p0, vI p1, vI p2, vI p3, vI (2 : Int32), vI z14, vI z25, vI z32, vI z43, vI (0 : Int32), vI (0 : Int32), vR b45, vR b47, vJ z158, s_, vD c174_z104_2, s_, vJ z189, s_, vJ z196, s_, vD FP.dconst0, s_, u_, u_, u_, u_, u_, u_] [(.long z158), (.long z221), (.long z218)])) _
            refine XS.lload X68.here hx rfl (hb hby at_224) rfl ?_
            show Steps p.tables e below (T68.setTop (mkF m 226 #[vI p0, vI p1, vI p2, vI p3, vI (2 : Int32), vI z14, vI z25, vI z32, vI z43, vI (0 : Int32), vI (0 : Int32), vR b45, vR b47, vJ z158, s_, vD c174_z104_2, s_, vJ z189, s_, vJ z196, s_, vD FP.dconst0, s_, u_, u_, u_, u_, u_, u_] [(.long z189), (.long z158), (.long z221), (.long z218)])) _
            refine XS.lload X68.here hx rfl (hb hby at_226) rfl ?_
            show Steps p.tables e below (T68.setTop (mkF m 228 #[vI p0, vI p1, vI p2, vI p3, vI (2 : Int32), vI z14, vI z25, vI z32, vI z43, vI (0 : Int32), vI (0 : Int32), vR b45, vR b47, vJ z158, s_, vD c174_z104_2, s_, vJ z189, s_, vJ z196, s_, vD FP.dconst0, s_, u_, u_, u_, u_, u_, u_] [(.long z196), (.long z189), (.long z158), (.long z221), (.long z218)])) _
            refine st85 _ ?_
            show Steps p.tables e below (T85.setTop (mkF m 231 #[vI p0, vI p1, vI p2, vI p3, vI (2 : Int32), vI z14, vI z25, vI z32, vI z43, vI (0 : Int32), vI (0 : Int32), vR b45, vR b47, vJ z158, s_, vD c174_z104_2, s_, vJ z189, s_, vJ z196, s_, vD FP.dconst0, s_, u_, u_, u_, u_, u_, u_] [(.double c228_rv)])) _
            refine XS.iload X85.here hx rfl (hb hby at_231) rfl ?_
            show Steps p.tables e below (T85.setTop (mkF m 233 #[vI p0, vI p1, vI p2, vI p3, vI (2 : Int32), vI z14, vI z25, vI z32, vI z43, vI (0 : Int32), vI (0 : Int32), vR b45, vR b47, vJ z158, s_, vD c174_z104_2, s_, vJ z189, s_, vJ z196, s_, vD FP.dconst0, s_, u_, u_, u_, u_, u_, u_] [(.int z43), (.double c228_rv)])) _
            refine Jvm.OwnK.i2l X85.here hx rfl (hb hby at_233) rfl hz233 ?_
            show Steps p.tables e below (T85.setTop (mkF m 234 #[vI p0, vI p1, vI p2, vI p3, vI (2 : Int32), vI z14, vI z25, vI z32, vI z43, vI (0 : Int32), vI (0 : Int32), vR b45, vR b47, vJ z158, s_, vD c174_z104_2, s_, vJ z189, s_, vJ z196, s_, vD FP.dconst0, s_, u_, u_, u_, u_, u_, u_] [(.long z233), (.double c228_rv)])) _
            refine XS.iload X85.here hx rfl (hb hby at_234) rfl ?_
            show Steps p.tables e below (T85.setTop (mkF m 236 #[vI p0, vI p1, vI p2, vI p3, vI (2 : Int32), vI z14, vI z25, vI z32, vI z43, vI (0 : Int32), vI (0 : Int32), vR b45, vR b47, vJ z158, s_, vD c174_z104_2, s_, vJ z189, s_, vJ z196, s_, vD FP.dconst0, s_, u_, u_, u_, u_, u_, u_] [(.int z32), (.long z233), (.double c228_rv)])) _
            refine Jvm.OwnK.i2l X85.here hx rfl (hb hby at_236) rfl hz236 ?_
            show Steps p.tables e below (T85.setTop (mkF m 237 #[vI p0, vI p1, vI p2, vI p3, vI (2 : Int32), vI z14, vI z25, vI z32, vI z43, vI (0 : Int32), vI (0 : Int32), vR b45, vR b47, vJ z158, s_, vD c174_z104_2, s_, vJ z189, s_, vJ z196, s_, vD FP.dconst0, s_, u_, u_, u_, u_, u_, u_] [(.long z236), (.long z233), (.double c228_rv)])) _
            refine XS.lload X85.here hx rfl (hb hby at_237) rfl ?_
            show Steps p.tables e below (T85.setTop (mkF m 239 #[vI p0, vI p1, vI p2, vI p3, vI (2 : Int32), vI z14, vI z25, vI z32, vI z43, vI (0 : Int32), vI (0 : Int32), vR b45, vR b47, vJ z158, s_, vD c174_z104_2, s_, vJ z189, s_, vJ z196, s_, vD FP.dconst0, s_, u_, u_, u_, u_, u_, u_] [(.long z158), (.long z236), (.long z233), (.double c228_rv)])) _
            refine XS.lload X85.here hx rfl (hb hby at_239) rfl ?_
            show Steps p.tables e below (T85.setTop (mkF m 241 #[vI p0, vI p1, vI p2, vI p3, vI (2 : Int32), vI z14, vI z25, vI z32, vI z43, vI (0 : Int32), vI (0 : Int32), vR b45, vR b47, vJ z158, s_, vD c174_z104_2, s_, vJ z189, s_, vJ z196, s_, vD FP.dconst0, s_, u_, u_, u_, u_, u_, u_] [(.long z189), (.long z158), (.long z236), (.long z233), (.double c228_rv)])) _
            refine XS.lload X85.here hx rfl (hb hby at_241) rfl ?_
            show Steps p.tables e below (T85.setTop (mkF m 243 #[vI p0, vI p1, vI p2, vI p3, vI (2 : Int32), vI z14, vI z25, vI z32, vI z43, vI (0 : Int32), vI (0 : Int32), vR b45, vR b47, vJ z158, s_, vD c174_z104_2, s_, vJ z189, s_, vJ z196, s_, vD FP.dconst0, s_, u_, u_, u_, u_, u_, u_] [(.long z196), (.long z189), (.long z158), (.long z236), (.long z233), (.double c228_rv)])) _
            refine st86 _ ?_
            show Steps p.tables e below (T86.setTop (mkF m 246 #[vI p0, vI p1, vI p2, vI p3, vI (2 : Int32), vI z14, vI z25, vI z32, vI z43, vI (0 : Int32), vI (0 : Int32), vR b45, vR b47, vJ z158, s_, vD c174_z104_2, s_, vJ z189, s_, vJ z196, s_, vD FP.dconst0, s_, u_, u_, u_, u_, u_, u_] [(.double c243_rv), (.double c228_rv)])) _
            refine Jvm.OwnK.dadd X86.here hx rfl (hb hby at_246) rfl hz246 nn246 ?_
            show Steps p.tables e below (T86.setTop (mkF m 247 #[vI p0, vI p1, vI p2, vI p3, vI (2 : Int32), vI z14, vI z25, vI z32, vI z43, vI (0 : Int32), vI (0 : Int32), vR b45, vR b47, vJ z158, s_, vD c174_z104_2, s_, vJ z189, s_, vJ z196, s_, vD FP.dconst0, s_, u_, u_, u_, u_, u_, u_] [(.double z246)])) _
            refine XS.iload X86.here hx rfl (hb hby at_247) rfl ?_
            show Steps p.tables e below (T86.setTop (mkF m 249 #[vI p0, vI p1, vI p2, vI p3, vI (2 : Int32), vI z14, vI z25, vI z32, vI z43, vI (0 : Int32), vI (0 : Int32), vR b45, vR b47, vJ z158, s_, vD c174_z104_2, s_, vJ z189, s_, vJ z196, s_, vD FP.dconst0, s_, u_, u_, u_, u_, u_, u_] [(.int (0 : Int32)), (.double z246)])) _
            refine Jvm.OwnK.i2l X86.here hx rfl (hb hby at_249) rfl (v := (0 : Int64)) (by decide) ?_
            show Steps p.tables e below (T86.setTop (mkF m 250 #[vI p0, vI p1, vI p2, vI p3, vI (2 : Int32), vI z14, vI z25, vI z32, vI z43, vI (0 : Int32), vI (0 : Int32), vR b45, vR b47, vJ z158, s_, vD c174_z104_2, s_, vJ z189, s_, vJ z196, s_, vD FP.dconst0, s_, u_, u_, u_, u_, u_, u_] [(.long (0 : Int64)), (.double z246)])) _
            refine XS.iload X86.here hx rfl (hb hby at_250) rfl ?_
            show Steps p.tables e below (T86.setTop (mkF m 252 #[vI p0, vI p1, vI p2, vI p3, vI (2 : Int32), vI z14, vI z25, vI z32, vI z43, vI (0 : Int32), vI (0 : Int32), vR b45, vR b47, vJ z158, s_, vD c174_z104_2, s_, vJ z189, s_, vJ z196, s_, vD FP.dconst0, s_, u_, u_, u_, u_, u_, u_] [(.int (0 : Int32)), (.long (0 : Int64)), (.double z246)])) _
            refine Jvm.OwnK.i2l X86.here hx rfl (hb hby at_252) rfl (v := (0 : Int64)) (by decide) ?_
            show Steps p.tables e below (T86.setTop (mkF m 253 #[vI p0, vI p1, vI p2, vI p3, vI (2 : Int32), vI z14, vI z25, vI z32, vI z43, vI (0 : Int32), vI (0 : Int32), vR b45, vR b47, vJ z158, s_, vD c174_z104_2, s_, vJ z189, s_, vJ z196, s_, vD FP.dconst0, s_, u_, u_, u_, u_, u_, u_] [(.long (0 : Int64)), (.long (0 : Int64)), (.double z246)])) _
            refine XS.lload X86.here hx rfl (hb hby at_253) rfl ?_
            show Steps p.tables e below (T86.setTop (mkF m 255 #[vI p0, vI p1, vI p2, vI p3, vI (2 : Int32), vI z14, vI z25, vI z32, vI z43, vI (0 : Int32), vI (0 : Int32), vR b45, vR b47, vJ z158, s_, vD c174_z104_2, s_, vJ z189, s_, vJ z196, s_, vD FP.dconst0, s_, u_, u_, u_, u_, u_, u_] [(.long z158), (.long (0 : Int64)), (.long (0 : Int64)), (.double z246)])) _
            refine XS.lload X86.here hx rfl (hb hby at_255) rfl ?_
            show Steps p.tables e below (T86.setTop (mkF m 257 #[vI p0, vI p1, vI p2, vI p3, vI (2 : Int32), vI z14, vI z25, vI z32, vI z43, vI (0 : Int32), vI (0 : Int32), vR b45, vR b47, vJ z158, s_, vD c174_z104_2, s_, vJ z189, s_, vJ z196, s_, vD FP.dconst0, s_, u_, u_, u_, u_, u_, u_] [(.long z189), (.long z158), (.long (0 : Int64)), (.long (0 : Int64)), (.double z246)])) _
            refine XS.lload X86.here hx rfl (hb hby at_257) rfl ?_
            show Steps p.tables e below (T86.setTop (mkF m 259 #[vI p0, vI p1, vI p2, vI p3, vI (2 : Int32), vI z14, vI z25, vI z32, vI z43, vI (0 : Int32), vI (0 : Int32), vR b45, vR b47, vJ z158, s_, vD c174_z104_2, s_, vJ z189, s_, vJ z196, s_, vD FP.dconst0, s_, u_, u_, u_, u_, u_, u_] [(.long z196), (.long z189), (.long z158), (.long (0 : Int64)), (.long (0 : Int64)), (.double z246)])) _
            refine st87 _ ?_
            show Steps p.tables e below (T87.setTop (mkF m 262 #[vI p0, vI p1, vI p2, vI p3, vI (2 : Int32), vI z14, vI z25, vI z32, vI z43, vI (0 : Int32), vI (0 : Int32), vR b45, vR b47, vJ z158, s_, vD c174_z104_2, s_, vJ z189, s_, vJ z196, s_, vD FP.dconst0, s_, u_, u_, u_, u_, u_, u_] [(.double c259_rv), (.double z246)])) _
            refine Jvm.OwnK.dadd X87.here hx rfl (hb hby at_262) rfl hz262 nn262 ?_
            show Steps p.tables e below (T87.setTop (mkF m 263 #[vI p0, vI p1, vI p2, vI p3, vI (2 : Int32), vI z14, vI z25, vI z32, vI z43, vI (0 : Int32), vI (0 : Int32), vR b45, vR b47, vJ z158, s_, vD c174_z104_2, s_, vJ z189, s_, vJ z196, s_, vD FP.dconst0, s_, u_, u_, u_, u_, u_, u_] [(.double z262)])) _
            refine XS.dstore X87.here hx rfl (hb hby at_263) rfl (l' := #[vI p0, vI p1, vI p2, vI p3, vI (2 : Int32), vI z14, vI z25, vI z32, vI z43, vI (0 : Int32), vI (0 : Int32), vR b45, vR b47, vJ z158, s_, vD c174_z104_2, s_, vJ z189, s_, vJ z196, s_, vD z262, s_, u_, u_, u_, u_, u_, u_]) rfl ?_
            show Steps p.tables e below (T87.setTop (mkF m 265 #[vI p0, vI p1, vI p2, vI p3, vI (2 : Int32), vI z14, vI z25, vI z32, vI z43, vI (0 : Int32), vI (0 : Int32), vR b45, vR b47, vJ z158, s_, vD c174_z104_2, s_, vJ z189, s_, vJ z196, s_, vD z262, s_, u_, u_, u_, u_, u_, u_] [])) _
            refine XS.dload X87.here hx rfl (hb hby at_265) rfl ?_
            show Steps p.tables e below (T87.setTop (mkF m 267 #[vI p0, vI p1, vI p2, vI p3, vI (2 : Int32), vI z14, vI z25, vI z32, vI z43, vI (0 : Int32), vI (0 : Int32), vR b45, vR b47, vJ z158, s_, vD c174_z104_2, s_, vJ z189, s_, vJ z196, s_, vD z262, s_, u_, u_, u_, u_, u_, u_] [(.double z262)])) _
            refine X87.ldc2DoubleC hx hown (mvT hZ (hw _ (List.mem_of_getElem? (i := 9) rfl))) (g := (mkF m 267 #[vI p0, vI p1, vI p2, vI p3, vI (2 : Int32), vI z14, vI z25, vI z32, vI z43, vI (0 : Int32), vI (0 : Int32), vR b45, vR b47, vJ z158, s_, vD c174_z104_2, s_, vJ z189, s_, vJ z196, s_, vD z262, s_, u_, u_, u_, u_, u_, u_] [(.double z262)])) rfl (hb hby at_267) _ ?_
            show Steps p.tables e below (T87.setTop (mkF m 270 #[vI p0, vI p1, vI p2, vI p3, vI (2 : Int32), vI z14, vI z25, vI z32, vI z43, vI (0 : Int32), vI (0 : Int32), vR b45, vR b47, vJ z158, s_, vD c174_z104_2, s_, vJ z189, s_, vJ z196, s_, vD z262, s_, u_, u_, u_, u_, u_, u_] [(.double (4517329193108106637 : UInt64)), (.double z262)])) _
            refine Jvm.OwnK.dmul X87.here hx rfl (hb hby at_270) rfl hz270 nn270 ?_
            show Steps p.tables e below (T87.setTop (mkF m 271 #[vI p0, vI p1, vI p2, vI p3, vI (2 : Int32), vI z14, vI z25, vI z32, vI z43, vI (0 : Int32), vI (0 : Int32), vR b45, vR b47, vJ z158, s_, vD c174_z104_2, s_, vJ z189, s_, vJ z196, s_, vD z262, s_, u_, u_, u_, u_, u_, u_] [(.double z270)])) _
            refine XS.dstore X87.here hx rfl (hb hby at_271) rfl (l' := #[vI p0, vI p1, vI p2, vI p3, vI (2 : Int32), vI z14, vI z25, vI z32, vI z43, vI (0 : Int32), vI (0 : Int32), vR b45, vR b47, vJ z158, s_, vD c174_z104_2, s_, vJ z189, s_, vJ z196, s_, vD z262, s_, vD z270, s_, u_, u_, u_, u_]) rfl ?_
            show Steps p.tables e below (T87.setTop (mkF m 273 #[vI p0, vI p1, vI p2, vI p3, vI (2 : Int32), vI z14, vI z25, vI z32, vI z43, vI (0 : Int32), vI (0 : Int32), vR b45, vR b47, vJ z158, s_, vD c174_z104_2, s_, vJ z189, s_, vJ z196, s_, vD z262, s_, vD z270, s_, u_, u_, u_, u_] [])) _
            refine XS.dload X87.here hx rfl (hb hby at_273) rfl ?_
            show Steps p.tables e below (T87.setTop (mkF m 275 #[vI p0, vI p1, vI p2, vI p3, vI (2 : Int32), vI z14, vI z25, vI z32, vI z43, vI (0 : Int32), vI (0 : Int32), vR b45, vR b47, vJ z158, s_, vD c174_z104_2, s_, vJ z189, s_, vJ z196, s_, vD z262, s_, vD z270, s_, u_, u_, u_, u_] [(.double z262)])) _
            refine XS.dload X87.here hx rfl (hb hby at_275) rfl ?_
            show Steps p.tables e below (T87.setTop (mkF m 277 #[vI p0, vI p1, vI p2, vI p3, vI (2 : Int32), vI z14, vI z25, vI z32, vI z43, vI (0 : Int32), vI (0 : Int32), vR b45, vR b47, vJ z158, s_, vD c174_z104_2, s_, vJ z189, s_, vJ z196, s_, vD z262, s_, vD z270, s_, u_, u_, u_, u_] [(.double z270), (.double z262)])) _
            refine Jvm.OwnK.dadd X87.here hx rfl (hb hby at_277) rfl hz277 nn277 ?_
            show Steps p.tables e below (T87.setTop (mkF m 278 #[vI p0, vI p1, vI p2, vI p3, vI (2 : Int32), vI z14, vI z25, vI z32, vI z43, vI (0 : Int32), vI (0 : Int32), vR b45, vR b47, vJ z158, s_, vD c174_z104_2, s_, vJ z189, s_, vJ z196, s_, vD z262, s_, vD z270, s_, u_, u_, u_, u_] [(.double z277)])) _
            refine XS.dstore X87.here hx rfl (hb hby at_278) rfl (l' := #[vI p0, vI p1, vI p2, vI p3, vI (2 : Int32), vI z14, vI z25, vI z32, vI z43, vI (0 : Int32), vI (0 : Int32), vR b45, vR b47, vJ z158, s_, vD c174_z104_2, s_, vJ z189, s_, vJ z196, s_, vD z262, s_, vD z270, s_, vD z277, s_, u_, u_]) rfl ?_
            show Steps p.tables e below (T87.setTop (mkF m 280 #[vI p0, vI p1, vI p2, vI p3, vI (2 : Int32), vI z14, vI z25, vI z32, vI z43, vI (0 : Int32), vI (0 : Int32), vR b45, vR b47, vJ z158, s_, vD c174_z104_2, s_, vJ z189, s_, vJ z196, s_, vD z262, s_, vD z270, s_, vD z277, s_, u_, u_] [])) _
            refine XS.dload X87.here hx rfl (hb hby at_280) rfl ?_
            show Steps p.tables e below (T87.setTop (mkF m 282 #[vI p0, vI p1, vI p2, vI p3, vI (2 : Int32), vI z14, vI z25, vI z32, vI z43, vI (0 : Int32), vI (0 : Int32), vR b45, vR b47, vJ z158, s_, vD c174_z104_2, s_, vJ z189, s_, vJ z196, s_, vD z262, s_, vD z270, s_, vD z277, s_, u_, u_] [(.double z262)])) _
            refine XS.dload X87.here hx rfl (hb hby at_282) rfl ?_
            show Steps p.tables e below (T87.setTop (mkF m 284 #[vI p0, vI p1, vI p2, vI p3, vI (2 : Int32), vI z14, vI z25, vI z32, vI z43, vI (0 : Int32), vI (0 : Int32), vR b45, vR b47, vJ z158, s_, vD c174_z104_2, s_, vJ z189, s_, vJ z196, s_, vD z262, s_, vD z270, s_, vD z277, s_, u_, u_] [(.double z270), (.double z262)])) _
            refine Jvm.OwnK.dsub X87.here hx rfl (hb hby at_284) rfl hz284 nn284 ?_
            show Steps p.tables e below (T87.setTop (mkF m 285 #[vI p0, vI p1, vI p2, vI p3, vI (2 : Int32), vI z14, vI z25, vI z32, vI z43, vI (0 : Int32), vI (0 : Int32), vR b45, vR b47, vJ z158, s_, vD c174_z104_2, s_, vJ z189, s_, vJ z196, s_, vD z262, s_, vD z270, s_, vD z277, s_, u_, u_] [(.double z284)])) _
            refine XS.dstore X87.here hx rfl (hb hby at_285) rfl (l' := #[vI p0, vI p1, vI p2, vI p3, vI (2 : Int32), vI z14, vI z25, vI z32, vI z43, vI (0 : Int32), vI (0 : Int32), vR b45, vR b47, vJ z158, s_, vD c174_z104_2, s_, vJ z189, s_, vJ z196, s_, vD z262, s_, vD z270, s_, vD z277, s_, vD z284, s_]) rfl ?_
            show Steps p.tables e below (T87.setTop (mkF m 287 #[vI p0, vI p1, vI p2, vI p3, vI (2 : Int32), vI z14, vI z25, vI z32, vI z43, vI (0 : Int32), vI (0 : Int32), vR b45, vR b47, vJ z158, s_, vD c174_z104_2, s_, vJ z189, s_, vJ z196, s_, vD z262, s_, vD z270, s_, vD z277, s_, vD z284, s_] [])) _
            refine XS.dload X87.here hx rfl (hb hby at_287) rfl ?_
            show Steps p.tables e below (T87.setTop (mkF m 289 #[vI p0, vI p1, vI p2, vI p3, vI (2 : Int32), vI z14, vI z25, vI z32, vI z43, vI (0 : Int32), vI (0 : Int32), vR b45, vR b47, vJ z158, s_, vD c174_z104_2, s_, vJ z189, s_, vJ z196, s_, vD z262, s_, vD z270, s_, vD z277, s_, vD z284, s_] [(.double z284)])) _
            refine XS.dload X87.here hx rfl (hb hby at_289) rfl ?_
            show Steps p.tables e below (T87.setTop (mkF m 291 #[vI p0, vI p1, vI p2, vI p3, vI (2 : Int32), vI z14, vI z25, vI z32, vI z43, vI (0 : Int32), vI (0 : Int32), vR b45, vR b47, vJ z158, s_, vD c174_z104_2, s_, vJ z189, s_, vJ z196, s_, vD z262, s_, vD z270, s_, vD z277, s_, vD z284, s_] [(.double c174_z104_2), (.double z284)])) _
            refine XS.dcmpS X87.here hx rfl (hb hby at_291) rfl hz291 ?_
            exact k
          by_cases hb292 : z291 < (0 : Int32)
          · skip
            obtain ⟨z307, hz307⟩ : ∃ z : Int32, cmpValue (FP.dcmp c174_z104_2 z277) .g = z := ⟨_, rfl⟩
            have c89 : ∀ t, Steps p.tables e below (T87.setTop (mkF m 308 #[vI p0, vI p1, vI p2, vI p3, vI (2 : Int32), vI z14, vI z25, vI z32, vI z43, vI (0 : Int32), vI (0 : Int32), vR b45, vR b47, vJ z158, s_, vD c174_z104_2, s_, vJ z189, s_, vJ z196, s_, vD z262, s_, vD z270, s_, vD z277, s_, vD z284, s_] [(.int z307)])) t → Steps p.tables e below (s₁.setTop (entryFrame m #[(.int p0), (.int p1), (.int p2), (.int p3)] maxLocals)) t := by
              intro t k
              refine c88 t ?_
              show Steps p.tables e below (T87.setTop (mkF m 292 #[vI p0, vI p1, vI p2, vI p3, vI (2 : Int32), vI z14, vI z25, vI z32, vI z43, vI (0 : Int32), vI (0 : Int32), vR b45, vR b47, vJ z158, s_, vD c174_z104_2, s_, vJ z189, s_, vJ z196, s_, vD z262, s_, vD z270, s_, vD z277, s_, vD z284, s_] [(.int z291)])) _
              refine XS.ifYes X87.here hx rfl (pc0 := 292) (pc' := 303) rfl (hb hby at_292) rfl (Jvm.Free.XT.i0_lt_t hb292) (by decide) (by decide) ?_
              show Steps p.tables e below (T87.setTop (mkF m 303 #[vI p0, vI p1, vI p2, vI p3, vI (2 : Int32), vI z14, vI z25, vI z32, vI z43, vI (0 : Int32), vI (0 : Int32), vR b45, vR b47, vJ z158, s_, vD c174_z104_2, s_, vJ z189, s_, vJ z196, s_, vD z262, s_, vD z270, s_, vD z277, s_, vD z284, s_] [])) _
              refine XS.dload X87.here hx rfl (hb hby at_303) rfl ?_
              show Steps p.tables e below (T87.setTop (mkF m 305 #[vI p0, vI p1, vI p2, vI p3, vI (2 : Int32), vI z14, vI z25, vI z32, vI z43, vI (0 : Int32), vI (0 : Int32), vR b45, vR b47, vJ z158, s_, vD c174_z104_2, s_, vJ z189, s_, vJ z196, s_, vD z262, s_, vD z270, s_, vD z277, s_, vD z284, s_] [(.double c174_z104_2)])) _
              refine XS.dload X87.here hx rfl (hb hby at_305) rfl ?_
              show Steps p.tables e below (T87.setTop (mkF m 307 #[vI p0, vI p1, vI p2, vI p3, vI (2 : Int32), vI z14, vI z25, vI z32, vI z43, vI (0 : Int32), vI (0 : Int32), vR b45, vR b47, vJ z158, s_, vD c174_z104_2, s_, vJ z189, s_, vJ z196, s_, vD z262, s_, vD z270, s_, vD z277, s_, vD z284, s_] [(.double z277), (.double c174_z104_2)])) _
              refine XS.dcmpS X87.here hx rfl (hb hby at_307) rfl hz307 ?_
              exact k
            by_cases hb308 : z307 < (0 : Int32)
            · skip
              have c90 : ∀ t, Steps p.tables e below (T87.setTop (mkF m 324 #[vI p0, vI p1, vI p2, vI p3, vI (2 : Int32), vI z14, vI z25, vI z32, vI z43, vI (0 : Int32), vI (0 : Int32), vR b45, vR b47, vJ z158, s_, vD c174_z104_2, s_, vJ z189, s_, vJ z196, s_, vD z262, s_, vD z270, s_, vD z277, s_, vD z284, s_] [(.int (1 : Int32))])) t → Steps p.tables e below (s₁.setTop (entryFrame m #[(.int p0), (.int p1), (.int p2), (.int p3)] maxLocals)) t := by
                intro t k
                refine c89 t ?_
                show Steps p.tables e below (T87.setTop (mkF m 308 #[vI p0, vI p1, vI p2, vI p3, vI (2 : Int32), vI z14, vI z25, vI z32, vI z43, vI (0 : Int32), vI (0 : Int32), vR b45, vR b47, vJ z158, s_, vD c174_z104_2, s_, vJ z189, s_, vJ z196, s_, vD z262, s_, vD z270, s_, vD z277, s_, vD z284, s_] [(.int z307)])) _
                refine XS.ifYes X87.here hx rfl (pc0 := 308) (pc' := 319) rfl (hb hby at_308) rfl (Jvm.Free.XT.i0_lt_t hb308) (by decide) (by decide) ?_
                show Steps p.tables e below (T87.setTop (mkF m 319 #[vI p0, vI p1, vI p2, vI p3, vI (2 : Int32), vI z14, vI z25, vI z32, vI z43, vI (0 : Int32), vI (0 : Int32), vR b45, vR b47, vJ z158, s_, vD c174_z104_2, s_, vJ z189, s_, vJ z196, s_, vD z262, s_, vD z270, s_, vD z277, s_, vD z284, s_] [])) _
                refine XS.iconst X87.here hx rfl (hb hby at_319) ?_
                show Steps p.tables e below (T87.setTop (mkF m 320 #[vI p0, vI p1, vI p2, vI p3, vI (2 : Int32), vI z14, vI z25, vI z32, vI z43, vI (0 : Int32), vI (0 : Int32), vR b45, vR b47, vJ z158, s_, vD c174_z104_2, s_, vJ z189, s_, vJ z196, s_, vD z262, s_, vD z270, s_, vD z277, s_, vD z284, s_] [(.int (1 : Int32))])) _
                refine XS.goto X87.here hx rfl (pc0 := 320) (pc' := 324) rfl (hb hby at_320) (by decide) (by decide) ?_
                exact k
              obtain ⟨fs, hr, hrun, hended, hW, hsame⟩ := X87.leave (v := some (.int (1 : Int32))) (fun h => by rw [Bd.returns] at h; cases h)
              refine ⟨_, _, c90 _ ?_, hrun, hended, _, _, rfl, ?_, ⟨_, rfl⟩, hW, hsame.mono (by decide) (by decide)⟩
              · show Steps p.tables e below (T87.setTop (mkF m 324 #[vI p0, vI p1, vI p2, vI p3, vI (2 : Int32), vI z14, vI z25, vI z32, vI z43, vI (0 : Int32), vI (0 : Int32), vR b45, vR b47, vJ z158, s_, vD c174_z104_2, s_, vJ z189, s_, vJ z196, s_, vD z262, s_, vD z270, s_, vD z277, s_, vD z284, s_] [(.int (1 : Int32))])) _
                exact retOut X87 hx Bd.returns rfl (Or.inl ⟨rfl, by simp, _, rfl⟩) (hb hby at_324) hr
              · show Q0 n0 _ T87.heap _
                rw [e87]
                exact ⟨rfl, by first | assumption | exact N0⟩
            · skip
              obtain ⟨z315, hz315⟩ : ∃ z : Int32, cmpValue (FP.dcmp c174_z104_2 z277) .l = z := ⟨_, rfl⟩
              have br316 := cmpF fs fh hi1 hz307 hz315 hb308
              have c91 : ∀ t, Steps p.tables e below (T87.setTop (mkF m 324 #[vI p0, vI p1, vI p2, vI p3, vI (2 : Int32), vI z14, vI z25, vI z32, vI z43, vI (0 : Int32), vI (0 : Int32), vR b45, vR b47, vJ z158, s_, vD c174_z104_2, s_, vJ z189, s_, vJ z196, s_, vD z262, s_, vD z270, s_, vD z277, s_, vD z284, s_] [(.int (1 : Int32))])) t → Steps p.tables e below (s₁.setTop (entryFrame m #[(.int p0), (.int p1), (.int p2), (.int p3)] maxLocals)) t := by
                intro t k
                refine c89 t ?_
                show Steps p.tables e below (T87.setTop (mkF m 308 #[vI p0, vI p1, vI p2, vI p3, vI (2 : Int32), vI z14, vI z25, vI z32, vI z43, vI (0 : Int32), vI (0 : Int32), vR b45, vR b47, vJ z158, s_, vD c174_z104_2, s_, vJ z189, s_, vJ z196, s_, vD z262, s_, vD z270, s_, vD z277, s_, vD z284, s_] [(.int z307)])) _
                refine XS.ifNo X87.here hx rfl (hb hby at_308) rfl (Jvm.Free.XT.i0_lt_f hb308) ?_
                show Steps p.tables e below (T87.setTop (mkF m 311 #[vI p0, vI p1, vI p2, vI p3, vI (2 : Int32), vI z14, vI z25, vI z32, vI z43, vI (0 : Int32), vI (0 : Int32), vR b45, vR b47, vJ z158, s_, vD c174_z104_2, s_, vJ z189, s_, vJ z196, s_, vD z262, s_, vD z270, s_, vD z277, s_, vD z284, s_] [])) _
                refine XS.dload X87.here hx rfl (hb hby at_311) rfl ?_
                show Steps p.tables e below (T87.setTop (mkF m 313 #[vI p0, vI p1, vI p2, vI p3, vI (2 : Int32), vI z14, vI z25, vI z32, vI z43, vI (0 : Int32), vI (0 : Int32), vR b45, vR b47, vJ z158, s_, vD c174_z104_2, s_, vJ z189, s_, vJ z196, s_, vD z262, s_, vD z270, s_, vD z277, s_, vD z284, s_] [(.double c174_z104_2)])) _
                refine XS.dload X87.here hx rfl (hb hby at_313) rfl ?_
                show Steps p.tables e below (T87.setTop (mkF m 315 #[vI p0, vI p1, vI p2, vI p3, vI (2 : Int32), vI z14, vI z25, vI z32, vI z43, vI (0 : Int32), vI (0 : Int32), vR b45, vR b47, vJ z158, s_, vD c174_z104_2, s_, vJ z189, s_, vJ z196, s_, vD z262, s_, vD z270, s_, vD z277, s_, vD z284, s_] [(.double z277), (.double c174_z104_2)])) _
                refine XS.dcmpS X87.here hx rfl (hb hby at_315) rfl hz315 ?_
                show Steps p.tables e below (T87.setTop (mkF m 316 #[vI p0, vI p1, vI p2, vI p3, vI (2 : Int32), vI z14, vI z25, vI z32, vI z43, vI (0 : Int32), vI (0 : Int32), vR b45, vR b47, vJ z158, s_, vD c174_z104_2, s_, vJ z189, s_, vJ z196, s_, vD z262, s_, vD z270, s_, vD z277, s_, vD z284, s_] [(.int z315)])) _
                refine XS.ifNo X87.here hx rfl (hb hby at_316) rfl (Jvm.Free.XT.i0_ne_f br316) ?_
                show Steps p.tables e below (T87.setTop (mkF m 319 #[vI p0, vI p1, vI p2, vI p3, vI (2 : Int32), vI z14, vI z25, vI z32, vI z43, vI (0 : Int32), vI (0 : Int32), vR b45, vR b47, vJ z158, s_, vD c174_z104_2, s_, vJ z189, s_, vJ z196, s_, vD z262, s_, vD z270, s_, vD z277, s_, vD z284, s_] [])) _
                refine XS.iconst X87.here hx rfl (hb hby at_319) ?_
                show Steps p.tables e below (T87.setTop (mkF m 320 #[vI p0, vI p1, vI p2, vI p3, vI (2 : Int32), vI z14, vI z25, vI z32, vI z43, vI (0 : Int32), vI (0 : Int32), vR b45, vR b47, vJ z158, s_, vD c174_z104_2, s_, vJ z189, s_, vJ z196, s_, vD z262, s_, vD z270, s_, vD z277, s_, vD z284, s_] [(.int (1 : Int32))])) _
                refine XS.goto X87.here hx rfl (pc0 := 320) (pc' := 324) rfl (hb hby at_320) (by decide) (by decide) ?_
                exact k
              obtain ⟨fs, hr, hrun, hended, hW, hsame⟩ := X87.leave (v := some (.int (1 : Int32))) (fun h => by rw [Bd.returns] at h; cases h)
              refine ⟨_, _, c91 _ ?_, hrun, hended, _, _, rfl, ?_, ⟨_, rfl⟩, hW, hsame.mono (by decide) (by decide)⟩
              · show Steps p.tables e below (T87.setTop (mkF m 324 #[vI p0, vI p1, vI p2, vI p3, vI (2 : Int32), vI z14, vI z25, vI z32, vI z43, vI (0 : Int32), vI (0 : Int32), vR b45, vR b47, vJ z158, s_, vD c174_z104_2, s_, vJ z189, s_, vJ z196, s_, vD z262, s_, vD z270, s_, vD z277, s_, vD z284, s_] [(.int (1 : Int32))])) _
                exact retOut X87 hx Bd.returns rfl (Or.inl ⟨rfl, by simp, _, rfl⟩) (hb hby at_324) hr
              · show Q0 n0 _ T87.heap _
                rw [e87]
                exact ⟨rfl, by first | assumption | exact N0⟩
          · skip
            obtain ⟨z299, hz299⟩ : ∃ z : Int32, cmpValue (FP.dcmp z284 c174_z104_2) .l = z := ⟨_, rfl⟩
            obtain ⟨z307, hz307⟩ : ∃ z : Int32, cmpValue (FP.dcmp c174_z104_2 z277) .g = z := ⟨_, rfl⟩
            have br300 := cmpF fl fs lo1 hz291 hz299 hb292
            have c92 : ∀ t, Steps p.tables e below (T87.setTop (mkF m 308 #[vI p0, vI p1, vI p2, vI p3, vI (2 : Int32), vI z14, vI z25, vI z32, vI z43, vI (0 : Int32), vI (0 : Int32), vR b45, vR b47, vJ z158, s_, vD c174_z104_2, s_, vJ z189, s_, vJ z196, s_, vD z262, s_, vD z270, s_, vD z277, s_, vD z284, s_] [(.int z307)])) t → Steps p.tables e below (s₁.setTop (entryFrame m #[(.int p0), (.int p1), (.int p2), (.int p3)] maxLocals)) t := by
              intro t k
              refine c88 t ?_
              show Steps p.tables e below (T87.setTop (mkF m 292 #[vI p0, vI p1, vI p2, vI p3, vI (2 : Int32), vI z14, vI z25, vI z32, vI z43, vI (0 : Int32), vI (0 : Int32), vR b45, vR b47, vJ z158, s_, vD c174_z104_2, s_, vJ z189, s_, vJ z196, s_, vD z262, s_, vD z270, s_, vD z277, s_, vD z284, s_] [(.int z291)])) _
              refine XS.ifNo X87.here hx rfl (hb hby at_292) rfl (Jvm.Free.XT.i0_lt_f hb292) ?_
              show Steps p.tables e below (T87.setTop (mkF m 295 #[vI p0, vI p1, vI p2, vI p3, vI (2 : Int32), vI z14, vI z25, vI z32, vI z43, vI (0 : Int32), vI (0 : Int32), vR b45, vR b47, vJ z158, s_, vD c174_z104_2, s_, vJ z189, s_, vJ z196, s_, vD z262, s_, vD z270, s_, vD z277, s_, vD z284, s_] [])) _
              refine XS.dload X87.here hx rfl (hb hby at_295) rfl ?_
              show Steps p.tables e below (T87.setTop (mkF m 297 #[vI p0, vI p1, vI p2, vI p3, vI (2 : Int32), vI z14, vI z25, vI z32, vI z43, vI (0 : Int32), vI (0 : Int32), vR b45, vR b47, vJ z158, s_, vD c174_z104_2, s_, vJ z189, s_, vJ z196, s_, vD z262, s_, vD z270, s_, vD z277, s_, vD z284, s_] [(.double z284)])) _
              refine XS.dload X87.here hx rfl (hb hby at_297) rfl ?_
              show Steps p.tables e below (T87.setTop (mkF m 299 #[vI p0, vI p1, vI p2, vI p3, vI (2 : Int32), vI z14, vI z25, vI z32, vI z43, vI (0 : Int32), vI (0 : Int32), vR b45, vR b47, vJ z158, s_, vD c174_z104_2, s_, vJ z189, s_, vJ z196, s_, vD z262, s_, vD z270, s_, vD z277, s_, vD z284, s_] [(.double c174_z104_2), (.double z284)])) _
              refine XS.dcmpS X87.here hx rfl (hb hby at_299) rfl hz299 ?_
              show Steps p.tables e below (T87.setTop (mkF m 300 #[vI p0, vI p1, vI p2, vI p3, vI (2 : Int32), vI z14, vI z25, vI z32, vI z43, vI (0 : Int32), vI (0 : Int32), vR b45, vR b47, vJ z158, s_, vD c174_z104_2, s_, vJ z189, s_, vJ z196, s_, vD z262, s_, vD z270, s_, vD z277, s_, vD z284, s_] [(.int z299)])) _
              refine XS.ifNo X87.here hx rfl (hb hby at_300) rfl (Jvm.Free.XT.i0_ne_f br300) ?_
              show Steps p.tables e below (T87.setTop (mkF m 303 #[vI p0, vI p1, vI p2, vI p3, vI (2 : Int32), vI z14, vI z25, vI z32, vI z43, vI (0 : Int32), vI (0 : Int32), vR b45, vR b47, vJ z158, s_, vD c174_z104_2, s_, vJ z189, s_, vJ z196, s_, vD z262, s_, vD z270, s_, vD z277, s_, vD z284, s_] [])) _
              refine XS.dload X87.here hx rfl (hb hby at_303) rfl ?_
              show Steps p.tables e below (T87.setTop (mkF m 305 #[vI p0, vI p1, vI p2, vI p3, vI (2 : Int32), vI z14, vI z25, vI z32, vI z43, vI (0 : Int32), vI (0 : Int32), vR b45, vR b47, vJ z158, s_, vD c174_z104_2, s_, vJ z189, s_, vJ z196, s_, vD z262, s_, vD z270, s_, vD z277, s_, vD z284, s_] [(.double c174_z104_2)])) _
              refine XS.dload X87.here hx rfl (hb hby at_305) rfl ?_
              show Steps p.tables e below (T87.setTop (mkF m 307 #[vI p0, vI p1, vI p2, vI p3, vI (2 : Int32), vI z14, vI z25, vI z32, vI z43, vI (0 : Int32), vI (0 : Int32), vR b45, vR b47, vJ z158, s_, vD c174_z104_2, s_, vJ z189, s_, vJ z196, s_, vD z262, s_, vD z270, s_, vD z277, s_, vD z284, s_] [(.double z277), (.double c174_z104_2)])) _
              refine XS.dcmpS X87.here hx rfl (hb hby at_307) rfl hz307 ?_
              exact k
            by_cases hb308 : z307 < (0 : Int32)
            · skip
              have c93 : ∀ t, Steps p.tables e below (T87.setTop (mkF m 324 #[vI p0, vI p1, vI p2, vI p3, vI (2 : Int32), vI z14, vI z25, vI z32, vI z43, vI (0 : Int32), vI (0 : Int32), vR b45, vR b47, vJ z158, s_, vD c174_z104_2, s_, vJ z189, s_, vJ z196, s_, vD z262, s_, vD z270, s_, vD z277, s_, vD z284, s_] [(.int (1 : Int32))])) t → Steps p.tables e below (s₁.setTop (entryFrame m #[(.int p0), (.int p1), (.int p2), (.int p3)] maxLocals)) t := by
                intro t k
                refine c92 t ?_
                show Steps p.tables e below (T87.setTop (mkF m 308 #[vI p0, vI p1, vI p2, vI p3, vI (2 : Int32), vI z14, vI z25, vI z32, vI z43, vI (0 : Int32), vI (0 : Int32), vR b45, vR b47, vJ z158, s_, vD c174_z104_2, s_, vJ z189, s_, vJ z196, s_, vD z262, s_, vD z270, s_, vD z277, s_, vD z284, s_] [(.int z307)])) _
                refine XS.ifYes X87.here hx rfl (pc0 := 308) (pc' := 319) rfl (hb hby at_308) rfl (Jvm.Free.XT.i0_lt_t hb308) (by decide) (by decide) ?_
                show Steps p.tables e below (T87.setTop (mkF m 319 #[vI p0, vI p1, vI p2, vI p3, vI (2 : Int32), vI z14, vI z25, vI z32, vI z43, vI (0 : Int32), vI (0 : Int32), vR b45, vR b47, vJ z158, s_, vD c174_z104_2, s_, vJ z189, s_, vJ z196, s_, vD z262, s_, vD z270, s_, vD z277, s_, vD z284, s_] [])) _
                refine XS.iconst X87.here hx rfl (hb hby at_319) ?_
                show Steps p.tables e below (T87.setTop (mkF m 320 #[vI p0, vI p1, vI p2, vI p3, vI (2 : Int32), vI z14, vI z25, vI z32, vI z43, vI (0 : Int32), vI (0 : Int32), vR b45, vR b47, vJ z158, s_, vD c174_z104_2, s_, vJ z189, s_, vJ z196, s_, vD z262, s_, vD z270, s_, vD z277, s_, vD z284, s_] [(.int (1 : Int32))])) _
                refine XS.goto X87.here hx rfl (pc0 := 320) (pc' := 324) rfl (hb hby at_320) (by decide) (by decide) ?_
                exact k
              obtain ⟨fs, hr, hrun, hended, hW, hsame⟩ := X87.leave (v := some (.int (1 : Int32))) (fun h => by rw [Bd.returns] at h; cases h)
              refine ⟨_, _, c93 _ ?_, hrun, hended, _, _, rfl, ?_, ⟨_, rfl⟩, hW, hsame.mono (by decide) (by decide)⟩
              · show Steps p.tables e below (T87.setTop (mkF m 324 #[vI p0, vI p1, vI p2, vI p3, vI (2 : Int32), vI z14, vI z25, vI z32, vI z43, vI (0 : Int32), vI (0 : Int32), vR b45, vR b47, vJ z158, s_, vD c174_z104_2, s_, vJ z189, s_, vJ z196, s_, vD z262, s_, vD z270, s_, vD z277, s_, vD z284, s_] [(.int (1 : Int32))])) _
                exact retOut X87 hx Bd.returns rfl (Or.inl ⟨rfl, by simp, _, rfl⟩) (hb hby at_324) hr
              · show Q0 n0 _ T87.heap _
                rw [e87]
                exact ⟨rfl, by first | assumption | exact N0⟩
            · skip
              obtain ⟨z315, hz315⟩ : ∃ z : Int32, cmpValue (FP.dcmp c174_z104_2 z277) .l = z := ⟨_, rfl⟩
              have br316 := cmpF fs fh hi1 hz307 hz315 hb308
              have c94 : ∀ t, Steps p.tables e below (T87.setTop (mkF m 324 #[vI p0, vI p1, vI p2, vI p3, vI (2 : Int32), vI z14, vI z25, vI z32, vI z43, vI (0 : Int32), vI (0 : Int32), vR b45, vR b47, vJ z158, s_, vD c174_z104_2, s_, vJ z189, s_, vJ z196, s_, vD z262, s_, vD z270, s_, vD z277, s_, vD z284, s_] [(.int (1 : Int32))])) t → Steps p.tables e below (s₁.setTop (entryFrame m #[(.int p0), (.int p1), (.int p2), (.int p3)] maxLocals)) t := by
                intro t k
                refine c92 t ?_
                show Steps p.tables e below (T87.setTop (mkF m 308 #[vI p0, vI p1, vI p2, vI p3, vI (2 : Int32), vI z14, vI z25, vI z32, vI z43, vI (0 : Int32), vI (0 : Int32), vR b45, vR b47, vJ z158, s_, vD c174_z104_2, s_, vJ z189, s_, vJ z196, s_, vD z262, s_, vD z270, s_, vD z277, s_, vD z284, s_] [(.int z307)])) _
                refine XS.ifNo X87.here hx rfl (hb hby at_308) rfl (Jvm.Free.XT.i0_lt_f hb308) ?_
                show Steps p.tables e below (T87.setTop (mkF m 311 #[vI p0, vI p1, vI p2, vI p3, vI (2 : Int32), vI z14, vI z25, vI z32, vI z43, vI (0 : Int32), vI (0 : Int32), vR b45, vR b47, vJ z158, s_, vD c174_z104_2, s_, vJ z189, s_, vJ z196, s_, vD z262, s_, vD z270, s_, vD z277, s_, vD z284, s_] [])) _
                refine XS.dload X87.here hx rfl (hb hby at_311) rfl ?_
                show Steps p.tables e below (T87.setTop (mkF m 313 #[vI p0, vI p1, vI p2, vI p3, vI (2 : Int32), vI z14, vI z25, vI z32, vI z43, vI (0 : Int32), vI (0 : Int32), vR b45, vR b47, vJ z158, s_, vD c174_z104_2, s_, vJ z189, s_, vJ z196, s_, vD z262, s_, vD z270, s_, vD z277, s_, vD z284, s_] [(.double c174_z104_2)])) _
                refine XS.dload X87.here hx rfl (hb hby at_313) rfl ?_
                show Steps p.tables e below (T87.setTop (mkF m 315 #[vI p0, vI p1, vI p2, vI p3, vI (2 : Int32), vI z14, vI z25, vI z32, vI z43, vI (0 : Int32), vI (0 : Int32), vR b45, vR b47, vJ z158, s_, vD c174_z104_2, s_, vJ z189, s_, vJ z196, s_, vD z262, s_, vD z270, s_, vD z277, s_, vD z284, s_] [(.double z277), (.double c174_z104_2)])) _
                refine XS.dcmpS X87.here hx rfl (hb hby at_315) rfl hz315 ?_
                show Steps p.tables e below (T87.setTop (mkF m 316 #[vI p0, vI p1, vI p2, vI p3, vI (2 : Int32), vI z14, vI z25, vI z32, vI z43, vI (0 : Int32), vI (0 : Int32), vR b45, vR b47, vJ z158, s_, vD c174_z104_2, s_, vJ z189, s_, vJ z196, s_, vD z262, s_, vD z270, s_, vD z277, s_, vD z284, s_] [(.int z315)])) _
                refine XS.ifNo X87.here hx rfl (hb hby at_316) rfl (Jvm.Free.XT.i0_ne_f br316) ?_
                show Steps p.tables e below (T87.setTop (mkF m 319 #[vI p0, vI p1, vI p2, vI p3, vI (2 : Int32), vI z14, vI z25, vI z32, vI z43, vI (0 : Int32), vI (0 : Int32), vR b45, vR b47, vJ z158, s_, vD c174_z104_2, s_, vJ z189, s_, vJ z196, s_, vD z262, s_, vD z270, s_, vD z277, s_, vD z284, s_] [])) _
                refine XS.iconst X87.here hx rfl (hb hby at_319) ?_
                show Steps p.tables e below (T87.setTop (mkF m 320 #[vI p0, vI p1, vI p2, vI p3, vI (2 : Int32), vI z14, vI z25, vI z32, vI z43, vI (0 : Int32), vI (0 : Int32), vR b45, vR b47, vJ z158, s_, vD c174_z104_2, s_, vJ z189, s_, vJ z196, s_, vD z262, s_, vD z270, s_, vD z277, s_, vD z284, s_] [(.int (1 : Int32))])) _
                refine XS.goto X87.here hx rfl (pc0 := 320) (pc' := 324) rfl (hb hby at_320) (by decide) (by decide) ?_
                exact k
              obtain ⟨fs, hr, hrun, hended, hW, hsame⟩ := X87.leave (v := some (.int (1 : Int32))) (fun h => by rw [Bd.returns] at h; cases h)
              refine ⟨_, _, c94 _ ?_, hrun, hended, _, _, rfl, ?_, ⟨_, rfl⟩, hW, hsame.mono (by decide) (by decide)⟩
              · show Steps p.tables e below (T87.setTop (mkF m 324 #[vI p0, vI p1, vI p2, vI p3, vI (2 : Int32), vI z14, vI z25, vI z32, vI z43, vI (0 : Int32), vI (0 : Int32), vR b45, vR b47, vJ z158, s_, vD c174_z104_2, s_, vJ z189, s_, vJ z196, s_, vD z262, s_, vD z270, s_, vD z277, s_, vD z284, s_] [(.int (1 : Int32))])) _
                exact retOut X87 hx Bd.returns rfl (Or.inl ⟨rfl, by simp, _, rfl⟩) (hb hby at_324) hr
              · show Q0 n0 _ T87.heap _
                rw [e87]
                exact ⟨rfl, by first | assumption | exact N0⟩
  · obtain rfl := q2
    obtain ⟨z150, hz150⟩ : ∃ z : Int64, z14.toInt64 = z := ⟨_, rfl⟩
    obtain ⟨z153, hz153⟩ : ∃ z : Int64, z32.toInt64 = z := ⟨_, rfl⟩
    obtain ⟨z154, hz154⟩ : ∃ z : Int64, z150 + z153 = z := ⟨_, rfl⟩
    obtain ⟨z157, hz157⟩ : ∃ z : Int64, z50.toInt64 = z := ⟨_, rfl⟩
    obtain ⟨z158, hz158⟩ : ∃ z : Int64, z154 + z157 = z := ⟨_, rfl⟩
    obtain ⟨z164, hz164⟩ : ∃ z : Int32, lcmpW z158 (0 : Int64) = z := ⟨_, rfl⟩
    obtain ⟨T95, h95, k95, X95, e95, E95, A95, st95⟩ := newP X0 hx hZ (hw _ (List.mem_of_getElem? (i := 1) rfl)) e0 (g := (mkF m 90 #[vI p0, vI p1, vI p2, vI p3, vI (3 : Int32), vI z14, vI z25, vI z32, vI z43, vI z50, vI z61, u_, u_, u_, u_, u_, u_, u_, u_, u_, u_, u_, u_, u_, u_, u_, u_, u_, u_] [(.int (3 : Int32))])) rfl (hb hby at_90) rfl (by decide) (cap := 3) (by decide) (by decide) (by decide) (by decide)
    obtain ⟨b95, g95⟩ : ∃ z, z = h0.size := ⟨_, rfl⟩
    rw [← g95] at A95 st95
    have gn95 : n0 ≤ b95 := Nat.le_trans Z0 (Nat.le_of_eq g95.symm)
    have gz95 : h0.size ≤ b95 := Nat.le_trans ((Keep.refl h0 [])).1 (Nat.le_of_eq g95.symm)
    have K96 : Keep h0 h95 [] := (Keep.refl h0 []).ext E95
    have V95 : Arv Z h95 b95 k95 .int (3 : Int32) [(.int (0 : Int32)), (.int (0 : Int32)), (.int (0 : Int32))] (.int (0 : Int32)) := (Arv.new A95 (by decide)).pad (pad_rep [] (.int (0 : Int32)) 3)
    obtain ⟨T97, h97, k97, X97, e97, E97, A97, st97⟩ := newP X95 hx hZ (hw _ (List.mem_of_getElem? (i := 1) rfl)) e95 (g := (mkF m 96 #[vI p0, vI p1, vI p2, vI p3, vI (3 : Int32), vI z14, vI z25, vI z32, vI z43, vI z50, vI z61, vR b95, u_, u_, u_, u_, u_, u_, u_, u_, u_, u_, u_, u_, u_, u_, u_, u_, u_] [(.int (3 : Int32))])) rfl (hb hby at_96) rfl (by decide) (cap := 3) (by decide) (by decide) (by decide) (by decide)
    obtain ⟨b97, g97⟩ : ∃ z, z = h95.size := ⟨_, rfl⟩
    rw [← g97] at A97 st97
    have gn97 : n0 ≤ b97 := Nat.le_trans (Nat.le_trans Z0 E95.1) (Nat.le_of_eq g97.symm)
    have gz97 : h0.size ≤ b97 := Nat.le_trans (K96).1 (Nat.le_of_eq g97.symm)
    have K98 : Keep h0 h97 [] := K96.ext E97
    have V97 : Arv Z h97 b97 k97 .int (3 : Int32) [(.int (0 : Int32)), (.int (0 : Int32)), (.int (0 : Int32))] (.int (0 : Int32)) := (Arv.new A97 (by decide)).pad (pad_rep [] (.int (0 : Int32)) 3)
    have f99 := (V95.ext E97)
    obtain ⟨cl100, Ar100, q100, S100, Nn100, Ha100, G100⟩ := id f99
    have in100 : ¬ ((0 : Int32) < 0 ∨ cl100.slots.size ≤ ((0 : Int32)).toNatClampNeg) := inb_of S100 ⟨by decide, by decide⟩
    obtain ⟨T101, h101, X101, e101, W101, st101⟩ := stI X97 hx hZ e97 Ar100 (j := (0 : Int32)) in100 (g := (mkF m 105 #[vI p0, vI p1, vI p2, vI p3, vI (3 : Int32), vI z14, vI z25, vI z32, vI z43, vI z50, vI z61, vR b95, vR b97, u_, u_, u_, u_, u_, u_, u_, u_, u_, u_, u_, u_, u_, u_, u_, u_] [(.int z14), (.int (0 : Int32)), (.ref b95)])) rfl rfl (hb hby at_105)
    have N101 := Fr.snoc X101 N0 gn95
    have K102 : Keep h0 h101 [] := K98.wr W101 (Or.inr gz95)
    have V101 : Arv Z h101 b95 k95 .int (3 : Int32) [(.int z14), (.int (0 : Int32)), (.int (0 : Int32))] (.int (0 : Int32)) := Arv.set Ar100 q100 S100 Nn100 Ha100 G100 rfl W101 0 rfl (show (0 : Nat) < 3 by decide)
    have f103 := (V97.other W101 (Ne.symm (Nat.ne_of_lt (Nat.lt_of_lt_of_le (V95).lt (Nat.le_of_eq g97.symm)))))
    obtain ⟨cl104, Ar104, q104, S104, Nn104, Ha104, G104⟩ := id f103
    have in104 : ¬ ((0 : Int32) < 0 ∨ cl104.slots.size ≤ ((0 : Int32)).toNatClampNeg) := inb_of S104 ⟨by decide, by decide⟩
    obtain ⟨T105, h105, X105, e105, W105, st105⟩ := stI X101 hx hZ e101 Ar104 (j := (0 : Int32)) in104 (g := (mkF m 111 #[vI p0, vI p1, vI p2, vI p3, vI (3 : Int32), vI z14, vI z25, vI z32, vI z43, vI z50, vI z61, vR b95, vR b97, u_, u_, u_, u_, u_, u_, u_, u_, u_, u_, u_, u_, u_, u_, u_, u_] [(.int z25), (.int (0 : Int32)), (.ref b97)])) rfl rfl (hb hby at_111)
    have N105 := Fr.snoc X105 N101 gn97
    have K106 : Keep h0 h105 [] := K102.wr W105 (Or.inr gz97)
    have V105 : Arv Z h105 b97 k97 .int (3 : Int32) [(.int z25), (.int (0 : Int32)), (.int (0 : Int32))] (.int (0 : Int32)) := Arv.set Ar104 q104 S104 Nn104 Ha104 G104 rfl W105 0 rfl (show (0 : Nat) < 3 by decide)
    have f107 := (V101.other W105 (Nat.ne_of_lt (Nat.lt_of_lt_of_le (V95).lt (Nat.le_of_eq g97.symm))))
    obtain ⟨cl108, Ar108, q108, S108, Nn108, Ha108, G108⟩ := id f107
    have in108 : ¬ ((1 : Int32) < 0 ∨ cl108.slots.size ≤ ((1 : Int32)).toNatClampNeg) := inb_of S108 ⟨by decide, by decide⟩
    obtain ⟨T109, h109, X109, e109, W109, st109⟩ := stI X105 hx hZ e105 Ar108 (j := (1 : Int32)) in108 (g := (mkF m 123 #[vI p0, vI p1, vI p2, vI p3, vI (3 : Int32), vI z14, vI z25, vI z32, vI z43, vI z50, vI z61, vR b95, vR b97, u_, u_, u_, u_, u_, u_, u_, u_, u_, u_, u_, u_, u_, u_, u_, u_] [(.int z32), (.int (1 : Int32)), (.ref b95)])) rfl rfl (hb hby at_123)
    have N109 := Fr.snoc X109 N105 gn95
    have K110 : Keep h0 h109 [] := K106.wr W109 (Or.inr gz95)
    have V109 : Arv Z h109 b95 k95 .int (3 : Int32) [(.int z14), (.int z32), (.int (0 : Int32))] (.int (0 : Int32)) := Arv.set Ar108 q108 S108 Nn108 Ha108 G108 rfl W109 1 rfl (show (1 : Nat) < 3 by decide)
    have f111 := (V105.other W109 (Ne.symm (Nat.ne_of_lt (Nat.lt_of_lt_of_le (V95).lt (Nat.le_of_eq g97.symm)))))
    obtain ⟨cl112, Ar112, q112, S112, Nn112, Ha112, G112⟩ := id f111
    have in112 : ¬ ((1 : Int32) < 0 ∨ cl112.slots.size ≤ ((1 : Int32)).toNatClampNeg) := inb_of S112 ⟨by decide, by decide⟩
    obtain ⟨T113, h113, X113, e113, W113, st113⟩ := stI X109 hx hZ e109 Ar112 (j := (1 : Int32)) in112 (g := (mkF m 129 #[vI p0, vI p1, vI p2, vI p3, vI (3 : Int32), vI z14, vI z25, vI z32, vI z43, vI z50, vI z61, vR b95, vR b97, u_, u_, u_, u_, u_, u_, u_, u_, u_, u_, u_, u_, u_, u_, u_, u_] [(.int z43), (.int (1 : Int32)), (.ref b97)])) rfl rfl (hb hby at_129)
    have N113 := Fr.snoc X113 N109 gn97
    have K114 : Keep h0 h113 [] := K110.wr W113 (Or.inr gz97)
    have V113 : Arv Z h113 b97 k97 .int (3 : Int32) [(.int z25), (.int z43), (.int (0 : Int32))] (.int (0 : Int32)) := Arv.set Ar112 q112 S112 Nn112 Ha112 G112 rfl W113 1 rfl (show (1 : Nat) < 3 by decide)
    have f115 := (V109.other W113 (Nat.ne_of_lt (Nat.lt_of_lt_of_le (V95).lt (Nat.le_of_eq g97.symm))))
    obtain ⟨cl116, Ar116, q116, S116, Nn116, Ha116, G116⟩ := id f115
    have in116 : ¬ ((2 : Int32) < 0 ∨ cl116.slots.size ≤ ((2 : Int32)).toNatClampNeg) := inb_of S116 ⟨by decide, by decide⟩
    obtain ⟨T117, h117, X117, e117, W117, st117⟩ := stI X113 hx hZ e113 Ar116 (j := (2 : Int32)) in116 (g := (mkF m 141 #[vI p0, vI p1, vI p2, vI p3, vI (3 : Int32), vI z14, vI z25, vI z32, vI z43, vI z50, vI z61, vR b95, vR b97, u_, u_, u_, u_, u_, u_, u_, u_, u_, u_, u_, u_, u_, u_, u_, u_] [(.int z50), (.int (2 : Int32)), (.ref b95)])) rfl rfl (hb hby at_141)
    have N117 := Fr.snoc X117 N113 gn95
    have K118 : Keep h0 h117 [] := K114.wr W117 (Or.inr gz95)
    have V117 : Arv Z h117 b95 k95 .int (3 : Int32) [(.int z14), (.int z32), (.int z50)] (.int (0 : Int32)) := Arv.set Ar116 q116 S116 Nn116 Ha116 G116 rfl W117 2 rfl (show (2 : Nat) < 3 by decide)
    have f119 := (V113.other W117 (Ne.symm (Nat.ne_of_lt (Nat.lt_of_lt_of_le (V95).lt (Nat.le_of_eq g97.symm)))))
    obtain ⟨cl120, Ar120, q120, S120, Nn120, Ha120, G120⟩ := id f119
    have in120 : ¬ ((2 : Int32) < 0 ∨ cl120.slots.size ≤ ((2 : Int32)).toNatClampNeg) := inb_of S120 ⟨by decide, by decide⟩
    obtain ⟨T121, h121, X121, e121, W121, st121⟩ := stI X117 hx hZ e117 Ar120 (j := (2 : Int32)) in120 (g := (mkF m 147 #[vI p0, vI p1, vI p2, vI p3, vI (3 : Int32), vI z14, vI z25, vI z32, vI z43, vI z50, vI z61, vR b95, vR b97, u_, u_, u_, u_, u_, u_, u_, u_, u_, u_, u_, u_, u_, u_, u_, u_] [(.int z61), (.int (2 : Int32)), (.ref b97)])) rfl rfl (hb hby at_147)
    have N121 := Fr.snoc X121 N117 gn97
    have K122 : Keep h0 h121 [] := K118.wr W121 (Or.inr gz97)
    have V121 : Arv Z h121 b97 k97 .int (3 : Int32) [(.int z25), (.int z43), (.int z61)] (.int (0 : Int32)) := Arv.set Ar120 q120 S120 Nn120 Ha120 G120 rfl W121 2 rfl (show (2 : Nat) < 3 by decide)
    have c123 : ∀ t, Steps p.tables e below (T121.setTop (mkF m 165 #[vI p0, vI p1, vI p2, vI p3, vI (3 : Int32), vI z14, vI z25, vI z32, vI z43, vI z50, vI z61, vR b95, vR b97, vJ z158, s_, u_, u_, u_, u_, u_, u_, u_, u_, u_, u_, u_, u_, u_, u_] [(.int z164)])) t → Steps p.tables e below (s₁.setTop (entryFrame m #[(.int p0), (.int p1), (.int p2), (.int p3)] maxLocals)) t := by
      intro t k
      refine c1 t ?_
      show Steps p.tables e below (s₁.setTop (mkF m 64 #[vI p0, vI p1, vI p2, vI p3, vI (3 : Int32), vI z14, vI z25, vI z32, vI z43, vI z50, vI z61, u_, u_, u_, u_, u_, u_, u_, u_, u_, u_, u_, u_, u_, u_, u_, u_, u_, u_] [])) _
      refine XS.iload X0.here hx rfl (hb hby at_64) rfl ?_
      show Steps p.tables e below (s₁.setTop (mkF m 66 #[vI p0, vI p1, vI p2, vI p3, vI (3 : Int32), vI z14, vI z25, vI z32, vI z43, vI z50, vI z61, u_, u_, u_, u_, u_, u_, u_, u_, u_, u_, u_, u_, u_, u_, u_, u_, u_, u_] [(.int (3 : Int32))])) _
      refine XS.iconst X0.here hx rfl (hb hby at_66) ?_
      show Steps p.tables e below (s₁.setTop (mkF m 67 #[vI p0, vI p1, vI p2, vI p3, vI (3 : Int32), vI z14, vI z25, vI z32, vI z43, vI z50, vI z61, u_, u_, u_, u_, u_, u_, u_, u_, u_, u_, u_, u_, u_, u_, u_, u_, u_, u_] [(.int (2 : Int32)), (.int (3 : Int32))])) _
      refine XS.icmpYes X0.here hx rfl (pc0 := 67) (pc' := 76) rfl (hb hby at_67) rfl (Jvm.Free.XT.ii_ge_t (by decide)) (by decide) (by decide) ?_
      show Steps p.tables e below (s₁.setTop (mkF m 76 #[vI p0, vI p1, vI p2, vI p3, vI (3 : Int32), vI z14, vI z25, vI z32, vI z43, vI z50, vI z61, u_, u_, u_, u_, u_, u_, u_, u_, u_, u_, u_, u_, u_, u_, u_, u_, u_, u_] [])) _
      refine XS.iload X0.here hx rfl (hb hby at_76) rfl ?_
      show Steps p.tables e below (s₁.setTop (mkF m 78 #[vI p0, vI p1, vI p2, vI p3, vI (3 : Int32), vI z14, vI z25, vI z32, vI z43, vI z50, vI z61, u_, u_, u_, u_, u_, u_, u_, u_, u_, u_, u_, u_, u_, u_, u_, u_, u_, u_] [(.int (3 : Int32))])) _
      refine XS.iconst X0.here hx rfl (hb hby at_78) ?_
      show Steps p.tables e below (s₁.setTop (mkF m 79 #[vI p0, vI p1, vI p2, vI p3, vI (3 : Int32), vI z14, vI z25, vI z32, vI z43, vI z50, vI z61, u_, u_, u_, u_, u_, u_, u_, u_, u_, u_, u_, u_, u_, u_, u_, u_, u_, u_] [(.int (3 : Int32)), (.int (3 : Int32))])) _
      refine XS.icmpYes X0.here hx rfl (pc0 := 79) (pc' := 88) rfl (hb hby at_79) rfl (Jvm.Free.XT.ii_ge_t (by decide)) (by decide) (by decide) ?_
      show Steps p.tables e below (s₁.setTop (mkF m 88 #[vI p0, vI p1, vI p2, vI p3, vI (3 : Int32), vI z14, vI z25, vI z32, vI z43, vI z50, vI z61, u_, u_, u_, u_, u_, u_, u_, u_, u_, u_, u_, u_, u_, u_, u_, u_, u_, u_] [])) _
      refine XS.iload X0.here hx rfl (hb hby at_88) rfl ?_
      show Steps p.tables e below (s₁.setTop (mkF m 90 #[vI p0, vI p1, vI p2, vI p3, vI (3 : Int32), vI z14, vI z25, vI z32, vI z43, vI z50, vI z61, u_, u_, u_, u_, u_, u_, u_, u_, u_, u_, u_, u_, u_, u_, u_, u_, u_, u_] [(.int (3 : Int32))])) _
      refine st95 _ ?_
      show Steps p.tables e below (T95.setTop (mkF m 92 #[vI p0, vI p1, vI p2, vI p3, vI (3 : Int32), vI z14, vI z25, vI z32, vI z43, vI z50, vI z61, u_, u_, u_, u_, u_, u_, u_, u_, u_, u_, u_, u_, u_, u_, u_, u_, u_, u_] [(.ref b95)])) _
      refine XS.astore X95.here hx rfl (hb hby at_92) rfl rfl (l' := #[vI p0, vI p1, vI p2, vI p3, vI (3 : Int32), vI z14, vI z25, vI z32, vI z43, vI z50, vI z61, vR b95, u_, u_, u_, u_, u_, u_, u_, u_, u_, u_, u_, u_, u_, u_, u_, u_, u_]) rfl ?_
      show Steps p.tables e below (T95.setTop (mkF m 94 #[vI p0, vI p1, vI p2, vI p3, vI (3 : Int32), vI z14, vI z25, vI z32, vI z43, vI z50, vI z61, vR b95, u_, u_, u_, u_, u_, u_, u_, u_, u_, u_, u_, u_, u_, u_, u_, u_, u_] [])) _
      refine XS.iload X95.here hx rfl (hb hby at_94) rfl ?_
      show Steps p.tables e below (T95.setTop (mkF m 96 #[vI p0, vI p1, vI p2, vI p3, vI (3 : Int32), vI z14, vI z25, vI z32, vI z43, vI z50, vI z61, vR b95, u_, u_, u_, u_, u_, u_, u_, u_, u_, u_, u_, u_, u_, u_, u_, u_, u_] [(.int (3 : Int32))])) _
      refine st97 _ ?_
      show Steps p.tables e below (T97.setTop (mkF m 98 #[vI p0, vI p1, vI p2, vI p3, vI (3 : Int32), vI z14, vI z25, vI z32, vI z43, vI z50, vI z61, vR b95, u_, u_, u_, u_, u_, u_, u_, u_, u_, u_, u_, u_, u_, u_, u_, u_, u_] [(.ref b97)])) _
      refine XS.astore X97.here hx rfl (hb hby at_98) rfl rfl (l' := #[vI p0, vI p1, vI p2, vI p3, vI (3 : Int32), vI z14, vI z25, vI z32, vI z43, vI z50, vI z61, vR b95, vR b97, u_, u_, u_, u_, u_, u_, u_, u_, u_, u_, u_, u_, u_, u_, u_, u_]) rfl ?_
      show Steps p.tables e below (T97.setTop (mkF m 100 #[vI p0, vI p1, vI p2, vI p3, vI (3 : Int32), vI z14, vI z25, vI z32, vI z43, vI z50, vI z61, vR b95, vR b97, u_, u_, u_, u_, u_, u_, u_, u_, u_, u_, u_, u_, u_, u_, u_, u_] [])) _
      refine XS.aload X97.here hx rfl (hb hby at_100) rfl rfl ?_
      show Steps p.tables e below (T97.setTop (mkF m 102 #[vI p0, vI p1, vI p2, vI p3, vI (3 : Int32), vI z14, vI z25, vI z32, vI z43, vI z50, vI z61, vR b95, vR b97, u_, u_, u_, u_, u_, u_, u_, u_, u_, u_, u_, u_, u_, u_, u_, u_] [(.ref b95)])) _
      refine XS.iconst X97.here hx rfl (hb hby at_102) ?_
      show Steps p.tables e below (T97.setTop (mkF m 103 #[vI p0, vI p1, vI p2, vI p3, vI (3 : Int32), vI z14, vI z25, vI z32, vI z43, vI z50, vI z61, vR b95, vR b97, u_, u_, u_, u_, u_, u_, u_, u_, u_, u_, u_, u_, u_, u_, u_, u_] [(.int (0 : Int32)), (.ref b95)])) _
      refine XS.iload X97.here hx rfl (hb hby at_103) rfl ?_
      show Steps p.tables e below (T97.setTop (mkF m 105 #[vI p0, vI p1, vI p2, vI p3, vI (3 : Int32), vI z14, vI z25, vI z32, vI z43, vI z50, vI z61, vR b95, vR b97, u_, u_, u_, u_, u_, u_, u_, u_, u_, u_, u_, u_, u_, u_, u_, u_] [(.int z14), (.int (0 : Int32)), (.ref b95)])) _
      refine st101 _ ?_
      show Steps p.tables e below (T101.setTop (mkF m 106 #[vI p0, vI p1, vI p2, vI p3, vI (3 : Int32), vI z14, vI z25, vI z32, vI z43, vI z50, vI z61, vR b95, vR b97, u_, u_, u_, u_, u_, u_, u_, u_, u_, u_, u_, u_, u_, u_, u_, u_] [])) _
      refine XS.aload X101.here hx rfl (hb hby at_106) rfl rfl ?_
      show Steps p.tables e below (T101.setTop (mkF m 108 #[vI p0, vI p1, vI p2, vI p3, vI (3 : Int32), vI z14, vI z25, vI z32, vI z43, vI z50, vI z61, vR b95, vR b97, u_, u_, u_, u_, u_, u_, u_, u_, u_, u_, u_, u_, u_, u_, u_, u_] [(.ref b97)])) _
      refine XS.iconst X101.here hx rfl (hb hby at_108) ?_
      show Steps p.tables e below (T101.setTop (mkF m 109 #[vI p0, vI p1, vI p2, vI p3, vI (3 : Int32), vI z14, vI z25, vI z32, vI z43, vI z50, vI z61, vR b95, vR b97, u_, u_, u_, u_, u_, u_, u_, u_, u_, u_, u_, u_, u_, u_, u_, u_] [(.int (0 : Int32)), (.ref b97)])) _
      refine XS.iload X101.here hx rfl (hb hby at_109) rfl ?_
      show Steps p.tables e below (T101.setTop (mkF m 111 #[vI p0, vI p1, vI p2, vI p3, vI (3 : Int32), vI z14, vI z25, vI z32, vI z43, vI z50, vI z61, vR b95, vR b97, u_, u_, u_, u_, u_, u_, u_, u_, u_, u_, u_, u_, u_, u_, u_, u_] [(.int z25), (.int (0 : Int32)), (.ref b97)])) _
      refine st105 _ ?_
      show Steps p.tables e below (T105.setTop (mkF m 112 #[vI p0, vI p1, vI p2, vI p3, vI (3 : Int32), vI z14, vI z25, vI z32, vI z43, vI z50, vI z61, vR b95, vR b97, u_, u_, u_, u_, u_, u_, u_, u_, u_, u_, u_, u_, u_, u_, u_, u_] [])) _
      refine XS.iload X105.here hx rfl (hb hby at_112) rfl ?_
      show Steps p.tables e below (T105.setTop (mkF m 114 #[vI p0, vI p1, vI p2, vI p3, vI (3 : Int32), vI z14, vI z25, vI z32, vI z43, vI z50, vI z61, vR b95, vR b97, u_, u_, u_, u_, u_, u_, u_, u_, u_, u_, u_, u_, u_, u_, u_, u_] [(.int (3 : Int32))])) _
      refine XS.iconst X105.here hx rfl (hb hby at_114) ?_
      show Steps p.tables e below (T105.setTop (mkF m 115 #[vI p0, vI p1, vI p2, vI p3, vI (3 : Int32), vI z14, vI z25, vI z32, vI z43, vI z50, vI z61, vR b95, vR b97, u_, u_, u_, u_, u_, u_, u_, u_, u_, u_, u_, u_, u_, u_, u_, u_] [(.int (1 : Int32)), (.int (3 : Int32))])) _
      refine XS.icmpNo X105.here hx rfl (hb hby at_115) rfl (Jvm.Free.XT.ii_le_f (by decide)) ?_
      show Steps p.tables e below (T105.setTop (mkF m 118 #[vI p0, vI p1, vI p2, vI p3, vI (3 : Int32), vI z14, vI z25, vI z32, vI z43, vI z50, vI z61, vR b95, vR b97, u_, u_, u_, u_, u_, u_, u_, u_, u_, u_, u_, u_, u_, u_, u_, u_] [])) _
      refine XS.aload X105.here hx rfl (hb hby at_118) rfl rfl ?_
      show Steps p.tables e below (T105.setTop (mkF m 120 #[vI p0, vI p1, vI p2, vI p3, vI (3 : Int32), vI z14, vI z25, vI z32, vI z43, vI z50, vI z61, vR b95, vR b97, u_, u_, u_, u_, u_, u_, u_, u_, u_, u_, u_, u_, u_, u_, u_, u_] [(.ref b95)])) _
      refine XS.iconst X105.here hx rfl (hb hby at_120) ?_
      show Steps p.tables e below (T105.setTop (mkF m 121 #[vI p0, vI p1, vI p2, vI p3, vI (3 : Int32), vI z14, vI z25, vI z32, vI z43, vI z50, vI z61, vR b95, vR b97, u_, u_, u_, u_, u_, u_, u_, u_, u_, u_, u_, u_, u_, u_, u_, u_] [(.int (1 : Int32)), (.ref b95)])) _
      refine XS.iload X105.here hx rfl (hb hby at_121) rfl ?_
      show Steps p.tables e below (T105.setTop (mkF m 123 #[vI p0, vI p1, vI p2, vI p3, vI (3 : Int32), vI z14, vI z25, vI z32, vI z43, vI z50, vI z61, vR b95, vR b97, u_, u_, u_, u_, u_, u_, u_, u_, u_, u_, u_, u_, u_, u_, u_, u_] [(.int z32), (.int (1 : Int32)), (.ref b95)])) _
      refine st109 _ ?_
      show Steps p.tables e below (T109.setTop (mkF m 124 #[vI p0, vI p1, vI p2, vI p3, vI (3 : Int32), vI z14, vI z25, vI z32, vI z43, vI z50, vI z61, vR b95, vR b97, u_, u_, u_, u_, u_, u_, u_, u_, u_, u_, u_, u_, u_, u_, u_, u_] [])) _
      refine XS.aload X109.here hx rfl (hb hby at_124) rfl rfl ?_
      show Steps p.tables e below (T109.setTop (mkF m 126 #[vI p0, vI p1, vI p2, vI p3, vI (3 : Int32), vI z14, vI z25, vI z32, vI z43, vI z50, vI z61, vR b95, vR b97, u_, u_, u_, u_, u_, u_, u_, u_, u_, u_, u_, u_, u_, u_, u_, u_] [(.ref b97)])) _
      refine XS.iconst X109.here hx rfl (hb hby at_126) ?_
      show Steps p.tables e below (T109.setTop (mkF m 127 #[vI p0, vI p1, vI p2, vI p3, vI (3 : Int32), vI z14, vI z25, vI z32, vI z43, vI z50, vI z61, vR b95, vR b97, u_, u_, u_, u_, u_, u_, u_, u_, u_, u_, u_, u_, u_, u_, u_, u_] [(.int (1 : Int32)), (.ref b97)])) _
      refine XS.iload X109.here hx rfl (hb hby at_127) rfl ?_
      show Steps p.tables e below (T109.setTop (mkF m 129 #[vI p0, vI p1, vI p2, vI p3, vI (3 : Int32), vI z14, vI z25, vI z32, vI z43, vI z50, vI z61, vR b95, vR b97, u_, u_, u_, u_, u_, u_, u_, u_, u_, u_, u_, u_, u_, u_, u_, u_] [(.int z43), (.int (1 : Int32)), (.ref b97)])) _
      refine st113 _ ?_
      show Steps p.tables e below (T113.setTop (mkF m 130 #[vI p0, vI p1, vI p2, vI p3, vI (3 : Int32), vI z14, vI z25, vI z32, vI z43, vI z50, vI z61, vR b95, vR b97, u_, u_, u_, u_, u_, u_, u_, u_, u_, u_, u_, u_, u_, u_, u_, u_] [])) _
      refine XS.iload X113.here hx rfl (hb hby at_130) rfl ?_
      show Steps p.tables e below (T113.setTop (mkF m 132 #[vI p0, vI p1, vI p2, vI p3, vI (3 : Int32), vI z14, vI z25, vI z32, vI z43, vI z50, vI z61, vR b95, vR b97, u_, u_, u_, u_, u_, u_, u_, u_, u_, u_, u_, u_, u_, u_, u_, u_] [(.int (3 : Int32))])) _
      refine XS.iconst X113.here hx rfl (hb hby at_132) ?_
      show Steps p.tables e below (T113.setTop (mkF m 133 #[vI p0, vI p1, vI p2, vI p3, vI (3 : Int32), vI z14, vI z25, vI z32, vI z43, vI z50, vI z61, vR b95, vR b97, u_, u_, u_, u_, u_, u_, u_, u_, u_, u_, u_, u_, u_, u_, u_, u_] [(.int (2 : Int32)), (.int (3 : Int32))])) _
      refine XS.icmpNo X113.here hx rfl (hb hby at_133) rfl (Jvm.Free.XT.ii_le_f (by decide)) ?_
      show Steps p.tables e below (T113.setTop (mkF m 136 #[vI p0, vI p1, vI p2, vI p3, vI (3 : Int32), vI z14, vI z25, vI z32, vI z43, vI z50, vI z61, vR b95, vR b97, u_, u_, u_, u_, u_, u_, u_, u_, u_, u_, u_, u_, u_, u_, u_, u_] [])) _
      refine XS.aload X113.here hx rfl (hb hby at_136) rfl rfl ?_
      show Steps p.tables e below (T113.setTop (mkF m 138 #[vI p0, vI p1, vI p2, vI p3, vI (3 : Int32), vI z14, vI z25, vI z32, vI z43, vI z50, vI z61, vR b95, vR b97, u_, u_, u_, u_, u_, u_, u_, u_, u_, u_, u_, u_, u_, u_, u_, u_] [(.ref b95)])) _
      refine XS.iconst X113.here hx rfl (hb hby at_138) ?_
      show Steps p.tables e below (T113.setTop (mkF m 139 #[vI p0, vI p1, vI p2, vI p3, vI (3 : Int32), vI z14, vI z25, vI z32, vI z43, vI z50, vI z61, vR b95, vR b97, u_, u_, u_, u_, u_, u_, u_, u_, u_, u_, u_, u_, u_, u_, u_, u_] [(.int (2 : Int32)), (.ref b95)])) _
      refine XS.iload X113.here hx rfl (hb hby at_139) rfl ?_
      show Steps p.tables e below (T113.setTop (mkF m 141 #[vI p0, vI p1, vI p2, vI p3, vI (3 : Int32), vI z14, vI z25, vI z32, vI z43, vI z50, vI z61, vR b95, vR b97, u_, u_, u_, u_, u_, u_, u_, u_, u_, u_, u_, u_, u_, u_, u_, u_] [(.int z50), (.int (2 : Int32)), (.ref b95)])) _
      refine st117 _ ?_
      show Steps p.tables e below (T117.setTop (mkF m 142 #[vI p0, vI p1, vI p2, vI p3, vI (3 : Int32), vI z14, vI z25, vI z32, vI z43, vI z50, vI z61, vR b95, vR b97, u_, u_, u_, u_, u_, u_, u_, u_, u_, u_, u_, u_, u_, u_, u_, u_] [])) _
      refine XS.aload X117.here hx rfl (hb hby at_142) rfl rfl ?_
      show Steps p.tables e below (T117.setTop (mkF m 144 #[vI p0, vI p1, vI p2, vI p3, vI (3 : Int32), vI z14, vI z25, vI z32, vI z43, vI z50, vI z61, vR b95, vR b97, u_, u_, u_, u_, u_, u_, u_, u_, u_, u_, u_, u_, u_, u_, u_, u_] [(.ref b97)])) _
      refine XS.iconst X117.here hx rfl (hb hby at_144) ?_
      show Steps p.tables e below (T117.setTop (mkF m 145 #[vI p0, vI p1, vI p2, vI p3, vI (3 : Int32), vI z14, vI z25, vI z32, vI z43, vI z50, vI z61, vR b95, vR b97, u_, u_, u_, u_, u_, u_, u_, u_, u_, u_, u_, u_, u_, u_, u_, u_] [(.int (2 : Int32)), (.ref b97)])) _
      refine XS.iload X117.here hx rfl (hb hby at_145) rfl ?_
      show Steps p.tables e below (T117.setTop (mkF m 147 #[vI p0, vI p1, vI p2, vI p3, vI (3 : Int32), vI z14, vI z25, vI z32, vI z43, vI z50, vI z61, vR b95, vR b97, u_, u_, u_, u_, u_, u_, u_, u_, u_, u_, u_, u_, u_, u_, u_, u_] [(.int z61), (.int (2 : Int32)), (.ref b97)])) _
      refine st121 _ ?_
      show Steps p.tables e below (T121.setTop (mkF m 148 #[vI p0, vI p1, vI p2, vI p3, vI (3 : Int32), vI z14, vI z25, vI z32, vI z43, vI z50, vI z61, vR b95, vR b97, u_, u_, u_, u_, u_, u_, u_, u_, u_, u_, u_, u_, u_, u_, u_, u_] [])) _
      refine XS.iload X121.here hx rfl (hb hby at_148) rfl ?_
      show Steps p.tables e below (T121.setTop (mkF m 150 #[vI p0, vI p1, vI p2, vI p3, vI (3 : Int32), vI z14, vI z25, vI z32, vI z43, vI z50, vI z61, vR b95, vR b97, u_, u_, u_, u_, u_, u_, u_, u_, u_, u_, u_, u_, u_, u_, u_, u_] [(.int z14)])) _
      refine Jvm.OwnK.i2l X121.here hx rfl (hb hby at_150) rfl hz150 ?_
      show Steps p.tables e below (T121.setTop (mkF m 151 #[vI p0, vI p1, vI p2, vI p3, vI (3 : Int32), vI z14, vI z25, vI z32, vI z43, vI z50, vI z61, vR b95, vR b97, u_, u_, u_, u_, u_, u_, u_, u_, u_, u_, u_, u_, u_, u_, u_, u_] [(.long z150)])) _
      refine XS.iload X121.here hx rfl (hb hby at_151) rfl ?_
      show Steps p.tables e below (T121.setTop (mkF m 153 #[vI p0, vI p1, vI p2, vI p3, vI (3 : Int32), vI z14, vI z25, vI z32, vI z43, vI z50, vI z61, vR b95, vR b97, u_, u_, u_, u_, u_, u_, u_, u_, u_, u_, u_, u_, u_, u_, u_, u_] [(.int z32), (.long z150)])) _
      refine Jvm.OwnK.i2l X121.here hx rfl (hb hby at_153) rfl hz153 ?_
      show Steps p.tables e below (T121.setTop (mkF m 154 #[vI p0, vI p1, vI p2, vI p3, vI (3 : Int32), vI z14, vI z25, vI z32, vI z43, vI z50, vI z61, vR b95, vR b97, u_, u_, u_, u_, u_, u_, u_, u_, u_, u_, u_, u_, u_, u_, u_, u_] [(.long z153), (.long z150)])) _
      refine Jvm.OwnK.ladd X121.here hx rfl (hb hby at_154) rfl hz154 ?_
      show Steps p.tables e below (T121.setTop (mkF m 155 #[vI p0, vI p1, vI p2, vI p3, vI (3 : Int32), vI z14, vI z25, vI z32, vI z43, vI z50, vI z61, vR b95, vR b97, u_, u_, u_, u_, u_, u_, u_, u_, u_, u_, u_, u_, u_, u_, u_, u_] [(.long z154)])) _
      refine XS.iload X121.here hx rfl (hb hby at_155) rfl ?_
      show Steps p.tables e below (T121.setTop (mkF m 157 #[vI p0, vI p1, vI p2, vI p3, vI (3 : Int32), vI z14, vI z25, vI z32, vI z43, vI z50, vI z61, vR b95, vR b97, u_, u_, u_, u_, u_, u_, u_, u_, u_, u_, u_, u_, u_, u_, u_, u_] [(.int z50), (.long z154)])) _
      refine Jvm.OwnK.i2l X121.here hx rfl (hb hby at_157) rfl hz157 ?_
      show Steps p.tables e below (T121.setTop (mkF m 158 #[vI p0, vI p1, vI p2, vI p3, vI (3 : Int32), vI z14, vI z25, vI z32, vI z43, vI z50, vI z61, vR b95, vR b97, u_, u_, u_, u_, u_, u_, u_, u_, u_, u_, u_, u_, u_, u_, u_, u_] [(.long z157), (.long z154)])) _
      refine Jvm.OwnK.ladd X121.here hx rfl (hb hby at_158) rfl hz158 ?_
      show Steps p.tables e below (T121.setTop (mkF m 159 #[vI p0, vI p1, vI p2, vI p3, vI (3 : Int32), vI z14, vI z25, vI z32, vI z43, vI z50, vI z61, vR b95, vR b97, u_, u_, u_, u_, u_, u_, u_, u_, u_, u_, u_, u_, u_, u_, u_, u_] [(.long z158)])) _
      refine XS.lstore X121.here hx rfl (hb hby at_159) rfl (l' := #[vI p0, vI p1, vI p2, vI p3, vI (3 : Int32), vI z14, vI z25, vI z32, vI z43, vI z50, vI z61, vR b95, vR b97, vJ z158, s_, u_, u_, u_, u_, u_, u_, u_, u_, u_, u_, u_, u_, u_, u_]) rfl ?_
      show Steps p.tables e below (T121.setTop (mkF m 161 #[vI p0, vI p1, vI p2, vI p3, vI (3 : Int32), vI z14, vI z25, vI z32, vI z43, vI z50, vI z61, vR b95, vR b97, vJ z158, s_, u_, u_, u_, u_, u_, u_, u_, u_, u_, u_, u_, u_, u_, u_] [])) _
      refine XS.lload X121.here hx rfl (hb hby at_161) rfl ?_
      show Steps p.tables e below (T121.setTop (mkF m 163 #[vI p0, vI p1, vI p2, vI p3, vI (3 : Int32), vI z14, vI z25, vI z32, vI z43, vI z50, vI z61, vR b95, vR b97, vJ z158, s_, u_, u_, u_, u_, u_, u_, u_, u_, u_, u_, u_, u_, u_, u_] [(.long z158)])) _
      refine XS.lconst X121.here hx rfl (hb hby at_163) ?_
      show Steps p.tables e below (T121.setTop (mkF m 164 #[vI p0, vI p1, vI p2, vI p3, vI (3 : Int32), vI z14, vI z25, vI z32, vI z43, vI z50, vI z61, vR b95, vR b97, vJ z158, s_, u_, u_, u_, u_, u_, u_, u_, u_, u_, u_, u_, u_, u_, u_] [(.long (0 : Int64)), (.long z158)])) _
      refine Jvm.OwnK.lcmp X121.here hx rfl (hb hby at_164) rfl hz164 ?_
      exact k
    by_cases hb165 : z164 = (0 : Int32)
    · skip
      have c124 : ∀ t, Steps p.tables e below (T121.setTop (mkF m 169 #[vI p0, vI p1, vI p2, vI p3, vI (3 : Int32), vI z14, vI z25, vI z32, vI z43, vI z50, vI z61, vR b95, vR b97, vJ z158, s_, u_, u_, u_, u_, u_, u_, u_, u_, u_, u_, u_, u_, u_, u_] [(.int (1 : Int32))])) t → Steps p.tables e below (s₁.setTop (entryFrame m #[(.int p0), (.int p1), (.int p2), (.int p3)] maxLocals)) t := by
        intro t k
        refine c123 t ?_
        show Steps p.tables e below (T121.setTop (mkF m 165 #[vI p0, vI p1, vI p2, vI p3, vI (3 : Int32), vI z14, vI z25, vI z32, vI z43, vI z50, vI z61, vR b95, vR b97, vJ z158, s_, u_, u_, u_, u_, u_, u_, u_, u_, u_, u_, u_, u_, u_, u_] [(.int z164)])) _
        refine XS.ifNo X121.here hx rfl (hb hby at_165) rfl (Jvm.Free.XT.i0_ne_f hb165) ?_
        show Steps p.tables e below (T121.setTop (mkF m 168 #[vI p0, vI p1, vI p2, vI p3, vI (3 : Int32), vI z14, vI z25, vI z32, vI z43, vI z50, vI z61, vR b95, vR b97, vJ z158, s_, u_, u_, u_, u_, u_, u_, u_, u_, u_, u_, u_, u_, u_, u_] [])) _
        refine XS.iconst X121.here hx rfl (hb hby at_168) ?_
        exact k
      obtain ⟨fs, hr, hrun, hended, hW, hsame⟩ := X121.leave (v := some (.int (1 : Int32))) (fun h => by rw [Bd.returns] at h; cases h)
      refine ⟨_, _, c124 _ ?_, hrun, hended, _, _, rfl, ?_, ⟨_, rfl⟩, hW, hsame.mono (by decide) (by decide)⟩
      · show Steps p.tables e below (T121.setTop (mkF m 169 #[vI p0, vI p1, vI p2, vI p3, vI (3 : Int32), vI z14, vI z25, vI z32, vI z43, vI z50, vI z61, vR b95, vR b97, vJ z158, s_, u_, u_, u_, u_, u_, u_, u_, u_, u_, u_, u_, u_, u_, u_] [(.int (1 : Int32))])) _
        exact retOut X121 hx Bd.returns rfl (Or.inl ⟨rfl, by simp, _, rfl⟩) (hb hby at_169) hr
      · show Q0 n0 _ T121.heap _
        rw [e121]
        exact ⟨rfl, by first | assumption | exact N0⟩
    · skip
      obtain ⟨c174_z20, hc174_z20⟩ : ∃ z : Int64, z14.toInt64 = z := ⟨_, rfl⟩
      obtain ⟨c174_z21, hc174_z21⟩ : ∃ z : Int64, (0 : Int64) + c174_z20 = z := ⟨_, rfl⟩
      obtain ⟨c174_z29, hc174_z29⟩ : ∃ z : Int64, z25.toInt64 = z := ⟨_, rfl⟩
      obtain ⟨c174_z30, hc174_z30⟩ : ∃ z : Int64, (0 : Int64) + c174_z29 = z := ⟨_, rfl⟩
      obtain ⟨c174_z20_2, hc174_z20_2⟩ : ∃ z : Int64, z32.toInt64 = z := ⟨_, rfl⟩
      obtain ⟨c174_z21_2, hc174_z21_2⟩ : ∃ z : Int64, c174_z21 + c174_z20_2 = z := ⟨_, rfl⟩
      obtain ⟨c174_z29_2, hc174_z29_2⟩ : ∃ z : Int64, z43.toInt64 = z := ⟨_, rfl⟩
      obtain ⟨c174_z30_2, hc174_z30_2⟩ : ∃ z : Int64, c174_z30 + c174_z29_2 = z := ⟨_, rfl⟩
      obtain ⟨c174_z20_3, hc174_z20_3⟩ : ∃ z : Int64, z50.toInt64 = z := ⟨_, rfl⟩
      obtain ⟨c174_z21_3, hc174_z21_3⟩ : ∃ z : Int64, c174_z21_2 + c174_z20_3 = z := ⟨_, rfl⟩
      obtain ⟨c174_z29_3, hc174_z29_3⟩ : ∃ z : Int64, z61.toInt64 = z := ⟨_, rfl⟩
      obtain ⟨c174_z30_3, hc174_z30_3⟩ : ∃ z : Int64, c174_z30_2 + c174_z29_3 = z := ⟨_, rfl⟩
      obtain ⟨c174_z60, hc174_z60⟩ : ∃ z : UInt64, FP.l2d c174_z30_3 = z := ⟨_, rfl⟩
      obtain ⟨c174_z65, hc174_z65⟩ : ∃ z : UInt64, FP.i2d z14 = z := ⟨_, rfl⟩
      obtain ⟨c174_z66, hc174_z66⟩ : ∃ z : UInt64, FP.dmul c174_z60 c174_z65 = z := ⟨_, rfl⟩
      obtain ⟨c174_z68, hc174_z68⟩ : ∃ z : UInt64, FP.l2d c174_z21_3 = z := ⟨_, rfl⟩
      obtain ⟨c174_z69, hc174_z69⟩ : ∃ z : UInt64, FP.ddiv c174_z66 c174_z68 = z := ⟨_, rfl⟩
      obtain ⟨c174_c70_z1, hc174_c70_z1⟩ : ∃ z : UInt64, FP.i2d z25 = z := ⟨_, rfl⟩
      obtain ⟨c174_c70_z3, hc174_c70_z3⟩ : ∃ z : UInt64, FP.dsub c174_c70_z1 c174_z69 = z := ⟨_, rfl⟩
      obtain ⟨c174_c70_z7, hc174_c70_z7⟩ : ∃ z : Int32, cmpValue (FP.dcmp c174_z69 FP.dconst0) .l = z := ⟨_, rfl⟩
      obtain ⟨c174_c70_z17, hc174_c70_z17⟩ : ∃ z : UInt64, FP.dmul c174_c70_z3 c174_c70_z3 = z := ⟨_, rfl⟩
      obtain ⟨c174_c70_z19, hc174_c70_z19⟩ : ∃ z : UInt64, FP.ddiv c174_c70_z17 c174_z69 = z := ⟨_, rfl⟩
      obtain ⟨c174_c70_rv, hc174_c70_rv⟩ : ∃ z : UInt64, (if c174_c70_z7 = (0 : Int32) then FP.dconst0 else c174_c70_z19) = z := ⟨_, rfl⟩
      obtain ⟨c174_z73, hc174_z73⟩ : ∃ z : UInt64, FP.dadd FP.dconst0 c174_c70_rv = z := ⟨_, rfl⟩
      obtain ⟨c174_z86, hc174_z86⟩ : ∃ z : Int32, z14 - z25 = z := ⟨_, rfl⟩
      obtain ⟨c174_z90, hc174_z90⟩ : ∃ z : Int64, c174_z21_3 - c174_z30_3 = z := ⟨_, rfl⟩
      obtain ⟨c174_z91, hc174_z91⟩ : ∃ z : UInt64, FP.l2d c174_z90 = z := ⟨_, rfl⟩
      obtain ⟨c174_z96, hc174_z96⟩ : ∃ z : UInt64, FP.i2d z14 = z := ⟨_, rfl⟩
      obtain ⟨c174_z97, hc174_z97⟩ : ∃ z : UInt64, FP.dmul c174_z91 c174_z96 = z := ⟨_, rfl⟩
      obtain ⟨c174_z99, hc174_z99⟩ : ∃ z : UInt64, FP.l2d c174_z21_3 = z := ⟨_, rfl⟩
      obtain ⟨c174_z100, hc174_z100⟩ : ∃ z : UInt64, FP.ddiv c174_z97 c174_z99 = z := ⟨_, rfl⟩
      obtain ⟨c174_c101_z1, hc174_c101_z1⟩ : ∃ z : UInt64, FP.i2d c174_z86 = z := ⟨_, rfl⟩
      obtain ⟨c174_c101_z3, hc174_c101_z3⟩ : ∃ z : UInt64, FP.dsub c174_c101_z1 c174_z100 = z := ⟨_, rfl⟩
      obtain ⟨c174_c101_z7, hc174_c101_z7⟩ : ∃ z : Int32, cmpValue (FP.dcmp c174_z100 FP.dconst0) .l = z := ⟨_, rfl⟩
      obtain ⟨c174_c101_z17, hc174_c101_z17⟩ : ∃ z : UInt64, FP.dmul c174_c101_z3 c174_c101_z3 = z := ⟨_, rfl⟩
      obtain ⟨c174_c101_z19, hc174_c101_z19⟩ : ∃ z : UInt64, FP.ddiv c174_c101_z17 c174_z100 = z := ⟨_, rfl⟩
      obtain ⟨c174_c101_rv, hc174_c101_rv⟩ : ∃ z : UInt64, (if c174_c101_z7 = (0 : Int32) then FP.dconst0 else c174_c101_z19) = z := ⟨_, rfl⟩
      obtain ⟨c174_z104, hc174_z104⟩ : ∃ z : UInt64, FP.dadd c174_z73 c174_c101_rv = z := ⟨_, rfl⟩
      obtain ⟨c174_z60_2, hc174_z60_2⟩ : ∃ z : UInt64, FP.l2d c174_z30_3 = z := ⟨_, rfl⟩
      obtain ⟨c174_z65_2, hc174_z65_2⟩ : ∃ z : UInt64, FP.i2d z32 = z := ⟨_, rfl⟩
      obtain ⟨c174_z66_2, hc174_z66_2⟩ : ∃ z : UInt64, FP.dmul c174_z60_2 c174_z65_2 = z := ⟨_, rfl⟩
      obtain ⟨c174_z68_2, hc174_z68_2⟩ : ∃ z : UInt64, FP.l2d c174_z21_3 = z := ⟨_, rfl⟩
      obtain ⟨c174_z69_2, hc174_z69_2⟩ : ∃ z : UInt64, FP.ddiv c174_z66_2 c174_z68_2 = z := ⟨_, rfl⟩
      obtain ⟨c174_c70_2_z1, hc174_c70_2_z1⟩ : ∃ z : UInt64, FP.i2d z43 = z := ⟨_, rfl⟩
      obtain ⟨c174_c70_2_z3, hc174_c70_2_z3⟩ : ∃ z : UInt64, FP.dsub c174_c70_2_z1 c174_z69_2 = z := ⟨_, rfl⟩
      obtain ⟨c174_c70_2_z7, hc174_c70_2_z7⟩ : ∃ z : Int32, cmpValue (FP.dcmp c174_z69_2 FP.dconst0) .l = z := ⟨_, rfl⟩
      obtain ⟨c174_c70_2_z17, hc174_c70_2_z17⟩ : ∃ z : UInt64, FP.dmul c174_c70_2_z3 c174_c70_2_z3 = z := ⟨_, rfl⟩
      obtain ⟨c174_c70_2_z19, hc174_c70_2_z19⟩ : ∃ z : UInt64, FP.ddiv c174_c70_2_z17 c174_z69_2 = z := ⟨_, rfl⟩
      obtain ⟨c174_c70_2_rv, hc174_c70_2_rv⟩ : ∃ z : UInt64, (if c174_c70_2_z7 = (0 : Int32) then FP.dconst0 else c174_c70_2_z19) = z := ⟨_, rfl⟩
      obtain ⟨c174_z73_2, hc174_z73_2⟩ : ∃ z : UInt64, FP.dadd c174_z104 c174_c70_2_rv = z := ⟨_, rfl⟩
      obtain ⟨c174_z86_2, hc174_z86_2⟩ : ∃ z : Int32, z32 - z43 = z := ⟨_, rfl⟩
      obtain ⟨c174_z90_2, hc174_z90_2⟩ : ∃ z : Int64, c174_z21_3 - c174_z30_3 = z := ⟨_, rfl⟩
      obtain ⟨c174_z91_2, hc174_z91_2⟩ : ∃ z : UInt64, FP.l2d c174_z90_2 = z := ⟨_, rfl⟩
      obtain ⟨c174_z96_2, hc174_z96_2⟩ : ∃ z : UInt64, FP.i2d z32 = z := ⟨_, rfl⟩
      obtain ⟨c174_z97_2, hc174_z97_2⟩ : ∃ z : UInt64, FP.dmul c174_z91_2 c174_z96_2 = z := ⟨_, rfl⟩
      obtain ⟨c174_z99_2, hc174_z99_2⟩ : ∃ z : UInt64, FP.l2d c174_z21_3 = z := ⟨_, rfl⟩
      obtain ⟨c174_z100_2, hc174_z100_2⟩ : ∃ z : UInt64, FP.ddiv c174_z97_2 c174_z99_2 = z := ⟨_, rfl⟩
      obtain ⟨c174_c101_2_z1, hc174_c101_2_z1⟩ : ∃ z : UInt64, FP.i2d c174_z86_2 = z := ⟨_, rfl⟩
      obtain ⟨c174_c101_2_z3, hc174_c101_2_z3⟩ : ∃ z : UInt64, FP.dsub c174_c101_2_z1 c174_z100_2 = z := ⟨_, rfl⟩
      obtain ⟨c174_c101_2_z7, hc174_c101_2_z7⟩ : ∃ z : Int32, cmpValue (FP.dcmp c174_z100_2 FP.dconst0) .l = z := ⟨_, rfl⟩
      obtain ⟨c174_c101_2_z17, hc174_c101_2_z17⟩ : ∃ z : UInt64, FP.dmul c174_c101_2_z3 c174_c101_2_z3 = z := ⟨_, rfl⟩
      obtain ⟨c174_c101_2_z19, hc174_c101_2_z19⟩ : ∃ z : UInt64, FP.ddiv c174_c101_2_z17 c174_z100_2 = z := ⟨_, rfl⟩
      obtain ⟨c174_c101_2_rv, hc174_c101_2_rv⟩ : ∃ z : UInt64, (if c174_c101_2_z7 = (0 : Int32) then FP.dconst0 else c174_c101_2_z19) = z := ⟨_, rfl⟩
      obtain ⟨c174_z104_2, hc174_z104_2⟩ : ∃ z : UInt64, FP.dadd c174_z73_2 c174_c101_2_rv = z := ⟨_, rfl⟩
      obtain ⟨c174_z60_3, hc174_z60_3⟩ : ∃ z : UInt64, FP.l2d c174_z30_3 = z := ⟨_, rfl⟩
      obtain ⟨c174_z65_3, hc174_z65_3⟩ : ∃ z : UInt64, FP.i2d z50 = z := ⟨_, rfl⟩
      obtain ⟨c174_z66_3, hc174_z66_3⟩ : ∃ z : UInt64, FP.dmul c174_z60_3 c174_z65_3 = z := ⟨_, rfl⟩
      obtain ⟨c174_z68_3, hc174_z68_3⟩ : ∃ z : UInt64, FP.l2d c174_z21_3 = z := ⟨_, rfl⟩
      obtain ⟨c174_z69_3, hc174_z69_3⟩ : ∃ z : UInt64, FP.ddiv c174_z66_3 c174_z68_3 = z := ⟨_, rfl⟩
      obtain ⟨c174_c70_3_z1, hc174_c70_3_z1⟩ : ∃ z : UInt64, FP.i2d z61 = z := ⟨_, rfl⟩
      obtain ⟨c174_c70_3_z3, hc174_c70_3_z3⟩ : ∃ z : UInt64, FP.dsub c174_c70_3_z1 c174_z69_3 = z := ⟨_, rfl⟩
      obtain ⟨c174_c70_3_z7, hc174_c70_3_z7⟩ : ∃ z : Int32, cmpValue (FP.dcmp c174_z69_3 FP.dconst0) .l = z := ⟨_, rfl⟩
      obtain ⟨c174_c70_3_z17, hc174_c70_3_z17⟩ : ∃ z : UInt64, FP.dmul c174_c70_3_z3 c174_c70_3_z3 = z := ⟨_, rfl⟩
      obtain ⟨c174_c70_3_z19, hc174_c70_3_z19⟩ : ∃ z : UInt64, FP.ddiv c174_c70_3_z17 c174_z69_3 = z := ⟨_, rfl⟩
      obtain ⟨c174_c70_3_rv, hc174_c70_3_rv⟩ : ∃ z : UInt64, (if c174_c70_3_z7 = (0 : Int32) then FP.dconst0 else c174_c70_3_z19) = z := ⟨_, rfl⟩
      obtain ⟨c174_z73_3, hc174_z73_3⟩ : ∃ z : UInt64, FP.dadd c174_z104_2 c174_c70_3_rv = z := ⟨_, rfl⟩
      obtain ⟨c174_z86_3, hc174_z86_3⟩ : ∃ z : Int32, z50 - z61 = z := ⟨_, rfl⟩
      obtain ⟨c174_z90_3, hc174_z90_3⟩ : ∃ z : Int64, c174_z21_3 - c174_z30_3 = z := ⟨_, rfl⟩
      obtain ⟨c174_z91_3, hc174_z91_3⟩ : ∃ z : UInt64, FP.l2d c174_z90_3 = z := ⟨_, rfl⟩
      obtain ⟨c174_z96_3, hc174_z96_3⟩ : ∃ z : UInt64, FP.i2d z50 = z := ⟨_, rfl⟩
      obtain ⟨c174_z97_3, hc174_z97_3⟩ : ∃ z : UInt64, FP.dmul c174_z91_3 c174_z96_3 = z := ⟨_, rfl⟩
      obtain ⟨c174_z99_3, hc174_z99_3⟩ : ∃ z : UInt64, FP.l2d c174_z21_3 = z := ⟨_, rfl⟩
      obtain ⟨c174_z100_3, hc174_z100_3⟩ : ∃ z : UInt64, FP.ddiv c174_z97_3 c174_z99_3 = z := ⟨_, rfl⟩
      obtain ⟨c174_c101_3_z1, hc174_c101_3_z1⟩ : ∃ z : UInt64, FP.i2d c174_z86_3 = z := ⟨_, rfl⟩
      obtain ⟨c174_c101_3_z3, hc174_c101_3_z3⟩ : ∃ z : UInt64, FP.dsub c174_c101_3_z1 c174_z100_3 = z := ⟨_, rfl⟩
      obtain ⟨c174_c101_3_z7, hc174_c101_3_z7⟩ : ∃ z : Int32, cmpValue (FP.dcmp c174_z100_3 FP.dconst0) .l = z := ⟨_, rfl⟩
      obtain ⟨c174_c101_3_z17, hc174_c101_3_z17⟩ : ∃ z : UInt64, FP.dmul c174_c101_3_z3 c174_c101_3_z3 = z := ⟨_, rfl⟩
      obtain ⟨c174_c101_3_z19, hc174_c101_3_z19⟩ : ∃ z : UInt64, FP.ddiv c174_c101_3_z17 c174_z100_3 = z := ⟨_, rfl⟩
      obtain ⟨c174_c101_3_rv, hc174_c101_3_rv⟩ : ∃ z : UInt64, (if c174_c101_3_z7 = (0 : Int32) then FP.dconst0 else c174_c101_3_z19) = z := ⟨_, rfl⟩
      obtain ⟨c174_z104_3, hc174_z104_3⟩ : ∃ z : UInt64, FP.dadd c174_z73_3 c174_c101_3_rv = z := ⟨_, rfl⟩
      obtain ⟨z181, hz181⟩ : ∃ z : Int64, z25.toInt64 = z := ⟨_, rfl⟩
      obtain ⟨z184, hz184⟩ : ∃ z : Int64, z43.toInt64 = z := ⟨_, rfl⟩
      obtain ⟨z185, hz185⟩ : ∃ z : Int64, z181 + z184 = z := ⟨_, rfl⟩
      obtain ⟨z188, hz188⟩ : ∃ z : Int64, z61.toInt64 = z := ⟨_, rfl⟩
      obtain ⟨z189, hz189⟩ : ∃ z : Int64, z185 + z188 = z := ⟨_, rfl⟩
      obtain ⟨z196, hz196⟩ : ∃ z : Int64, z158 - z189 = z := ⟨_, rfl⟩
      obtain ⟨z205, hz205⟩ : ∃ z : Int32, lcmpW z189 (0 : Int64) = z := ⟨_, rfl⟩
      have z00 : (0 : Int64).toInt = 0 := by decide
      have z32_0 : (0 : Int32).toInt = 0 := by decide
      have i20_0 := Jvm.OwnF.i2l_v hc174_z20
      have i29_0 := Jvm.OwnF.i2l_v hc174_z29
      have i21_0 := Jvm.OwnF.ladd_v hc174_z21 (by omega)
      have i30_0 := Jvm.OwnF.ladd_v hc174_z30 (by omega)
      have i20_1 := Jvm.OwnF.i2l_v hc174_z20_2
      have i29_1 := Jvm.OwnF.i2l_v hc174_z29_2
      have i21_1 := Jvm.OwnF.ladd_v hc174_z21_2 (by omega)
      have i30_1 := Jvm.OwnF.ladd_v hc174_z30_2 (by omega)
      have i20_2 := Jvm.OwnF.i2l_v hc174_z20_3
      have i29_2 := Jvm.OwnF.i2l_v hc174_z29_3
      have i21_2 := Jvm.OwnF.ladd_v hc174_z21_3 (by omega)
      have i30_2 := Jvm.OwnF.ladd_v hc174_z30_3 (by omega)
      have j150 := Jvm.OwnF.i2l_v hz150
      have j153 := Jvm.OwnF.i2l_v hz153
      have j157 := Jvm.OwnF.i2l_v hz157
      have j154 := Jvm.OwnF.ladd_v hz154 (by omega)
      have j158 := Jvm.OwnF.ladd_v hz158 (by omega)
      have eN : c174_z21_3.toInt = z158.toInt := by omega
      have nz164 : z158.toInt ≠ 0 := fun q => hb165 (by rw [← hz164]; exact (lw_eq _ _).mpr (Int64.toInt_inj.mp (by rw [q, z00])))
      have bN : 1 ≤ c174_z21_3.toInt ∧ c174_z21_3.toInt ≤ 12285 := by omega
      have bK : 0 ≤ c174_z30_3.toInt ∧ c174_z30_3.toInt ≤ c174_z21_3.toInt := by omega
      have bh0 : 0 ≤ z14.toInt ∧ z14.toInt ≤ 4095 := by omega
      have bh1 : 0 ≤ z32.toInt ∧ z32.toInt ≤ 4095 := by omega
      have bh2 : 0 ≤ z50.toInt ∧ z50.toInt ≤ 4095 := by omega
      have hQb := Qn_b bh0 bh1 bh2 bN bK
      have Rb0 := Rb bh1 bh2
      have Rb1 := Rb bh0 bh2
      have Rb2 := Rb bh0 bh1
      have sh0 := sh (g := z25.toInt) (h := z14.toInt) (by omega) (by omega) (by omega) bK bN Rb0
      have sh1 := sh (g := z43.toInt) (h := z32.toInt) (by omega) (by omega) (by omega) bK bN Rb1
      have sh2 := sh (g := z61.toInt) (h := z50.toInt) (by omega) (by omega) (by omega) bK bN Rb2
      obtain ⟨⟨c174_nn66, c174_nn69, c174_c70_nn3, c174_c70_nn17, c174_c70_nn19, c174_nn73, c174_nn97, c174_nn100, c174_c101_nn3, c174_c101_nn17, c174_c101_nn19, c174_nn104⟩, acc0⟩ := Jvm.OwnF.itemS (by omega) (by omega) (by omega) (by omega) (by omega) bN.1 bN.2 Rb0.1 ⟨by decide, by decide⟩ hQb Qe0 (Jvm.OwnF.Acc.zero 44 (Qn c174_z21_3.toInt c174_z30_3.toInt z14.toInt z32.toInt z50.toInt)) (by omega) hc174_z60 hc174_z65 hc174_z66 hc174_z68 hc174_z69 hc174_c70_z1 hc174_c70_z3 hc174_c70_z7 hc174_c70_z17 hc174_c70_z19 hc174_c70_rv hc174_z73 hc174_z86 hc174_z90 hc174_z91 hc174_z96 hc174_z97 hc174_z99 hc174_z100 hc174_c101_z1 hc174_c101_z3 hc174_c101_z7 hc174_c101_z17 hc174_c101_z19 hc174_c101_rv hc174_z104
      obtain ⟨⟨c174_nn66_2, c174_nn69_2, c174_c70_2_nn3, c174_c70_2_nn17, c174_c70_2_nn19, c174_nn73_2, c174_nn97_2, c174_nn100_2, c174_c101_2_nn3, c174_c101_2_nn17, c174_c101_2_nn19, c174_nn104_2⟩, acc1⟩ := Jvm.OwnF.itemS (by omega) (by omega) (by omega) (by omega) (by omega) bN.1 bN.2 Rb1.1 ⟨by decide, by decide⟩ hQb Qe1 acc0 (by omega) hc174_z60_2 hc174_z65_2 hc174_z66_2 hc174_z68_2 hc174_z69_2 hc174_c70_2_z1 hc174_c70_2_z3 hc174_c70_2_z7 hc174_c70_2_z17 hc174_c70_2_z19 hc174_c70_2_rv hc174_z73_2 hc174_z86_2 hc174_z90_2 hc174_z91_2 hc174_z96_2 hc174_z97_2 hc174_z99_2 hc174_z100_2 hc174_c101_2_z1 hc174_c101_2_z3 hc174_c101_2_z7 hc174_c101_2_z17 hc174_c101_2_z19 hc174_c101_2_rv hc174_z104_2
      obtain ⟨⟨c174_nn66_3, c174_nn69_3, c174_c70_3_nn3, c174_c70_3_nn17, c174_c70_3_nn19, c174_nn73_3, c174_nn97_3, c174_nn100_3, c174_c101_3_nn3, c174_c101_3_nn17, c174_c101_3_nn19, c174_nn104_3⟩, acc2⟩ := Jvm.OwnF.itemS (by omega) (by omega) (by omega) (by omega) (by omega) bN.1 bN.2 Rb2.1 ⟨by decide, by decide⟩ hQb Qe2 acc1 (by omega) hc174_z60_3 hc174_z65_3 hc174_z66_3 hc174_z68_3 hc174_z69_3 hc174_c70_3_z1 hc174_c70_3_z3 hc174_c70_3_z7 hc174_c70_3_z17 hc174_c70_3_z19 hc174_c70_3_rv hc174_z73_3 hc174_z86_3 hc174_z90_3 hc174_z91_3 hc174_z96_3 hc174_z97_3 hc174_z99_3 hc174_z100_3 hc174_c101_3_z1 hc174_c101_3_z3 hc174_c101_3_z7 hc174_c101_3_z17 hc174_c101_3_z19 hc174_c101_3_rv hc174_z104_3
      have f125 := (V117.other W121 (Nat.ne_of_lt (Nat.lt_of_lt_of_le (V95).lt (Nat.le_of_eq g97.symm))))
      obtain ⟨_, _, ⟨T126, L126, k126, n126⟩, -, X126, ⟨Lc126, hQ126, ql126, qy126, qz126⟩, st126⟩ := Jvm.LawKit.callS X121 hx (y := (⟨"com/example/tidy_ranker/tidyranker/classification/ChiSquare", "score", "([I[I)D"⟩ : MethodName)) hown (mvT hZ (hw _ (List.mem_of_getElem? (i := 2) rfl))) (mvT hZ (hw _ (List.mem_of_getElem? (i := 3) rfl))) (mvT hZ (hw _ (List.mem_of_getElem? (i := 4) rfl))) (mvT hZ (hw _ (List.mem_of_getElem? (i := 5) rfl))) (by decide) (backOf (W := 0) (rm1_3 l Z a0 hw [] b97 b95 k97 z25 z43 z61 k95 z14 z32 z50 c174_z20 c174_z21 c174_z29 c174_z30 c174_z20_2 c174_z21_2 c174_z29_2 c174_z30_2 c174_z20_3 c174_z21_3 c174_z29_3 c174_z30_3 c174_z60 c174_z65 c174_z66 c174_z68 c174_z69 c174_c70_z1 c174_c70_z3 c174_c70_z7 c174_c70_z17 c174_c70_z19 c174_c70_rv c174_z73 c174_z86 c174_z90 c174_z91 c174_z96 c174_z97 c174_z99 c174_z100 c174_c101_z1 c174_c101_z3 c174_c101_z7 c174_c101_z17 c174_c101_z19 c174_c101_rv c174_z104 c174_z60_2 c174_z65_2 c174_z66_2 c174_z68_2 c174_z69_2 c174_c70_2_z1 c174_c70_2_z3 c174_c70_2_z7 c174_c70_2_z17 c174_c70_2_z19 c174_c70_2_rv c174_z73_2 c174_z86_2 c174_z90_2 c174_z91_2 c174_z96_2 c174_z97_2 c174_z99_2 c174_z100_2 c174_c101_2_z1 c174_c101_2_z3 c174_c101_2_z7 c174_c101_2_z17 c174_c101_2_z19 c174_c101_2_rv c174_z104_2 c174_z60_3 c174_z65_3 c174_z66_3 c174_z68_3 c174_z69_3 c174_c70_3_z1 c174_c70_3_z3 c174_c70_3_z7 c174_c70_3_z17 c174_c70_3_z19 c174_c70_3_rv c174_z73_3 c174_z86_3 c174_z90_3 c174_z91_3 c174_z96_3 c174_z97_3 c174_z99_3 c174_z100_3 c174_c101_3_z1 c174_c101_3_z3 c174_c101_3_z7 c174_c101_3_z17 c174_c101_3_z19 c174_c101_3_rv c174_z104_3 h121 n0 (Nat.le_trans (Nat.le_trans (Nat.le_trans (Nat.le_trans (Nat.le_trans (Nat.le_trans (Nat.le_trans (Nat.le_trans Z0 E95.1) E97.1) (Keep.of_wr W101).1) (Keep.of_wr W105).1) (Keep.of_wr W109).1) (Keep.of_wr W113).1) (Keep.of_wr W117).1) (Keep.of_wr W121).1) V121 f125 hc174_z20 hc174_z21 hc174_z29 hc174_z30 hc174_z20_2 hc174_z21_2 hc174_z29_2 hc174_z30_2 hc174_z20_3 hc174_z21_3 hc174_z29_3 hc174_z30_3 hc174_z60 hc174_z65 hc174_z66 hc174_z68 hc174_z69 hc174_c70_z1 hc174_c70_z3 hc174_c70_z7 hc174_c70_z17 hc174_c70_z19 hc174_c70_rv hc174_z73 hc174_z86 hc174_z90 hc174_z91 hc174_z96 hc174_z97 hc174_z99 hc174_z100 hc174_c101_z1 hc174_c101_z3 hc174_c101_z7 hc174_c101_z17 hc174_c101_z19 hc174_c101_rv hc174_z104 hc174_z60_2 hc174_z65_2 hc174_z66_2 hc174_z68_2 hc174_z69_2 hc174_c70_2_z1 hc174_c70_2_z3 hc174_c70_2_z7 hc174_c70_2_z17 hc174_c70_2_z19 hc174_c70_2_rv hc174_z73_2 hc174_z86_2 hc174_z90_2 hc174_z91_2 hc174_z96_2 hc174_z97_2 hc174_z99_2 hc174_z100_2 hc174_c101_2_z1 hc174_c101_2_z3 hc174_c101_2_z7 hc174_c101_2_z17 hc174_c101_2_z19 hc174_c101_2_rv hc174_z104_2 hc174_z60_3 hc174_z65_3 hc174_z66_3 hc174_z68_3 hc174_z69_3 hc174_c70_3_z1 hc174_c70_3_z3 hc174_c70_3_z7 hc174_c70_3_z17 hc174_c70_3_z19 hc174_c70_3_rv hc174_z73_3 hc174_z86_3 hc174_z90_3 hc174_z91_3 hc174_z96_3 hc174_z97_3 hc174_z99_3 hc174_z100_3 hc174_c101_3_z1 hc174_c101_3_z3 hc174_c101_3_z7 hc174_c101_3_z17 hc174_c101_3_z19 hc174_c101_3_rv hc174_z104_3 c174_nn66 c174_nn69 c174_c70_nn3 c174_c70_nn17 c174_c70_nn19 c174_nn73 c174_nn97 c174_nn100 c174_c101_nn3 c174_c101_nn17 c174_c101_nn19 c174_nn104 c174_nn66_2 c174_nn69_2 c174_c70_2_nn3 c174_c70_2_nn17 c174_c70_2_nn19 c174_nn73_2 c174_nn97_2 c174_nn100_2 c174_c101_2_nn3 c174_c101_2_nn17 c174_c101_2_nn19 c174_nn104_2 c174_nn66_3 c174_nn69_3 c174_c70_3_nn3 c174_c70_3_nn17 c174_c70_3_nn19 c174_nn73_3 c174_nn97_3 c174_nn100_3 c174_c101_3_nn3 c174_c101_3_nn17 c174_c101_3_nn19 c174_nn104_3) hZ (hw _ (List.mem_of_getElem? (i := 5) rfl)) (hw _ (List.mem_of_getElem? (i := 4) rfl)) (by decide) (by decide)) (g := (mkF m 174 #[vI p0, vI p1, vI p2, vI p3, vI (3 : Int32), vI z14, vI z25, vI z32, vI z43, vI z50, vI z61, vR b95, vR b97, vJ z158, s_, u_, u_, u_, u_, u_, u_, u_, u_, u_, u_, u_, u_, u_, u_] [(.ref b95), (.ref b97)])) rfl (by rw [hml]; rfl) (argsL := [(.ref b97), (.ref b95)]) (rest := []) (lenOf pd_1 rfl) rfl (by show 2 * 0 + _ ≤ _; exact Nat.le_of_eq rfl) (hb hby at_174) (fun _ _ => ⟨rfl, e121, (by decide : 2 + 0 ≤ _), (by decide : 6 + 0 ≤ _)⟩)
      dsimp only [Pt.U, Pt.locs, Pt.cells, Pt.slots] at X126 ql126 qy126 qz126 st126 hQ126
      subst ql126 qy126 qz126
      obtain ⟨rfl, N126q, e126⟩ := hQ126
      have N126 := Fr.app N121 N126q
      have j181 := Jvm.OwnF.i2l_v hz181
      have j184 := Jvm.OwnF.i2l_v hz184
      have j188 := Jvm.OwnF.i2l_v hz188
      have j185 := Jvm.OwnF.ladd_v hz185 (by omega)
      have j189 := Jvm.OwnF.ladd_v hz189 (by omega)
      have j196 := Jvm.OwnF.lsub_v hz196 (by omega)
      have eK : c174_z30_3.toInt = z189.toInt := by omega
      have c127 : ∀ t, Steps p.tables e below (T126.setTop (mkF m 206 #[vI p0, vI p1, vI p2, vI p3, vI (3 : Int32), vI z14, vI z25, vI z32, vI z43, vI z50, vI z61, vR b95, vR b97, vJ z158, s_, vD c174_z104_3, s_, vJ z189, s_, vJ z196, s_, vD FP.dconst0, s_, u_, u_, u_, u_, u_, u_] [(.int z205)])) t → Steps p.tables e below (s₁.setTop (entryFrame m #[(.int p0), (.int p1), (.int p2), (.int p3)] maxLocals)) t := by
        intro t k
        refine c123 t ?_
        show Steps p.tables e below (T121.setTop (mkF m 165 #[vI p0, vI p1, vI p2, vI p3, vI (3 : Int32), vI z14, vI z25, vI z32, vI z43, vI z50, vI z61, vR b95, vR b97, vJ z158, s_, u_, u_, u_, u_, u_, u_, u_, u_, u_, u_, u_, u_, u_, u_] [(.int z164)])) _
        refine XS.ifYes X121.here hx rfl (pc0 := 165) (pc' := 170) rfl (hb hby at_165) rfl (Jvm.Free.XT.i0_ne_t hb165) (by decide) (by decide) ?_
        show Steps p.tables e below (T121.setTop (mkF m 170 #[vI p0, vI p1, vI p2, vI p3, vI (3 : Int32), vI z14, vI z25, vI z32, vI z43, vI z50, vI z61, vR b95, vR b97, vJ z158, s_, u_, u_, u_, u_, u_, u_, u_, u_, u_, u_, u_, u_, u_, u_] [])) _
        refine XS.aload X121.here hx rfl (hb hby at_170) rfl rfl ?_
        show Steps p.tables e below (T121.setTop (mkF m 172 #[vI p0, vI p1, vI p2, vI p3, vI (3 : Int32), vI z14, vI z25, vI z32, vI z43, vI z50, vI z61, vR b95, vR b97, vJ z158, s_, u_, u_, u_, u_, u_, u_, u_, u_, u_, u_, u_, u_, u_, u_] [(.ref b97)])) _
        refine XS.aload X121.here hx rfl (hb hby at_172) rfl rfl ?_
        show Steps p.tables e below (T121.setTop (mkF m 174 #[vI p0, vI p1, vI p2, vI p3, vI (3 : Int32), vI z14, vI z25, vI z32, vI z43, vI z50, vI z61, vR b95, vR b97, vJ z158, s_, u_, u_, u_, u_, u_, u_, u_, u_, u_, u_, u_, u_, u_, u_] [(.ref b95), (.ref b97)])) _
        refine st126 _ ?_
        show Steps p.tables e below (T126.setTop (mkF m 177 #[vI p0, vI p1, vI p2, vI p3, vI (3 : Int32), vI z14, vI z25, vI z32, vI z43, vI z50, vI z61, vR b95, vR b97, vJ z158, s_, u_, u_, u_, u_, u_, u_, u_, u_, u_, u_, u_, u_, u_, u_] [(.double c174_z104_3)])) _
        refine XS.dstore X126.here hx rfl (hb hby at_177) rfl (l' := #[vI p0, vI p1, vI p2, vI p3, vI (3 : Int32), vI z14, vI z25, vI z32, vI z43, vI z50, vI z61, vR b95, vR b97, vJ z158, s_, vD c174_z104_3, s_, u_, u_, u_, u_, u_, u_, u_, u_, u_, u_, u_, u_]) rfl ?_
        show Steps p.tables e below (T126.setTop (mkF m 179 #[vI p0, vI p1, vI p2, vI p3, vI (3 : Int32), vI z14, vI z25, vI z32, vI z43, vI z50, vI z61, vR b95, vR b97, vJ z158, s_, vD c174_z104_3, s_, u_, u_, u_, u_, u_, u_, u_, u_, u_, u_, u_, u_] [])) _
        refine XS.iload X126.here hx rfl (hb hby at_179) rfl ?_
        show Steps p.tables e below (T126.setTop (mkF m 181 #[vI p0, vI p1, vI p2, vI p3, vI (3 : Int32), vI z14, vI z25, vI z32, vI z43, vI z50, vI z61, vR b95, vR b97, vJ z158, s_, vD c174_z104_3, s_, u_, u_, u_, u_, u_, u_, u_, u_, u_, u_, u_, u_] [(.int z25)])) _
        refine Jvm.OwnK.i2l X126.here hx rfl (hb hby at_181) rfl hz181 ?_
        show Steps p.tables e below (T126.setTop (mkF m 182 #[vI p0, vI p1, vI p2, vI p3, vI (3 : Int32), vI z14, vI z25, vI z32, vI z43, vI z50, vI z61, vR b95, vR b97, vJ z158, s_, vD c174_z104_3, s_, u_, u_, u_, u_, u_, u_, u_, u_, u_, u_, u_, u_] [(.long z181)])) _
        refine XS.iload X126.here hx rfl (hb hby at_182) rfl ?_
        show Steps p.tables e below (T126.setTop (mkF m 184 #[vI p0, vI p1, vI p2, vI p3, vI (3 : Int32), vI z14, vI z25, vI z32, vI z43, vI z50, vI z61, vR b95, vR b97, vJ z158, s_, vD c174_z104_3, s_, u_, u_, u_, u_, u_, u_, u_, u_, u_, u_, u_, u_] [(.int z43), (.long z181)])) _
        refine Jvm.OwnK.i2l X126.here hx rfl (hb hby at_184) rfl hz184 ?_
        show Steps p.tables e below (T126.setTop (mkF m 185 #[vI p0, vI p1, vI p2, vI p3, vI (3 : Int32), vI z14, vI z25, vI z32, vI z43, vI z50, vI z61, vR b95, vR b97, vJ z158, s_, vD c174_z104_3, s_, u_, u_, u_, u_, u_, u_, u_, u_, u_, u_, u_, u_] [(.long z184), (.long z181)])) _
        refine Jvm.OwnK.ladd X126.here hx rfl (hb hby at_185) rfl hz185 ?_
        show Steps p.tables e below (T126.setTop (mkF m 186 #[vI p0, vI p1, vI p2, vI p3, vI (3 : Int32), vI z14, vI z25, vI z32, vI z43, vI z50, vI z61, vR b95, vR b97, vJ z158, s_, vD c174_z104_3, s_, u_, u_, u_, u_, u_, u_, u_, u_, u_, u_, u_, u_] [(.long z185)])) _
        refine XS.iload X126.here hx rfl (hb hby at_186) rfl ?_
        show Steps p.tables e below (T126.setTop (mkF m 188 #[vI p0, vI p1, vI p2, vI p3, vI (3 : Int32), vI z14, vI z25, vI z32, vI z43, vI z50, vI z61, vR b95, vR b97, vJ z158, s_, vD c174_z104_3, s_, u_, u_, u_, u_, u_, u_, u_, u_, u_, u_, u_, u_] [(.int z61), (.long z185)])) _
        refine Jvm.OwnK.i2l X126.here hx rfl (hb hby at_188) rfl hz188 ?_
        show Steps p.tables e below (T126.setTop (mkF m 189 #[vI p0, vI p1, vI p2, vI p3, vI (3 : Int32), vI z14, vI z25, vI z32, vI z43, vI z50, vI z61, vR b95, vR b97, vJ z158, s_, vD c174_z104_3, s_, u_, u_, u_, u_, u_, u_, u_, u_, u_, u_, u_, u_] [(.long z188), (.long z185)])) _
        refine Jvm.OwnK.ladd X126.here hx rfl (hb hby at_189) rfl hz189 ?_
        show Steps p.tables e below (T126.setTop (mkF m 190 #[vI p0, vI p1, vI p2, vI p3, vI (3 : Int32), vI z14, vI z25, vI z32, vI z43, vI z50, vI z61, vR b95, vR b97, vJ z158, s_, vD c174_z104_3, s_, u_, u_, u_, u_, u_, u_, u_, u_, u_, u_, u_, u_] [(.long z189)])) _
        refine XS.lstore X126.here hx rfl (hb hby at_190) rfl (l' := #[vI p0, vI p1, vI p2, vI p3, vI (3 : Int32), vI z14, vI z25, vI z32, vI z43, vI z50, vI z61, vR b95, vR b97, vJ z158, s_, vD c174_z104_3, s_, vJ z189, s_, u_, u_, u_, u_, u_, u_, u_, u_, u_, u_]) rfl ?_
        show Steps p.tables e below (T126.setTop (mkF m 192 #[vI p0, vI p1, vI p2, vI p3, vI (3 : Int32), vI z14, vI z25, vI z32, vI z43, vI z50, vI z61, vR b95, vR b97, vJ z158, s_, vD c174_z104_3, s_, vJ z189, s_, u_, u_, u_, u_, u_, u_, u_, u_, u_, u_] [])) _
        refine XS.lload X126.here hx rfl (hb hby at_192) rfl ?_
        show Steps p.tables e below (T126.setTop (mkF m 194 #[vI p0, vI p1, vI p2, vI p3, vI (3 : Int32), vI z14, vI z25, vI z32, vI z43, vI z50, vI z61, vR b95, vR b97, vJ z158, s_, vD c174_z104_3, s_, vJ z189, s_, u_, u_, u_, u_, u_, u_, u_, u_, u_, u_] [(.long z158)])) _
        refine XS.lload X126.here hx rfl (hb hby at_194) rfl ?_
        show Steps p.tables e below (T126.setTop (mkF m 196 #[vI p0, vI p1, vI p2, vI p3, vI (3 : Int32), vI z14, vI z25, vI z32, vI z43, vI z50, vI z61, vR b95, vR b97, vJ z158, s_, vD c174_z104_3, s_, vJ z189, s_, u_, u_, u_, u_, u_, u_, u_, u_, u_, u_] [(.long z189), (.long z158)])) _
        refine Jvm.OwnK.lsub X126.here hx rfl (hb hby at_196) rfl hz196 ?_
        show Steps p.tables e below (T126.setTop (mkF m 197 #[vI p0, vI p1, vI p2, vI p3, vI (3 : Int32), vI z14, vI z25, vI z32, vI z43, vI z50, vI z61, vR b95, vR b97, vJ z158, s_, vD c174_z104_3, s_, vJ z189, s_, u_, u_, u_, u_, u_, u_, u_, u_, u_, u_] [(.long z196)])) _
        refine XS.lstore X126.here hx rfl (hb hby at_197) rfl (l' := #[vI p0, vI p1, vI p2, vI p3, vI (3 : Int32), vI z14, vI z25, vI z32, vI z43, vI z50, vI z61, vR b95, vR b97, vJ z158, s_, vD c174_z104_3, s_, vJ z189, s_, vJ z196, s_, u_, u_, u_, u_, u_, u_, u_, u_]) rfl ?_
        show Steps p.tables e below (T126.setTop (mkF m 199 #[vI p0, vI p1, vI p2, vI p3, vI (3 : Int32), vI z14, vI z25, vI z32, vI z43, vI z50, vI z61, vR b95, vR b97, vJ z158, s_, vD c174_z104_3, s_, vJ z189, s_, vJ z196, s_, u_, u_, u_, u_, u_, u_, u_, u_] [])) _
        refine XS.dconst0 X126.here hx rfl (hb hby at_199) (v := FP.dconst0) rfl ?_
        show Steps p.tables e below (T126.setTop (mkF m 200 #[vI p0, vI p1, vI p2, vI p3, vI (3 : Int32), vI z14, vI z25, vI z32, vI z43, vI z50, vI z61, vR b95, vR b97, vJ z158, s_, vD c174_z104_3, s_, vJ z189, s_, vJ z196, s_, u_, u_, u_, u_, u_, u_, u_, u_] [(.double FP.dconst0)])) _
        refine XS.dstore X126.here hx rfl (hb hby at_200) rfl (l' := #[vI p0, vI p1, vI p2, vI p3, vI (3 : Int32), vI z14, vI z25, vI z32, vI z43, vI z50, vI z61, vR b95, vR b97, vJ z158, s_, vD c174_z104_3, s_, vJ z189, s_, vJ z196, s_, vD FP.dconst0, s_, u_, u_, u_, u_, u_, u_]) rfl ?_
        show Steps p.tables e below (T126.setTop (mkF m 202 #[vI p0, vI p1, vI p2, vI p3, vI (3 : Int32), vI z14, vI z25, vI z32, vI z43, vI z50, vI z61, vR b95, vR b97, vJ z158, s_, vD c174_z104_3, s_, vJ z189, s_, vJ z196, s_, vD FP.dconst0, s_, u_, u_, u_, u_, u_, u_] [])) _
        refine XS.lload X126.here hx rfl (hb hby at_202) rfl ?_
        show Steps p.tables e below (T126.setTop (mkF m 204 #[vI p0, vI p1, vI p2, vI p3, vI (3 : Int32), vI z14, vI z25, vI z32, vI z43, vI z50, vI z61, vR b95, vR b97, vJ z158, s_, vD c174_z104_3, s_, vJ z189, s_, vJ z196, s_, vD FP.dconst0, s_, u_, u_, u_, u_, u_, u_] [(.long z189)])) _
        refine XS.lconst X126.here hx rfl (hb hby at_204) ?_
        show Steps p.tables e below (T126.setTop (mkF m 205 #[vI p0, vI p1, vI p2, vI p3, vI (3 : Int32), vI z14, vI z25, vI z32, vI z43, vI z50, vI z61, vR b95, vR b97, vJ z158, s_, vD c174_z104_3, s_, vJ z189, s_, vJ z196, s_, vD FP.dconst0, s_, u_, u_, u_, u_, u_, u_] [(.long (0 : Int64)), (.long z189)])) _
        refine Jvm.OwnK.lcmp X126.here hx rfl (hb hby at_205) rfl hz205 ?_
        exact k
      by_cases hb206 : z205 = (0 : Int32)
      · skip
        obtain ⟨z270, hz270⟩ : ∃ z : UInt64, FP.dmul FP.dconst0 (4517329193108106637 : UInt64) = z := ⟨_, rfl⟩
        obtain ⟨z277, hz277⟩ : ∃ z : UInt64, FP.dadd FP.dconst0 z270 = z := ⟨_, rfl⟩
        obtain ⟨z284, hz284⟩ : ∃ z : UInt64, FP.dsub FP.dconst0 z270 = z := ⟨_, rfl⟩
        obtain ⟨z291, hz291⟩ : ∃ z : Int32, cmpValue (FP.dcmp z284 c174_z104_3) .g = z := ⟨_, rfl⟩
        have kz : z189.toInt = 0 := by have := (lw_eq _ _).mp (hz205.trans hb206); rw [this]; exact z00
        have dz0 : z25.toInt * c174_z21_3.toInt - c174_z30_3.toInt * z14.toInt = 0 := by
          rw [show z25.toInt = 0 by omega, show c174_z30_3.toInt = 0 by omega, Int.zero_mul, Int.zero_mul]; rfl
        have dz1 : z43.toInt * c174_z21_3.toInt - c174_z30_3.toInt * z32.toInt = 0 := by
          rw [show z43.toInt = 0 by omega, show c174_z30_3.toInt = 0 by omega, Int.zero_mul, Int.zero_mul]; rfl
        have dz2 : z61.toInt * c174_z21_3.toInt - c174_z30_3.toInt * z50.toInt = 0 := by
          rw [show z61.toInt = 0 by omega, show c174_z30_3.toInt = 0 by omega, Int.zero_mul, Int.zero_mul]; rfl
        have aS := acc2
        rw [dz0] at aS
        rw [dz1] at aS
        rw [dz2] at aS
        simp only [Int.zero_mul, Int.add_zero] at aS
        obtain ⟨nn270, nn277, nn284, fs, fh, fl, lo1, hi1⟩ := Jvm.OwnF.finR hQb (by decide) (aS.mono (by decide)) (Jvm.OwnF.Acc.zero 5 _) hz270 hz277 hz284
        have c128 : ∀ t, Steps p.tables e below (T126.setTop (mkF m 292 #[vI p0, vI p1, vI p2, vI p3, vI (3 : Int32), vI z14, vI z25, vI z32, vI z43, vI z50, vI z61, vR b95, vR b97, vJ z158, s_, vD c174_z104_3, s_, vJ z189, s_, vJ z196, s_, vD FP.dconst0, s_, vD z270, s_, vD z277, s_, vD z284, s_] [(.int z291)])) t → Steps p.tables e below (s₁.setTop (entryFrame m #[(.int p0), (.int p1), (.int p2), (.int p3)] maxLocals)) t := by
          intro t k
          refine c127 t ?_
          show Steps p.tables e below (T126.setTop (mkF m 206 #[vI p0, vI p1, vI p2, vI p3, vI (3 : Int32), vI z14, vI z25, vI z32, vI z43, vI z50, vI z61, vR b95, vR b97, vJ z158, s_, vD c174_z104_3, s_, vJ z189, s_, vJ z196, s_, vD FP.dconst0, s_, u_, u_, u_, u_, u_, u_] [(.int z205)])) _
          refine XS.ifYes X126.here hx rfl (pc0 := 206) (pc' := 265) rfl (hb hby at_206) rfl (Jvm.Free.XT.i0_eq_t hb206) (by decide) (by decide) ?_
          show Steps p.tables e below (T126.setTop (mkF m 265 #[vI p0, vI p1, vI p2, vI p3, vI (3 : Int32), vI z14, vI z25, vI z32, vI z43, vI z50, vI z61, vR b95, vR b97, vJ z158, s_, vD c174_z104_3, s_, vJ z189, s_, vJ z196, s_, vD FP.dconst0, s_, u_, u_, u_, u_, u_, u_] [])) _
          refine XS.dload X126.here hx rfl (hb hby at_265) rfl ?_
          show Steps p.tables e below (T126.setTop (mkF m 267 #[vI p0, vI p1, vI p2, vI p3, vI (3 : Int32), vI z14, vI z25, vI z32, vI z43, vI z50, vI z61, vR b95, vR b97, vJ z158, s_, vD c174_z104_3, s_, vJ z189, s_, vJ z196, s_, vD FP.dconst0, s_, u_, u_, u_, u_, u_, u_] [(.double FP.dconst0)])) _
          refine X126.ldc2DoubleC hx hown (mvT hZ (hw _ (List.mem_of_getElem? (i := 9) rfl))) (g := (mkF m 267 #[vI p0, vI p1, vI p2, vI p3, vI (3 : Int32), vI z14, vI z25, vI z32, vI z43, vI z50, vI z61, vR b95, vR b97, vJ z158, s_, vD c174_z104_3, s_, vJ z189, s_, vJ z196, s_, vD FP.dconst0, s_, u_, u_, u_, u_, u_, u_] [(.double FP.dconst0)])) rfl (hb hby at_267) _ ?_
          show Steps p.tables e below (T126.setTop (mkF m 270 #[vI p0, vI p1, vI p2, vI p3, vI (3 : Int32), vI z14, vI z25, vI z32, vI z43, vI z50, vI z61, vR b95, vR b97, vJ z158, s_, vD c174_z104_3, s_, vJ z189, s_, vJ z196, s_, vD FP.dconst0, s_, u_, u_, u_, u_, u_, u_] [(.double (4517329193108106637 : UInt64)), (.double FP.dconst0)])) _
          refine Jvm.OwnK.dmul X126.here hx rfl (hb hby at_270) rfl hz270 nn270 ?_
          show Steps p.tables e below (T126.setTop (mkF m 271 #[vI p0, vI p1, vI p2, vI p3, vI (3 : Int32), vI z14, vI z25, vI z32, vI z43, vI z50, vI z61, vR b95, vR b97, vJ z158, s_, vD c174_z104_3, s_, vJ z189, s_, vJ z196, s_, vD FP.dconst0, s_, u_, u_, u_, u_, u_, u_] [(.double z270)])) _
          refine XS.dstore X126.here hx rfl (hb hby at_271) rfl (l' := #[vI p0, vI p1, vI p2, vI p3, vI (3 : Int32), vI z14, vI z25, vI z32, vI z43, vI z50, vI z61, vR b95, vR b97, vJ z158, s_, vD c174_z104_3, s_, vJ z189, s_, vJ z196, s_, vD FP.dconst0, s_, vD z270, s_, u_, u_, u_, u_]) rfl ?_
          show Steps p.tables e below (T126.setTop (mkF m 273 #[vI p0, vI p1, vI p2, vI p3, vI (3 : Int32), vI z14, vI z25, vI z32, vI z43, vI z50, vI z61, vR b95, vR b97, vJ z158, s_, vD c174_z104_3, s_, vJ z189, s_, vJ z196, s_, vD FP.dconst0, s_, vD z270, s_, u_, u_, u_, u_] [])) _
          refine XS.dload X126.here hx rfl (hb hby at_273) rfl ?_
          show Steps p.tables e below (T126.setTop (mkF m 275 #[vI p0, vI p1, vI p2, vI p3, vI (3 : Int32), vI z14, vI z25, vI z32, vI z43, vI z50, vI z61, vR b95, vR b97, vJ z158, s_, vD c174_z104_3, s_, vJ z189, s_, vJ z196, s_, vD FP.dconst0, s_, vD z270, s_, u_, u_, u_, u_] [(.double FP.dconst0)])) _
          refine XS.dload X126.here hx rfl (hb hby at_275) rfl ?_
          show Steps p.tables e below (T126.setTop (mkF m 277 #[vI p0, vI p1, vI p2, vI p3, vI (3 : Int32), vI z14, vI z25, vI z32, vI z43, vI z50, vI z61, vR b95, vR b97, vJ z158, s_, vD c174_z104_3, s_, vJ z189, s_, vJ z196, s_, vD FP.dconst0, s_, vD z270, s_, u_, u_, u_, u_] [(.double z270), (.double FP.dconst0)])) _
          refine Jvm.OwnK.dadd X126.here hx rfl (hb hby at_277) rfl hz277 nn277 ?_
          show Steps p.tables e below (T126.setTop (mkF m 278 #[vI p0, vI p1, vI p2, vI p3, vI (3 : Int32), vI z14, vI z25, vI z32, vI z43, vI z50, vI z61, vR b95, vR b97, vJ z158, s_, vD c174_z104_3, s_, vJ z189, s_, vJ z196, s_, vD FP.dconst0, s_, vD z270, s_, u_, u_, u_, u_] [(.double z277)])) _
          refine XS.dstore X126.here hx rfl (hb hby at_278) rfl (l' := #[vI p0, vI p1, vI p2, vI p3, vI (3 : Int32), vI z14, vI z25, vI z32, vI z43, vI z50, vI z61, vR b95, vR b97, vJ z158, s_, vD c174_z104_3, s_, vJ z189, s_, vJ z196, s_, vD FP.dconst0, s_, vD z270, s_, vD z277, s_, u_, u_]) rfl ?_
          show Steps p.tables e below (T126.setTop (mkF m 280 #[vI p0, vI p1, vI p2, vI p3, vI (3 : Int32), vI z14, vI z25, vI z32, vI z43, vI z50, vI z61, vR b95, vR b97, vJ z158, s_, vD c174_z104_3, s_, vJ z189, s_, vJ z196, s_, vD FP.dconst0, s_, vD z270, s_, vD z277, s_, u_, u_] [])) _
          refine XS.dload X126.here hx rfl (hb hby at_280) rfl ?_
          show Steps p.tables e below (T126.setTop (mkF m 282 #[vI p0, vI p1, vI p2, vI p3, vI (3 : Int32), vI z14, vI z25, vI z32, vI z43, vI z50, vI z61, vR b95, vR b97, vJ z158, s_, vD c174_z104_3, s_, vJ z189, s_, vJ z196, s_, vD FP.dconst0, s_, vD z270, s_, vD z277, s_, u_, u_] [(.double FP.dconst0)])) _
          refine XS.dload X126.here hx rfl (hb hby at_282) rfl ?_
          show Steps p.tables e below (T126.setTop (mkF m 284 #[vI p0, vI p1, vI p2, vI p3, vI (3 : Int32), vI z14, vI z25, vI z32, vI z43, vI z50, vI z61, vR b95, vR b97, vJ z158, s_, vD c174_z104_3, s_, vJ z189, s_, vJ z196, s_, vD FP.dconst0, s_, vD z270, s_, vD z277, s_, u_, u_] [(.double z270), (.double FP.dconst0)])) _
          refine Jvm.OwnK.dsub X126.here hx rfl (hb hby at_284) rfl hz284 nn284 ?_
          show Steps p.tables e below (T126.setTop (mkF m 285 #[vI p0, vI p1, vI p2, vI p3, vI (3 : Int32), vI z14, vI z25, vI z32, vI z43, vI z50, vI z61, vR b95, vR b97, vJ z158, s_, vD c174_z104_3, s_, vJ z189, s_, vJ z196, s_, vD FP.dconst0, s_, vD z270, s_, vD z277, s_, u_, u_] [(.double z284)])) _
          refine XS.dstore X126.here hx rfl (hb hby at_285) rfl (l' := #[vI p0, vI p1, vI p2, vI p3, vI (3 : Int32), vI z14, vI z25, vI z32, vI z43, vI z50, vI z61, vR b95, vR b97, vJ z158, s_, vD c174_z104_3, s_, vJ z189, s_, vJ z196, s_, vD FP.dconst0, s_, vD z270, s_, vD z277, s_, vD z284, s_]) rfl ?_
          show Steps p.tables e below (T126.setTop (mkF m 287 #[vI p0, vI p1, vI p2, vI p3, vI (3 : Int32), vI z14, vI z25, vI z32, vI z43, vI z50, vI z61, vR b95, vR b97, vJ z158, s_, vD c174_z104_3, s_, vJ z189, s_, vJ z196, s_, vD FP.dconst0, s_, vD z270, s_, vD z277, s_, vD z284, s_] [])) _
          refine XS.dload X126.here hx rfl (hb hby at_287) rfl ?_
          show Steps p.tables e below (T126.setTop (mkF m 289 #[vI p0, vI p1, vI p2, vI p3, vI (3 : Int32), vI z14, vI z25, vI z32, vI z43, vI z50, vI z61, vR b95, vR b97, vJ z158, s_, vD c174_z104_3, s_, vJ z189, s_, vJ z196, s_, vD FP.dconst0, s_, vD z270, s_, vD z277, s_, vD z284, s_] [(.double z284)])) _
          refine XS.dload X126.here hx rfl (hb hby at_289) rfl ?_
          show Steps p.tables e below (T126.setTop (mkF m 291 #[vI p0, vI p1, vI p2, vI p3, vI (3 : Int32), vI z14, vI z25, vI z32, vI z43, vI z50, vI z61, vR b95, vR b97, vJ z158, s_, vD c174_z104_3, s_, vJ z189, s_, vJ z196, s_, vD FP.dconst0, s_, vD z270, s_, vD z277, s_, vD z284, s_] [(.double c174_z104_3), (.double z284)])) _
          refine XS.dcmpS X126.here hx rfl (hb hby at_291) rfl hz291 ?_
          exact k
        by_cases hb292 : z291 < (0 : Int32)
        · skip
          obtain ⟨z307, hz307⟩ : ∃ z : Int32, cmpValue (FP.dcmp c174_z104_3 z277) .g = z := ⟨_, rfl⟩
          have c129 : ∀ t, Steps p.tables e below (T126.setTop (mkF m 308 #[vI p0, vI p1, vI p2, vI p3, vI (3 : Int32), vI z14, vI z25, vI z32, vI z43, vI z50, vI z61, vR b95, vR b97, vJ z158, s_, vD c174_z104_3, s_, vJ z189, s_, vJ z196, s_, vD FP.dconst0, s_, vD z270, s_, vD z277, s_, vD z284, s_] [(.int z307)])) t → Steps p.tables e below (s₁.setTop (entryFrame m #[(.int p0), (.int p1), (.int p2), (.int p3)] maxLocals)) t := by
            intro t k
            refine c128 t ?_
            show Steps p.tables e below (T126.setTop (mkF m 292 #[vI p0, vI p1, vI p2, vI p3, vI (3 : Int32), vI z14, vI z25, vI z32, vI z43, vI z50, vI z61, vR b95, vR b97, vJ z158, s_, vD c174_z104_3, s_, vJ z189, s_, vJ z196, s_, vD FP.dconst0, s_, vD z270, s_, vD z277, s_, vD z284, s_] [(.int z291)])) _
            refine XS.ifYes X126.here hx rfl (pc0 := 292) (pc' := 303) rfl (hb hby at_292) rfl (Jvm.Free.XT.i0_lt_t hb292) (by decide) (by decide) ?_
            show Steps p.tables e below (T126.setTop (mkF m 303 #[vI p0, vI p1, vI p2, vI p3, vI (3 : Int32), vI z14, vI z25, vI z32, vI z43, vI z50, vI z61, vR b95, vR b97, vJ z158, s_, vD c174_z104_3, s_, vJ z189, s_, vJ z196, s_, vD FP.dconst0, s_, vD z270, s_, vD z277, s_, vD z284, s_] [])) _
            refine XS.dload X126.here hx rfl (hb hby at_303) rfl ?_
            show Steps p.tables e below (T126.setTop (mkF m 305 #[vI p0, vI p1, vI p2, vI p3, vI (3 : Int32), vI z14, vI z25, vI z32, vI z43, vI z50, vI z61, vR b95, vR b97, vJ z158, s_, vD c174_z104_3, s_, vJ z189, s_, vJ z196, s_, vD FP.dconst0, s_, vD z270, s_, vD z277, s_, vD z284, s_] [(.double c174_z104_3)])) _
            refine XS.dload X126.here hx rfl (hb hby at_305) rfl ?_
            show Steps p.tables e below (T126.setTop (mkF m 307 #[vI p0, vI p1, vI p2, vI p3, vI (3 : Int32), vI z14, vI z25, vI z32, vI z43, vI z50, vI z61, vR b95, vR b97, vJ z158, s_, vD c174_z104_3, s_, vJ z189, s_, vJ z196, s_, vD FP.dconst0, s_, vD z270, s_, vD z277, s_, vD z284, s_] [(.double z277), (.double c174_z104_3)])) _
            refine XS.dcmpS X126.here hx rfl (hb hby at_307) rfl hz307 ?_
            exact k
          by_cases hb308 : z307 < (0 : Int32)
          · skip
            have c130 : ∀ t, Steps p.tables e below (T126.setTop (mkF m 324 #[vI p0, vI p1, vI p2, vI p3, vI (3 : Int32), vI z14, vI z25, vI z32, vI z43, vI z50, vI z61, vR b95, vR b97, vJ z158, s_, vD c174_z104_3, s_, vJ z189, s_, vJ z196, s_, vD FP.dconst0, s_, vD z270, s_, vD z277, s_, vD z284, s_] [(.int (1 : Int32))])) t → Steps p.tables e below (s₁.setTop (entryFrame m #[(.int p0), (.int p1), (.int p2), (.int p3)] maxLocals)) t := by
              intro t k
              refine c129 t ?_
              show Steps p.tables e below (T126.setTop (mkF m 308 #[vI p0, vI p1, vI p2, vI p3, vI (3 : Int32), vI z14, vI z25, vI z32, vI z43, vI z50, vI z61, vR b95, vR b97, vJ z158, s_, vD c174_z104_3, s_, vJ z189, s_, vJ z196, s_, vD FP.dconst0, s_, vD z270, s_, vD z277, s_, vD z284, s_] [(.int z307)])) _
              refine XS.ifYes X126.here hx rfl (pc0 := 308) (pc' := 319) rfl (hb hby at_308) rfl (Jvm.Free.XT.i0_lt_t hb308) (by decide) (by decide) ?_
              show Steps p.tables e below (T126.setTop (mkF m 319 #[vI p0, vI p1, vI p2, vI p3, vI (3 : Int32), vI z14, vI z25, vI z32, vI z43, vI z50, vI z61, vR b95, vR b97, vJ z158, s_, vD c174_z104_3, s_, vJ z189, s_, vJ z196, s_, vD FP.dconst0, s_, vD z270, s_, vD z277, s_, vD z284, s_] [])) _
              refine XS.iconst X126.here hx rfl (hb hby at_319) ?_
              show Steps p.tables e below (T126.setTop (mkF m 320 #[vI p0, vI p1, vI p2, vI p3, vI (3 : Int32), vI z14, vI z25, vI z32, vI z43, vI z50, vI z61, vR b95, vR b97, vJ z158, s_, vD c174_z104_3, s_, vJ z189, s_, vJ z196, s_, vD FP.dconst0, s_, vD z270, s_, vD z277, s_, vD z284, s_] [(.int (1 : Int32))])) _
              refine XS.goto X126.here hx rfl (pc0 := 320) (pc' := 324) rfl (hb hby at_320) (by decide) (by decide) ?_
              exact k
            obtain ⟨fs, hr, hrun, hended, hW, hsame⟩ := X126.leave (v := some (.int (1 : Int32))) (fun h => by rw [Bd.returns] at h; cases h)
            refine ⟨_, _, c130 _ ?_, hrun, hended, _, _, rfl, ?_, ⟨_, rfl⟩, hW, hsame.mono (by decide) (by decide)⟩
            · show Steps p.tables e below (T126.setTop (mkF m 324 #[vI p0, vI p1, vI p2, vI p3, vI (3 : Int32), vI z14, vI z25, vI z32, vI z43, vI z50, vI z61, vR b95, vR b97, vJ z158, s_, vD c174_z104_3, s_, vJ z189, s_, vJ z196, s_, vD FP.dconst0, s_, vD z270, s_, vD z277, s_, vD z284, s_] [(.int (1 : Int32))])) _
              exact retOut X126 hx Bd.returns rfl (Or.inl ⟨rfl, by simp, _, rfl⟩) (hb hby at_324) hr
            · show Q0 n0 _ T126.heap _
              rw [e126]
              exact ⟨rfl, by first | assumption | exact N0⟩
          · skip
            obtain ⟨z315, hz315⟩ : ∃ z : Int32, cmpValue (FP.dcmp c174_z104_3 z277) .l = z := ⟨_, rfl⟩
            have br316 := cmpF fs fh hi1 hz307 hz315 hb308
            have c131 : ∀ t, Steps p.tables e below (T126.setTop (mkF m 324 #[vI p0, vI p1, vI p2, vI p3, vI (3 : Int32), vI z14, vI z25, vI z32, vI z43, vI z50, vI z61, vR b95, vR b97, vJ z158, s_, vD c174_z104_3, s_, vJ z189, s_, vJ z196, s_, vD FP.dconst0, s_, vD z270, s_, vD z277, s_, vD z284, s_] [(.int (1 : Int32))])) t → Steps p.tables e below (s₁.setTop (entryFrame m #[(.int p0), (.int p1), (.int p2), (.int p3)] maxLocals)) t := by
              intro t k
              refine c129 t ?_
              show Steps p.tables e below (T126.setTop (mkF m 308 #[vI p0, vI p1, vI p2, vI p3, vI (3 : Int32), vI z14, vI z25, vI z32, vI z43, vI z50, vI z61, vR b95, vR b97, vJ z158, s_, vD c174_z104_3, s_, vJ z189, s_, vJ z196, s_, vD FP.dconst0, s_, vD z270, s_, vD z277, s_, vD z284, s_] [(.int z307)])) _
              refine XS.ifNo X126.here hx rfl (hb hby at_308) rfl (Jvm.Free.XT.i0_lt_f hb308) ?_
              show Steps p.tables e below (T126.setTop (mkF m 311 #[vI p0, vI p1, vI p2, vI p3, vI (3 : Int32), vI z14, vI z25, vI z32, vI z43, vI z50, vI z61, vR b95, vR b97, vJ z158, s_, vD c174_z104_3, s_, vJ z189, s_, vJ z196, s_, vD FP.dconst0, s_, vD z270, s_, vD z277, s_, vD z284, s_] [])) _
              refine XS.dload X126.here hx rfl (hb hby at_311) rfl ?_
              show Steps p.tables e below (T126.setTop (mkF m 313 #[vI p0, vI p1, vI p2, vI p3, vI (3 : Int32), vI z14, vI z25, vI z32, vI z43, vI z50, vI z61, vR b95, vR b97, vJ z158, s_, vD c174_z104_3, s_, vJ z189, s_, vJ z196, s_, vD FP.dconst0, s_, vD z270, s_, vD z277, s_, vD z284, s_] [(.double c174_z104_3)])) _
              refine XS.dload X126.here hx rfl (hb hby at_313) rfl ?_
              show Steps p.tables e below (T126.setTop (mkF m 315 #[vI p0, vI p1, vI p2, vI p3, vI (3 : Int32), vI z14, vI z25, vI z32, vI z43, vI z50, vI z61, vR b95, vR b97, vJ z158, s_, vD c174_z104_3, s_, vJ z189, s_, vJ z196, s_, vD FP.dconst0, s_, vD z270, s_, vD z277, s_, vD z284, s_] [(.double z277), (.double c174_z104_3)])) _
              refine XS.dcmpS X126.here hx rfl (hb hby at_315) rfl hz315 ?_
              show Steps p.tables e below (T126.setTop (mkF m 316 #[vI p0, vI p1, vI p2, vI p3, vI (3 : Int32), vI z14, vI z25, vI z32, vI z43, vI z50, vI z61, vR b95, vR b97, vJ z158, s_, vD c174_z104_3, s_, vJ z189, s_, vJ z196, s_, vD FP.dconst0, s_, vD z270, s_, vD z277, s_, vD z284, s_] [(.int z315)])) _
              refine XS.ifNo X126.here hx rfl (hb hby at_316) rfl (Jvm.Free.XT.i0_ne_f br316) ?_
              show Steps p.tables e below (T126.setTop (mkF m 319 #[vI p0, vI p1, vI p2, vI p3, vI (3 : Int32), vI z14, vI z25, vI z32, vI z43, vI z50, vI z61, vR b95, vR b97, vJ z158, s_, vD c174_z104_3, s_, vJ z189, s_, vJ z196, s_, vD FP.dconst0, s_, vD z270, s_, vD z277, s_, vD z284, s_] [])) _
              refine XS.iconst X126.here hx rfl (hb hby at_319) ?_
              show Steps p.tables e below (T126.setTop (mkF m 320 #[vI p0, vI p1, vI p2, vI p3, vI (3 : Int32), vI z14, vI z25, vI z32, vI z43, vI z50, vI z61, vR b95, vR b97, vJ z158, s_, vD c174_z104_3, s_, vJ z189, s_, vJ z196, s_, vD FP.dconst0, s_, vD z270, s_, vD z277, s_, vD z284, s_] [(.int (1 : Int32))])) _
              refine XS.goto X126.here hx rfl (pc0 := 320) (pc' := 324) rfl (hb hby at_320) (by decide) (by decide) ?_
              exact k
            obtain ⟨fs, hr, hrun, hended, hW, hsame⟩ := X126.leave (v := some (.int (1 : Int32))) (fun h => by rw [Bd.returns] at h; cases h)
            refine ⟨_, _, c131 _ ?_, hrun, hended, _, _, rfl, ?_, ⟨_, rfl⟩, hW, hsame.mono (by decide) (by decide)⟩
            · show Steps p.tables e below (T126.setTop (mkF m 324 #[vI p0, vI p1, vI p2, vI p3, vI (3 : Int32), vI z14, vI z25, vI z32, vI z43, vI z50, vI z61, vR b95, vR b97, vJ z158, s_, vD c174_z104_3, s_, vJ z189, s_, vJ z196, s_, vD FP.dconst0, s_, vD z270, s_, vD z277, s_, vD z284, s_] [(.int (1 : Int32))])) _
              exact retOut X126 hx Bd.returns rfl (Or.inl ⟨rfl, by simp, _, rfl⟩) (hb hby at_324) hr
            · show Q0 n0 _ T126.heap _
              rw [e126]
              exact ⟨rfl, by first | assumption | exact N0⟩
        · skip
          obtain ⟨z299, hz299⟩ : ∃ z : Int32, cmpValue (FP.dcmp z284 c174_z104_3) .l = z := ⟨_, rfl⟩
          obtain ⟨z307, hz307⟩ : ∃ z : Int32, cmpValue (FP.dcmp c174_z104_3 z277) .g = z := ⟨_, rfl⟩
          have br300 := cmpF fl fs lo1 hz291 hz299 hb292
          have c132 : ∀ t, Steps p.tables e below (T126.setTop (mkF m 308 #[vI p0, vI p1, vI p2, vI p3, vI (3 : Int32), vI z14, vI z25, vI z32, vI z43, vI z50, vI z61, vR b95, vR b97, vJ z158, s_, vD c174_z104_3, s_, vJ z189, s_, vJ z196, s_, vD FP.dconst0, s_, vD z270, s_, vD z277, s_, vD z284, s_] [(.int z307)])) t → Steps p.tables e below (s₁.setTop (entryFrame m #[(.int p0), (.int p1), (.int p2), (.int p3)] maxLocals)) t := by
            intro t k
            refine c128 t ?_
            show Steps p.tables e below (T126.setTop (mkF m 292 #[vI p0, vI p1, vI p2, vI p3, vI (3 : Int32), vI z14, vI z25, vI z32, vI z43, vI z50, vI z61, vR b95, vR b97, vJ z158, s_, vD c174_z104_3, s_, vJ z189, s_, vJ z196, s_, vD FP.dconst0, s_, vD z270, s_, vD z277, s_, vD z284, s_] [(.int z291)])) _
            refine XS.ifNo X126.here hx rfl (hb hby at_292) rfl (Jvm.Free.XT.i0_lt_f hb292) ?_
            show Steps p.tables e below (T126.setTop (mkF m 295 #[vI p0, vI p1, vI p2, vI p3, vI (3 : Int32), vI z14, vI z25, vI z32, vI z43, vI z50, vI z61, vR b95, vR b97, vJ z158, s_, vD c174_z104_3, s_, vJ z189, s_, vJ z196, s_, vD FP.dconst0, s_, vD z270, s_, vD z277, s_, vD z284, s_] [])) _
            refine XS.dload X126.here hx rfl (hb hby at_295) rfl ?_
            show Steps p.tables e below (T126.setTop (mkF m 297 #[vI p0, vI p1, vI p2, vI p3, vI (3 : Int32), vI z14, vI z25, vI z32, vI z43, vI z50, vI z61, vR b95, vR b97, vJ z158, s_, vD c174_z104_3, s_, vJ z189, s_, vJ z196, s_, vD FP.dconst0, s_, vD z270, s_, vD z277, s_, vD z284, s_] [(.double z284)])) _
            refine XS.dload X126.here hx rfl (hb hby at_297) rfl ?_
            show Steps p.tables e below (T126.setTop (mkF m 299 #[vI p0, vI p1, vI p2, vI p3, vI (3 : Int32), vI z14, vI z25, vI z32, vI z43, vI z50, vI z61, vR b95, vR b97, vJ z158, s_, vD c174_z104_3, s_, vJ z189, s_, vJ z196, s_, vD FP.dconst0, s_, vD z270, s_, vD z277, s_, vD z284, s_] [(.double c174_z104_3), (.double z284)])) _
            refine XS.dcmpS X126.here hx rfl (hb hby at_299) rfl hz299 ?_
            show Steps p.tables e below (T126.setTop (mkF m 300 #[vI p0, vI p1, vI p2, vI p3, vI (3 : Int32), vI z14, vI z25, vI z32, vI z43, vI z50, vI z61, vR b95, vR b97, vJ z158, s_, vD c174_z104_3, s_, vJ z189, s_, vJ z196, s_, vD FP.dconst0, s_, vD z270, s_, vD z277, s_, vD z284, s_] [(.int z299)])) _
            refine XS.ifNo X126.here hx rfl (hb hby at_300) rfl (Jvm.Free.XT.i0_ne_f br300) ?_
            show Steps p.tables e below (T126.setTop (mkF m 303 #[vI p0, vI p1, vI p2, vI p3, vI (3 : Int32), vI z14, vI z25, vI z32, vI z43, vI z50, vI z61, vR b95, vR b97, vJ z158, s_, vD c174_z104_3, s_, vJ z189, s_, vJ z196, s_, vD FP.dconst0, s_, vD z270, s_, vD z277, s_, vD z284, s_] [])) _
            refine XS.dload X126.here hx rfl (hb hby at_303) rfl ?_
            show Steps p.tables e below (T126.setTop (mkF m 305 #[vI p0, vI p1, vI p2, vI p3, vI (3 : Int32), vI z14, vI z25, vI z32, vI z43, vI z50, vI z61, vR b95, vR b97, vJ z158, s_, vD c174_z104_3, s_, vJ z189, s_, vJ z196, s_, vD FP.dconst0, s_, vD z270, s_, vD z277, s_, vD z284, s_] [(.double c174_z104_3)])) _
            refine XS.dload X126.here hx rfl (hb hby at_305) rfl ?_
            show Steps p.tables e below (T126.setTop (mkF m 307 #[vI p0, vI p1, vI p2, vI p3, vI (3 : Int32), vI z14, vI z25, vI z32, vI z43, vI z50, vI z61, vR b95, vR b97, vJ z158, s_, vD c174_z104_3, s_, vJ z189, s_, vJ z196, s_, vD FP.dconst0, s_, vD z270, s_, vD z277, s_, vD z284, s_] [(.double z277), (.double c174_z104_3)])) _
            refine XS.dcmpS X126.here hx rfl (hb hby at_307) rfl hz307 ?_
            exact k
          by_cases hb308 : z307 < (0 : Int32)
          · skip
            have c133 : ∀ t, Steps p.tables e below (T126.setTop (mkF m 324 #[vI p0, vI p1, vI p2, vI p3, vI (3 : Int32), vI z14, vI z25, vI z32, vI z43, vI z50, vI z61, vR b95, vR b97, vJ z158, s_, vD c174_z104_3, s_, vJ z189, s_, vJ z196, s_, vD FP.dconst0, s_, vD z270, s_, vD z277, s_, vD z284, s_] [(.int (1 : Int32))])) t → Steps p.tables e below (s₁.setTop (entryFrame m #[(.int p0), (.int p1), (.int p2), (.int p3)] maxLocals)) t := by
              intro t k
              refine c132 t ?_
              show Steps p.tables e below (T126.setTop (mkF m 308 #[vI p0, vI p1, vI p2, vI p3, vI (3 : Int32), vI z14, vI z25, vI z32, vI z43, vI z50, vI z61, vR b95, vR b97, vJ z158, s_, vD c174_z104_3, s_, vJ z189, s_, vJ z196, s_, vD FP.dconst0, s_, vD z270, s_, vD z277, s_, vD z284, s_] [(.int z307)])) _
              refine XS.ifYes X126.here hx rfl (pc0 := 308) (pc' := 319) rfl (hb hby at_308) rfl (Jvm.Free.XT.i0_lt_t hb308) (by decide) (by decide) ?_
              show Steps p.tables e below (T126.setTop (mkF m 319 #[vI p0, vI p1, vI p2, vI p3, vI (3 : Int32), vI z14, vI z25, vI z32, vI z43, vI z50, vI z61, vR b95, vR b97, vJ z158, s_, vD c174_z104_3, s_, vJ z189, s_, vJ z196, s_, vD FP.dconst0, s_, vD z270, s_, vD z277, s_, vD z284, s_] [])) _
              refine XS.iconst X126.here hx rfl (hb hby at_319) ?_
              show Steps p.tables e below (T126.setTop (mkF m 320 #[vI p0, vI p1, vI p2, vI p3, vI (3 : Int32), vI z14, vI z25, vI z32, vI z43, vI z50, vI z61, vR b95, vR b97, vJ z158, s_, vD c174_z104_3, s_, vJ z189, s_, vJ z196, s_, vD FP.dconst0, s_, vD z270, s_, vD z277, s_, vD z284, s_] [(.int (1 : Int32))])) _
              refine XS.goto X126.here hx rfl (pc0 := 320) (pc' := 324) rfl (hb hby at_320) (by decide) (by decide) ?_
              exact k
            obtain ⟨fs, hr, hrun, hended, hW, hsame⟩ := X126.leave (v := some (.int (1 : Int32))) (fun h => by rw [Bd.returns] at h; cases h)
            refine ⟨_, _, c133 _ ?_, hrun, hended, _, _, rfl, ?_, ⟨_, rfl⟩, hW, hsame.mono (by decide) (by decide)⟩
            · show Steps p.tables e below (T126.setTop (mkF m 324 #[vI p0, vI p1, vI p2, vI p3, vI (3 : Int32), vI z14, vI z25, vI z32, vI z43, vI z50, vI z61, vR b95, vR b97, vJ z158, s_, vD c174_z104_3, s_, vJ z189, s_, vJ z196, s_, vD FP.dconst0, s_, vD z270, s_, vD z277, s_, vD z284, s_] [(.int (1 : Int32))])) _
              exact retOut X126 hx Bd.returns rfl (Or.inl ⟨rfl, by simp, _, rfl⟩) (hb hby at_324) hr
            · show Q0 n0 _ T126.heap _
              rw [e126]
              exact ⟨rfl, by first | assumption | exact N0⟩
          · skip
            obtain ⟨z315, hz315⟩ : ∃ z : Int32, cmpValue (FP.dcmp c174_z104_3 z277) .l = z := ⟨_, rfl⟩
            have br316 := cmpF fs fh hi1 hz307 hz315 hb308
            have c134 : ∀ t, Steps p.tables e below (T126.setTop (mkF m 324 #[vI p0, vI p1, vI p2, vI p3, vI (3 : Int32), vI z14, vI z25, vI z32, vI z43, vI z50, vI z61, vR b95, vR b97, vJ z158, s_, vD c174_z104_3, s_, vJ z189, s_, vJ z196, s_, vD FP.dconst0, s_, vD z270, s_, vD z277, s_, vD z284, s_] [(.int (1 : Int32))])) t → Steps p.tables e below (s₁.setTop (entryFrame m #[(.int p0), (.int p1), (.int p2), (.int p3)] maxLocals)) t := by
              intro t k
              refine c132 t ?_
              show Steps p.tables e below (T126.setTop (mkF m 308 #[vI p0, vI p1, vI p2, vI p3, vI (3 : Int32), vI z14, vI z25, vI z32, vI z43, vI z50, vI z61, vR b95, vR b97, vJ z158, s_, vD c174_z104_3, s_, vJ z189, s_, vJ z196, s_, vD FP.dconst0, s_, vD z270, s_, vD z277, s_, vD z284, s_] [(.int z307)])) _
              refine XS.ifNo X126.here hx rfl (hb hby at_308) rfl (Jvm.Free.XT.i0_lt_f hb308) ?_
              show Steps p.tables e below (T126.setTop (mkF m 311 #[vI p0, vI p1, vI p2, vI p3, vI (3 : Int32), vI z14, vI z25, vI z32, vI z43, vI z50, vI z61, vR b95, vR b97, vJ z158, s_, vD c174_z104_3, s_, vJ z189, s_, vJ z196, s_, vD FP.dconst0, s_, vD z270, s_, vD z277, s_, vD z284, s_] [])) _
              refine XS.dload X126.here hx rfl (hb hby at_311) rfl ?_
              show Steps p.tables e below (T126.setTop (mkF m 313 #[vI p0, vI p1, vI p2, vI p3, vI (3 : Int32), vI z14, vI z25, vI z32, vI z43, vI z50, vI z61, vR b95, vR b97, vJ z158, s_, vD c174_z104_3, s_, vJ z189, s_, vJ z196, s_, vD FP.dconst0, s_, vD z270, s_, vD z277, s_, vD z284, s_] [(.double c174_z104_3)])) _
              refine XS.dload X126.here hx rfl (hb hby at_313) rfl ?_
              show Steps p.tables e below (T126.setTop (mkF m 315 #[vI p0, vI p1, vI p2, vI p3, vI (3 : Int32), vI z14, vI z25, vI z32, vI z43, vI z50, vI z61, vR b95, vR b97, vJ z158, s_, vD c174_z104_3, s_, vJ z189, s_, vJ z196, s_, vD FP.dconst0, s_, vD z270, s_, vD z277, s_, vD z284, s_] [(.double z277), (.double c174_z104_3)])) _
              refine XS.dcmpS X126.here hx rfl (hb hby at_315) rfl hz315 ?_
              show Steps p.tables e below (T126.setTop (mkF m 316 #[vI p0, vI p1, vI p2, vI p3, vI (3 : Int32), vI z14, vI z25, vI z32, vI z43, vI z50, vI z61, vR b95, vR b97, vJ z158, s_, vD c174_z104_3, s_, vJ z189, s_, vJ z196, s_, vD FP.dconst0, s_, vD z270, s_, vD z277, s_, vD z284, s_] [(.int z315)])) _
              refine XS.ifNo X126.here hx rfl (hb hby at_316) rfl (Jvm.Free.XT.i0_ne_f br316) ?_
              show Steps p.tables e below (T126.setTop (mkF m 319 #[vI p0, vI p1, vI p2, vI p3, vI (3 : Int32), vI z14, vI z25, vI z32, vI z43, vI z50, vI z61, vR b95, vR b97, vJ z158, s_, vD c174_z104_3, s_, vJ z189, s_, vJ z196, s_, vD FP.dconst0, s_, vD z270, s_, vD z277, s_, vD z284, s_] [])) _
              refine XS.iconst X126.here hx rfl (hb hby at_319) ?_
              show Steps p.tables e below (T126.setTop (mkF m 320 #[vI p0, vI p1, vI p2, vI p3, vI (3 : Int32), vI z14, vI z25, vI z32, vI z43, vI z50, vI z61, vR b95, vR b97, vJ z158, s_, vD c174_z104_3, s_, vJ z189, s_, vJ z196, s_, vD FP.dconst0, s_, vD z270, s_, vD z277, s_, vD z284, s_] [(.int (1 : Int32))])) _
              refine XS.goto X126.here hx rfl (pc0 := 320) (pc' := 324) rfl (hb hby at_320) (by decide) (by decide) ?_
              exact k
            obtain ⟨fs, hr, hrun, hended, hW, hsame⟩ := X126.leave (v := some (.int (1 : Int32))) (fun h => by rw [Bd.returns] at h; cases h)
            refine ⟨_, _, c134 _ ?_, hrun, hended, _, _, rfl, ?_, ⟨_, rfl⟩, hW, hsame.mono (by decide) (by decide)⟩
            · show Steps p.tables e below (T126.setTop (mkF m 324 #[vI p0, vI p1, vI p2, vI p3, vI (3 : Int32), vI z14, vI z25, vI z32, vI z43, vI z50, vI z61, vR b95, vR b97, vJ z158, s_, vD c174_z104_3, s_, vJ z189, s_, vJ z196, s_, vD FP.dconst0, s_, vD z270, s_, vD z277, s_, vD z284, s_] [(.int (1 : Int32))])) _
              exact retOut X126 hx Bd.returns rfl (Or.inl ⟨rfl, by simp, _, rfl⟩) (hb hby at_324) hr
            · show Q0 n0 _ T126.heap _
              rw [e126]
              exact ⟨rfl, by first | assumption | exact N0⟩
      · skip
        obtain ⟨z212, hz212⟩ : ∃ z : Int32, lcmpW z196 (0 : Int64) = z := ⟨_, rfl⟩
        have c135 : ∀ t, Steps p.tables e below (T126.setTop (mkF m 213 #[vI p0, vI p1, vI p2, vI p3, vI (3 : Int32), vI z14, vI z25, vI z32, vI z43, vI z50, vI z61, vR b95, vR b97, vJ z158, s_, vD c174_z104_3, s_, vJ z189, s_, vJ z196, s_, vD FP.dconst0, s_, u_, u_, u_, u_, u_, u_] [(.int z212)])) t → Steps p.tables e below (s₁.setTop (entryFrame m #[(.int p0), (.int p1), (.int p2), (.int p3)] maxLocals)) t := by
          intro t k
          refine c127 t ?_
          show Steps p.tables e below (T126.setTop (mkF m 206 #[vI p0, vI p1, vI p2, vI p3, vI (3 : Int32), vI z14, vI z25, vI z32, vI z43, vI z50, vI z61, vR b95, vR b97, vJ z158, s_, vD c174_z104_3, s_, vJ z189, s_, vJ z196, s_, vD FP.dconst0, s_, u_, u_, u_, u_, u_, u_] [(.int z205)])) _
          refine XS.ifNo X126.here hx rfl (hb hby at_206) rfl (Jvm.Free.XT.i0_eq_f hb206) ?_
          show Steps p.tables e below (T126.setTop (mkF m 209 #[vI p0, vI p1, vI p2, vI p3, vI (3 : Int32), vI z14, vI z25, vI z32, vI z43, vI z50, vI z61, vR b95, vR b97, vJ z158, s_, vD c174_z104_3, s_, vJ z189, s_, vJ z196, s_, vD FP.dconst0, s_, u_, u_, u_, u_, u_, u_] [])) _
          refine XS.lload X126.here hx rfl (hb hby at_209) rfl ?_
          show Steps p.tables e below (T126.setTop (mkF m 211 #[vI p0, vI p1, vI p2, vI p3, vI (3 : Int32), vI z14, vI z25, vI z32, vI z43, vI z50, vI z61, vR b95, vR b97, vJ z158, s_, vD c174_z104_3, s_, vJ z189, s_, vJ z196, s_, vD FP.dconst0, s_, u_, u_, u_, u_, u_, u_] [(.long z196)])) _
          refine XS.lconst X126.here hx rfl (hb hby at_211) ?_
          show Steps p.tables e below (T126.setTop (mkF m 212 #[vI p0, vI p1, vI p2, vI p3, vI (3 : Int32), vI z14, vI z25, vI z32, vI z43, vI z50, vI z61, vR b95, vR b97, vJ z158, s_, vD c174_z104_3, s_, vJ z189, s_, vJ z196, s_, vD FP.dconst0, s_, u_, u_, u_, u_, u_, u_] [(.long (0 : Int64)), (.long z196)])) _
          refine Jvm.OwnK.lcmp X126.here hx rfl (hb hby at_212) rfl hz212 ?_
          exact k
        by_cases hb213 : z212 = (0 : Int32)
        · skip
          obtain ⟨z270, hz270⟩ : ∃ z : UInt64, FP.dmul FP.dconst0 (4517329193108106637 : UInt64) = z := ⟨_, rfl⟩
          obtain ⟨z277, hz277⟩ : ∃ z : UInt64, FP.dadd FP.dconst0 z270 = z := ⟨_, rfl⟩
          obtain ⟨z284, hz284⟩ : ∃ z : UInt64, FP.dsub FP.dconst0 z270 = z := ⟨_, rfl⟩
          obtain ⟨z291, hz291⟩ : ∃ z : Int32, cmpValue (FP.dcmp z284 c174_z104_3) .g = z := ⟨_, rfl⟩
          have lz : z196.toInt = 0 := by have := (lw_eq _ _).mp (hz212.trans hb213); rw [this]; exact z00
          have dz0 : z25.toInt * c174_z21_3.toInt - c174_z30_3.toInt * z14.toInt = 0 := by
            rw [show z25.toInt = z14.toInt by omega, show c174_z30_3.toInt = c174_z21_3.toInt by omega, Int.mul_comm]; omega
          have dz1 : z43.toInt * c174_z21_3.toInt - c174_z30_3.toInt * z32.toInt = 0 := by
            rw [show z43.toInt = z32.toInt by omega, show c174_z30_3.toInt = c174_z21_3.toInt by omega, Int.mul_comm]; omega
          have dz2 : z61.toInt * c174_z21_3.toInt - c174_z30_3.toInt * z50.toInt = 0 := by
            rw [show z61.toInt = z50.toInt by omega, show c174_z30_3.toInt = c174_z21_3.toInt by omega, Int.mul_comm]; omega
          have aS := acc2
          rw [dz0] at aS
          rw [dz1] at aS
          rw [dz2] at aS
          simp only [Int.zero_mul, Int.add_zero] at aS
          obtain ⟨nn270, nn277, nn284, fs, fh, fl, lo1, hi1⟩ := Jvm.OwnF.finR hQb (by decide) (aS.mono (by decide)) (Jvm.OwnF.Acc.zero 5 _) hz270 hz277 hz284
          have c136 : ∀ t, Steps p.tables e below (T126.setTop (mkF m 292 #[vI p0, vI p1, vI p2, vI p3, vI (3 : Int32), vI z14, vI z25, vI z32, vI z43, vI z50, vI z61, vR b95, vR b97, vJ z158, s_, vD c174_z104_3, s_, vJ z189, s_, vJ z196, s_, vD FP.dconst0, s_, vD z270, s_, vD z277, s_, vD z284, s_] [(.int z291)])) t → Steps p.tables e below (s₁.setTop (entryFrame m #[(.int p0), (.int p1), (.int p2), (.int p3)] maxLocals)) t := by
            intro t k
            refine c135 t ?_
            show Steps p.tables e below (T126.setTop (mkF m 213 #[vI p0, vI p1, vI p2, vI p3, vI (3 : Int32), vI z14, vI z25, vI z32, vI z43, vI z50, vI z61, vR b95, vR b97, vJ z158, s_, vD c174_z104_3, s_, vJ z189, s_, vJ z196, s_, vD FP.dconst0, s_, u_, u_, u_, u_, u_, u_] [(.int z212)])) _
            refine XS.ifYes X126.here hx rfl (pc0 := 213) (pc' := 265) rfl (hb hby at_213) rfl (Jvm.Free.XT.i0_eq_t hb213) (by decide) (by decide) ?_
            show Steps p.tables e below (T126.setTop (mkF m 265 #[vI p0, vI p1, vI p2, vI p3, vI (3 : Int32), vI z14, vI z25, vI z32, vI z43, vI z50, vI z61, vR b95, vR b97, vJ z158, s_, vD c174_z104_3, s_, vJ z189, s_, vJ z196, s_, vD FP.dconst0, s_, u_, u_, u_, u_, u_, u_] [])) _
            refine XS.dload X126.here hx rfl (hb hby at_265) rfl ?_
            show Steps p.tables e below (T126.setTop (mkF m 267 #[vI p0, vI p1, vI p2, vI p3, vI (3 : Int32), vI z14, vI z25, vI z32, vI z43, vI z50, vI z61, vR b95, vR b97, vJ z158, s_, vD c174_z104_3, s_, vJ z189, s_, vJ z196, s_, vD FP.dconst0, s_, u_, u_, u_, u_, u_, u_] [(.double FP.dconst0)])) _
            refine X126.ldc2DoubleC hx hown (mvT hZ (hw _ (List.mem_of_getElem? (i := 9) rfl))) (g := (mkF m 267 #[vI p0, vI p1, vI p2, vI p3, vI (3 : Int32), vI z14, vI z25, vI z32, vI z43, vI z50, vI z61, vR b95, vR b97, vJ z158, s_, vD c174_z104_3, s_, vJ z189, s_, vJ z196, s_, vD FP.dconst0, s_, u_, u_, u_, u_, u_, u_] [(.double FP.dconst0)])) rfl (hb hby at_267) _ ?_
            show Steps p.tables e below (T126.setTop (mkF m 270 #[vI p0, vI p1, vI p2, vI p3, vI (3 : Int32), vI z14, vI z25, vI z32, vI z43, vI z50, vI z61, vR b95, vR b97, vJ z158, s_, vD c174_z104_3, s_, vJ z189, s_, vJ z196, s_, vD FP.dconst0, s_, u_, u_, u_, u_, u_, u_] [(.double (4517329193108106637 : UInt64)), (.double FP.dconst0)])) _
            refine Jvm.OwnK.dmul X126.here hx rfl (hb hby at_270) rfl hz270 nn270 ?_
            show Steps p.tables e below (T126.setTop (mkF m 271 #[vI p0, vI p1, vI p2, vI p3, vI (3 : Int32), vI z14, vI z25, vI z32, vI z43, vI z50, vI z61, vR b95, vR b97, vJ z158, s_, vD c174_z104_3, s_, vJ z189, s_, vJ z196, s_, vD FP.dconst0, s_, u_, u_, u_, u_, u_, u_] [(.double z270)])) _
            refine XS.dstore X126.here hx rfl (hb hby at_271) rfl (l' := #[vI p0, vI p1, vI p2, vI p3, vI (3 : Int32), vI z14, vI z25, vI z32, vI z43, vI z50, vI z61, vR b95, vR b97, vJ z158, s_, vD c174_z104_3, s_, vJ z189, s_, vJ z196, s_, vD FP.dconst0, s_, vD z270, s_, u_, u_, u_, u_]) rfl ?_
            show Steps p.tables e below (T126.setTop (mkF m 273 #[vI p0, vI p1, vI p2, vI p3, vI (3 : Int32), vI z14, vI z25, vI z32, vI z43, vI z50, vI z61, vR b95, vR b97, vJ z158, s_, vD c174_z104_3, s_, vJ z189, s_, vJ z196, s_, vD FP.dconst0, s_, vD z270, s_, u_, u_, u_, u_] [])) _
            refine XS.dload X126.here hx rfl (hb hby at_273) rfl ?_
            show Steps p.tables e below (T126.setTop (mkF m 275 #[vI p0, vI p1, vI p2, vI p3, vI (3 : Int32), vI z14, vI z25, vI z32, vI z43, vI z50, vI z61, vR b95, vR b97, vJ z158, s_, vD c174_z104_3, s_, vJ z189, s_, vJ z196, s_, vD FP.dconst0, s_, vD z270, s_, u_, u_, u_, u_] [(.double FP.dconst0)])) _
            refine XS.dload X126.here hx rfl (hb hby at_275) rfl ?_
            show Steps p.tables e below (T126.setTop (mkF m 277 #[vI p0, vI p1, vI p2, vI p3, vI (3 : Int32), vI z14, vI z25, vI z32, vI z43, vI z50, vI z61, vR b95, vR b97, vJ z158, s_, vD c174_z104_3, s_, vJ z189, s_, vJ z196, s_, vD FP.dconst0, s_, vD z270, s_, u_, u_, u_, u_] [(.double z270), (.double FP.dconst0)])) _
            refine Jvm.OwnK.dadd X126.here hx rfl (hb hby at_277) rfl hz277 nn277 ?_
            show Steps p.tables e below (T126.setTop (mkF m 278 #[vI p0, vI p1, vI p2, vI p3, vI (3 : Int32), vI z14, vI z25, vI z32, vI z43, vI z50, vI z61, vR b95, vR b97, vJ z158, s_, vD c174_z104_3, s_, vJ z189, s_, vJ z196, s_, vD FP.dconst0, s_, vD z270, s_, u_, u_, u_, u_] [(.double z277)])) _
            refine XS.dstore X126.here hx rfl (hb hby at_278) rfl (l' := #[vI p0, vI p1, vI p2, vI p3, vI (3 : Int32), vI z14, vI z25, vI z32, vI z43, vI z50, vI z61, vR b95, vR b97, vJ z158, s_, vD c174_z104_3, s_, vJ z189, s_, vJ z196, s_, vD FP.dconst0, s_, vD z270, s_, vD z277, s_, u_, u_]) rfl ?_
            show Steps p.tables e below (T126.setTop (mkF m 280 #[vI p0, vI p1, vI p2, vI p3, vI (3 : Int32), vI z14, vI z25, vI z32, vI z43, vI z50, vI z61, vR b95, vR b97, vJ z158, s_, vD c174_z104_3, s_, vJ z189, s_, vJ z196, s_, vD FP.dconst0, s_, vD z270, s_, vD z277, s_, u_, u_] [])) _
            refine XS.dload X126.here hx rfl (hb hby at_280) rfl ?_
            show Steps p.tables e below (T126.setTop (mkF m 282 #[vI p0, vI p1, vI p2, vI p3, vI (3 : Int32), vI z14, vI z25, vI z32, vI z43, vI z50, vI z61, vR b95, vR b97, vJ z158, s_, vD c174_z104_3, s_, vJ z189, s_, vJ z196, s_, vD FP.dconst0, s_, vD z270, s_, vD z277, s_, u_, u_] [(.double FP.dconst0)])) _
            refine XS.dload X126.here hx rfl (hb hby at_282) rfl ?_
            show Steps p.tables e below (T126.setTop (mkF m 284 #[vI p0, vI p1, vI p2, vI p3, vI (3 : Int32), vI z14, vI z25, vI z32, vI z43, vI z50, vI z61, vR b95, vR b97, vJ z158, s_, vD c174_z104_3, s_, vJ z189, s_, vJ z196, s_, vD FP.dconst0, s_, vD z270, s_, vD z277, s_, u_, u_] [(.double z270), (.double FP.dconst0)])) _
            refine Jvm.OwnK.dsub X126.here hx rfl (hb hby at_284) rfl hz284 nn284 ?_
            show Steps p.tables e below (T126.setTop (mkF m 285 #[vI p0, vI p1, vI p2, vI p3, vI (3 : Int32), vI z14, vI z25, vI z32, vI z43, vI z50, vI z61, vR b95, vR b97, vJ z158, s_, vD c174_z104_3, s_, vJ z189, s_, vJ z196, s_, vD FP.dconst0, s_, vD z270, s_, vD z277, s_, u_, u_] [(.double z284)])) _
            refine XS.dstore X126.here hx rfl (hb hby at_285) rfl (l' := #[vI p0, vI p1, vI p2, vI p3, vI (3 : Int32), vI z14, vI z25, vI z32, vI z43, vI z50, vI z61, vR b95, vR b97, vJ z158, s_, vD c174_z104_3, s_, vJ z189, s_, vJ z196, s_, vD FP.dconst0, s_, vD z270, s_, vD z277, s_, vD z284, s_]) rfl ?_
            show Steps p.tables e below (T126.setTop (mkF m 287 #[vI p0, vI p1, vI p2, vI p3, vI (3 : Int32), vI z14, vI z25, vI z32, vI z43, vI z50, vI z61, vR b95, vR b97, vJ z158, s_, vD c174_z104_3, s_, vJ z189, s_, vJ z196, s_, vD FP.dconst0, s_, vD z270, s_, vD z277, s_, vD z284, s_] [])) _
            refine XS.dload X126.here hx rfl (hb hby at_287) rfl ?_
            show Steps p.tables e below (T126.setTop (mkF m 289 #[vI p0, vI p1, vI p2, vI p3, vI (3 : Int32), vI z14, vI z25, vI z32, vI z43, vI z50, vI z61, vR b95, vR b97, vJ z158, s_, vD c174_z104_3, s_, vJ z189, s_, vJ z196, s_, vD FP.dconst0, s_, vD z270, s_, vD z277, s_, vD z284, s_] [(.double z284)])) _
            refine XS.dload X126.here hx rfl (hb hby at_289) rfl ?_
            show Steps p.tables e below (T126.setTop (mkF m 291 #[vI p0, vI p1, vI p2, vI p3, vI (3 : Int32), vI z14, vI z25, vI z32, vI z43, vI z50, vI z61, vR b95, vR b97, vJ z158, s_, vD c174_z104_3, s_, vJ z189, s_, vJ z196, s_, vD FP.dconst0, s_, vD z270, s_, vD z277, s_, vD z284, s_] [(.double c174_z104_3), (.double z284)])) _
            refine XS.dcmpS X126.here hx rfl (hb hby at_291) rfl hz291 ?_
            exact k
          by_cases hb292 : z291 < (0 : Int32)
          · skip
            obtain ⟨z307, hz307⟩ : ∃ z : Int32, cmpValue (FP.dcmp c174_z104_3 z277) .g = z := ⟨_, rfl⟩
            have c137 : ∀ t, Steps p.tables e below (T126.setTop (mkF m 308 #[vI p0, vI p1, vI p2, vI p3, vI (3 : Int32), vI z14, vI z25, vI z32, vI z43, vI z50, vI z61, vR b95, vR b97, vJ z158, s_, vD c174_z104_3, s_, vJ z189, s_, vJ z196, s_, vD FP.dconst0, s_, vD z270, s_, vD z277, s_, vD z284, s_] [(.int z307)])) t → Steps p.tables e below (s₁.setTop (entryFrame m #[(.int p0), (.int p1), (.int p2), (.int p3)] maxLocals)) t := by
              intro t k
              refine c136 t ?_
              show Steps p.tables e below (T126.setTop (mkF m 292 #[vI p0, vI p1, vI p2, vI p3, vI (3 : Int32), vI z14, vI z25, vI z32, vI z43, vI z50, vI z61, vR b95, vR b97, vJ z158, s_, vD c174_z104_3, s_, vJ z189, s_, vJ z196, s_, vD FP.dconst0, s_, vD z270, s_, vD z277, s_, vD z284, s_] [(.int z291)])) _
              refine XS.ifYes X126.here hx rfl (pc0 := 292) (pc' := 303) rfl (hb hby at_292) rfl (Jvm.Free.XT.i0_lt_t hb292) (by decide) (by decide) ?_
              show Steps p.tables e below (T126.setTop (mkF m 303 #[vI p0, vI p1, vI p2, vI p3, vI (3 : Int32), vI z14, vI z25, vI z32, vI z43, vI z50, vI z61, vR b95, vR b97, vJ z158, s_, vD c174_z104_3, s_, vJ z189, s_, vJ z196, s_, vD FP.dconst0, s_, vD z270, s_, vD z277, s_, vD z284, s_] [])) _
              refine XS.dload X126.here hx rfl (hb hby at_303) rfl ?_
              show Steps p.tables e below (T126.setTop (mkF m 305 #[vI p0, vI p1, vI p2, vI p3, vI (3 : Int32), vI z14, vI z25, vI z32, vI z43, vI z50, vI z61, vR b95, vR b97, vJ z158, s_, vD c174_z104_3, s_, vJ z189, s_, vJ z196, s_, vD FP.dconst0, s_, vD z270, s_, vD z277, s_, vD z284, s_] [(.double c174_z104_3)])) _
              refine XS.dload X126.here hx rfl (hb hby at_305) rfl ?_
              show Steps p.tables e below (T126.setTop (mkF m 307 #[vI p0, vI p1, vI p2, vI p3, vI (3 : Int32), vI z14, vI z25, vI z32, vI z43, vI z50, vI z61, vR b95, vR b97, vJ z158, s_, vD c174_z104_3, s_, vJ z189, s_, vJ z196, s_, vD FP.dconst0, s_, vD z270, s_, vD z277, s_, vD z284, s_] [(.double z277), (.double c174_z104_3)])) _
              refine XS.dcmpS X126.here hx rfl (hb hby at_307) rfl hz307 ?_
              exact k
            by_cases hb308 : z307 < (0 : Int32)
            · skip
              have c138 : ∀ t, Steps p.tables e below (T126.setTop (mkF m 324 #[vI p0, vI p1, vI p2, vI p3, vI (3 : Int32), vI z14, vI z25, vI z32, vI z43, vI z50, vI z61, vR b95, vR b97, vJ z158, s_, vD c174_z104_3, s_, vJ z189, s_, vJ z196, s_, vD FP.dconst0, s_, vD z270, s_, vD z277, s_, vD z284, s_] [(.int (1 : Int32))])) t → Steps p.tables e below (s₁.setTop (entryFrame m #[(.int p0), (.int p1), (.int p2), (.int p3)] maxLocals)) t := by
                intro t k
                refine c137 t ?_
                show Steps p.tables e below (T126.setTop (mkF m 308 #[vI p0, vI p1, vI p2, vI p3, vI (3 : Int32), vI z14, vI z25, vI z32, vI z43, vI z50, vI z61, vR b95, vR b97, vJ z158, s_, vD c174_z104_3, s_, vJ z189, s_, vJ z196, s_, vD FP.dconst0, s_, vD z270, s_, vD z277, s_, vD z284, s_] [(.int z307)])) _
                refine XS.ifYes X126.here hx rfl (pc0 := 308) (pc' := 319) rfl (hb hby at_308) rfl (Jvm.Free.XT.i0_lt_t hb308) (by decide) (by decide) ?_
                show Steps p.tables e below (T126.setTop (mkF m 319 #[vI p0, vI p1, vI p2, vI p3, vI (3 : Int32), vI z14, vI z25, vI z32, vI z43, vI z50, vI z61, vR b95, vR b97, vJ z158, s_, vD c174_z104_3, s_, vJ z189, s_, vJ z196, s_, vD FP.dconst0, s_, vD z270, s_, vD z277, s_, vD z284, s_] [])) _
                refine XS.iconst X126.here hx rfl (hb hby at_319) ?_
                show Steps p.tables e below (T126.setTop (mkF m 320 #[vI p0, vI p1, vI p2, vI p3, vI (3 : Int32), vI z14, vI z25, vI z32, vI z43, vI z50, vI z61, vR b95, vR b97, vJ z158, s_, vD c174_z104_3, s_, vJ z189, s_, vJ z196, s_, vD FP.dconst0, s_, vD z270, s_, vD z277, s_, vD z284, s_] [(.int (1 : Int32))])) _
                refine XS.goto X126.here hx rfl (pc0 := 320) (pc' := 324) rfl (hb hby at_320) (by decide) (by decide) ?_
                exact k
              obtain ⟨fs, hr, hrun, hended, hW, hsame⟩ := X126.leave (v := some (.int (1 : Int32))) (fun h => by rw [Bd.returns] at h; cases h)
              refine ⟨_, _, c138 _ ?_, hrun, hended, _, _, rfl, ?_, ⟨_, rfl⟩, hW, hsame.mono (by decide) (by decide)⟩
              · show Steps p.tables e below (T126.setTop (mkF m 324 #[vI p0, vI p1, vI p2, vI p3, vI (3 : Int32), vI z14, vI z25, vI z32, vI z43, vI z50, vI z61, vR b95, vR b97, vJ z158, s_, vD c174_z104_3, s_, vJ z189, s_, vJ z196, s_, vD FP.dconst0, s_, vD z270, s_, vD z277, s_, vD z284, s_] [(.int (1 : Int32))])) _
                exact retOut X126 hx Bd.returns rfl (Or.inl ⟨rfl, by simp, _, rfl⟩) (hb hby at_324) hr
              · show Q0 n0 _ T126.heap _
                rw [e126]
                exact ⟨rfl, by first | assumption | exact N0⟩
            · skip
              obtain ⟨z315, hz315⟩ : ∃ z : Int32, cmpValue (FP.dcmp c174_z104_3 z277) .l = z := ⟨_, rfl⟩
              have br316 := cmpF fs fh hi1 hz307 hz315 hb308
              have c139 : ∀ t, Steps p.tables e below (T126.setTop (mkF m 324 #[vI p0, vI p1, vI p2, vI p3, vI (3 : Int32), vI z14, vI z25, vI z32, vI z43, vI z50, vI z61, vR b95, vR b97, vJ z158, s_, vD c174_z104_3, s_, vJ z189, s_, vJ z196, s_, vD FP.dconst0, s_, vD z270, s_, vD z277, s_, vD z284, s_] [(.int (1 : Int32))])) t → Steps p.tables e below (s₁.setTop (entryFrame m #[(.int p0), (.int p1), (.int p2), (.int p3)] maxLocals)) t := by
                intro t k
                refine c137 t ?_
                show Steps p.tables e below (T126.setTop (mkF m 308 #[vI p0, vI p1, vI p2, vI p3, vI (3 : Int32), vI z14, vI z25, vI z32, vI z43, vI z50, vI z61, vR b95, vR b97, vJ z158, s_, vD c174_z104_3, s_, vJ z189, s_, vJ z196, s_, vD FP.dconst0, s_, vD z270, s_, vD z277, s_, vD z284, s_] [(.int z307)])) _
                refine XS.ifNo X126.here hx rfl (hb hby at_308) rfl (Jvm.Free.XT.i0_lt_f hb308) ?_
                show Steps p.tables e below (T126.setTop (mkF m 311 #[vI p0, vI p1, vI p2, vI p3, vI (3 : Int32), vI z14, vI z25, vI z32, vI z43, vI z50, vI z61, vR b95, vR b97, vJ z158, s_, vD c174_z104_3, s_, vJ z189, s_, vJ z196, s_, vD FP.dconst0, s_, vD z270, s_, vD z277, s_, vD z284, s_] [])) _
                refine XS.dload X126.here hx rfl (hb hby at_311) rfl ?_
                show Steps p.tables e below (T126.setTop (mkF m 313 #[vI p0, vI p1, vI p2, vI p3, vI (3 : Int32), vI z14, vI z25, vI z32, vI z43, vI z50, vI z61, vR b95, vR b97, vJ z158, s_, vD c174_z104_3, s_, vJ z189, s_, vJ z196, s_, vD FP.dconst0, s_, vD z270, s_, vD z277, s_, vD z284, s_] [(.double c174_z104_3)])) _
                refine XS.dload X126.here hx rfl (hb hby at_313) rfl ?_
                show Steps p.tables e below (T126.setTop (mkF m 315 #[vI p0, vI p1, vI p2, vI p3, vI (3 : Int32), vI z14, vI z25, vI z32, vI z43, vI z50, vI z61, vR b95, vR b97, vJ z158, s_, vD c174_z104_3, s_, vJ z189, s_, vJ z196, s_, vD FP.dconst0, s_, vD z270, s_, vD z277, s_, vD z284, s_] [(.double z277), (.double c174_z104_3)])) _
                refine XS.dcmpS X126.here hx rfl (hb hby at_315) rfl hz315 ?_
                show Steps p.tables e below (T126.setTop (mkF m 316 #[vI p0, vI p1, vI p2, vI p3, vI (3 : Int32), vI z14, vI z25, vI z32, vI z43, vI z50, vI z61, vR b95, vR b97, vJ z158, s_, vD c174_z104_3, s_, vJ z189, s_, vJ z196, s_, vD FP.dconst0, s_, vD z270, s_, vD z277, s_, vD z284, s_] [(.int z315)])) _
                refine XS.ifNo X126.here hx rfl (hb hby at_316) rfl (Jvm.Free.XT.i0_ne_f br316) ?_
                show Steps p.tables e below (T126.setTop (mkF m 319 #[vI p0, vI p1, vI p2, vI p3, vI (3 : Int32), vI z14, vI z25, vI z32, vI z43, vI z50, vI z61, vR b95, vR b97, vJ z158, s_, vD c174_z104_3, s_, vJ z189, s_, vJ z196, s_, vD FP.dconst0, s_, vD z270, s_, vD z277, s_, vD z284, s_] [])) _
                refine XS.iconst X126.here hx rfl (hb hby at_319) ?_
                show Steps p.tables e below (T126.setTop (mkF m 320 #[vI p0, vI p1, vI p2, vI p3, vI (3 : Int32), vI z14, vI z25, vI z32, vI z43, vI z50, vI z61, vR b95, vR b97, vJ z158, s_, vD c174_z104_3, s_, vJ z189, s_, vJ z196, s_, vD FP.dconst0, s_, vD z270, s_, vD z277, s_, vD z284, s_] [(.int (1 : Int32))])) _
                refine XS.goto X126.here hx rfl (pc0 := 320) (pc' := 324) rfl (hb hby at_320) (by decide) (by decide) ?_
                exact k
              obtain ⟨fs, hr, hrun, hended, hW, hsame⟩ := X126.leave (v := some (.int (1 : Int32))) (fun h => by rw [Bd.returns] at h; cases h)
              refine ⟨_, _, c139 _ ?_, hrun, hended, _, _, rfl, ?_, ⟨_, rfl⟩, hW, hsame.mono (by decide) (by decide)⟩
              · show Steps p.tables e below (T126.setTop (mkF m 324 #[vI p0, vI p1, vI p2, vI p3, vI (3 : Int32), vI z14, vI z25, vI z32, vI z43, vI z50, vI z61, vR b95, vR b97, vJ z158, s_, vD c174_z104_3, s_, vJ z189, s_, vJ z196, s_, vD FP.dconst0, s_, vD z270, s_, vD z277, s_, vD z284, s_] [(.int (1 : Int32))])) _
                exact retOut X126 hx Bd.returns rfl (Or.inl ⟨rfl, by simp, _, rfl⟩) (hb hby at_324) hr
              · show Q0 n0 _ T126.heap _
                rw [e126]
                exact ⟨rfl, by first | assumption | exact N0⟩
          · skip
            obtain ⟨z299, hz299⟩ : ∃ z : Int32, cmpValue (FP.dcmp z284 c174_z104_3) .l = z := ⟨_, rfl⟩
            obtain ⟨z307, hz307⟩ : ∃ z : Int32, cmpValue (FP.dcmp c174_z104_3 z277) .g = z := ⟨_, rfl⟩
            have br300 := cmpF fl fs lo1 hz291 hz299 hb292
            have c140 : ∀ t, Steps p.tables e below (T126.setTop (mkF m 308 #[vI p0, vI p1, vI p2, vI p3, vI (3 : Int32), vI z14, vI z25, vI z32, vI z43, vI z50, vI z61, vR b95, vR b97, vJ z158, s_, vD c174_z104_3, s_, vJ z189, s_, vJ z196, s_, vD FP.dconst0, s_, vD z270, s_, vD z277, s_, vD z284, s_] [(.int z307)])) t → Steps p.tables e below (s₁.setTop (entryFrame m #[(.int p0), (.int p1), (.int p2), (.int p3)] maxLocals)) t := by
              intro t k
              refine c136 t ?_
              show Steps p.tables e below (T126.setTop (mkF m 292 #[vI p0, vI p1, vI p2, vI p3, vI (3 : Int32), vI z14, vI z25, vI z32, vI z43, vI z50, vI z61, vR b95, vR b97, vJ z158, s_, vD c174_z104_3, s_, vJ z189, s_, vJ z196, s_, vD FP.dconst0, s_, vD z270, s_, vD z277, s_, vD z284, s_] [(.int z291)])) _
              refine XS.ifNo X126.here hx rfl (hb hby at_292) rfl (Jvm.Free.XT.i0_lt_f hb292) ?_
              show Steps p.tables e below (T126.setTop (mkF m 295 #[vI p0, vI p1, vI p2, vI p3, vI (3 : Int32), vI z14, vI z25, vI z32, vI z43, vI z50, vI z61, vR b95, vR b97, vJ z158, s_, vD c174_z104_3, s_, vJ z189, s_, vJ z196, s_, vD FP.dconst0, s_, vD z270, s_, vD z277, s_, vD z284, s_] [])) _
              refine XS.dload X126.here hx rfl (hb hby at_295) rfl ?_
              show Steps p.tables e below (T126.setTop (mkF m 297 #[vI p0, vI p1, vI p2, vI p3, vI (3 : Int32), vI z14, vI z25, vI z32, vI z43, vI z50, vI z61, vR b95, vR b97, vJ z158, s_, vD c174_z104_3, s_, vJ z189, s_, vJ z196, s_, vD FP.dconst0, s_, vD z270, s_, vD z277, s_, vD z284, s_] [(.double z284)])) _
              refine XS.dload X126.here hx rfl (hb hby at_297) rfl ?_
              show Steps p.tables e below (T126.setTop (mkF m 299 #[vI p0, vI p1, vI p2, vI p3, vI (3 : Int32), vI z14, vI z25, vI z32, vI z43, vI z50, vI z61, vR b95, vR b97, vJ z158, s_, vD c174_z104_3, s_, vJ z189, s_, vJ z196, s_, vD FP.dconst0, s_, vD z270, s_, vD z277, s_, vD z284, s_] [(.double c174_z104_3), (.double z284)])) _
              refine XS.dcmpS X126.here hx rfl (hb hby at_299) rfl hz299 ?_
              show Steps p.tables e below (T126.setTop (mkF m 300 #[vI p0, vI p1, vI p2, vI p3, vI (3 : Int32), vI z14, vI z25, vI z32, vI z43, vI z50, vI z61, vR b95, vR b97, vJ z158, s_, vD c174_z104_3, s_, vJ z189, s_, vJ z196, s_, vD FP.dconst0, s_, vD z270, s_, vD z277, s_, vD z284, s_] [(.int z299)])) _
              refine XS.ifNo X126.here hx rfl (hb hby at_300) rfl (Jvm.Free.XT.i0_ne_f br300) ?_
              show Steps p.tables e below (T126.setTop (mkF m 303 #[vI p0, vI p1, vI p2, vI p3, vI (3 : Int32), vI z14, vI z25, vI z32, vI z43, vI z50, vI z61, vR b95, vR b97, vJ z158, s_, vD c174_z104_3, s_, vJ z189, s_, vJ z196, s_, vD FP.dconst0, s_, vD z270, s_, vD z277, s_, vD z284, s_] [])) _
              refine XS.dload X126.here hx rfl (hb hby at_303) rfl ?_
              show Steps p.tables e below (T126.setTop (mkF m 305 #[vI p0, vI p1, vI p2, vI p3, vI (3 : Int32), vI z14, vI z25, vI z32, vI z43, vI z50, vI z61, vR b95, vR b97, vJ z158, s_, vD c174_z104_3, s_, vJ z189, s_, vJ z196, s_, vD FP.dconst0, s_, vD z270, s_, vD z277, s_, vD z284, s_] [(.double c174_z104_3)])) _
              refine XS.dload X126.here hx rfl (hb hby at_305) rfl ?_
              show Steps p.tables e below (T126.setTop (mkF m 307 #[vI p0, vI p1, vI p2, vI p3, vI (3 : Int32), vI z14, vI z25, vI z32, vI z43, vI z50, vI z61, vR b95, vR b97, vJ z158, s_, vD c174_z104_3, s_, vJ z189, s_, vJ z196, s_, vD FP.dconst0, s_, vD z270, s_, vD z277, s_, vD z284, s_] [(.double z277), (.double c174_z104_3)])) _
              refine XS.dcmpS X126.here hx rfl (hb hby at_307) rfl hz307 ?_
              exact k
            by_cases hb308 : z307 < (0 : Int32)
            · skip
              have c141 : ∀ t, Steps p.tables e below (T126.setTop (mkF m 324 #[vI p0, vI p1, vI p2, vI p3, vI (3 : Int32), vI z14, vI z25, vI z32, vI z43, vI z50, vI z61, vR b95, vR b97, vJ z158, s_, vD c174_z104_3, s_, vJ z189, s_, vJ z196, s_, vD FP.dconst0, s_, vD z270, s_, vD z277, s_, vD z284, s_] [(.int (1 : Int32))])) t → Steps p.tables e below (s₁.setTop (entryFrame m #[(.int p0), (.int p1), (.int p2), (.int p3)] maxLocals)) t := by
                intro t k
                refine c140 t ?_
                show Steps p.tables e below (T126.setTop (mkF m 308 #[vI p0, vI p1, vI p2, vI p3, vI (3 : Int32), vI z14, vI z25, vI z32, vI z43, vI z50, vI z61, vR b95, vR b97, vJ z158, s_, vD c174_z104_3, s_, vJ z189, s_, vJ z196, s_, vD FP.dconst0, s_, vD z270, s_, vD z277, s_, vD z284, s_] [(.int z307)])) _
                refine XS.ifYes X126.here hx rfl (pc0 := 308) (pc' := 319) rfl (hb hby at_308) rfl (Jvm.Free.XT.i0_lt_t hb308) (by decide) (by decide) ?_
                show Steps p.tables e below (T126.setTop (mkF m 319 #[vI p0, vI p1, vI p2, vI p3, vI (3 : Int32), vI z14, vI z25, vI z32, vI z43, vI z50, vI z61, vR b95, vR b97, vJ z158, s_, vD c174_z104_3, s_, vJ z189, s_, vJ z196, s_, vD FP.dconst0, s_, vD z270, s_, vD z277, s_, vD z284, s_] [])) _
                refine XS.iconst X126.here hx rfl (hb hby at_319) ?_
                show Steps p.tables e below (T126.setTop (mkF m 320 #[vI p0, vI p1, vI p2, vI p3, vI (3 : Int32), vI z14, vI z25, vI z32, vI z43, vI z50, vI z61, vR b95, vR b97, vJ z158, s_, vD c174_z104_3, s_, vJ z189, s_, vJ z196, s_, vD FP.dconst0, s_, vD z270, s_, vD z277, s_, vD z284, s_] [(.int (1 : Int32))])) _
                refine XS.goto X126.here hx rfl (pc0 := 320) (pc' := 324) rfl (hb hby at_320) (by decide) (by decide) ?_
                exact k
              obtain ⟨fs, hr, hrun, hended, hW, hsame⟩ := X126.leave (v := some (.int (1 : Int32))) (fun h => by rw [Bd.returns] at h; cases h)
              refine ⟨_, _, c141 _ ?_, hrun, hended, _, _, rfl, ?_, ⟨_, rfl⟩, hW, hsame.mono (by decide) (by decide)⟩
              · show Steps p.tables e below (T126.setTop (mkF m 324 #[vI p0, vI p1, vI p2, vI p3, vI (3 : Int32), vI z14, vI z25, vI z32, vI z43, vI z50, vI z61, vR b95, vR b97, vJ z158, s_, vD c174_z104_3, s_, vJ z189, s_, vJ z196, s_, vD FP.dconst0, s_, vD z270, s_, vD z277, s_, vD z284, s_] [(.int (1 : Int32))])) _
                exact retOut X126 hx Bd.returns rfl (Or.inl ⟨rfl, by simp, _, rfl⟩) (hb hby at_324) hr
              · show Q0 n0 _ T126.heap _
                rw [e126]
                exact ⟨rfl, by first | assumption | exact N0⟩
            · skip
              obtain ⟨z315, hz315⟩ : ∃ z : Int32, cmpValue (FP.dcmp c174_z104_3 z277) .l = z := ⟨_, rfl⟩
              have br316 := cmpF fs fh hi1 hz307 hz315 hb308
              have c142 : ∀ t, Steps p.tables e below (T126.setTop (mkF m 324 #[vI p0, vI p1, vI p2, vI p3, vI (3 : Int32), vI z14, vI z25, vI z32, vI z43, vI z50, vI z61, vR b95, vR b97, vJ z158, s_, vD c174_z104_3, s_, vJ z189, s_, vJ z196, s_, vD FP.dconst0, s_, vD z270, s_, vD z277, s_, vD z284, s_] [(.int (1 : Int32))])) t → Steps p.tables e below (s₁.setTop (entryFrame m #[(.int p0), (.int p1), (.int p2), (.int p3)] maxLocals)) t := by
                intro t k
                refine c140 t ?_
                show Steps p.tables e below (T126.setTop (mkF m 308 #[vI p0, vI p1, vI p2, vI p3, vI (3 : Int32), vI z14, vI z25, vI z32, vI z43, vI z50, vI z61, vR b95, vR b97, vJ z158, s_, vD c174_z104_3, s_, vJ z189, s_, vJ z196, s_, vD FP.dconst0, s_, vD z270, s_, vD z277, s_, vD z284, s_] [(.int z307)])) _
                refine XS.ifNo X126.here hx rfl (hb hby at_308) rfl (Jvm.Free.XT.i0_lt_f hb308) ?_
                show Steps p.tables e below (T126.setTop (mkF m 311 #[vI p0, vI p1, vI p2, vI p3, vI (3 : Int32), vI z14, vI z25, vI z32, vI z43, vI z50, vI z61, vR b95, vR b97, vJ z158, s_, vD c174_z104_3, s_, vJ z189, s_, vJ z196, s_, vD FP.dconst0, s_, vD z270, s_, vD z277, s_, vD z284, s_] [])) _
                refine XS.dload X126.here hx rfl (hb hby at_311) rfl ?_
                show Steps p.tables e below (T126.setTop (mkF m 313 #[vI p0, vI p1, vI p2, vI p3, vI (3 : Int32), vI z14, vI z25, vI z32, vI z43, vI z50, vI z61, vR b95, vR b97, vJ z158, s_, vD c174_z104_3, s_, vJ z189, s_, vJ z196, s_, vD FP.dconst0, s_, vD z270, s_, vD z277, s_, vD z284, s_] [(.double c174_z104_3)])) _
                refine XS.dload X126.here hx rfl (hb hby at_313) rfl ?_
                show Steps p.tables e below (T126.setTop (mkF m 315 #[vI p0, vI p1, vI p2, vI p3, vI (3 : Int32), vI z14, vI z25, vI z32, vI z43, vI z50, vI z61, vR b95, vR b97, vJ z158, s_, vD c174_z104_3, s_, vJ z189, s_, vJ z196, s_, vD FP.dconst0, s_, vD z270, s_, vD z277, s_, vD z284, s_] [(.double z277), (.double c174_z104_3)])) _
                refine XS.dcmpS X126.here hx rfl (hb hby at_315) rfl hz315 ?_
                show Steps p.tables e below (T126.setTop (mkF m 316 #[vI p0, vI p1, vI p2, vI p3, vI (3 : Int32), vI z14, vI z25, vI z32, vI z43, vI z50, vI z61, vR b95, vR b97, vJ z158, s_, vD c174_z104_3, s_, vJ z189, s_, vJ z196, s_, vD FP.dconst0, s_, vD z270, s_, vD z277, s_, vD z284, s_] [(.int z315)])) _
                refine XS.ifNo X126.here hx rfl (hb hby at_316) rfl (Jvm.Free.XT.i0_ne_f br316) ?_
                show Steps p.tables e below (T126.setTop (mkF m 319 #[vI p0, vI p1, vI p2, vI p3, vI (3 : Int32), vI z14, vI z25, vI z32, vI z43, vI z50, vI z61, vR b95, vR b97, vJ z158, s_, vD c174_z104_3, s_, vJ z189, s_, vJ z196, s_, vD FP.dconst0, s_, vD z270, s_, vD z277, s_, vD z284, s_] [])) _
                refine XS.iconst X126.here hx rfl (hb hby at_319) ?_
                show Steps p.tables e below (T126.setTop (mkF m 320 #[vI p0, vI p1, vI p2, vI p3, vI (3 : Int32), vI z14, vI z25, vI z32, vI z43, vI z50, vI z61, vR b95, vR b97, vJ z158, s_, vD c174_z104_3, s_, vJ z189, s_, vJ z196, s_, vD FP.dconst0, s_, vD z270, s_, vD z277, s_, vD z284, s_] [(.int (1 : Int32))])) _
                refine XS.goto X126.here hx rfl (pc0 := 320) (pc' := 324) rfl (hb hby at_320) (by decide) (by decide) ?_
                exact k
              obtain ⟨fs, hr, hrun, hended, hW, hsame⟩ := X126.leave (v := some (.int (1 : Int32))) (fun h => by rw [Bd.returns] at h; cases h)
              refine ⟨_, _, c142 _ ?_, hrun, hended, _, _, rfl, ?_, ⟨_, rfl⟩, hW, hsame.mono (by decide) (by decide)⟩
              · show Steps p.tables e below (T126.setTop (mkF m 324 #[vI p0, vI p1, vI p2, vI p3, vI (3 : Int32), vI z14, vI z25, vI z32, vI z43, vI z50, vI z61, vR b95, vR b97, vJ z158, s_, vD c174_z104_3, s_, vJ z189, s_, vJ z196, s_, vD FP.dconst0, s_, vD z270, s_, vD z277, s_, vD z284, s_] [(.int (1 : Int32))])) _
                exact retOut X126 hx Bd.returns rfl (Or.inl ⟨rfl, by simp, _, rfl⟩) (hb hby at_324) hr
              · show Q0 n0 _ T126.heap _
                rw [e126]
                exact ⟨rfl, by first | assumption | exact N0⟩
        · skip
          obtain ⟨z218, hz218⟩ : ∃ z : Int64, z25.toInt64 = z := ⟨_, rfl⟩
          obtain ⟨z221, hz221⟩ : ∃ z : Int64, z14.toInt64 = z := ⟨_, rfl⟩
          obtain ⟨c228_z2, hc228_z2⟩ : ∃ z : Int32, lcmpW z221 (0 : Int64) = z := ⟨_, rfl⟩
          obtain ⟨c228_z11, hc228_z11⟩ : ∃ z : Int64, z218 * z158 = z := ⟨_, rfl⟩
          obtain ⟨c228_z15, hc228_z15⟩ : ∃ z : Int64, z189 * z221 = z := ⟨_, rfl⟩
          obtain ⟨c228_z16, hc228_z16⟩ : ∃ z : Int64, c228_z11 - c228_z15 = z := ⟨_, rfl⟩
          obtain ⟨c228_z23, hc228_z23⟩ : ∃ z : Int64, c228_z16 * c228_z16 = z := ⟨_, rfl⟩
          obtain ⟨c228_z24, hc228_z24⟩ : ∃ z : UInt64, FP.l2d c228_z23 = z := ⟨_, rfl⟩
          obtain ⟨c228_z28, hc228_z28⟩ : ∃ z : Int64, z221 * z189 = z := ⟨_, rfl⟩
          obtain ⟨c228_z31, hc228_z31⟩ : ∃ z : Int64, c228_z28 * z196 = z := ⟨_, rfl⟩
          obtain ⟨c228_z32, hc228_z32⟩ : ∃ z : UInt64, FP.l2d c228_z31 = z := ⟨_, rfl⟩
          obtain ⟨c228_z33, hc228_z33⟩ : ∃ z : UInt64, FP.ddiv c228_z24 c228_z32 = z := ⟨_, rfl⟩
          obtain ⟨c228_rv, hc228_rv⟩ : ∃ z : UInt64, (if c228_z2 = (0 : Int32) then FP.dconst0 else c228_z33) = z := ⟨_, rfl⟩
          obtain ⟨z233, hz233⟩ : ∃ z : Int64, z43.toInt64 = z := ⟨_, rfl⟩
          obtain ⟨z236, hz236⟩ : ∃ z : Int64, z32.toInt64 = z := ⟨_, rfl⟩
          obtain ⟨c243_z2, hc243_z2⟩ : ∃ z : Int32, lcmpW z236 (0 : Int64) = z := ⟨_, rfl⟩
          obtain ⟨c243_z11, hc243_z11⟩ : ∃ z : Int64, z233 * z158 = z := ⟨_, rfl⟩
          obtain ⟨c243_z15, hc243_z15⟩ : ∃ z : Int64, z189 * z236 = z := ⟨_, rfl⟩
          obtain ⟨c243_z16, hc243_z16⟩ : ∃ z : Int64, c243_z11 - c243_z15 = z := ⟨_, rfl⟩
          obtain ⟨c243_z23, hc243_z23⟩ : ∃ z : Int64, c243_z16 * c243_z16 = z := ⟨_, rfl⟩
          obtain ⟨c243_z24, hc243_z24⟩ : ∃ z : UInt64, FP.l2d c243_z23 = z := ⟨_, rfl⟩
          obtain ⟨c243_z28, hc243_z28⟩ : ∃ z : Int64, z236 * z189 = z := ⟨_, rfl⟩
          obtain ⟨c243_z31, hc243_z31⟩ : ∃ z : Int64, c243_z28 * z196 = z := ⟨_, rfl⟩
          obtain ⟨c243_z32, hc243_z32⟩ : ∃ z : UInt64, FP.l2d c243_z31 = z := ⟨_, rfl⟩
          obtain ⟨c243_z33, hc243_z33⟩ : ∃ z : UInt64, FP.ddiv c243_z24 c243_z32 = z := ⟨_, rfl⟩
          obtain ⟨c243_rv, hc243_rv⟩ : ∃ z : UInt64, (if c243_z2 = (0 : Int32) then FP.dconst0 else c243_z33) = z := ⟨_, rfl⟩
          obtain ⟨z246, hz246⟩ : ∃ z : UInt64, FP.dadd c228_rv c243_rv = z := ⟨_, rfl⟩
          obtain ⟨z249, hz249⟩ : ∃ z : Int64, z61.toInt64 = z := ⟨_, rfl⟩
          obtain ⟨z252, hz252⟩ : ∃ z : Int64, z50.toInt64 = z := ⟨_, rfl⟩
          obtain ⟨c259_z2, hc259_z2⟩ : ∃ z : Int32, lcmpW z252 (0 : Int64) = z := ⟨_, rfl⟩
          obtain ⟨c259_z11, hc259_z11⟩ : ∃ z : Int64, z249 * z158 = z := ⟨_, rfl⟩
          obtain ⟨c259_z15, hc259_z15⟩ : ∃ z : Int64, z189 * z252 = z := ⟨_, rfl⟩
          obtain ⟨c259_z16, hc259_z16⟩ : ∃ z : Int64, c259_z11 - c259_z15 = z := ⟨_, rfl⟩
          obtain ⟨c259_z23, hc259_z23⟩ : ∃ z : Int64, c259_z16 * c259_z16 = z := ⟨_, rfl⟩
          obtain ⟨c259_z24, hc259_z24⟩ : ∃ z : UInt64, FP.l2d c259_z23 = z := ⟨_, rfl⟩
          obtain ⟨c259_z28, hc259_z28⟩ : ∃ z : Int64, z252 * z189 = z := ⟨_, rfl⟩
          obtain ⟨c259_z31, hc259_z31⟩ : ∃ z : Int64, c259_z28 * z196 = z := ⟨_, rfl⟩
          obtain ⟨c259_z32, hc259_z32⟩ : ∃ z : UInt64, FP.l2d c259_z31 = z := ⟨_, rfl⟩
          obtain ⟨c259_z33, hc259_z33⟩ : ∃ z : UInt64, FP.ddiv c259_z24 c259_z32 = z := ⟨_, rfl⟩
          obtain ⟨c259_rv, hc259_rv⟩ : ∃ z : UInt64, (if c259_z2 = (0 : Int32) then FP.dconst0 else c259_z33) = z := ⟨_, rfl⟩
          obtain ⟨z262, hz262⟩ : ∃ z : UInt64, FP.dadd z246 c259_rv = z := ⟨_, rfl⟩
          obtain ⟨z270, hz270⟩ : ∃ z : UInt64, FP.dmul z262 (4517329193108106637 : UInt64) = z := ⟨_, rfl⟩
          obtain ⟨z277, hz277⟩ : ∃ z : UInt64, FP.dadd z262 z270 = z := ⟨_, rfl⟩
          obtain ⟨z284, hz284⟩ : ∃ z : UInt64, FP.dsub z262 z270 = z := ⟨_, rfl⟩
          obtain ⟨z291, hz291⟩ : ∃ z : Int32, cmpValue (FP.dcmp z284 c174_z104_3) .g = z := ⟨_, rfl⟩
          have kz : z189.toInt ≠ 0 := fun q => hb206 (by rw [← hz205]; exact (lw_eq _ _).mpr (Int64.toInt_inj.mp (by rw [q, z00])))
          have lz : z196.toInt ≠ 0 := fun q => hb213 (by rw [← hz212]; exact (lw_eq _ _).mpr (Int64.toInt_inj.mp (by rw [q, z00])))
          have jz218 := Jvm.OwnF.i2l_v hz218
          have jz221 := Jvm.OwnF.i2l_v hz221
          have hq0 : z221.toInt ≠ 0 → z158.toInt * (z189.toInt * z221.toInt) * ((z158.toInt - z189.toInt) * (Hn z32.toInt * Hn z50.toInt)) = Qn c174_z21_3.toInt c174_z30_3.toInt z14.toInt z32.toInt z50.toInt := fun q => by rw [← eN, ← eK, jz221]; exact Qe0 (by omega) (by omega) (by omega)
          obtain ⟨c228_nn33, t0⟩ := Jvm.OwnF.termS (R := Hn z32.toInt * Hn z50.toInt) (by omega) (by omega) (by omega) (by omega) j196 (by omega) (by omega) Rb0.1 hq0 hc228_z2 hc228_z11 hc228_z15 hc228_z16 hc228_z23 hc228_z24 hc228_z28 hc228_z31 hc228_z32 hc228_z33 hc228_rv
          rw [jz218, jz221, ← eN, ← eK] at t0
          obtain ⟨_, _, ⟨T143, L143, k143, n143⟩, -, X143, ⟨Lc143, hQ143, ql143, qy143, qz143⟩, st143⟩ := Jvm.LawKit.callS X126 hx (y := (⟨"com/example/tidy_ranker/tidyranker/classification/ChiSquareScorePinLaw", "term", "(JJJJJ)D"⟩ : MethodName)) hown (mvT hZ (hw _ (List.mem_of_getElem? (i := 10) rfl))) (mvT hZ (hw _ (List.mem_of_getElem? (i := 11) rfl))) (mvT hZ (hw _ (List.mem_of_getElem? (i := 12) rfl))) (mvT hZ (hw _ (List.mem_of_getElem? (i := 13) rfl))) (by decide) (backOf (W := 0) (rm3 l Z a0 hw [] z218 z221 z158 z189 z196 c228_z2 c228_z11 c228_z15 c228_z16 c228_z23 c228_z24 c228_z28 c228_z31 c228_z32 c228_z33 c228_rv h121 n0 (Nat.le_trans (Nat.le_trans (Nat.le_trans (Nat.le_trans (Nat.le_trans (Nat.le_trans (Nat.le_trans (Nat.le_trans Z0 E95.1) E97.1) (Keep.of_wr W101).1) (Keep.of_wr W105).1) (Keep.of_wr W109).1) (Keep.of_wr W113).1) (Keep.of_wr W117).1) (Keep.of_wr W121).1) hc228_z2 hc228_z11 hc228_z15 hc228_z16 hc228_z23 hc228_z24 hc228_z28 hc228_z31 hc228_z32 hc228_z33 hc228_rv c228_nn33) hZ (hw _ (List.mem_of_getElem? (i := 13) rfl)) (hw _ (List.mem_of_getElem? (i := 12) rfl)) (by decide) (by decide)) (g := (mkF m 228 #[vI p0, vI p1, vI p2, vI p3, vI (3 : Int32), vI z14, vI z25, vI z32, vI z43, vI z50, vI z61, vR b95, vR b97, vJ z158, s_, vD c174_z104_3, s_, vJ z189, s_, vJ z196, s_, vD FP.dconst0, s_, u_, u_, u_, u_, u_, u_] [(.long z196), (.long z189), (.long z158), (.long z221), (.long z218)])) rfl (by rw [hml]; rfl) (argsL := [(.long z218), (.long z221), (.long z158), (.long z189), (.long z196)]) (rest := []) (lenOf pd_2 rfl) rfl (by show 2 * 0 + _ ≤ _; exact Nat.le_of_eq rfl) (hb hby at_228) (fun _ _ => ⟨rfl, e126, (by decide : 2 + 0 ≤ _), (by decide : 6 + 0 ≤ _)⟩)
          dsimp only [Pt.U, Pt.locs, Pt.cells, Pt.slots] at X143 ql143 qy143 qz143 st143 hQ143
          subst ql143 qy143 qz143
          obtain ⟨rfl, N143q, e143⟩ := hQ143
          have N143 := Fr.app N126 N143q
          have jz233 := Jvm.OwnF.i2l_v hz233
          have jz236 := Jvm.OwnF.i2l_v hz236
          have hq1 : z236.toInt ≠ 0 → z158.toInt * (z189.toInt * z236.toInt) * ((z158.toInt - z189.toInt) * (Hn z14.toInt * Hn z50.toInt)) = Qn c174_z21_3.toInt c174_z30_3.toInt z14.toInt z32.toInt z50.toInt := fun q => by rw [← eN, ← eK, jz236]; exact Qe1 (by omega) (by omega) (by omega)
          obtain ⟨c243_nn33, t1⟩ := Jvm.OwnF.termS (R := Hn z14.toInt * Hn z50.toInt) (by omega) (by omega) (by omega) (by omega) j196 (by omega) (by omega) Rb1.1 hq1 hc243_z2 hc243_z11 hc243_z15 hc243_z16 hc243_z23 hc243_z24 hc243_z28 hc243_z31 hc243_z32 hc243_z33 hc243_rv
          rw [jz233, jz236, ← eN, ← eK] at t1
          obtain ⟨nn246, u1⟩ := Jvm.OwnF.addAcc (by decide) hQb t0 t1 (by omega) hz246
          obtain ⟨_, _, ⟨T144, L144, k144, n144⟩, -, X144, ⟨Lc144, hQ144, ql144, qy144, qz144⟩, st144⟩ := Jvm.LawKit.callS X143 hx (y := (⟨"com/example/tidy_ranker/tidyranker/classification/ChiSquareScorePinLaw", "term", "(JJJJJ)D"⟩ : MethodName)) hown (mvT hZ (hw _ (List.mem_of_getElem? (i := 10) rfl))) (mvT hZ (hw _ (List.mem_of_getElem? (i := 11) rfl))) (mvT hZ (hw _ (List.mem_of_getElem? (i := 12) rfl))) (mvT hZ (hw _ (List.mem_of_getElem? (i := 13) rfl))) (by decide) (backOf (W := 2) (rm3 l Z a0 hw [] z233 z236 z158 z189 z196 c243_z2 c243_z11 c243_z15 c243_z16 c243_z23 c243_z24 c243_z28 c243_z31 c243_z32 c243_z33 c243_rv h121 n0 (Nat.le_trans (Nat.le_trans (Nat.le_trans (Nat.le_trans (Nat.le_trans (Nat.le_trans (Nat.le_trans (Nat.le_trans Z0 E95.1) E97.1) (Keep.of_wr W101).1) (Keep.of_wr W105).1) (Keep.of_wr W109).1) (Keep.of_wr W113).1) (Keep.of_wr W117).1) (Keep.of_wr W121).1) hc243_z2 hc243_z11 hc243_z15 hc243_z16 hc243_z23 hc243_z24 hc243_z28 hc243_z31 hc243_z32 hc243_z33 hc243_rv c243_nn33) hZ (hw _ (List.mem_of_getElem? (i := 13) rfl)) (hw _ (List.mem_of_getElem? (i := 12) rfl)) (by decide) (by decide)) (g := (mkF m 243 #[vI p0, vI p1, vI p2, vI p3, vI (3 : Int32), vI z14, vI z25, vI z32, vI z43, vI z50, vI z61, vR b95, vR b97, vJ z158, s_, vD c174_z104_3, s_, vJ z189, s_, vJ z196, s_, vD FP.dconst0, s_, u_, u_, u_, u_, u_, u_] [(.long z196), (.long z189), (.long z158), (.long z236), (.long z233), (.double c228_rv)])) rfl (by rw [hml]; rfl) (argsL := [(.long z233), (.long z236), (.long z158), (.long z189), (.long z196)]) (rest := [(.double c228_rv)]) (lenOf pd_2 rfl) rfl (by show 2 * 0 + _ ≤ _; exact Nat.le_of_eq rfl) (hb hby at_243) (fun _ _ => ⟨rfl, e143, (by decide : 2 + 0 ≤ _), (by decide : 6 + 0 ≤ _)⟩)
          dsimp only [Pt.U, Pt.locs, Pt.cells, Pt.slots] at X144 ql144 qy144 qz144 st144 hQ144
          subst ql144 qy144 qz144
          obtain ⟨rfl, N144q, e144⟩ := hQ144
          have N144 := Fr.app N143 N144q
          have jz249 := Jvm.OwnF.i2l_v hz249
          have jz252 := Jvm.OwnF.i2l_v hz252
          have hq2 : z252.toInt ≠ 0 → z158.toInt * (z189.toInt * z252.toInt) * ((z158.toInt - z189.toInt) * (Hn z14.toInt * Hn z32.toInt)) = Qn c174_z21_3.toInt c174_z30_3.toInt z14.toInt z32.toInt z50.toInt := fun q => by rw [← eN, ← eK, jz252]; exact Qe2 (by omega) (by omega) (by omega)
          obtain ⟨c259_nn33, t2⟩ := Jvm.OwnF.termS (R := Hn z14.toInt * Hn z32.toInt) (by omega) (by omega) (by omega) (by omega) j196 (by omega) (by omega) Rb2.1 hq2 hc259_z2 hc259_z11 hc259_z15 hc259_z16 hc259_z23 hc259_z24 hc259_z28 hc259_z31 hc259_z32 hc259_z33 hc259_rv
          rw [jz249, jz252, ← eN, ← eK] at t2
          obtain ⟨nn262, u2⟩ := Jvm.OwnF.addAcc (by decide) hQb u1 (t2.mono (by decide)) (by omega) hz262
          obtain ⟨_, _, ⟨T145, L145, k145, n145⟩, -, X145, ⟨Lc145, hQ145, ql145, qy145, qz145⟩, st145⟩ := Jvm.LawKit.callS X144 hx (y := (⟨"com/example/tidy_ranker/tidyranker/classification/ChiSquareScorePinLaw", "term", "(JJJJJ)D"⟩ : MethodName)) hown (mvT hZ (hw _ (List.mem_of_getElem? (i := 10) rfl))) (mvT hZ (hw _ (List.mem_of_getElem? (i := 11) rfl))) (mvT hZ (hw _ (List.mem_of_getElem? (i := 12) rfl))) (mvT hZ (hw _ (List.mem_of_getElem? (i := 13) rfl))) (by decide) (backOf (W := 2) (rm3 l Z a0 hw [] z249 z252 z158 z189 z196 c259_z2 c259_z11 c259_z15 c259_z16 c259_z23 c259_z24 c259_z28 c259_z31 c259_z32 c259_z33 c259_rv h121 n0 (Nat.le_trans (Nat.le_trans (Nat.le_trans (Nat.le_trans (Nat.le_trans (Nat.le_trans (Nat.le_trans (Nat.le_trans Z0 E95.1) E97.1) (Keep.of_wr W101).1) (Keep.of_wr W105).1) (Keep.of_wr W109).1) (Keep.of_wr W113).1) (Keep.of_wr W117).1) (Keep.of_wr W121).1) hc259_z2 hc259_z11 hc259_z15 hc259_z16 hc259_z23 hc259_z24 hc259_z28 hc259_z31 hc259_z32 hc259_z33 hc259_rv c259_nn33) hZ (hw _ (List.mem_of_getElem? (i := 13) rfl)) (hw _ (List.mem_of_getElem? (i := 12) rfl)) (by decide) (by decide)) (g := (mkF m 259 #[vI p0, vI p1, vI p2, vI p3, vI (3 : Int32), vI z14, vI z25, vI z32, vI z43, vI z50, vI z61, vR b95, vR b97, vJ z158, s_, vD c174_z104_3, s_, vJ z189, s_, vJ z196, s_, vD FP.dconst0, s_, u_, u_, u_, u_, u_, u_] [(.long z196), (.long z189), (.long z158), (.long z252), (.long z249), (.double z246)])) rfl (by rw [hml]; rfl) (argsL := [(.long z249), (.long z252), (.long z158), (.long z189), (.long z196)]) (rest := [(.double z246)]) (lenOf pd_2 rfl) rfl (by show 2 * 0 + _ ≤ _; exact Nat.le_of_eq rfl) (hb hby at_259) (fun _ _ => ⟨rfl, e144, (by decide : 2 + 0 ≤ _), (by decide : 6 + 0 ≤ _)⟩)
          dsimp only [Pt.U, Pt.locs, Pt.cells, Pt.slots] at X145 ql145 qy145 qz145 st145 hQ145
          subst ql145 qy145 qz145
          obtain ⟨rfl, N145q, e145⟩ := hQ145
          have N145 := Fr.app N144 N145q
          have uS : Jvm.OwnF.Acc 5 (Qn c174_z21_3.toInt c174_z30_3.toInt z14.toInt z32.toInt z50.toInt) (0 + (z25.toInt * c174_z21_3.toInt - c174_z30_3.toInt * z14.toInt) * (z25.toInt * c174_z21_3.toInt - c174_z30_3.toInt * z14.toInt) * (c174_z21_3.toInt * (Hn z32.toInt * Hn z50.toInt)) + (z43.toInt * c174_z21_3.toInt - c174_z30_3.toInt * z32.toInt) * (z43.toInt * c174_z21_3.toInt - c174_z30_3.toInt * z32.toInt) * (c174_z21_3.toInt * (Hn z14.toInt * Hn z50.toInt)) + (z61.toInt * c174_z21_3.toInt - c174_z30_3.toInt * z50.toInt) * (z61.toInt * c174_z21_3.toInt - c174_z30_3.toInt * z50.toInt) * (c174_z21_3.toInt * (Hn z14.toInt * Hn z32.toInt))) z262 := u2.of_eq (by omega)
          obtain ⟨nn270, nn277, nn284, fs, fh, fl, lo1, hi1⟩ := Jvm.OwnF.finR hQb (by omega) (acc2.mono (by decide)) uS hz270 hz277 hz284
          have c146 : ∀ t, Steps p.tables e below (T145.setTop (mkF m 292 #[vI p0, vI p1, vI p2, vI p3, vI (3 : Int32), vI z14, vI z25, vI z32, vI z43, vI z50, vI z61, vR b95, vR b97, vJ z158, s_, vD c174_z104_3, s_, vJ z189, s_, vJ z196, s_, vD z262, s_, vD z270, s_, vD z277, s_, vD z284, s_] [(.int z291)])) t → Steps p.tables e below (s₁.setTop (entryFrame m #[(.int p0), (.int p1), (.int p2), (.int p3)] maxLocals)) t := by
            intro t k
            refine c135 t ?_
            show Steps p.tables e below (T126.setTop (mkF m 213 #[vI p0, vI p1, vI p2, vI p3, vI (3 : Int32), vI z14, vI z25, vI z32, vI z43, vI z50, vI z61, vR b95, vR b97, vJ z158, s_, vD c174_z104_3, s_, vJ z189, s_, vJ z196, s_, vD FP.dconst0, s_, u_, u_, u_, u_, u_, u_] [(.int z212)])) _
            refine XS.ifNo X126.here hx rfl (hb hby at_213) rfl (Jvm.Free.XT.i0_eq_f hb213) ?_
            show Steps p.tables e below (T126.setTop (mkF m 216 #[vI p0, vI p1, vI p2, vI p3, vI (3 : Int32), vI z14, vI z25, vI z32, vI z43, vI z50, vI z61, vR b95, vR b97, vJ z158, s_, vD c174_z104_3, s_, vJ z189, s_, vJ z196, s_, vD FP.dconst0, s_, u_, u_, u_, u_, u_, u_] [])) _
            refine XS.iload X126.here hx rfl (hb hby at_216) rfl ?_
            show Steps p.tables e below (T126.setTop (mkF m 218 #[vI p0, vI p1, vI p2, vI p3, vI (3 : Int32), vI z14, vI z25, vI z32, vI z43, vI z50, vI z61, vR b95, vR b97, vJ z158, s_, vD c174_z104_3, s_, vJ z189, s_, vJ z196, s_, vD FP.dconst0, s_, u_, u_, u_, u_, u_, u_] [(.int z25)])) _
            refine Jvm.OwnK.i2l X126.here hx rfl (hb hby at_218) rfl hz218 ?_
            show Steps p.tables e below (T126.setTop (mkF m 219 #[vI p0, vI p1, vI p2, vI p3, vI (3 : Int32), vI z14, vI z25, vI z32, vI z43, vI z50, vI z61, vR b95, vR b97, vJ z158, s_, vD c174_z104_3, s_, vJ z189, s_, vJ z196, s_, vD FP.dconst0, s_, u_, u_, u_, u_, u_, u_] [(.long z218)])) _
            refine XS.iload X126.here hx rfl (hb hby at_219) rfl ?_
            show Steps p.tables e below (T126.setTop (mkF m 221 #[vI p0, vI p1, vI p2, vI p3, vI (3 : Int32), vI z14, vI z25, vI z32, vI z43, vI z50, vI z61, vR b95, vR b97, vJ z158, s_, vD c174_z104_3, s_, vJ z189, s_, vJ z196, s_, vD FP.dconst0, s_, u_, u_, u_, u_, u_, u_] [(.int z14), (.long z218)])) _
            refine Jvm.OwnK.i2l X126.here hx rfl (hb hby at_221) rfl hz221 ?_
            show Steps p.tables e below (T126.setTop (mkF m 222 #[vI p0, vI p1, vI p2, vI p3, vI (3 : Int32), vI z14, vI z25, vI z32, vI z43, vI z50, vI z61, vR b95, vR b97, vJ z158, s_, vD c174_z104_3, s_, vJ z189, s_, vJ z196, s_, vD FP.dconst0, s_, u_, u_, u_, u_, u_, u_] [(.long z221), (.long z218)])) _
            refine XS.lload X126.here hx rfl (hb hby at_222) rfl ?_
            show Steps p.tables e below (T126.setTop (mkF m 224 #[vI p0, vI p1, vI p2, vI p3, vI (3 : Int32), vI z14, vI z25, vI z32, vI z43, vI z50, vI z61, vR b95, vR b97, vJ z158, s_, vD c174_z104_3, s_, vJ z189, s_, vJ z196, s_, vD FP.dconst0, s_, u_, u_, u_, u_, u_, u_] [(.long z158), (.long z221), (.long z218)])) _
            refine XS.lload X126.here hx rfl (hb hby at_224) rfl ?_
            show Steps p.tables e below (T126.setTop (mkF m 226 #[vI p0, vI p1, vI p2, vI p3, vI (3 : Int32), vI z14, vI z25, vI z32, vI z43, vI z50, vI z61, vR b95, vR b97, vJ z158, s_, vD c174_z104_3, s_, vJ z189, s_, vJ z196, s_, vD FP.dconst0, s_, u_, u_, u_, u_, u_, u_] [(.long z189), (.long z158), (.long z221), (.long z218)])) _
            refine XS.lload X126.here hx rfl (hb hby at_226) rfl ?_
            show Steps p.tables e below (T126.setTop (mkF m 228 #[vI p0, vI p1, vI p2, vI p3, vI (3 : Int32), vI z14, vI z25, vI z32, vI z43, vI z50, vI z61, vR b95, vR b97, vJ z158, s_, vD c174_z104_3, s_, vJ z189, s_, vJ z196, s_, vD FP.dconst0, s_, u_, u_, u_, u_, u_, u_] [(.long z196), (.long z189), (.long z158), (.long z221), (.long z218)])) _
            refine st143 _ ?_
            show Steps p.tables e below (T143.setTop (mkF m 231 #[vI p0, vI p1, vI p2, vI p3, vI (3 : Int32), vI z14, vI z25, vI z32, vI z43, vI z50, vI z61, vR b95, vR b97, vJ z158, s_, vD c174_z104_3, s_, vJ z189, s_, vJ z196, s_, vD FP.dconst0, s_, u_, u_, u_, u_, u_, u_] [(.double c228_rv)])) _
            refine XS.iload X143.here hx rfl (hb hby at_231) rfl ?_
            show Steps p.tables e below (T143.setTop (mkF m 233 #[vI p0, vI p1, vI p2, vI p3, vI (3 : Int32), vI z14, vI z25, vI z32, vI z43, vI z50, vI z61, vR b95, vR b97, vJ z158, s_, vD c174_z104_3, s_, vJ z189, s_, vJ z196, s_, vD FP.dconst0, s_, u_, u_, u_, u_, u_, u_] [(.int z43), (.double c228_rv)])) _
            refine Jvm.OwnK.i2l X143.here hx rfl (hb hby at_233) rfl hz233 ?_
            show Steps p.tables e below (T143.setTop (mkF m 234 #[vI p0, vI p1, vI p2, vI p3, vI (3 : Int32), vI z14, vI z25, vI z32, vI z43, vI z50, vI z61, vR b95, vR b97, vJ z158, s_, vD c174_z104_3, s_, vJ z189, s_, vJ z196, s_, vD FP.dconst0, s_, u_, u_, u_, u_, u_, u_] [(.long z233), (.double c228_rv)])) _
            refine XS.iload X143.here hx rfl (hb hby at_234) rfl ?_
            show Steps p.tables e below (T143.setTop (mkF m 236 #[vI p0, vI p1, vI p2, vI p3, vI (3 : Int32), vI z14, vI z25, vI z32, vI z43, vI z50, vI z61, vR b95, vR b97, vJ z158, s_, vD c174_z104_3, s_, vJ z189, s_, vJ z196, s_, vD FP.dconst0, s_, u_, u_, u_, u_, u_, u_] [(.int z32), (.long z233), (.double c228_rv)])) _
            refine Jvm.OwnK.i2l X143.here hx rfl (hb hby at_236) rfl hz236 ?_
            show Steps p.tables e below (T143.setTop (mkF m 237 #[vI p0, vI p1, vI p2, vI p3, vI (3 : Int32), vI z14, vI z25, vI z32, vI z43, vI z50, vI z61, vR b95, vR b97, vJ z158, s_, vD c174_z104_3, s_, vJ z189, s_, vJ z196, s_, vD FP.dconst0, s_, u_, u_, u_, u_, u_, u_] [(.long z236), (.long z233), (.double c228_rv)])) _
            refine XS.lload X143.here hx rfl (hb hby at_237) rfl ?_
            show Steps p.tables e below (T143.setTop (mkF m 239 #[vI p0, vI p1, vI p2, vI p3, vI (3 : Int32), vI z14, vI z25, vI z32, vI z43, vI z50, vI z61, vR b95, vR b97, vJ z158, s_, vD c174_z104_3, s_, vJ z189, s_, vJ z196, s_, vD FP.dconst0, s_, u_, u_, u_, u_, u_, u_] [(.long z158), (.long z236), (.long z233), (.double c228_rv)])) _
            refine XS.lload X143.here hx rfl (hb hby at_239) rfl ?_
            show Steps p.tables e below (T143.setTop (mkF m 241 #[vI p0, vI p1, vI p2, vI p3, vI (3 : Int32), vI z14, vI z25, vI z32, vI z43, vI z50, vI z61, vR b95, vR b97, vJ z158, s_, vD c174_z104_3, s_, vJ z189, s_, vJ z196, s_, vD FP.dconst0, s_, u_, u_, u_, u_, u_, u_] [(.long z189), (.long z158), (.long z236), (.long z233), (.double c228_rv)])) _
            refine XS.lload X143.here hx rfl (hb hby at_241) rfl ?_
            show Steps p.tables e below (T143.setTop (mkF m 243 #[vI p0, vI p1, vI p2, vI p3, vI (3 : Int32), vI z14, vI z25, vI z32, vI z43, vI z50, vI z61, vR b95, vR b97, vJ z158, s_, vD c174_z104_3, s_, vJ z189, s_, vJ z196, s_, vD FP.dconst0, s_, u_, u_, u_, u_, u_, u_] [(.long z196), (.long z189), (.long z158), (.long z236), (.long z233), (.double c228_rv)])) _
            refine st144 _ ?_
            show Steps p.tables e below (T144.setTop (mkF m 246 #[vI p0, vI p1, vI p2, vI p3, vI (3 : Int32), vI z14, vI z25, vI z32, vI z43, vI z50, vI z61, vR b95, vR b97, vJ z158, s_, vD c174_z104_3, s_, vJ z189, s_, vJ z196, s_, vD FP.dconst0, s_, u_, u_, u_, u_, u_, u_] [(.double c243_rv), (.double c228_rv)])) _
            refine Jvm.OwnK.dadd X144.here hx rfl (hb hby at_246) rfl hz246 nn246 ?_
            show Steps p.tables e below (T144.setTop (mkF m 247 #[vI p0, vI p1, vI p2, vI p3, vI (3 : Int32), vI z14, vI z25, vI z32, vI z43, vI z50, vI z61, vR b95, vR b97, vJ z158, s_, vD c174_z104_3, s_, vJ z189, s_, vJ z196, s_, vD FP.dconst0, s_, u_, u_, u_, u_, u_, u_] [(.double z246)])) _
            refine XS.iload X144.here hx rfl (hb hby at_247) rfl ?_
            show Steps p.tables e below (T144.setTop (mkF m 249 #[vI p0, vI p1, vI p2, vI p3, vI (3 : Int32), vI z14, vI z25, vI z32, vI z43, vI z50, vI z61, vR b95, vR b97, vJ z158, s_, vD c174_z104_3, s_, vJ z189, s_, vJ z196, s_, vD FP.dconst0, s_, u_, u_, u_, u_, u_, u_] [(.int z61), (.double z246)])) _
            refine Jvm.OwnK.i2l X144.here hx rfl (hb hby at_249) rfl hz249 ?_
            show Steps p.tables e below (T144.setTop (mkF m 250 #[vI p0, vI p1, vI p2, vI p3, vI (3 : Int32), vI z14, vI z25, vI z32, vI z43, vI z50, vI z61, vR b95, vR b97, vJ z158, s_, vD c174_z104_3, s_, vJ z189, s_, vJ z196, s_, vD FP.dconst0, s_, u_, u_, u_, u_, u_, u_] [(.long z249), (.double z246)])) _
            refine XS.iload X144.here hx rfl (hb hby at_250) rfl ?_
            show Steps p.tables e below (T144.setTop (mkF m 252 #[vI p0, vI p1, vI p2, vI p3, vI (3 : Int32), vI z14, vI z25, vI z32, vI z43, vI z50, vI z61, vR b95, vR b97, vJ z158, s_, vD c174_z104_3, s_, vJ z189, s_, vJ z196, s_, vD FP.dconst0, s_, u_, u_, u_, u_, u_, u_] [(.int z50), (.long z249), (.double z246)])) _
            refine Jvm.OwnK.i2l X144.here hx rfl (hb hby at_252) rfl hz252 ?_
            show Steps p.tables e below (T144.setTop (mkF m 253 #[vI p0, vI p1, vI p2, vI p3, vI (3 : Int32), vI z14, vI z25, vI z32, vI z43, vI z50, vI z61, vR b95, vR b97, vJ z158, s_, vD c174_z104_3, s_, vJ z189, s_, vJ z196, s_, vD FP.dconst0, s_, u_, u_, u_, u_, u_, u_] [(.long z252), (.long z249), (.double z246)])) _
            refine XS.lload X144.here hx rfl (hb hby at_253) rfl ?_
            show Steps p.tables e below (T144.setTop (mkF m 255 #[vI p0, vI p1, vI p2, vI p3, vI (3 : Int32), vI z14, vI z25, vI z32, vI z43, vI z50, vI z61, vR b95, vR b97, vJ z158, s_, vD c174_z104_3, s_, vJ z189, s_, vJ z196, s_, vD FP.dconst0, s_, u_, u_, u_, u_, u_, u_] [(.long z158), (.long z252), (.long z249), (.double z246)])) _
            refine XS.lload X144.here hx rfl (hb hby at_255) rfl ?_
            show Steps p.tables e below (T144.setTop (mkF m 257 #[vI p0, vI p1, vI p2, vI p3, vI (3 : Int32), vI z14, vI z25, vI z32, vI z43, vI z50, vI z61, vR b95, vR b97, vJ z158, s_, vD c174_z104_3, s_, vJ z189, s_, vJ z196, s_, vD FP.dconst0, s_, u_, u_, u_, u_, u_, u_] [(.long z189), (.long z158), (.long z252), (.long z249), (.double z246)])) _
            refine XS.lload X144.here hx rfl (hb hby at_257) rfl ?_
            show Steps p.tables e below (T144.setTop (mkF m 259 #[vI p0, vI p1, vI p2, vI p3, vI (3 : Int32), vI z14, vI z25, vI z32, vI z43, vI z50, vI z61, vR b95, vR b97, vJ z158, s_, vD c174_z104_3, s_, vJ z189, s_, vJ z196, s_, vD FP.dconst0, s_, u_, u_, u_, u_, u_, u_] [(.long z196), (.long z189), (.long z158), (.long z252), (.long z249), (.double z246)])) _
            refine st145 _ ?_
            show Steps p.tables e below (T145.setTop (mkF m 262 #[vI p0, vI p1, vI p2, vI p3, vI (3 : Int32), vI z14, vI z25, vI z32, vI z43, vI z50, vI z61, vR b95, vR b97, vJ z158, s_, vD c174_z104_3, s_, vJ z189, s_, vJ z196, s_, vD FP.dconst0, s_, u_, u_, u_, u_, u_, u_] [(.double c259_rv), (.double z246)])) _
            refine Jvm.OwnK.dadd X145.here hx rfl (hb hby at_262) rfl hz262 nn262 ?_
            show Steps p.tables e below (T145.setTop (mkF m 263 #[vI p0, vI p1, vI p2, vI p3, vI (3 : Int32), vI z14, vI z25, vI z32, vI z43, vI z50, vI z61, vR b95, vR b97, vJ z158, s_, vD c174_z104_3, s_, vJ z189, s_, vJ z196, s_, vD FP.dconst0, s_, u_, u_, u_, u_, u_, u_] [(.double z262)])) _
            refine XS.dstore X145.here hx rfl (hb hby at_263) rfl (l' := #[vI p0, vI p1, vI p2, vI p3, vI (3 : Int32), vI z14, vI z25, vI z32, vI z43, vI z50, vI z61, vR b95, vR b97, vJ z158, s_, vD c174_z104_3, s_, vJ z189, s_, vJ z196, s_, vD z262, s_, u_, u_, u_, u_, u_, u_]) rfl ?_
            show Steps p.tables e below (T145.setTop (mkF m 265 #[vI p0, vI p1, vI p2, vI p3, vI (3 : Int32), vI z14, vI z25, vI z32, vI z43, vI z50, vI z61, vR b95, vR b97, vJ z158, s_, vD c174_z104_3, s_, vJ z189, s_, vJ z196, s_, vD z262, s_, u_, u_, u_, u_, u_, u_] [])) _
            refine XS.dload X145.here hx rfl (hb hby at_265) rfl ?_
            show Steps p.tables e below (T145.setTop (mkF m 267 #[vI p0, vI p1, vI p2, vI p3, vI (3 : Int32), vI z14, vI z25, vI z32, vI z43, vI z50, vI z61, vR b95, vR b97, vJ z158, s_, vD c174_z104_3, s_, vJ z189, s_, vJ z196, s_, vD z262, s_, u_, u_, u_, u_, u_, u_] [(.double z262)])) _
            refine X145.ldc2DoubleC hx hown (mvT hZ (hw _ (List.mem_of_getElem? (i := 9) rfl))) (g := (mkF m 267 #[vI p0, vI p1, vI p2, vI p3, vI (3 : Int32), vI z14, vI z25, vI z32, vI z43, vI z50, vI z61, vR b95, vR b97, vJ z158, s_, vD c174_z104_3, s_, vJ z189, s_, vJ z196, s_, vD z262, s_, u_, u_, u_, u_, u_, u_] [(.double z262)])) rfl (hb hby at_267) _ ?_
            show Steps p.tables e below (T145.setTop (mkF m 270 #[vI p0, vI p1, vI p2, vI p3, vI (3 : Int32), vI z14, vI z25, vI z32, vI z43, vI z50, vI z61, vR b95, vR b97, vJ z158, s_, vD c174_z104_3, s_, vJ z189, s_, vJ z196, s_, vD z262, s_, u_, u_, u_, u_, u_, u_] [(.double (4517329193108106637 : UInt64)), (.double z262)])) _
            refine Jvm.OwnK.dmul X145.here hx rfl (hb hby at_270) rfl hz270 nn270 ?_
            show Steps p.tables e below (T145.setTop (mkF m 271 #[vI p0, vI p1, vI p2, vI p3, vI (3 : Int32), vI z14, vI z25, vI z32, vI z43, vI z50, vI z61, vR b95, vR b97, vJ z158, s_, vD c174_z104_3, s_, vJ z189, s_, vJ z196, s_, vD z262, s_, u_, u_, u_, u_, u_, u_] [(.double z270)])) _
            refine XS.dstore X145.here hx rfl (hb hby at_271) rfl (l' := #[vI p0, vI p1, vI p2, vI p3, vI (3 : Int32), vI z14, vI z25, vI z32, vI z43, vI z50, vI z61, vR b95, vR b97, vJ z158, s_, vD c174_z104_3, s_, vJ z189, s_, vJ z196, s_, vD z262, s_, vD z270, s_, u_, u_, u_, u_]) rfl ?_
            show Steps p.tables e below (T145.setTop (mkF m 273 #[vI p0, vI p1, vI p2, vI p3, vI (3 : Int32), vI z14, vI z25, vI z32, vI z43, vI z50, vI z61, vR b95, vR b97, vJ z158, s_, vD c174_z104_3, s_, vJ z189, s_, vJ z196, s_, vD z262, s_, vD z270, s_, u_, u_, u_, u_] [])) _
            refine XS.dload X145.here hx rfl (hb hby at_273) rfl ?_
            show Steps p.tables e below (T145.setTop (mkF m 275 #[vI p0, vI p1, vI p2, vI p3, vI (3 : Int32), vI z14, vI z25, vI z32, vI z43, vI z50, vI z61, vR b95, vR b97, vJ z158, s_, vD c174_z104_3, s_, vJ z189, s_, vJ z196, s_, vD z262, s_, vD z270, s_, u_, u_, u_, u_] [(.double z262)])) _
            refine XS.dload X145.here hx rfl (hb hby at_275) rfl ?_
            show Steps p.tables e below (T145.setTop (mkF m 277 #[vI p0, vI p1, vI p2, vI p3, vI (3 : Int32), vI z14, vI z25, vI z32, vI z43, vI z50, vI z61, vR b95, vR b97, vJ z158, s_, vD c174_z104_3, s_, vJ z189, s_, vJ z196, s_, vD z262, s_, vD z270, s_, u_, u_, u_, u_] [(.double z270), (.double z262)])) _
            refine Jvm.OwnK.dadd X145.here hx rfl (hb hby at_277) rfl hz277 nn277 ?_
            show Steps p.tables e below (T145.setTop (mkF m 278 #[vI p0, vI p1, vI p2, vI p3, vI (3 : Int32), vI z14, vI z25, vI z32, vI z43, vI z50, vI z61, vR b95, vR b97, vJ z158, s_, vD c174_z104_3, s_, vJ z189, s_, vJ z196, s_, vD z262, s_, vD z270, s_, u_, u_, u_, u_] [(.double z277)])) _
            refine XS.dstore X145.here hx rfl (hb hby at_278) rfl (l' := #[vI p0, vI p1, vI p2, vI p3, vI (3 : Int32), vI z14, vI z25, vI z32, vI z43, vI z50, vI z61, vR b95, vR b97, vJ z158, s_, vD c174_z104_3, s_, vJ z189, s_, vJ z196, s_, vD z262, s_, vD z270, s_, vD z277, s_, u_, u_]) rfl ?_
            show Steps p.tables e below (T145.setTop (mkF m 280 #[vI p0, vI p1, vI p2, vI p3, vI (3 : Int32), vI z14, vI z25, vI z32, vI z43, vI z50, vI z61, vR b95, vR b97, vJ z158, s_, vD c174_z104_3, s_, vJ z189, s_, vJ z196, s_, vD z262, s_, vD z270, s_, vD z277, s_, u_, u_] [])) _
            refine XS.dload X145.here hx rfl (hb hby at_280) rfl ?_
            show Steps p.tables e below (T145.setTop (mkF m 282 #[vI p0, vI p1, vI p2, vI p3, vI (3 : Int32), vI z14, vI z25, vI z32, vI z43, vI z50, vI z61, vR b95, vR b97, vJ z158, s_, vD c174_z104_3, s_, vJ z189, s_, vJ z196, s_, vD z262, s_, vD z270, s_, vD z277, s_, u_, u_] [(.double z262)])) _
            refine XS.dload X145.here hx rfl (hb hby at_282) rfl ?_
            show Steps p.tables e below (T145.setTop (mkF m 284 #[vI p0, vI p1, vI p2, vI p3, vI (3 : Int32), vI z14, vI z25, vI z32, vI z43, vI z50, vI z61, vR b95, vR b97, vJ z158, s_, vD c174_z104_3, s_, vJ z189, s_, vJ z196, s_, vD z262, s_, vD z270, s_, vD z277, s_, u_, u_] [(.double z270), (.double z262)])) _
            refine Jvm.OwnK.dsub X145.here hx rfl (hb hby at_284) rfl hz284 nn284 ?_
            show Steps p.tables e below (T145.setTop (mkF m 285 #[vI p0, vI p1, vI p2, vI p3, vI (3 : Int32), vI z14, vI z25, vI z32, vI z43, vI z50, vI z61, vR b95, vR b97, vJ z158, s_, vD c174_z104_3, s_, vJ z189, s_, vJ z196, s_, vD z262, s_, vD z270, s_, vD z277, s_, u_, u_] [(.double z284)])) _
            refine XS.dstore X145.here hx rfl (hb hby at_285) rfl (l' := #[vI p0, vI p1, vI p2, vI p3, vI (3 : Int32), vI z14, vI z25, vI z32, vI z43, vI z50, vI z61, vR b95, vR b97, vJ z158, s_, vD c174_z104_3, s_, vJ z189, s_, vJ z196, s_, vD z262, s_, vD z270, s_, vD z277, s_, vD z284, s_]) rfl ?_
            show Steps p.tables e below (T145.setTop (mkF m 287 #[vI p0, vI p1, vI p2, vI p3, vI (3 : Int32), vI z14, vI z25, vI z32, vI z43, vI z50, vI z61, vR b95, vR b97, vJ z158, s_, vD c174_z104_3, s_, vJ z189, s_, vJ z196, s_, vD z262, s_, vD z270, s_, vD z277, s_, vD z284, s_] [])) _
            refine XS.dload X145.here hx rfl (hb hby at_287) rfl ?_
            show Steps p.tables e below (T145.setTop (mkF m 289 #[vI p0, vI p1, vI p2, vI p3, vI (3 : Int32), vI z14, vI z25, vI z32, vI z43, vI z50, vI z61, vR b95, vR b97, vJ z158, s_, vD c174_z104_3, s_, vJ z189, s_, vJ z196, s_, vD z262, s_, vD z270, s_, vD z277, s_, vD z284, s_] [(.double z284)])) _
            refine XS.dload X145.here hx rfl (hb hby at_289) rfl ?_
            show Steps p.tables e below (T145.setTop (mkF m 291 #[vI p0, vI p1, vI p2, vI p3, vI (3 : Int32), vI z14, vI z25, vI z32, vI z43, vI z50, vI z61, vR b95, vR b97, vJ z158, s_, vD c174_z104_3, s_, vJ z189, s_, vJ z196, s_, vD z262, s_, vD z270, s_, vD z277, s_, vD z284, s_] [(.double c174_z104_3), (.double z284)])) _
            refine XS.dcmpS X145.here hx rfl (hb hby at_291) rfl hz291 ?_
            exact k
          by_cases hb292 : z291 < (0 : Int32)
          · skip
            obtain ⟨z307, hz307⟩ : ∃ z : Int32, cmpValue (FP.dcmp c174_z104_3 z277) .g = z := ⟨_, rfl⟩
            have c147 : ∀ t, Steps p.tables e below (T145.setTop (mkF m 308 #[vI p0, vI p1, vI p2, vI p3, vI (3 : Int32), vI z14, vI z25, vI z32, vI z43, vI z50, vI z61, vR b95, vR b97, vJ z158, s_, vD c174_z104_3, s_, vJ z189, s_, vJ z196, s_, vD z262, s_, vD z270, s_, vD z277, s_, vD z284, s_] [(.int z307)])) t → Steps p.tables e below (s₁.setTop (entryFrame m #[(.int p0), (.int p1), (.int p2), (.int p3)] maxLocals)) t := by
              intro t k
              refine c146 t ?_
              show Steps p.tables e below (T145.setTop (mkF m 292 #[vI p0, vI p1, vI p2, vI p3, vI (3 : Int32), vI z14, vI z25, vI z32, vI z43, vI z50, vI z61, vR b95, vR b97, vJ z158, s_, vD c174_z104_3, s_, vJ z189, s_, vJ z196, s_, vD z262, s_, vD z270, s_, vD z277, s_, vD z284, s_] [(.int z291)])) _
              refine XS.ifYes X145.here hx rfl (pc0 := 292) (pc' := 303) rfl (hb hby at_292) rfl (Jvm.Free.XT.i0_lt_t hb292) (by decide) (by decide) ?_
              show Steps p.tables e below (T145.setTop (mkF m 303 #[vI p0, vI p1, vI p2, vI p3, vI (3 : Int32), vI z14, vI z25, vI z32, vI z43, vI z50, vI z61, vR b95, vR b97, vJ z158, s_, vD c174_z104_3, s_, vJ z189, s_, vJ z196, s_, vD z262, s_, vD z270, s_, vD z277, s_, vD z284, s_] [])) _
              refine XS.dload X145.here hx rfl (hb hby at_303) rfl ?_
              show Steps p.tables e below (T145.setTop (mkF m 305 #[vI p0, vI p1, vI p2, vI p3, vI (3 : Int32), vI z14, vI z25, vI z32, vI z43, vI z50, vI z61, vR b95, vR b97, vJ z158, s_, vD c174_z104_3, s_, vJ z189, s_, vJ z196, s_, vD z262, s_, vD z270, s_, vD z277, s_, vD z284, s_] [(.double c174_z104_3)])) _
              refine XS.dload X145.here hx rfl (hb hby at_305) rfl ?_
              show Steps p.tables e below (T145.setTop (mkF m 307 #[vI p0, vI p1, vI p2, vI p3, vI (3 : Int32), vI z14, vI z25, vI z32, vI z43, vI z50, vI z61, vR b95, vR b97, vJ z158, s_, vD c174_z104_3, s_, vJ z189, s_, vJ z196, s_, vD z262, s_, vD z270, s_, vD z277, s_, vD z284, s_] [(.double z277), (.double c174_z104_3)])) _
              refine XS.dcmpS X145.here hx rfl (hb hby at_307) rfl hz307 ?_
              exact k
            by_cases hb308 : z307 < (0 : Int32)
            · skip
              have c148 : ∀ t, Steps p.tables e below (T145.setTop (mkF m 324 #[vI p0, vI p1, vI p2, vI p3, vI (3 : Int32), vI z14, vI z25, vI z32, vI z43, vI z50, vI z61, vR b95, vR b97, vJ z158, s_, vD c174_z104_3, s_, vJ z189, s_, vJ z196, s_, vD z262, s_, vD z270, s_, vD z277, s_, vD z284, s_] [(.int (1 : Int32))])) t → Steps p.tables e below (s₁.setTop (entryFrame m #[(.int p0), (.int p1), (.int p2), (.int p3)] maxLocals)) t := by
                intro t k
                refine c147 t ?_
                show Steps p.tables e below (T145.setTop (mkF m 308 #[vI p0, vI p1, vI p2, vI p3, vI (3 : Int32), vI z14, vI z25, vI z32, vI z43, vI z50, vI z61, vR b95, vR b97, vJ z158, s_, vD c174_z104_3, s_, vJ z189, s_, vJ z196, s_, vD z262, s_, vD z270, s_, vD z277, s_, vD z284, s_] [(.int z307)])) _
                refine XS.ifYes X145.here hx rfl (pc0 := 308) (pc' := 319) rfl (hb hby at_308) rfl (Jvm.Free.XT.i0_lt_t hb308) (by decide) (by decide) ?_
                show Steps p.tables e below (T145.setTop (mkF m 319 #[vI p0, vI p1, vI p2, vI p3, vI (3 : Int32), vI z14, vI z25, vI z32, vI z43, vI z50, vI z61, vR b95, vR b97, vJ z158, s_, vD c174_z104_3, s_, vJ z189, s_, vJ z196, s_, vD z262, s_, vD z270, s_, vD z277, s_, vD z284, s_] [])) _
                refine XS.iconst X145.here hx rfl (hb hby at_319) ?_
                show Steps p.tables e below (T145.setTop (mkF m 320 #[vI p0, vI p1, vI p2, vI p3, vI (3 : Int32), vI z14, vI z25, vI z32, vI z43, vI z50, vI z61, vR b95, vR b97, vJ z158, s_, vD c174_z104_3, s_, vJ z189, s_, vJ z196, s_, vD z262, s_, vD z270, s_, vD z277, s_, vD z284, s_] [(.int (1 : Int32))])) _
                refine XS.goto X145.here hx rfl (pc0 := 320) (pc' := 324) rfl (hb hby at_320) (by decide) (by decide) ?_
                exact k
              obtain ⟨fs, hr, hrun, hended, hW, hsame⟩ := X145.leave (v := some (.int (1 : Int32))) (fun h => by rw [Bd.returns] at h; cases h)
              refine ⟨_, _, c148 _ ?_, hrun, hended, _, _, rfl, ?_, ⟨_, rfl⟩, hW, hsame.mono (by decide) (by decide)⟩
              · show Steps p.tables e below (T145.setTop (mkF m 324 #[vI p0, vI p1, vI p2, vI p3, vI (3 : Int32), vI z14, vI z25, vI z32, vI z43, vI z50, vI z61, vR b95, vR b97, vJ z158, s_, vD c174_z104_3, s_, vJ z189, s_, vJ z196, s_, vD z262, s_, vD z270, s_, vD z277, s_, vD z284, s_] [(.int (1 : Int32))])) _
                exact retOut X145 hx Bd.returns rfl (Or.inl ⟨rfl, by simp, _, rfl⟩) (hb hby at_324) hr
              · show Q0 n0 _ T145.heap _
                rw [e145]
                exact ⟨rfl, by first | assumption | exact N0⟩
            · skip
              obtain ⟨z315, hz315⟩ : ∃ z : Int32, cmpValue (FP.dcmp c174_z104_3 z277) .l = z := ⟨_, rfl⟩
              have br316 := cmpF fs fh hi1 hz307 hz315 hb308
              have c149 : ∀ t, Steps p.tables e below (T145.setTop (mkF m 324 #[vI p0, vI p1, vI p2, vI p3, vI (3 : Int32), vI z14, vI z25, vI z32, vI z43, vI z50, vI z61, vR b95, vR b97, vJ z158, s_, vD c174_z104_3, s_, vJ z189, s_, vJ z196, s_, vD z262, s_, vD z270, s_, vD z277, s_, vD z284, s_] [(.int (1 : Int32))])) t → Steps p.tables e below (s₁.setTop (entryFrame m #[(.int p0), (.int p1), (.int p2), (.int p3)] maxLocals)) t := by
                intro t k
                refine c147 t ?_
                show Steps p.tables e below (T145.setTop (mkF m 308 #[vI p0, vI p1, vI p2, vI p3, vI (3 : Int32), vI z14, vI z25, vI z32, vI z43, vI z50, vI z61, vR b95, vR b97, vJ z158, s_, vD c174_z104_3, s_, vJ z189, s_, vJ z196, s_, vD z262, s_, vD z270, s_, vD z277, s_, vD z284, s_] [(.int z307)])) _
                refine XS.ifNo X145.here hx rfl (hb hby at_308) rfl (Jvm.Free.XT.i0_lt_f hb308) ?_
                show Steps p.tables e below (T145.setTop (mkF m 311 #[vI p0, vI p1, vI p2, vI p3, vI (3 : Int32), vI z14, vI z25, vI z32, vI z43, vI z50, vI z61, vR b95, vR b97, vJ z158, s_, vD c174_z104_3, s_, vJ z189, s_, vJ z196, s_, vD z262, s_, vD z270, s_, vD z277, s_, vD z284, s_] [])) _
                refine XS.dload X145.here hx rfl (hb hby at_311) rfl ?_
                show Steps p.tables e below (T145.setTop (mkF m 313 #[vI p0, vI p1, vI p2, vI p3, vI (3 : Int32), vI z14, vI z25, vI z32, vI z43, vI z50, vI z61, vR b95, vR b97, vJ z158, s_, vD c174_z104_3, s_, vJ z189, s_, vJ z196, s_, vD z262, s_, vD z270, s_, vD z277, s_, vD z284, s_] [(.double c174_z104_3)])) _
                refine XS.dload X145.here hx rfl (hb hby at_313) rfl ?_
                show Steps p.tables e below (T145.setTop (mkF m 315 #[vI p0, vI p1, vI p2, vI p3, vI (3 : Int32), vI z14, vI z25, vI z32, vI z43, vI z50, vI z61, vR b95, vR b97, vJ z158, s_, vD c174_z104_3, s_, vJ z189, s_, vJ z196, s_, vD z262, s_, vD z270, s_, vD z277, s_, vD z284, s_] [(.double z277), (.double c174_z104_3)])) _
                refine XS.dcmpS X145.here hx rfl (hb hby at_315) rfl hz315 ?_
                show Steps p.tables e below (T145.setTop (mkF m 316 #[vI p0, vI p1, vI p2, vI p3, vI (3 : Int32), vI z14, vI z25, vI z32, vI z43, vI z50, vI z61, vR b95, vR b97, vJ z158, s_, vD c174_z104_3, s_, vJ z189, s_, vJ z196, s_, vD z262, s_, vD z270, s_, vD z277, s_, vD z284, s_] [(.int z315)])) _
                refine XS.ifNo X145.here hx rfl (hb hby at_316) rfl (Jvm.Free.XT.i0_ne_f br316) ?_
                show Steps p.tables e below (T145.setTop (mkF m 319 #[vI p0, vI p1, vI p2, vI p3, vI (3 : Int32), vI z14, vI z25, vI z32, vI z43, vI z50, vI z61, vR b95, vR b97, vJ z158, s_, vD c174_z104_3, s_, vJ z189, s_, vJ z196, s_, vD z262, s_, vD z270, s_, vD z277, s_, vD z284, s_] [])) _
                refine XS.iconst X145.here hx rfl (hb hby at_319) ?_
                show Steps p.tables e below (T145.setTop (mkF m 320 #[vI p0, vI p1, vI p2, vI p3, vI (3 : Int32), vI z14, vI z25, vI z32, vI z43, vI z50, vI z61, vR b95, vR b97, vJ z158, s_, vD c174_z104_3, s_, vJ z189, s_, vJ z196, s_, vD z262, s_, vD z270, s_, vD z277, s_, vD z284, s_] [(.int (1 : Int32))])) _
                refine XS.goto X145.here hx rfl (pc0 := 320) (pc' := 324) rfl (hb hby at_320) (by decide) (by decide) ?_
                exact k
              obtain ⟨fs, hr, hrun, hended, hW, hsame⟩ := X145.leave (v := some (.int (1 : Int32))) (fun h => by rw [Bd.returns] at h; cases h)
              refine ⟨_, _, c149 _ ?_, hrun, hended, _, _, rfl, ?_, ⟨_, rfl⟩, hW, hsame.mono (by decide) (by decide)⟩
              · show Steps p.tables e below (T145.setTop (mkF m 324 #[vI p0, vI p1, vI p2, vI p3, vI (3 : Int32), vI z14, vI z25, vI z32, vI z43, vI z50, vI z61, vR b95, vR b97, vJ z158, s_, vD c174_z104_3, s_, vJ z189, s_, vJ z196, s_, vD z262, s_, vD z270, s_, vD z277, s_, vD z284, s_] [(.int (1 : Int32))])) _
                exact retOut X145 hx Bd.returns rfl (Or.inl ⟨rfl, by simp, _, rfl⟩) (hb hby at_324) hr
              · show Q0 n0 _ T145.heap _
                rw [e145]
                exact ⟨rfl, by first | assumption | exact N0⟩
          · skip
            obtain ⟨z299, hz299⟩ : ∃ z : Int32, cmpValue (FP.dcmp z284 c174_z104_3) .l = z := ⟨_, rfl⟩
            obtain ⟨z307, hz307⟩ : ∃ z : Int32, cmpValue (FP.dcmp c174_z104_3 z277) .g = z := ⟨_, rfl⟩
            have br300 := cmpF fl fs lo1 hz291 hz299 hb292
            have c150 : ∀ t, Steps p.tables e below (T145.setTop (mkF m 308 #[vI p0, vI p1, vI p2, vI p3, vI (3 : Int32), vI z14, vI z25, vI z32, vI z43, vI z50, vI z61, vR b95, vR b97, vJ z158, s_, vD c174_z104_3, s_, vJ z189, s_, vJ z196, s_, vD z262, s_, vD z270, s_, vD z277, s_, vD z284, s_] [(.int z307)])) t → Steps p.tables e below (s₁.setTop (entryFrame m #[(.int p0), (.int p1), (.int p2), (.int p3)] maxLocals)) t := by
              intro t k
              refine c146 t ?_
              show Steps p.tables e below (T145.setTop (mkF m 292 #[vI p0, vI p1, vI p2, vI p3, vI (3 : Int32), vI z14, vI z25, vI z32, vI z43, vI z50, vI z61, vR b95, vR b97, vJ z158, s_, vD c174_z104_3, s_, vJ z189, s_, vJ z196, s_, vD z262, s_, vD z270, s_, vD z277, s_, vD z284, s_] [(.int z291)])) _
              refine XS.ifNo X145.here hx rfl (hb hby at_292) rfl (Jvm.Free.XT.i0_lt_f hb292) ?_
              show Steps p.tables e below (T145.setTop (mkF m 295 #[vI p0, vI p1, vI p2, vI p3, vI (3 : Int32), vI z14, vI z25, vI z32, vI z43, vI z50, vI z61, vR b95, vR b97, vJ z158, s_, vD c174_z104_3, s_, vJ z189, s_, vJ z196, s_, vD z262, s_, vD z270, s_, vD z277, s_, vD z284, s_] [])) _
              refine XS.dload X145.here hx rfl (hb hby at_295) rfl ?_
              show Steps p.tables e below (T145.setTop (mkF m 297 #[vI p0, vI p1, vI p2, vI p3, vI (3 : Int32), vI z14, vI z25, vI z32, vI z43, vI z50, vI z61, vR b95, vR b97, vJ z158, s_, vD c174_z104_3, s_, vJ z189, s_, vJ z196, s_, vD z262, s_, vD z270, s_, vD z277, s_, vD z284, s_] [(.double z284)])) _
              refine XS.dload X145.here hx rfl (hb hby at_297) rfl ?_
              show Steps p.tables e below (T145.setTop (mkF m 299 #[vI p0, vI p1, vI p2, vI p3, vI (3 : Int32), vI z14, vI z25, vI z32, vI z43, vI z50, vI z61, vR b95, vR b97, vJ z158, s_, vD c174_z104_3, s_, vJ z189, s_, vJ z196, s_, vD z262, s_, vD z270, s_, vD z277, s_, vD z284, s_] [(.double c174_z104_3), (.double z284)])) _
              refine XS.dcmpS X145.here hx rfl (hb hby at_299) rfl hz299 ?_
              show Steps p.tables e below (T145.setTop (mkF m 300 #[vI p0, vI p1, vI p2, vI p3, vI (3 : Int32), vI z14, vI z25, vI z32, vI z43, vI z50, vI z61, vR b95, vR b97, vJ z158, s_, vD c174_z104_3, s_, vJ z189, s_, vJ z196, s_, vD z262, s_, vD z270, s_, vD z277, s_, vD z284, s_] [(.int z299)])) _
              refine XS.ifNo X145.here hx rfl (hb hby at_300) rfl (Jvm.Free.XT.i0_ne_f br300) ?_
              show Steps p.tables e below (T145.setTop (mkF m 303 #[vI p0, vI p1, vI p2, vI p3, vI (3 : Int32), vI z14, vI z25, vI z32, vI z43, vI z50, vI z61, vR b95, vR b97, vJ z158, s_, vD c174_z104_3, s_, vJ z189, s_, vJ z196, s_, vD z262, s_, vD z270, s_, vD z277, s_, vD z284, s_] [])) _
              refine XS.dload X145.here hx rfl (hb hby at_303) rfl ?_
              show Steps p.tables e below (T145.setTop (mkF m 305 #[vI p0, vI p1, vI p2, vI p3, vI (3 : Int32), vI z14, vI z25, vI z32, vI z43, vI z50, vI z61, vR b95, vR b97, vJ z158, s_, vD c174_z104_3, s_, vJ z189, s_, vJ z196, s_, vD z262, s_, vD z270, s_, vD z277, s_, vD z284, s_] [(.double c174_z104_3)])) _
              refine XS.dload X145.here hx rfl (hb hby at_305) rfl ?_
              show Steps p.tables e below (T145.setTop (mkF m 307 #[vI p0, vI p1, vI p2, vI p3, vI (3 : Int32), vI z14, vI z25, vI z32, vI z43, vI z50, vI z61, vR b95, vR b97, vJ z158, s_, vD c174_z104_3, s_, vJ z189, s_, vJ z196, s_, vD z262, s_, vD z270, s_, vD z277, s_, vD z284, s_] [(.double z277), (.double c174_z104_3)])) _
              refine XS.dcmpS X145.here hx rfl (hb hby at_307) rfl hz307 ?_
              exact k
            by_cases hb308 : z307 < (0 : Int32)
            · skip
              have c151 : ∀ t, Steps p.tables e below (T145.setTop (mkF m 324 #[vI p0, vI p1, vI p2, vI p3, vI (3 : Int32), vI z14, vI z25, vI z32, vI z43, vI z50, vI z61, vR b95, vR b97, vJ z158, s_, vD c174_z104_3, s_, vJ z189, s_, vJ z196, s_, vD z262, s_, vD z270, s_, vD z277, s_, vD z284, s_] [(.int (1 : Int32))])) t → Steps p.tables e below (s₁.setTop (entryFrame m #[(.int p0), (.int p1), (.int p2), (.int p3)] maxLocals)) t := by
                intro t k
                refine c150 t ?_
                show Steps p.tables e below (T145.setTop (mkF m 308 #[vI p0, vI p1, vI p2, vI p3, vI (3 : Int32), vI z14, vI z25, vI z32, vI z43, vI z50, vI z61, vR b95, vR b97, vJ z158, s_, vD c174_z104_3, s_, vJ z189, s_, vJ z196, s_, vD z262, s_, vD z270, s_, vD z277, s_, vD z284, s_] [(.int z307)])) _
                refine XS.ifYes X145.here hx rfl (pc0 := 308) (pc' := 319) rfl (hb hby at_308) rfl (Jvm.Free.XT.i0_lt_t hb308) (by decide) (by decide) ?_
                show Steps p.tables e below (T145.setTop (mkF m 319 #[vI p0, vI p1, vI p2, vI p3, vI (3 : Int32), vI z14, vI z25, vI z32, vI z43, vI z50, vI z61, vR b95, vR b97, vJ z158, s_, vD c174_z104_3, s_, vJ z189, s_, vJ z196, s_, vD z262, s_, vD z270, s_, vD z277, s_, vD z284, s_] [])) _
                refine XS.iconst X145.here hx rfl (hb hby at_319) ?_
                show Steps p.tables e below (T145.setTop (mkF m 320 #[vI p0, vI p1, vI p2, vI p3, vI (3 : Int32), vI z14, vI z25, vI z32, vI z43, vI z50, vI z61, vR b95, vR b97, vJ z158, s_, vD c174_z104_3, s_, vJ z189, s_, vJ z196, s_, vD z262, s_, vD z270, s_, vD z277, s_, vD z284, s_] [(.int (1 : Int32))])) _
                refine XS.goto X145.here hx rfl (pc0 := 320) (pc' := 324) rfl (hb hby at_320) (by decide) (by decide) ?_
                exact k
              obtain ⟨fs, hr, hrun, hended, hW, hsame⟩ := X145.leave (v := some (.int (1 : Int32))) (fun h => by rw [Bd.returns] at h; cases h)
              refine ⟨_, _, c151 _ ?_, hrun, hended, _, _, rfl, ?_, ⟨_, rfl⟩, hW, hsame.mono (by decide) (by decide)⟩
              · show Steps p.tables e below (T145.setTop (mkF m 324 #[vI p0, vI p1, vI p2, vI p3, vI (3 : Int32), vI z14, vI z25, vI z32, vI z43, vI z50, vI z61, vR b95, vR b97, vJ z158, s_, vD c174_z104_3, s_, vJ z189, s_, vJ z196, s_, vD z262, s_, vD z270, s_, vD z277, s_, vD z284, s_] [(.int (1 : Int32))])) _
                exact retOut X145 hx Bd.returns rfl (Or.inl ⟨rfl, by simp, _, rfl⟩) (hb hby at_324) hr
              · show Q0 n0 _ T145.heap _
                rw [e145]
                exact ⟨rfl, by first | assumption | exact N0⟩
            · skip
              obtain ⟨z315, hz315⟩ : ∃ z : Int32, cmpValue (FP.dcmp c174_z104_3 z277) .l = z := ⟨_, rfl⟩
              have br316 := cmpF fs fh hi1 hz307 hz315 hb308
              have c152 : ∀ t, Steps p.tables e below (T145.setTop (mkF m 324 #[vI p0, vI p1, vI p2, vI p3, vI (3 : Int32), vI z14, vI z25, vI z32, vI z43, vI z50, vI z61, vR b95, vR b97, vJ z158, s_, vD c174_z104_3, s_, vJ z189, s_, vJ z196, s_, vD z262, s_, vD z270, s_, vD z277, s_, vD z284, s_] [(.int (1 : Int32))])) t → Steps p.tables e below (s₁.setTop (entryFrame m #[(.int p0), (.int p1), (.int p2), (.int p3)] maxLocals)) t := by
                intro t k
                refine c150 t ?_
                show Steps p.tables e below (T145.setTop (mkF m 308 #[vI p0, vI p1, vI p2, vI p3, vI (3 : Int32), vI z14, vI z25, vI z32, vI z43, vI z50, vI z61, vR b95, vR b97, vJ z158, s_, vD c174_z104_3, s_, vJ z189, s_, vJ z196, s_, vD z262, s_, vD z270, s_, vD z277, s_, vD z284, s_] [(.int z307)])) _
                refine XS.ifNo X145.here hx rfl (hb hby at_308) rfl (Jvm.Free.XT.i0_lt_f hb308) ?_
                show Steps p.tables e below (T145.setTop (mkF m 311 #[vI p0, vI p1, vI p2, vI p3, vI (3 : Int32), vI z14, vI z25, vI z32, vI z43, vI z50, vI z61, vR b95, vR b97, vJ z158, s_, vD c174_z104_3, s_, vJ z189, s_, vJ z196, s_, vD z262, s_, vD z270, s_, vD z277, s_, vD z284, s_] [])) _
                refine XS.dload X145.here hx rfl (hb hby at_311) rfl ?_
                show Steps p.tables e below (T145.setTop (mkF m 313 #[vI p0, vI p1, vI p2, vI p3, vI (3 : Int32), vI z14, vI z25, vI z32, vI z43, vI z50, vI z61, vR b95, vR b97, vJ z158, s_, vD c174_z104_3, s_, vJ z189, s_, vJ z196, s_, vD z262, s_, vD z270, s_, vD z277, s_, vD z284, s_] [(.double c174_z104_3)])) _
                refine XS.dload X145.here hx rfl (hb hby at_313) rfl ?_
                show Steps p.tables e below (T145.setTop (mkF m 315 #[vI p0, vI p1, vI p2, vI p3, vI (3 : Int32), vI z14, vI z25, vI z32, vI z43, vI z50, vI z61, vR b95, vR b97, vJ z158, s_, vD c174_z104_3, s_, vJ z189, s_, vJ z196, s_, vD z262, s_, vD z270, s_, vD z277, s_, vD z284, s_] [(.double z277), (.double c174_z104_3)])) _
                refine XS.dcmpS X145.here hx rfl (hb hby at_315) rfl hz315 ?_
                show Steps p.tables e below (T145.setTop (mkF m 316 #[vI p0, vI p1, vI p2, vI p3, vI (3 : Int32), vI z14, vI z25, vI z32, vI z43, vI z50, vI z61, vR b95, vR b97, vJ z158, s_, vD c174_z104_3, s_, vJ z189, s_, vJ z196, s_, vD z262, s_, vD z270, s_, vD z277, s_, vD z284, s_] [(.int z315)])) _
                refine XS.ifNo X145.here hx rfl (hb hby at_316) rfl (Jvm.Free.XT.i0_ne_f br316) ?_
                show Steps p.tables e below (T145.setTop (mkF m 319 #[vI p0, vI p1, vI p2, vI p3, vI (3 : Int32), vI z14, vI z25, vI z32, vI z43, vI z50, vI z61, vR b95, vR b97, vJ z158, s_, vD c174_z104_3, s_, vJ z189, s_, vJ z196, s_, vD z262, s_, vD z270, s_, vD z277, s_, vD z284, s_] [])) _
                refine XS.iconst X145.here hx rfl (hb hby at_319) ?_
                show Steps p.tables e below (T145.setTop (mkF m 320 #[vI p0, vI p1, vI p2, vI p3, vI (3 : Int32), vI z14, vI z25, vI z32, vI z43, vI z50, vI z61, vR b95, vR b97, vJ z158, s_, vD c174_z104_3, s_, vJ z189, s_, vJ z196, s_, vD z262, s_, vD z270, s_, vD z277, s_, vD z284, s_] [(.int (1 : Int32))])) _
                refine XS.goto X145.here hx rfl (pc0 := 320) (pc' := 324) rfl (hb hby at_320) (by decide) (by decide) ?_
                exact k
              obtain ⟨fs, hr, hrun, hended, hW, hsame⟩ := X145.leave (v := some (.int (1 : Int32))) (fun h => by rw [Bd.returns] at h; cases h)
              refine ⟨_, _, c152 _ ?_, hrun, hended, _, _, rfl, ?_, ⟨_, rfl⟩, hW, hsame.mono (by decide) (by decide)⟩
              · show Steps p.tables e below (T145.setTop (mkF m 324 #[vI p0, vI p1, vI p2, vI p3, vI (3 : Int32), vI z14, vI z25, vI z32, vI z43, vI z50, vI z61, vR b95, vR b97, vJ z158, s_, vD c174_z104_3, s_, vJ z189, s_, vJ z196, s_, vD z262, s_, vD z270, s_, vD z277, s_, vD z284, s_] [(.int (1 : Int32))])) _
                exact retOut X145 hx Bd.returns rfl (Or.inl ⟨rfl, by simp, _, rfl⟩) (hb hby at_324) hr
              · show Q0 n0 _ T145.heap _
                rw [e145]
                exact ⟨rfl, by first | assumption | exact N0⟩
set_option maxRecDepth 65536 in
set_option maxHeartbeats 40000000 in
theorem comes_1 {Post : Tables → Env → Array Value → State → Outcome → State → Prop} (hpost : ∀ tb e args s v u, (limb_1_1.after args s (.returned v) u = true ∧ limb_1_2.after args s (.returned v) u = true ∧ True) → FrameEnd s (.returned v) u (Jvm.fieldLocs frame_1_writes args s ++ Jvm.arrayLocs frame_1_arrays args s ++ Jvm.staticLocs frame_1_statics s) 16 128 → Post tb e args s (.returned v) u) :
    ArmFor flags0 classFile x code maxLocals ret World_1 tables_1 room_1 Calls_1 rest_1 Pre_1 Post := by
  intro l hfl _ _ p e ha hc hk s m args below hf hA hF happ hP
  obtain ⟨hcalls, hrest, hpre⟩ := hP
  obtain ⟨-, -, -, hnamed, -, -, -, hat⟩ := (Spec.applies_iff hf).mp happ
  obtain ⟨hg, hn⟩ := and_e (Cond.before_iff.mp (show (Jvm.Cond.and given_1 narrow_1).before args s = true from hpre))
  obtain ⟨g1, g2⟩ := and_e hg
  obtain ⟨g3, g4⟩ := and_e g2
  obtain ⟨g5, g6⟩ := and_e g4
  obtain ⟨g7, g8⟩ := and_e g6
  obtain ⟨w0, w1, w2, w3, rfl⟩ : ∃ w0 w1 w2 w3 : Value, args = #[w0, w1, w2, w3] := by
    have hs : args.size = 4 := by simpa [Cond.value, given_1] using g1
    obtain ⟨L⟩ := args
    match L, hs with
    | [w0, w1, w2, w3], _ => exact ⟨w0, w1, w2, w3, rfl⟩
  have hw := fun d (hd : d ∈ tables_1) => atoms_spec (ws := Jvm.Cond.code x code maxLocals ret :: tables_1) hat d (List.mem_cons_of_mem _ hd)
  have hfit : Fit s := fun {y c} hc i hi => by
    obtain ⟨ha, rfl⟩ := Array.getElem?_eq_some_iff.mp hc
    have q := List.all_eq_true.mp ((Array.all_eq_true_iff_forall_mem.mp hF) _ (Array.getElem_mem ha)) i (List.mem_range.mpr hi)
    simpa [Array.getElem?_eq_getElem hi] using q
  obtain ⟨i0, ei0⟩ := is_v g3
  obtain rfl : w0 = (.int i0) := Option.some.inj ei0
  obtain ⟨i1, ei1⟩ := is_v g5
  obtain rfl : w1 = (.int i1) := Option.some.inj ei1
  obtain ⟨i2, ei2⟩ := is_v g7
  obtain rfl : w2 = (.int i2) := Option.some.inj ei2
  obtain ⟨i3, ei3⟩ := is_v g8
  obtain rfl : w3 = (.int i3) := Option.some.inj ei3
  obtain ⟨n, o, h1, h2, h3, _, L, rfl, ⟨rfl, N⟩, hq⟩ := rm0 l s _ hw tables_1 i0 i1 i2 i3  s.heap s.heap.size (Nat.le_refl _)  p e ha hc hk s m _ below hf ((Spec.applies_iff_loose hf).mp happ).1 ⟨rfl, State.Warmed39.refl s, rfl⟩ trivial
  refine ⟨n, _, h1, h2, h3, hpost _ _ _ _ _ _ ⟨Cond.after_iff.mpr rfl, Cond.after_iff.mpr (eq_i res_at (Term.int_eval (1)) rfl), trivial⟩ ⟨hq.1, hq.2.1, (hq.2.2.sift fun y hy => Or.inr (N y hy)).mono (by decide) (by decide)⟩⟩
theorem main_1_1 : Claimed_1_1 := comes_1 fun _ _ _ _ _ _ h hF => ⟨h.1, hF⟩
theorem main_1_2 : Claimed_1_2 := comes_1 fun _ _ _ _ _ _ h hF => ⟨h.2.1, hF⟩
end Jvm.Pilot.@@N@@
namespace Jvm.Pilot.@@N@@
open Jvm Jvm.ClassFile Sem Op Lib Jvm.Free Jvm.Stand Jvm.Pilot.@@N@@.Jvm.D
/-! MADE BY PROGRAM (witnessworld.py) out of the Statement's table words and the real class files: 9 classes; the members and pool entries that the words name. The judged class is class 1, her method 1. -/
namespace start1
open Jvm.ClassFile
def u (s : String) : CpInfo := .utf8 (stringToUtf16 s)
/-- a pool by its gaps: so many unusable entries, then the entry; so many at the end -/
def gap : Nat → List CpInfo → List CpInfo
  | 0, r => r
  | n + 1, r => .unusable :: gap n r
def poolList (es : List (Nat × CpInfo)) (last : Nat) : List CpInfo := es.foldr (fun e r => gap e.1 (e.2 :: r)) (gap last [])
def pool (es : List (Nat × CpInfo)) (last : Nat) : Array CpInfo := ⟨poolList es last⟩
def fileOf (pool : Array CpInfo) (this : Nat) (attrs : Array Attribute := #[]) (ms : Array MethodInfo := #[]) (fl : Nat := 33) (sup : Nat := 0) (ifs : Array Nat := #[]) (fds : Array FieldInfo := #[]) : ClassFile where
  minorVersion := 0
  majorVersion := 65
  constantPool := pool
  accessFlags := fl
  thisClass := this
  superClass := sup
  interfaces := ifs
  fields := fds
  methods := ms
  attributes := attrs
def plain (name : String) (sup : Option ClassId) : Class where
  name := name
  kind := .ordinary
  loader := none
  accessFlags := 33
  super := sup
  interfaces := #[]
  cf := none
  fields := #[]
  methods := #[]
  instanceTypes := #[]
  staticTypes := #[]
  resolved := #[]
  callSites := []
  init := .initialized
  statics := none
  mirror := none

def pool0 : Array CpInfo := pool [(5, u "<init>"), (0, u "()V"), (1, .class_ 10), (1, u "java/lang/Object")] 113

def k0m0 : Method := { name := "<init>", desc := "()V", sig := { parameters := [], returnType := none }, accessFlags := 1, code := none }
/-- java/lang/Object -/
def k0 : Class := { plain "java/lang/Object" none with
  accessFlags := 33
  interfaces := #[]
  cf := some (fileOf pool0 8 #[] #[{ accessFlags := 1, nameIndex := 5, descriptorIndex := 6, attributes := #[] }] 33 0 #[] #[])
  fields := #[]
  methods := #[k0m0]
  instanceTypes := #[]
  staticTypes := #[]
  resolved := Array.replicate 124 none
  statics := none }

def pool1 : Array CpInfo := pool [(2, .class_ 4), (1, u "java/lang/Object"), (0, u "<init>"), (0, u "()V"), (0, .integer 2147483647), (0, .methodref 9 10), (0, .class_ 11), (0, .nameAndType 12 13), (0, u "com/example/tidy_ranker/tidyranker/classification/ChiSquare"), (0, u "score"), (0, u "([I[I)D"), (0, .methodref 15 16), (0, .class_ 17), (0, .nameAndType 18 19), (0, u "com/example/tidy_ranker/tidyranker/classification/ChiSquareScorePinLaw"), (0, u "term"), (0, u "(JJJJJ)D"), (0, .double 4517329193108106637), (3, u "law"), (0, u "(IIII)Z")] 5

def k1m0 : Method := { name := "<init>", desc := "()V", sig := { parameters := [], returnType := none }, accessFlags := 2, code := none }
def k1c1 : Code := { maxStack := 12, maxLocals := 29, code := code, exceptionTable := #[], attributes := #[] }
def k1m1 : Method := { name := "law", desc := "(IIII)Z", sig := { parameters := [.int, .int, .int, .int], returnType := some .boolean }, accessFlags := 9, code := some k1c1 }
def k1c2 : Code := { maxStack := 6, maxLocals := 12, code := method_3_code, exceptionTable := #[], attributes := #[] }
def k1m2 : Method := { name := "term", desc := "(JJJJJ)D", sig := { parameters := [.long, .long, .long, .long, .long], returnType := some .double }, accessFlags := 10, code := some k1c2 }
/-- com/example/tidy_ranker/tidyranker/classification/ChiSquareScorePinLaw -/
def k1 : Class := { plain "com/example/tidy_ranker/tidyranker/classification/ChiSquareScorePinLaw" (some 0) with
  accessFlags := 49
  interfaces := #[]
  cf := some (fileOf pool1 15 #[] #[{ accessFlags := 2, nameIndex := 5, descriptorIndex := 6, attributes := #[] }, { accessFlags := 9, nameIndex := 24, descriptorIndex := 25, attributes := #[] }, { accessFlags := 10, nameIndex := 18, descriptorIndex := 19, attributes := #[] }] 49 2 #[] #[])
  fields := #[]
  methods := #[k1m0, k1m1, k1m2]
  instanceTypes := #[]
  staticTypes := #[]
  resolved := Array.replicate 31 none
  statics := none }

def pool2 : Array CpInfo := pool [(2, .class_ 4), (1, u "java/lang/Object"), (0, u "<init>"), (0, u "()V"), (0, .methodref 8 9), (0, .class_ 10), (0, .nameAndType 11 12), (0, u "com/example/tidy_ranker/tidyranker/classification/ChiSquare"), (0, u "cell"), (0, u "(ID)D"), (2, u "score"), (0, u "([I[I)D")] 3

def k2m0 : Method := { name := "<init>", desc := "()V", sig := { parameters := [], returnType := none }, accessFlags := 2, code := none }
def k2c1 : Code := { maxStack := 7, maxLocals := 9, code := prog_19_method_2_code, exceptionTable := #[], attributes := #[] }
def k2m1 : Method := { name := "score", desc := "([I[I)D", sig := { parameters := [(.array .int), (.array .int)], returnType := some .double }, accessFlags := 8, code := some k2c1 }
def k2c2 : Code := { maxStack := 4, maxLocals := 5, code := prog_19_method_3_code, exceptionTable := #[], attributes := #[] }
def k2m2 : Method := { name := "cell", desc := "(ID)D", sig := { parameters := [.int, .double], returnType := some .double }, accessFlags := 10, code := some k2c2 }
/-- com/example/tidy_ranker/tidyranker/classification/ChiSquare -/
def k2 : Class := { plain "com/example/tidy_ranker/tidyranker/classification/ChiSquare" (some 0) with
  accessFlags := 48
  interfaces := #[]
  cf := some (fileOf pool2 8 #[] #[{ accessFlags := 2, nameIndex := 5, descriptorIndex := 6, attributes := #[] }, { accessFlags := 8, nameIndex := 15, descriptorIndex := 16, attributes := #[] }, { accessFlags := 10, nameIndex := 11, descriptorIndex := 12, attributes := #[] }] 48 2 #[] #[])
  fields := #[]
  methods := #[k2m0, k2m1, k2m2]
  instanceTypes := #[]
  staticTypes := #[]
  resolved := Array.replicate 20 none
  statics := none }

def pool3 : Array CpInfo := pool [(1, u "java/lang/Cloneable"), (0, .class_ 1), (0, u "java/lang/Object"), (0, .class_ 3)] 3

/-- java/lang/Cloneable -/
def k3 : Class := { plain "java/lang/Cloneable" (some 0) with
  accessFlags := 1537
  interfaces := #[]
  cf := some (fileOf pool3 2 #[] #[] 1537 4 #[] #[])
  fields := #[]
  methods := #[]
  instanceTypes := #[]
  staticTypes := #[]
  resolved := Array.replicate 8 none
  statics := none }

def pool4 : Array CpInfo := pool [(1, u "java/io/Serializable"), (0, .class_ 1), (0, u "java/lang/Object"), (0, .class_ 3)] 3

/-- java/io/Serializable -/
def k4 : Class := { plain "java/io/Serializable" (some 0) with
  accessFlags := 1537
  interfaces := #[]
  cf := some (fileOf pool4 2 #[] #[] 1537 4 #[] #[])
  fields := #[]
  methods := #[]
  instanceTypes := #[]
  staticTypes := #[]
  resolved := Array.replicate 8 none
  statics := none }

/-- the primitive byte -/
def k5 : Class := { plain "byte" none with kind := .primitive 'B', accessFlags := 0x411 }
/-- [B -/
def k6 : Class := { plain "[B" (some 0) with kind := .array 5 .byte, interfaces := #[3, 4], accessFlags := 1041 }

/-- the primitive int -/
def k7 : Class := { plain "int" none with kind := .primitive 'I', accessFlags := 0x411 }
/-- [I -/
def k8 : Class := { plain "[I" (some 0) with kind := .array 7 .int, interfaces := #[3, 4], accessFlags := 1041 }

def heap : Heap := #[]
def classes : Array Class := #[k0, k1, k2, k3, k4, k5, k6, k7, k8]
def interned : List (Array UInt16 × Addr) := []
def slotsUsed : Nat := 0
def theMethod : MethodId := ⟨1, 1⟩
def args0 : Array Value := #[.int 5, .int 5, .int 5, .int 5]
def aboutOver (below : List Frame) : State where
  vm := { classes := classes, interned := interned.toArray }
  heap := heap
  slotsUsed := slotsUsed
  threads := #[{ frames := .invoking theMethod args0 :: below }]
def below0 : List Frame := [.native { method := ⟨0, 0⟩, args := #[] }]
def about1 : State := aboutOver below0
def p0 : Program := .bare "" "" ""
def e0 : Env := launch0.env 0 0 0
theorem w_frames : about1.frames = Frame.invoking theMethod args0 :: below0 := rfl
set_option maxRecDepth 65536 in
theorem w_args : argsFit about1.vm theMethod args0 = true := by decide +kernel
set_option maxRecDepth 65536 in
theorem w_heap : heapFits about1 = true := by decide +kernel
set_option maxRecDepth 65536 in
theorem w_runnable : about1.curStatus? = some .runnable := by decide +kernel
set_option maxRecDepth 65536 in
theorem w_alone : about1.alone = true := by decide +kernel
set_option maxRecDepth 65536 in
theorem w_named : about1.methodNamed? x = some theMethod := by decide +kernel
set_option maxRecDepth 65536 in
theorem w_hears : about1.hears theMethod below0 = true := by decide +kernel
set_option maxRecDepth 65536 in
theorem w_ripe : about1.ripe theMethod args0 below0 = true := by decide +kernel
theorem w_running : about1.status = .running := rfl
set_option maxRecDepth 65536 in
theorem w_room : about1.hasRoom e0.platform room_1 = true :=
  launch0.hasRoom_least _ room_1 (by decide +kernel) (by decide +kernel) (by decide +kernel) (by decide +kernel) (by decide +kernel) (by decide +kernel)
theorem allAtoms_all (ts : List Jvm.Cond) (a : Array Jvm.Value) (st : Jvm.State) : (allAtoms ts).before a st = ts.all (fun c => c.before a st) := by
  induction ts with
  | nil => rfl
  | cons c t ih =>
    show (Jvm.Cond.and c (allAtoms t)).before a st = _
    rw [Jvm.Cond.before_and, ih, List.all_cons]
def words1 : List Jvm.Cond := Jvm.Cond.code x code maxLocals ret :: tables_1
/-- a 'code' word, met by the world's own term for the bytes: nothing is compared byte by byte -/
theorem code_word {y : MethodName} {bytes : ByteArray} {mx : Nat} {rt : Option FieldType} {a : Array Value} {s : State} {m : MethodId} {meth : Method} {c : Code} (h1 : s.methodNamed? y = some m) (h2 : s.vm.method? m = some meth) (h3 : meth.code = some c) (h4 : c.code = bytes)
    (h5 : (c.maxLocals == mx && c.exceptionTable.isEmpty && decide (c.maxStack ≤ mostOperands) && decide (meth.sig.returnType = rt) && !meth.locks && decide (parseMethodDescriptor y.desc = some meth.sig)) = true) : (Jvm.Cond.code y bytes mx rt).before a s = true := by
  simp only [Bool.and_eq_true, beq_iff_eq, Bool.not_eq_true', decide_eq_true_eq] at h5
  obtain ⟨⟨⟨⟨⟨g1, g2⟩, g3⟩, g4⟩, g5⟩, g6⟩ := h5
  simp [Cond.before, Cond.holds, Cond.value, h1, h2, h3, h4, g1, g2, g3, g4, g5, g6]
def isCode : Jvm.Cond → Bool
  | .code _ _ _ _ => true
  | _ => false
theorem all_split {L : List Jvm.Cond} {P : Jvm.Cond → Bool} (h1 : L.all (fun c => isCode c || P c) = true) (h2 : ∀ c ∈ L.filter isCode, P c = true) : L.all P = true := by
  refine List.all_eq_true.mpr fun c hc => ?_
  have h := List.all_eq_true.mp h1 c hc
  rcases Bool.eq_false_or_eq_true (isCode c) with hi | hi
  · exact h2 c (List.mem_filter.mpr ⟨hc, hi⟩)
  · simpa [hi] using h
set_option maxRecDepth 65536 in
theorem w_c0 : (Jvm.Cond.code x code maxLocals ret).before args0 about1 = true := code_word (m := ⟨1, 1⟩) (meth := k1m1) (c := k1c1) (by decide +kernel) rfl rfl rfl (by decide +kernel)
set_option maxRecDepth 65536 in
theorem w_c1 : (Jvm.Cond.code ({ cls := "com/example/tidy_ranker/tidyranker/classification/ChiSquare", name := "score", desc := "([I[I)D" } : Jvm.MethodName) prog_19_method_2_code (9 : Nat) (Option.some Jvm.ClassFile.FieldType.double)).before args0 about1 = true := code_word (m := ⟨2, 1⟩) (meth := k2m1) (c := k2c1) (by decide +kernel) rfl rfl rfl (by decide +kernel)
set_option maxRecDepth 65536 in
theorem w_c2 : (Jvm.Cond.code ({ cls := "com/example/tidy_ranker/tidyranker/classification/ChiSquare", name := "cell", desc := "(ID)D" } : Jvm.MethodName) prog_19_method_3_code (5 : Nat) (Option.some Jvm.ClassFile.FieldType.double)).before args0 about1 = true := code_word (m := ⟨2, 2⟩) (meth := k2m2) (c := k2c2) (by decide +kernel) rfl rfl rfl (by decide +kernel)
set_option maxRecDepth 65536 in
theorem w_c3 : (Jvm.Cond.code ({ cls := "com/example/tidy_ranker/tidyranker/classification/ChiSquareScorePinLaw", name := "term", desc := "(JJJJJ)D" } : Jvm.MethodName) method_3_code (12 : Nat) (Option.some Jvm.ClassFile.FieldType.double)).before args0 about1 = true := code_word (m := ⟨1, 2⟩) (meth := k1m2) (c := k1c2) (by decide +kernel) rfl rfl rfl (by decide +kernel)
def codes1 : List Jvm.Cond := [Jvm.Cond.code x code maxLocals ret, Jvm.Cond.code ({ cls := "com/example/tidy_ranker/tidyranker/classification/ChiSquare", name := "score", desc := "([I[I)D" } : Jvm.MethodName) prog_19_method_2_code (9 : Nat) (Option.some Jvm.ClassFile.FieldType.double), Jvm.Cond.code ({ cls := "com/example/tidy_ranker/tidyranker/classification/ChiSquare", name := "cell", desc := "(ID)D" } : Jvm.MethodName) prog_19_method_3_code (5 : Nat) (Option.some Jvm.ClassFile.FieldType.double), Jvm.Cond.code ({ cls := "com/example/tidy_ranker/tidyranker/classification/ChiSquareScorePinLaw", name := "term", desc := "(JJJJJ)D" } : Jvm.MethodName) method_3_code (12 : Nat) (Option.some Jvm.ClassFile.FieldType.double)]
set_option maxRecDepth 65536 in
theorem codes_eq : words1.filter isCode = codes1 := rfl
theorem w_codes : ∀ c ∈ words1.filter isCode, c.before args0 about1 = true := by
  rw [codes_eq]
  intro c hc
  simp only [codes1, List.mem_cons, List.not_mem_nil, or_false] at hc
  rcases hc with rfl | rfl | rfl | rfl
  · exact w_c0
  · exact w_c1
  · exact w_c2
  · exact w_c3
set_option maxRecDepth 65536 in
theorem w_t1 : words1.all (fun c => isCode c || c.before args0 about1) = true := by decide +kernel
theorem w_tables : (allAtoms (Jvm.Cond.code x code maxLocals ret :: tables_1)).before args0 about1 = true := by
  rw [allAtoms_all]
  show words1.all (fun c => c.before args0 about1) = true
  refine all_split ?_ w_codes
  rw [w_t1]
set_option maxRecDepth 65536 in
theorem w_case : (Jvm.Cond.and given_1 narrow_1).before args0 about1 = true := by decide +kernel
theorem w_applies : (headSpec (Jvm.Cond.code x code maxLocals ret :: tables_1) room_1).applies x e0.platform about1 = true :=
  (Spec.applies_iff w_frames).mpr ⟨w_running, w_runnable, w_alone, w_named, w_hears, w_ripe, w_room, w_tables⟩
theorem atStart : AtStart classFile x code maxLocals ret World_1 tables_1 room_1 Calls_1 rest_1 Pre_1 launch0 p0 e0 about1 theMethod args0 below0 :=
  ⟨lists_1, trivial, launch0.admits_env _ _ _, launch0.least_env, fairChoices_fair.cas, fairChoices_fair.clock, w_frames, w_args, w_heap, w_applies, trivial, trivial, w_case⟩
end start1
theorem witness_1 : WitnessClaimed_1 := ⟨start1.p0, start1.e0, start1.about1, start1.theMethod, start1.args0, start1.below0, start1.atStart⟩
end Jvm.Pilot.@@N@@
